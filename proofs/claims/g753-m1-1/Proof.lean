import JvmDerived
import JvmDerived.Pilot.@@N@@Statement
import JvmDerived.Pilot.@@N@@Code
set_option linter.unusedVariables false
set_option linter.unusedSimpArgs false
namespace Jvm.RoadKit
open Sem ClassFile Op Lib Jvm.Stand Jvm.Free Jvm.LawKit
section New
variable {p : Program} {l : Launch} {e : Env} {R : Room} {s : State} {m : MethodId} {args : Array Value} {below : List Frame} {meth : Method} {c : Code} {T : State} {locs : List Loc} {cells slots : Nat}
theorem retI (X : Stand p l e R s m args below meth c T locs cells slots) (hx : p.tables.exec = Jvm.exec) {pc : Nat} {Ls : Array Slot} {z : Int32} {rest : List Value} (hret : meth.sig.returnType = some .int) (hd : decode c.code pc = .ok (.ireturn, 1)) {fs : List Frame}
    (hl : ∀ (f : JFrame) (acts : List Action), f.method = m → f.locked = none → f.entered = [] → (doReturn e (T.setTop f) acts (some (.int z))).1 = T.setFrames fs) : Steps p.tables e below (T.setTop (mkF m pc Ls (.int z :: rest))) (T.setFrames fs) := by
  have hm' : T.vm.method? m = some meth := X.method'
  have hn : narrow .int (.int z) = .int z := rfl
  show Steps p.tables e below (T.setTop { method := m, pc := pc, locals := Ls, stack := _ :: rest, locked := none }) _
  jvm_step X.here [X.here.top, hx, hd, hm', hret, hn]
  first | (intro acts; rw [hl _ acts rfl rfl rfl]) | rw [hl _ _ rfl rfl rfl]
  exact Steps.refl _
end New
end Jvm.RoadKit

/- laws to paste: Road.backV, Road.eqW, Road.codOf (cut by pick.py; bodies as the Statement names them) -/
namespace Jvm.Pilot.@@N@@
namespace StrChars
open Jvm Sem ClassFile Op Lib Jvm.Stand Jvm.Free.XT Jvm.Free.ALB Jvm.Free.JM Jvm.Free
open Jvm.Lib.Cold (StaticIs)
/-- a char array whose places are chars -/
def Ch (a : Addr) (A : Cell) (U : State) : Prop := Arr .char a A U ∧ Typed .char A
theorem Ch.mv {a : Addr} {A : Cell} {U U' : State} (h : Ch a A U) (hal : U.vm.Alike U'.vm) (hh : U'.heap = U.heap) : Ch a A U' := ⟨h.1.mv hal hh, h.2⟩
theorem Ch.keep {a : Addr} {A : Cell} {U U' : State} (h : Ch a A U) (hal : U.vm.Alike U'.vm) (hk : U'.heap[a]? = some A) : Ch a A U' := ⟨h.1.keep hal hk, h.2⟩
/-- what place i of a char[]'s cell holds -/
def cv (A : Cell) (i : Nat) : Int32 := match A.slots[i]? with | some (.int x) => x | _ => 0
theorem Ch.get {a : Addr} {A : Cell} {U : State} (h : Ch a A U) {i : Nat} (hi : i < A.slots.size) : A.slots[i]? = some (.int (cv A i)) := by
  have e := Array.getElem?_eq_getElem hi
  have f := h.2 i _ e
  unfold cv; rw [e]
  generalize A.slots[i] = v at f
  cases v <;> simp [fits] at f ⊢
/-- the byte that i2b leaves of a char -/
def lo8 (x : Int32) : Int32 := x.toInt8.toInt32
theorem fits_lo8 (y : Int32) : fits .byte (.int (lo8 y)) = true := by
  have h1 := y.toInt8.le_toInt
  have h2 := y.toInt8.toInt_lt
  simp only [lo8, fits, Bool.and_eq_true, decide_eq_true_eq, Int32.le_iff_toInt_le, Int8.toInt_toInt32, show (-128 : Int32).toInt = -128 from by decide, show (127 : Int32).toInt = 127 from by decide]
  omega
/-- A' is A but that each place j of lo .. hi - 1 holds f j -/
def Laid (A A' : Cell) (lo hi : Nat) (f : Nat → Value) : Prop := A'.cls = A.cls ∧ A'.vm = A.vm ∧ A'.slots.size = A.slots.size ∧ ∀ i, A'.slots[i]? = if lo ≤ i ∧ i < hi then some (f i) else A.slots[i]?
theorem Laid.zero (A : Cell) (lo : Nat) (f : Nat → Value) : Laid A A lo (lo + 0) f := ⟨rfl, rfl, rfl, fun i => by rw [if_neg (by omega)]⟩
theorem Laid.step {A Ak : Cell} {lo k : Nat} {f : Nat → Value} {v : Value} (h : Laid A Ak lo k f) (hlo : lo ≤ k) (hk : k < Ak.slots.size) (hv : v = f k) : Laid A (Ak.setSlot k v) lo (k + 1) f := by
  refine ⟨h.1, h.2.1, by simpa [Cell.setSlot] using h.2.2.1, fun i => ?_⟩
  by_cases e : k = i
  · subst e; rw [Cell.slots_setSlot_self v hk, if_pos (by omega), hv]
  · rw [Cell.slots_setSlot_ne v e, h.2.2.2 i]
    by_cases q : lo ≤ i ∧ i < k
    · rw [if_pos q, if_pos (by omega)]
    · rw [if_neg q, if_neg (by omega)]
def U16 : String := "java/lang/StringUTF16"
namespace Cmp5
def yN : MethodName := ⟨"java/lang/StringUTF16", "compress", "([CI[BII)I"⟩
abbrev yB : ByteArray := jdk_52_method_21_code
theorem d0 : decode yB 0 = .ok (.iconst 0, 1) := by decide +kernel
theorem d1 : decode yB 1 = .ok (.istore 5, 2) := by decide +kernel
theorem d3 : decode yB 3 = .ok (.iload 5, 2) := by decide +kernel
theorem d5 : decode yB 5 = .ok (.iload 4, 2) := by decide +kernel
theorem d7 : decode yB 7 = .ok (.if_icmp (.ge) 37, 3) := by decide +kernel
theorem d10 : decode yB 10 = .ok (.aload_n 0, 1) := by decide +kernel
theorem d11 : decode yB 11 = .ok (.iload_n 1, 1) := by decide +kernel
theorem d12 : decode yB 12 = .ok (.caload, 1) := by decide +kernel
theorem d13 : decode yB 13 = .ok (.istore 6, 2) := by decide +kernel
theorem d15 : decode yB 15 = .ok (.iload 6, 2) := by decide +kernel
theorem d17 : decode yB 17 = .ok (.sipush 255, 3) := by decide +kernel
theorem d20 : decode yB 20 = .ok (.if_icmp (.le) 6, 3) := by decide +kernel
theorem d26 : decode yB 26 = .ok (.aload_n 2, 1) := by decide +kernel
theorem d27 : decode yB 27 = .ok (.iload_n 3, 1) := by decide +kernel
theorem d28 : decode yB 28 = .ok (.iload 6, 2) := by decide +kernel
theorem d30 : decode yB 30 = .ok (.i2b, 1) := by decide +kernel
theorem d31 : decode yB 31 = .ok (.bastore, 1) := by decide +kernel
theorem d32 : decode yB 32 = .ok (.iinc 1 1, 3) := by decide +kernel
theorem d35 : decode yB 35 = .ok (.iinc 3 1, 3) := by decide +kernel
theorem d38 : decode yB 38 = .ok (.iinc 5 1, 3) := by decide +kernel
theorem d41 : decode yB 41 = .ok (.goto (-38), 3) := by decide +kernel
theorem d44 : decode yB 44 = .ok (.iload 4, 2) := by decide +kernel
theorem d46 : decode yB 46 = .ok (.ireturn, 1) := by decide +kernel
def site : List Cond := []
def tab : Cond := tabOf yN yB 7 (some .int) site
def P (b : Addr) (A : Cell) (d : Addr) (B : Cell) (o q len : Nat) (args : Array Value) (s : State) : Prop := args = #[.ref b, .int (Int32.ofNat o), .ref d, .int (Int32.ofNat q), .int (Int32.ofNat len)] ∧ Ch b A s ∧ Arr .byte d B s ∧ b ≠ d ∧ o + len ≤ A.slots.size ∧ q + len ≤ B.slots.size ∧ ∀ i, i < len → ¬ 255 < cv A (o + i)
def E (b : Addr) (A : Cell) (d : Addr) (B : Cell) (o q len : Nat) (r : Option Value) (s u : State) : Prop := r = some (.int (Int32.ofNat len)) ∧ ∃ B', Put d B' s u ∧ Laid B B' q (q + len) (fun j => Value.int (lo8 (cv A (o + (j - q)))))
/-- no char of the range above 255: len; the places written hold each char's low byte -/
theorem law (l : Launch) (b : Addr) (A : Cell) (d : Addr) (B : Cell) (o q len : Nat) : Law l yN 5 5 0 0 yB 7 (some .int) site (P b A d B o q len) (E b A d B o q len) (copyLocs d q len) 0 0 := by
  refine Law.of_walk (plainFor_of_name (by decide +kernel)) (by decide +kernel) (by decide +kernel) (by decide) (fun _ _ h => by rw [h.1]; rfl) (fun _ U U' hal hh h => ⟨h.1, h.2.1.mv hal hh, h.2.2.1.mv hal hh, h.2.2.2⟩) (fun r U U' V V' h1 hal h2 h => ⟨h.1, h.2.elim fun B' q => ⟨B', q.1.mv h1 h2, q.2⟩⟩) ?_
  intro p e s m args below meth c s₁ X0 hexec hbytes hml hret hlk hnm hown hh0 W hP
  obtain ⟨rfl, hA, hB, hne, l1, l2, hp⟩ := hP
  have c1 : Steps p.tables e below (s₁.setTop (entryFrame m #[.ref b, .int (Int32.ofNat o), .ref d, .int (Int32.ofNat q), .int (Int32.ofNat len)] 7)) (s₁.setTop (mkF m 0 #[.val (.ref b), .val (.int (Int32.ofNat o)), .val (.ref d), .val (.int (Int32.ofNat q)), .val (.int (Int32.ofNat len)), .unset, .unset] [])) := entry rfl
  have hA0 := hA.1.mv X0.warmed.alike hh0
  have hB0 := hB.mv X0.warmed.alike hh0
  have a31 := hA.1.2.2.2
  have c2 : Steps p.tables e below (s₁.setTop (entryFrame m #[.ref b, .int (Int32.ofNat o), .ref d, .int (Int32.ofNat q), .int (Int32.ofNat len)] 7)) (s₁.setTop (mkF m 3 #[.val (.ref b), .val (.int (Int32.ofNat o)), .val (.ref d), .val (.int (Int32.ofNat q)), .val (.int (Int32.ofNat len)), .val (.int 0), .unset] [])) := c1.trans (by
    refine iconstV X0.here hexec rfl 0 (hb hbytes d0) (by decide) ?_
    refine XS.istore X0.here hexec rfl (hb hbytes d1) rfl rfl ?_
    exact Steps.refl _)
  have loop : ∀ (r i : Nat), i + r = len → ∀ (z : Slot), (z = .unset ∨ ∃ w, z = .val w ∧ w.category = 1) → ∀ (Tl : State) (Bk : Cell), Stand p l e { frames := 0, locals := 0, cells := 0, slots := 0 } s m #[.ref b, .int (Int32.ofNat o), .ref d, .int (Int32.ofNat q), .int (Int32.ofNat len)] below meth c Tl ([] ++ copyLocs d q i) 0 0 → Put d Bk s₁ Tl → Laid B Bk q (q + i) (fun j => Value.int (lo8 (cv A (o + (j - q))))) →
      Steps p.tables e below (s₁.setTop (entryFrame m #[.ref b, .int (Int32.ofNat o), .ref d, .int (Int32.ofNat q), .int (Int32.ofNat len)] 7)) (Tl.setTop (mkF m 3 #[.val (.ref b), .val (.int (Int32.ofNat (o + i))), .val (.ref d), .val (.int (Int32.ofNat (q + i))), .val (.int (Int32.ofNat len)), .val (.int (Int32.ofNat i)), z] [])) → ∃ (T' : State) (B' : Cell) (z' : Slot), Stand p l e { frames := 0, locals := 0, cells := 0, slots := 0 } s m #[.ref b, .int (Int32.ofNat o), .ref d, .int (Int32.ofNat q), .int (Int32.ofNat len)] below meth c T' ([] ++ copyLocs d q len) 0 0 ∧ Put d B' s₁ T' ∧ Laid B B' q (q + len) (fun j => Value.int (lo8 (cv A (o + (j - q))))) ∧
      Steps p.tables e below (s₁.setTop (entryFrame m #[.ref b, .int (Int32.ofNat o), .ref d, .int (Int32.ofNat q), .int (Int32.ofNat len)] 7)) (T'.setTop (mkF m 3 #[.val (.ref b), .val (.int (Int32.ofNat (o + len))), .val (.ref d), .val (.int (Int32.ofNat (q + len))), .val (.int (Int32.ofNat len)), .val (.int (Int32.ofNat len)), z'] [])) := by
    intro r
    induction r with
    | zero =>
      intro i hi z hz Tl Bk Xl pl fl cl
      have hil : i = len := by omega
      rw [hil] at Xl fl cl
      exact ⟨Tl, Bk, z, Xl, pl, fl, cl⟩
    | succ r ih =>
      intro i hi z hz Tl Bk Xl pl fl cl
      have all := X0.warmed.alike.symm.trans Xl.warmed.alike
      have hAl := hA0.keep all (pl.other hne hA0.1)
      have hBk := hB0.like all pl.1 fl.1 fl.2.1 fl.2.2.1
      have hlt : q + i < Bk.slots.size := by rw [fl.2.2.1]; omega
      have c3 : Steps p.tables e below (s₁.setTop (entryFrame m #[.ref b, .int (Int32.ofNat o), .ref d, .int (Int32.ofNat q), .int (Int32.ofNat len)] 7)) (Tl.setTop (mkF m 12 #[.val (.ref b), .val (.int (Int32.ofNat (o + i))), .val (.ref d), .val (.int (Int32.ofNat (q + i))), .val (.int (Int32.ofNat len)), .val (.int (Int32.ofNat i)), z] [.int (Int32.ofNat (o + i)), .ref b])) := cl.trans (by
        refine XS.iload Xl.here hexec rfl (hb hbytes d3) rfl ?_
        refine XS.iload Xl.here hexec rfl (hb hbytes d5) rfl ?_
        refine XS.icmpNo Xl.here hexec rfl (hb hbytes d7) rfl (ii_ge_f (lt32 (by omega) (by omega))) ?_
        refine XS.aloadN Xl.here hexec rfl (hb hbytes d10) rfl rfl ?_
        refine XS.iloadN Xl.here hexec rfl (hb hbytes d11) rfl ?_
        exact Steps.refl _)
      have c4 : Steps p.tables e below (s₁.setTop (entryFrame m #[.ref b, .int (Int32.ofNat o), .ref d, .int (Int32.ofNat q), .int (Int32.ofNat len)] 7)) (Tl.setTop (mkF m 13 #[.val (.ref b), .val (.int (Int32.ofNat (o + i))), .val (.ref d), .val (.int (Int32.ofNat (q + i))), .val (.int (Int32.ofNat len)), .val (.int (Int32.ofNat i)), z] [.int (cv A (o + i))])) := c3.trans (by
        refine Xl.aget hexec hAl rfl (hA.get (i := o + i) (by omega)) rfl rfl (hb hbytes d12) ?_
        exact Steps.refl _)
      have c5 : Steps p.tables e below (s₁.setTop (entryFrame m #[.ref b, .int (Int32.ofNat o), .ref d, .int (Int32.ofNat q), .int (Int32.ofNat len)] 7)) (Tl.setTop (mkF m 15 #[.val (.ref b), .val (.int (Int32.ofNat (o + i))), .val (.ref d), .val (.int (Int32.ofNat (q + i))), .val (.int (Int32.ofNat len)), .val (.int (Int32.ofNat i)), .val (.int (cv A (o + i)))] [])) := c4.trans (by
        refine XS.istoreS Xl.here hexec rfl (hb hbytes d13) rfl rfl hz ?_
        exact Steps.refl _)
      have c6 : Steps p.tables e below (s₁.setTop (entryFrame m #[.ref b, .int (Int32.ofNat o), .ref d, .int (Int32.ofNat q), .int (Int32.ofNat len)] 7)) (Tl.setTop (mkF m 31 #[.val (.ref b), .val (.int (Int32.ofNat (o + i))), .val (.ref d), .val (.int (Int32.ofNat (q + i))), .val (.int (Int32.ofNat len)), .val (.int (Int32.ofNat i)), .val (.int (cv A (o + i)))] [.int (lo8 (cv A (o + i))), .int (Int32.ofNat (q + i)), .ref d])) := c5.trans (by
        refine XS.iload Xl.here hexec rfl (hb hbytes d15) rfl ?_
        refine sipushV Xl.here hexec rfl 255 (hb hbytes d17) (by decide) ?_
        refine XS.icmpYes Xl.here hexec rfl (pc0 := 20) rfl (hb hbytes d20) rfl (ii_le_t (hp i (by omega))) (by decide) rfl ?_
        refine XS.aloadN Xl.here hexec rfl (hb hbytes d26) rfl rfl ?_
        refine XS.iloadN Xl.here hexec rfl (hb hbytes d27) rfl ?_
        refine XS.iload Xl.here hexec rfl (hb hbytes d28) rfl ?_
        refine i2b Xl.here hexec rfl (hb hbytes d30) rfl ?_
        exact Steps.refl _)
      obtain ⟨T7, X7, p7, st7⟩ := Xl.aput hexec hBk rfl hlt rfl (fits_lo8 (cv A (o + i))) (g := (mkF m 31 #[.val (.ref b), .val (.int (Int32.ofNat (o + i))), .val (.ref d), .val (.int (Int32.ofNat (q + i))), .val (.int (Int32.ofNat len)), .val (.int (Int32.ofNat i)), .val (.int (cv A (o + i)))] [.int (lo8 (cv A (o + i))), .int (Int32.ofNat (q + i)), .ref d])) rfl (rest := []) rfl (hb hbytes d31)
      have c8 : Steps p.tables e below (s₁.setTop (entryFrame m #[.ref b, .int (Int32.ofNat o), .ref d, .int (Int32.ofNat q), .int (Int32.ofNat len)] 7)) (T7.setTop (mkF m 32 #[.val (.ref b), .val (.int (Int32.ofNat (o + i))), .val (.ref d), .val (.int (Int32.ofNat (q + i))), .val (.int (Int32.ofNat len)), .val (.int (Int32.ofNat i)), .val (.int (cv A (o + i)))] [])) := c6.trans (st7 _ (Steps.refl _))
      have c9 : Steps p.tables e below (s₁.setTop (entryFrame m #[.ref b, .int (Int32.ofNat o), .ref d, .int (Int32.ofNat q), .int (Int32.ofNat len)] 7)) (T7.setTop (mkF m 3 #[.val (.ref b), .val (.int (Int32.ofNat (o + i) + 1)), .val (.ref d), .val (.int (Int32.ofNat (q + i) + 1)), .val (.int (Int32.ofNat len)), .val (.int (Int32.ofNat i + 1)), .val (.int (cv A (o + i)))] [])) := c8.trans (by
        refine iincV X7.here hexec rfl 1 (hb hbytes d32) (by decide) rfl rfl ?_
        refine iincV X7.here hexec rfl 1 (hb hbytes d35) (by decide) rfl rfl ?_
        refine iincV X7.here hexec rfl 1 (hb hbytes d38) (by decide) rfl rfl ?_
        refine XS.goto X7.here hexec rfl (pc0 := 41) rfl (hb hbytes d41) (by decide) rfl ?_
        exact Steps.refl _)
      have c10 : Steps p.tables e below (s₁.setTop (entryFrame m #[.ref b, .int (Int32.ofNat o), .ref d, .int (Int32.ofNat q), .int (Int32.ofNat len)] 7)) (T7.setTop (mkF m 3 #[.val (.ref b), .val (.int (Int32.ofNat (o + (i + 1)))), .val (.ref d), .val (.int (Int32.ofNat (q + (i + 1)))), .val (.int (Int32.ofNat len)), .val (.int (Int32.ofNat (i + 1))), .val (.int (cv A (o + i)))] [])) := by
        have := c9
        rw [succ32, succ32, succ32] at this
        exact this
      exact ih (i + 1) (by omega) _ (Or.inr ⟨_, rfl, rfl⟩) T7 _ (by rw [copyLocs_step, ← List.append_assoc]; exact X7) (pl.trans p7) (fl.step (by omega) hlt (by simp)) c10
  obtain ⟨T9, B9, z9, X9, p9, f9, g9⟩ := loop len 0 (by omega) .unset (Or.inl rfl) s₁ B (by simpa [copyLocs] using X0) ⟨hB0.1, fun _ _ => rfl, rfl⟩ (Laid.zero _ _ _) c2
  have c11 : Steps p.tables e below (s₁.setTop (entryFrame m #[.ref b, .int (Int32.ofNat o), .ref d, .int (Int32.ofNat q), .int (Int32.ofNat len)] 7)) (T9.setTop (mkF m 46 #[.val (.ref b), .val (.int (Int32.ofNat (o + len))), .val (.ref d), .val (.int (Int32.ofNat (q + len))), .val (.int (Int32.ofNat len)), .val (.int (Int32.ofNat len)), z9] [.int (Int32.ofNat len)])) := g9.trans (by
    refine XS.iload X9.here hexec rfl (hb hbytes d3) rfl ?_
    refine XS.iload X9.here hexec rfl (hb hbytes d5) rfl ?_
    refine XS.icmpYes X9.here hexec rfl (pc0 := 7) rfl (hb hbytes d7) rfl (ii_ge_t (nlt32 (by omega) (Nat.le_refl _))) (by decide) rfl ?_
    refine XS.iload X9.here hexec rfl (hb hbytes d44) rfl ?_
    exact Steps.refl _)
  exact ⟨T9, some (.int (Int32.ofNat len)), _, _, _, X9, by simp, rfl, rfl, (fun h => by cases h), ⟨rfl, B9, p9.from hh0, f9⟩, fun fs hl => c11.trans (X9.ireturnOut hexec hret rfl (Or.inl rfl) (hb hbytes d46) hl)⟩
end Cmp5
namespace Cmp3
def yN : MethodName := ⟨"java/lang/StringUTF16", "compress", "([CII)[B"⟩
abbrev yB : ByteArray := jdk_52_method_16_code
theorem d0 : decode yB 0 = .ok (.iload_n 2, 1) := by decide +kernel
theorem d1 : decode yB 1 = .ok (.newarray .byte, 2) := by decide +kernel
theorem d3 : decode yB 3 = .ok (.astore_n 3, 1) := by decide +kernel
theorem d4 : decode yB 4 = .ok (.aload_n 0, 1) := by decide +kernel
theorem d5 : decode yB 5 = .ok (.iload_n 1, 1) := by decide +kernel
theorem d6 : decode yB 6 = .ok (.aload_n 3, 1) := by decide +kernel
theorem d7 : decode yB 7 = .ok (.iconst 0, 1) := by decide +kernel
theorem d8 : decode yB 8 = .ok (.iload_n 2, 1) := by decide +kernel
theorem d9 : decode yB 9 = .ok (.invokestatic 115, 3) := by decide +kernel
theorem d12 : decode yB 12 = .ok (.istore 4, 2) := by decide +kernel
theorem d14 : decode yB 14 = .ok (.iload 4, 2) := by decide +kernel
theorem d16 : decode yB 16 = .ok (.iload_n 2, 1) := by decide +kernel
theorem d17 : decode yB 17 = .ok (.if_icmp (.eq) 40, 3) := by decide +kernel
theorem d57 : decode yB 57 = .ok (.aload_n 3, 1) := by decide +kernel
theorem d58 : decode yB 58 = .ok (.areturn, 1) := by decide +kernel
def site : List Cond := [.arrayClass .byte, Cmp5.tab] ++ staticW U16 115 Cmp5.yN
def tab : Cond := tabOf yN yB 6 (some (.array .byte)) site
def P (b : Addr) (A : Cell) (o len : Nat) (args : Array Value) (s : State) : Prop := args = #[.ref b, .int (Int32.ofNat o), .int (Int32.ofNat len)] ∧ Ch b A s ∧ o + len ≤ A.slots.size ∧ len ≤ 536870912 ∧ ∀ i, i < len → ¬ 255 < cv A (o + i)
def E (b : Addr) (A : Cell) (o len : Nat) (r : Option Value) (s u : State) : Prop := NewArr .byte "[B" len (fun j => .int (lo8 (cv A (o + j)))) r s u ∧ u.heap.size = s.heap.size + 1
/-- no char of the range above 255: a new byte[] of their low bytes -/
theorem law (l : Launch) (b : Addr) (A : Cell) (o len : Nat) : Law l yN 3 3 1 18 yB 6 (some (.array .byte)) site (P b A o len) (E b A o len) [] 1 len := by
  refine Law.of_walk (plainFor_of_name (by decide +kernel)) (by decide +kernel) (by decide +kernel) (by decide) (fun _ _ h => by rw [h.1]; rfl) (fun _ U U' hal hh h => ⟨h.1, h.2.1.mv hal hh, h.2.2⟩) (fun r U U' V V' h1 hal h2 h => ⟨NewArr.mv r U U' V V' h1 hal h2 h.1, by rw [h1, h2]; exact h.2⟩) ?_
  intro p e s m args below meth c s₁ X0 hexec hbytes hml hret hlk hnm hown hh0 W hP
  obtain ⟨rfl, hA, l1, l2, hp⟩ := hP
  have a31 := hA.1.2.2.2
  have c1 : Steps p.tables e below (s₁.setTop (entryFrame m #[.ref b, .int (Int32.ofNat o), .int (Int32.ofNat len)] 6)) (s₁.setTop (mkF m 0 #[.val (.ref b), .val (.int (Int32.ofNat o)), .val (.int (Int32.ofNat len)), .unset, .unset, .unset] [])) := entry rfl
  have c2 : Steps p.tables e below (s₁.setTop (entryFrame m #[.ref b, .int (Int32.ofNat o), .int (Int32.ofNat len)] 6)) (s₁.setTop (mkF m 1 #[.val (.ref b), .val (.int (Int32.ofNat o)), .val (.int (Int32.ofNat len)), .unset, .unset, .unset] [.int (Int32.ofNat len)])) := c1.trans (by
    refine XS.iloadN X0.here hexec rfl (hb hbytes d0) rfl ?_
    exact Steps.refl _)
  obtain ⟨T3, B3, X3, ba3, bs3, bv3, bh3, bf3, st3⟩ := X0.anew hexec (atype := .byte) (wk W (.arrayClass .byte)) rfl (by show len * 1 ≤ _; omega) (by omega) (g := (mkF m 1 #[.val (.ref b), .val (.int (Int32.ofNat o)), .val (.int (Int32.ofNat len)), .unset, .unset, .unset] [.int (Int32.ofNat len)])) rfl (hb hbytes d1) (rest := []) rfl (Nat.le_refl _) (by show 0 + len ≤ len; omega)
  rw [hh0] at ba3 st3
  have kp3 : XT.Kept s T3 := (XT.Kept.of_eq hh0).push bh3
  have hA3 := hA.keep X3.warmed.alike (kp3 _ _ hA.1.1)
  have hne : b ≠ s.heap.size := hA.1.ne
  have c4 : Steps p.tables e below (s₁.setTop (entryFrame m #[.ref b, .int (Int32.ofNat o), .int (Int32.ofNat len)] 6)) (T3.setTop (mkF m 3 #[.val (.ref b), .val (.int (Int32.ofNat o)), .val (.int (Int32.ofNat len)), .unset, .unset, .unset] [.ref s.heap.size])) := c2.trans (st3 _ (Steps.refl _))
  have c5 : Steps p.tables e below (s₁.setTop (entryFrame m #[.ref b, .int (Int32.ofNat o), .int (Int32.ofNat len)] 6)) (T3.setTop (mkF m 9 #[.val (.ref b), .val (.int (Int32.ofNat o)), .val (.int (Int32.ofNat len)), .val (.ref s.heap.size), .unset, .unset] [.int (Int32.ofNat len), .int 0, .ref s.heap.size, .int (Int32.ofNat o), .ref b])) := c4.trans (by
    refine XS.astoreN X3.here hexec rfl (hb hbytes d3) rfl rfl rfl ?_
    refine XS.aloadN X3.here hexec rfl (hb hbytes d4) rfl rfl ?_
    refine XS.iloadN X3.here hexec rfl (hb hbytes d5) rfl ?_
    refine XS.aloadN X3.here hexec rfl (hb hbytes d6) rfl rfl ?_
    refine iconstV X3.here hexec rfl 0 (hb hbytes d7) (by decide) ?_
    refine XS.iloadN X3.here hexec rfl (hb hbytes d8) rfl ?_
    exact Steps.refl _)
  obtain ⟨v6, T6, X6, E6, g6⟩ := X3.callS hexec (Cmp5.law l b A s.heap.size B3 o 0 len) hown (wks W (staticW U16 115 Cmp5.yN)) (wk W Cmp5.tab) (W := 0) (Nat.le_of_ble_eq_true rfl) (Nat.le_of_ble_eq_true rfl) (Nat.le_refl _) (by show 0 + len + 0 ≤ len; omega) (g := (mkF m 9 #[.val (.ref b), .val (.int (Int32.ofNat o)), .val (.int (Int32.ofNat len)), .val (.ref s.heap.size), .unset, .unset] [.int (Int32.ofNat len), .int (Int32.ofNat 0), .ref s.heap.size, .int (Int32.ofNat o), .ref b])) rfl (by rw [hml]; rfl) c5 (argsL := [.ref b, .int (Int32.ofNat o), .ref s.heap.size, .int (Int32.ofNat 0), .int (Int32.ofNat len)]) (rest := []) rfl rfl (by show 2 * 0 + 0 ≤ _; decide) (hb hbytes d9) (⟨rfl, hA3, ba3, hne, l1, by rw [bs3]; simp, hp⟩)
  obtain ⟨rfl, B6, p6, f6⟩ := E6
  have c7 : Steps p.tables e below (s₁.setTop (entryFrame m #[.ref b, .int (Int32.ofNat o), .int (Int32.ofNat len)] 6)) (T6.setTop (mkF m 12 #[.val (.ref b), .val (.int (Int32.ofNat o)), .val (.int (Int32.ofNat len)), .val (.ref s.heap.size), .unset, .unset] [.int (Int32.ofNat len)])) := g6
  have c8 : Steps p.tables e below (s₁.setTop (entryFrame m #[.ref b, .int (Int32.ofNat o), .int (Int32.ofNat len)] 6)) (T6.setTop (mkF m 58 #[.val (.ref b), .val (.int (Int32.ofNat o)), .val (.int (Int32.ofNat len)), .val (.ref s.heap.size), .val (.int (Int32.ofNat len)), .unset] [.ref s.heap.size])) := c7.trans (by
    refine XS.istore X6.here hexec rfl (hb hbytes d12) rfl rfl ?_
    refine XS.iload X6.here hexec rfl (hb hbytes d14) rfl ?_
    refine XS.iloadN X6.here hexec rfl (hb hbytes d16) rfl ?_
    refine XS.icmpYes X6.here hexec rfl (pc0 := 17) rfl (hb hbytes d17) rfl (ii_eq_t rfl) (by decide) rfl ?_
    refine XS.aloadN X6.here hexec rfl (hb hbytes d57) rfl rfl ?_
    exact Steps.refl _)
  have X8 := X6.wide (L' := []) (cells' := 1) (slots' := len) (fun x hx hlt => by
    simp only [List.nil_append, copyLocs, List.mem_map, List.mem_range] at hx
    obtain ⟨i, -, rfl⟩ := hx
    exact absurd hlt (Nat.lt_irrefl _)) (Nat.le_refl _) (by omega)
  exact ⟨T6, some (.ref s.heap.size), _, _, _, X8, rfl, rfl, rfl, (fun h => by cases h), ⟨⟨rfl, B6, ba3.like (X3.warmed.alike.symm.trans X6.warmed.alike) p6.1 f6.1 f6.2.1 f6.2.2.1, f6.2.1.trans bv3, by rw [X6.warmed.alike.findClass, f6.1]; exact bf3, by rw [f6.2.2.1, bs3]; simp, fun j hj => by rw [f6.2.2.2 j, if_pos (by omega)]; rfl, kp3.put p6 (Nat.le_refl _)⟩, by rw [p6.2.2, bh3, hh0]; simp⟩, fun fs hl => c8.trans (X8.areturnOut hexec rfl hret rfl (hb hbytes d58) hl)⟩
end Cmp3
namespace CodL
def yN : MethodName := ⟨"java/lang/StringUTF16", "coderFromArrayLen", "([BI)B"⟩
abbrev yB : ByteArray := jdk_52_method_15_code
theorem d0 : decode yB 0 = .ok (.iload_n 1, 1) := by decide +kernel
theorem d1 : decode yB 1 = .ok (.aload_n 0, 1) := by decide +kernel
theorem d2 : decode yB 2 = .ok (.arraylength, 1) := by decide +kernel
theorem d3 : decode yB 3 = .ok (.isub, 1) := by decide +kernel
theorem d4 : decode yB 4 = .ok (.bipush 31, 2) := by decide +kernel
theorem d6 : decode yB 6 = .ok (.iushr, 1) := by decide +kernel
theorem d7 : decode yB 7 = .ok (.i2b, 1) := by decide +kernel
theorem d8 : decode yB 8 = .ok (.ireturn, 1) := by decide +kernel
def site : List Cond := []
def tab : Cond := tabOf yN yB 2 (some .byte) site
def P (d : Addr) (B : Cell) (args : Array Value) (s : State) : Prop := args = #[.ref d, .int (Int32.ofNat B.slots.size)] ∧ Arr .byte d B s
def E (r : Option Value) (s u : State) : Prop := XT.PureE (some (.int 0)) r s u
/-- an array as long as the number of chars: LATIN1 -/
theorem law (l : Launch) (d : Addr) (B : Cell) : Law l yN 2 2 0 0 yB 2 (some .byte) site (P d B) E [] 0 0 := by
  refine Law.of_walk (plainFor_of_name (by decide +kernel)) (by decide +kernel) (by decide +kernel) (by decide) (fun _ _ h => by rw [h.1]; rfl) (fun _ U U' hal hh h => ⟨h.1, h.2.mv hal hh⟩) (fun r U U' V V' h1 hal h2 h => XT.PureE.mv r U U' V V' h1 hal h2 h) ?_
  intro p e s m args below meth c s₁ X0 hexec hbytes hml hret hlk hnm hown hh0 W hP
  obtain ⟨rfl, hB⟩ := hP
  have hB0 := hB.mv X0.warmed.alike hh0
  have c1 : Steps p.tables e below (s₁.setTop (entryFrame m #[.ref d, .int (Int32.ofNat B.slots.size)] 2)) (s₁.setTop (mkF m 0 #[.val (.ref d), .val (.int (Int32.ofNat B.slots.size))] [])) := entry rfl
  have c2 : Steps p.tables e below (s₁.setTop (entryFrame m #[.ref d, .int (Int32.ofNat B.slots.size)] 2)) (s₁.setTop (mkF m 2 #[.val (.ref d), .val (.int (Int32.ofNat B.slots.size))] [.ref d, .int (Int32.ofNat B.slots.size)])) := c1.trans (by
    refine XS.iloadN X0.here hexec rfl (hb hbytes d0) rfl ?_
    refine XS.aloadN X0.here hexec rfl (hb hbytes d1) rfl rfl ?_
    exact Steps.refl _)
  have c3 : Steps p.tables e below (s₁.setTop (entryFrame m #[.ref d, .int (Int32.ofNat B.slots.size)] 2)) (s₁.setTop (mkF m 8 #[.val (.ref d), .val (.int (Int32.ofNat B.slots.size))] [.int (lo8 (ushr (Int32.ofNat B.slots.size - Int32.ofNat B.slots.size) 31))])) := c2.trans (by
    refine X0.alen hexec hB0 rfl rfl (hb hbytes d2) ?_
    refine XS.isub X0.here hexec rfl (hb hbytes d3) rfl ?_
    refine bipushV X0.here hexec rfl 31 (hb hbytes d4) (by decide) ?_
    refine iushr X0.here hexec rfl (hb hbytes d6) rfl ?_
    refine i2b X0.here hexec rfl (hb hbytes d7) rfl ?_
    exact Steps.refl _)
  have e0 : lo8 (ushr (Int32.ofNat B.slots.size - Int32.ofNat B.slots.size) 31) = 0 := by rw [Int32.sub_self]; decide
  rw [e0] at c3
  exact ⟨s₁, some (.int 0), _, _, _, X0, rfl, rfl, rfl, (fun h => by cases h), ⟨rfl, hh0⟩, fun fs hl => c3.trans (X0.ireturnOut hexec hret rfl (Or.inr (Or.inr (Or.inl rfl))) (hb hbytes d8) hl)⟩
end CodL
/-- the String at a is Latin-1 over a new byte[] (the heap's one new cell): the low bytes of the len chars of A from o on; every cell but a is kept -/
def Got (a : Addr) (D : Cell) (fV fC : Field) (A : Cell) (o len : Nat) (r : Option Value) (s u : State) : Prop := r = none ∧ ∃ D' V : Cell, Blank "java/lang/String" a D' u ∧ Same D D' [fV.slot, fC.slot] ∧ D'.slots[fV.slot]? = some (.ref s.heap.size) ∧ D'.slots[fC.slot]? = some (.int 0) ∧ Arr .byte s.heap.size V u ∧ V.vm = .none ∧ u.vm.findClass "[B" = some V.cls ∧ V.slots.size = len ∧ (∀ j, j < len → V.slots[j]? = some (.int (lo8 (cv A (o + j))))) ∧ (∀ (y : Addr) (c : Cell), y ≠ a → s.heap[y]? = some c → u.heap[y]? = some c) ∧ u.heap.size = s.heap.size + 1
theorem Got.mv {a : Addr} {D A : Cell} {fV fC : Field} {o len : Nat} : ∀ r (U U' V V' : State), U'.heap = U.heap → V.vm.Alike V'.vm → V'.heap = V.heap → Got a D fV fC A o len r U V → Got a D fV fC A o len r U' V' :=
  fun r U U' V V' h1 hal h2 ⟨e0, D', X, a1, a2, a3, a4, a5, a6, a7, a8, a9, a10, a11⟩ => ⟨e0, D', X, a1.mv hal h2, a2, by rw [h1]; exact a3, a4, by rw [h1]; exact a5.mv hal h2, a6, by rw [hal.findClass]; exact a7, a8, a9, by rw [h1, h2]; exact a10, by rw [h1, h2]; exact a11⟩
namespace New4
def yN : MethodName := ⟨"java/lang/String", "<init>", "([CIILjava/lang/Void;)V"⟩
abbrev yB : ByteArray := jdk_42_method_149_code
theorem d0 : decode yB 0 = .ok (.aload_n 0, 1) := by decide +kernel
theorem d1 : decode yB 1 = .ok (.invokespecial 1, 3) := by decide +kernel
theorem d4 : decode yB 4 = .ok (.iload_n 3, 1) := by decide +kernel
theorem d5 : decode yB 5 = .ok (.ifCond (.ne) 22, 3) := by decide +kernel
theorem d27 : decode yB 27 = .ok (.getstatic 38, 3) := by decide +kernel
theorem d30 : decode yB 30 = .ok (.ifCond (.eq) 28, 3) := by decide +kernel
theorem d33 : decode yB 33 = .ok (.aload_n 1, 1) := by decide +kernel
theorem d34 : decode yB 34 = .ok (.iload_n 2, 1) := by decide +kernel
theorem d35 : decode yB 35 = .ok (.iload_n 3, 1) := by decide +kernel
theorem d36 : decode yB 36 = .ok (.invokestatic 177, 3) := by decide +kernel
theorem d39 : decode yB 39 = .ok (.astore 5, 2) := by decide +kernel
theorem d41 : decode yB 41 = .ok (.aload_n 0, 1) := by decide +kernel
theorem d42 : decode yB 42 = .ok (.aload 5, 2) := by decide +kernel
theorem d44 : decode yB 44 = .ok (.iload_n 3, 1) := by decide +kernel
theorem d45 : decode yB 45 = .ok (.invokestatic 47, 3) := by decide +kernel
theorem d48 : decode yB 48 = .ok (.putfield 15, 3) := by decide +kernel
theorem d51 : decode yB 51 = .ok (.aload_n 0, 1) := by decide +kernel
theorem d52 : decode yB 52 = .ok (.aload 5, 2) := by decide +kernel
theorem d54 : decode yB 54 = .ok (.putfield 9, 3) := by decide +kernel
theorem d57 : decode yB 57 = .ok (.return_, 1) := by decide +kernel
def site : List Cond := [.fieldLink "java/lang/String" 38 "java/lang/String" "COMPACT_STRINGS" "Z", Cmp3.tab, CodL.tab, .laysFinal "java/lang/String" "java/lang/String" "value" "[B", .fieldLink "java/lang/String" 9 "java/lang/String" "value" "[B", .laysFinal "java/lang/String" "java/lang/String" "coder" "B", .fieldLink "java/lang/String" 15 "java/lang/String" "coder" "B"] ++ objW "java/lang/String" 1 ++ staticW "java/lang/String" 177 Cmp3.yN ++ staticW "java/lang/String" 47 CodL.yN
def tab : Cond := tabOf yN yB 6 none site
def P (a : Addr) (D : Cell) (fV fC : Field) (b : Addr) (A : Cell) (z : Int32) (o len : Nat) (args : Array Value) (s : State) : Prop := args = #[.ref a, .ref b, .int (Int32.ofNat o), .int (Int32.ofNat len), .null] ∧ Blank "java/lang/String" a D s ∧ Found "java/lang/String" "value" "[B" fV s ∧ Found "java/lang/String" "coder" "B" fC s ∧ Ch b A s ∧ StaticIs s "java/lang/String" "COMPACT_STRINGS" "Z" (.int z) ∧ ¬ z = 0 ∧ 0 < len ∧ o + len ≤ A.slots.size ∧ len ≤ 536870912 ∧ ∀ i, i < len → ¬ 255 < cv A (o + i)
def E (a : Addr) (D : Cell) (fV fC : Field) (A : Cell) (o len : Nat) (r : Option Value) (s u : State) : Prop := Got a D fV fC A o len r s u
/-- len > 0, no char of the range above 255: a Latin-1 String of their low bytes -/
theorem law (l : Launch) (a : Addr) (D : Cell) (fV fC : Field) (b : Addr) (A : Cell) (z : Int32) (o len : Nat) : Law l yN 5 4 2 35 yB 6 none site (P a D fV fC b A z o len) (E a D fV fC A o len) [⟨a, fC.slot⟩, ⟨a, fV.slot⟩] 1 len := by
  refine Law.of_walk (plainFor_of_name (by decide +kernel)) (by decide +kernel) (by decide +kernel) (by decide) (fun _ _ h => by rw [h.1]; rfl) (fun _ U U' hal hh h => ⟨h.1, h.2.1.mv hal hh, h.2.2.1.al hal, h.2.2.2.1.al hal, h.2.2.2.2.1.mv hal hh, h.2.2.2.2.2.1.there hal hh, h.2.2.2.2.2.2⟩) (fun r U U' V V' h1 hal h2 h => Got.mv r U U' V V' h1 hal h2 h) ?_
  intro p e s m args below meth c s₁ X0 hexec hbytes hml hret hlk hnm hown hh0 W hP
  obtain ⟨rfl, hB, f1, f2, hA, s1, hz, l0, l1, l2, hp⟩ := hP
  have a31 := hA.1.2.2.2
  have c1 : Steps p.tables e below (s₁.setTop (entryFrame m #[.ref a, .ref b, .int (Int32.ofNat o), .int (Int32.ofNat len), .null] 6)) (s₁.setTop (mkF m 0 #[.val (.ref a), .val (.ref b), .val (.int (Int32.ofNat o)), .val (.int (Int32.ofNat len)), .val .null, .unset] [])) := entry rfl
  have c2 : Steps p.tables e below (s₁.setTop (entryFrame m #[.ref a, .ref b, .int (Int32.ofNat o), .int (Int32.ofNat len), .null] 6)) (s₁.setTop (mkF m 1 #[.val (.ref a), .val (.ref b), .val (.int (Int32.ofNat o)), .val (.int (Int32.ofNat len)), .val .null, .unset] [.ref a])) := c1.trans (by
    refine XS.aloadN X0.here hexec rfl (hb hbytes d0) rfl rfl ?_
    exact Steps.refl _)
  obtain ⟨T3, X3, q3, st3⟩ := X0.oinit hexec hown (wks W (objW "java/lang/String" 1)) (g := (mkF m 1 #[.val (.ref a), .val (.ref b), .val (.int (Int32.ofNat o)), .val (.int (Int32.ofNat len)), .val .null, .unset] [.ref a])) rfl (by rw [hml]; rfl) (rest := []) rfl (hb hbytes d1) (W := 0) (by show 2 * 0 + 0 ≤ _; decide) (Nat.le_of_ble_eq_true rfl) (Nat.le_of_ble_eq_true rfl)
  have hh3 := q3.trans hh0
  have c4 : Steps p.tables e below (s₁.setTop (entryFrame m #[.ref a, .ref b, .int (Int32.ofNat o), .int (Int32.ofNat len), .null] 6)) (T3.setTop (mkF m 27 #[.val (.ref a), .val (.ref b), .val (.int (Int32.ofNat o)), .val (.int (Int32.ofNat len)), .val .null, .unset] [])) := (c2.trans (st3 _ (Steps.refl _))).trans (by
    refine XS.iloadN X3.here hexec rfl (hb hbytes d4) rfl ?_
    refine XS.ifYes X3.here hexec rfl (pc0 := 5) rfl (hb hbytes d5) rfl (i0_ne_t (nz32 (by omega) l0)) (by decide) rfl ?_
    exact Steps.refl _)
  obtain ⟨T5, X5, q5, st5⟩ := X3.sget hexec hown (wk W (.fieldLink "java/lang/String" 38 "java/lang/String" "COMPACT_STRINGS" "Z")) s1 (fun _ _ h => by rw [hh3]; exact h) (g := (mkF m 27 #[.val (.ref a), .val (.ref b), .val (.int (Int32.ofNat o)), .val (.int (Int32.ofNat len)), .val .null, .unset] [])) rfl (hb hbytes d27)
  have hh5 := q5.trans hh3
  have c6 : Steps p.tables e below (s₁.setTop (entryFrame m #[.ref a, .ref b, .int (Int32.ofNat o), .int (Int32.ofNat len), .null] 6)) (T5.setTop (mkF m 30 #[.val (.ref a), .val (.ref b), .val (.int (Int32.ofNat o)), .val (.int (Int32.ofNat len)), .val .null, .unset] [.int z])) := c4.trans (st5 _ (Steps.refl _))
  have c7 : Steps p.tables e below (s₁.setTop (entryFrame m #[.ref a, .ref b, .int (Int32.ofNat o), .int (Int32.ofNat len), .null] 6)) (T5.setTop (mkF m 36 #[.val (.ref a), .val (.ref b), .val (.int (Int32.ofNat o)), .val (.int (Int32.ofNat len)), .val .null, .unset] [.int (Int32.ofNat len), .int (Int32.ofNat o), .ref b])) := c6.trans (by
    refine XS.ifNo X5.here hexec rfl (hb hbytes d30) rfl (i0_eq_f hz) ?_
    refine XS.aloadN X5.here hexec rfl (hb hbytes d33) rfl rfl ?_
    refine XS.iloadN X5.here hexec rfl (hb hbytes d34) rfl ?_
    refine XS.iloadN X5.here hexec rfl (hb hbytes d35) rfl ?_
    exact Steps.refl _)
  obtain ⟨v8, T8, X8, E8, g8⟩ := X5.callS hexec (Cmp3.law l b A o len) hown (wks W (staticW "java/lang/String" 177 Cmp3.yN)) (wk W Cmp3.tab) (W := 0) (Nat.le_of_ble_eq_true rfl) (Nat.le_of_ble_eq_true rfl) (Nat.le_refl _) (by show 0 + len ≤ len; omega) (g := (mkF m 36 #[.val (.ref a), .val (.ref b), .val (.int (Int32.ofNat o)), .val (.int (Int32.ofNat len)), .val .null, .unset] [.int (Int32.ofNat len), .int (Int32.ofNat o), .ref b])) rfl (by rw [hml]; rfl) c7 (argsL := [.ref b, .int (Int32.ofNat o), .int (Int32.ofNat len)]) (rest := []) rfl rfl (by show 2 * 0 + 0 ≤ _; decide) (hb hbytes d36) (⟨rfl, hA.mv X5.warmed.alike hh5, l1, l2, hp⟩)
  obtain ⟨e8, z8⟩ := E8
  obtain ⟨rfl, N, n1, n2, n3, n4, n5, n6⟩ := NewArr.mv _ T5 s _ _ hh5.symm (Vm.Alike.refl _) rfl e8
  rw [hh5] at z8
  have hB1 := hB.keep X8.warmed.alike (n6 _ _ hB.1)
  have hne : s.heap.size ≠ a := (Nat.ne_of_lt (Array.getElem?_eq_some_iff.mp hB.1).1).symm
  have c9 : Steps p.tables e below (s₁.setTop (entryFrame m #[.ref a, .ref b, .int (Int32.ofNat o), .int (Int32.ofNat len), .null] 6)) (T8.setTop (mkF m 39 #[.val (.ref a), .val (.ref b), .val (.int (Int32.ofNat o)), .val (.int (Int32.ofNat len)), .val .null, .unset] [.ref s.heap.size])) := g8
  have c10 : Steps p.tables e below (s₁.setTop (entryFrame m #[.ref a, .ref b, .int (Int32.ofNat o), .int (Int32.ofNat len), .null] 6)) (T8.setTop (mkF m 45 #[.val (.ref a), .val (.ref b), .val (.int (Int32.ofNat o)), .val (.int (Int32.ofNat len)), .val .null, .val (.ref s.heap.size)] [.int (Int32.ofNat N.slots.size), .ref s.heap.size, .ref a])) := by
    have hc : Steps p.tables e below (s₁.setTop (entryFrame m #[.ref a, .ref b, .int (Int32.ofNat o), .int (Int32.ofNat len), .null] 6)) (T8.setTop (mkF m 45 #[.val (.ref a), .val (.ref b), .val (.int (Int32.ofNat o)), .val (.int (Int32.ofNat len)), .val .null, .val (.ref s.heap.size)] [.int (Int32.ofNat len), .ref s.heap.size, .ref a])) := c9.trans (by
      refine XS.astore X8.here hexec rfl (hb hbytes d39) rfl rfl rfl ?_
      refine XS.aloadN X8.here hexec rfl (hb hbytes d41) rfl rfl ?_
      refine XS.aload X8.here hexec rfl (hb hbytes d42) rfl rfl ?_
      refine XS.iloadN X8.here hexec rfl (hb hbytes d44) rfl ?_
      exact Steps.refl _)
    rw [n4]; exact hc
  obtain ⟨v11, T11, X11, E11, g11⟩ := X8.callS hexec (CodL.law l s.heap.size N) hown (wks W (staticW "java/lang/String" 47 CodL.yN)) (wk W CodL.tab) (W := 1) (Nat.le_of_ble_eq_true rfl) (Nat.le_of_ble_eq_true rfl) (Nat.le_refl _) (by show 0 + len + 0 ≤ len; omega) (g := (mkF m 45 #[.val (.ref a), .val (.ref b), .val (.int (Int32.ofNat o)), .val (.int (Int32.ofNat len)), .val .null, .val (.ref s.heap.size)] [.int (Int32.ofNat N.slots.size), .ref s.heap.size, .ref a])) rfl (by rw [hml]; rfl) c10 (argsL := [.ref s.heap.size, .int (Int32.ofNat N.slots.size)]) (rest := [.ref a]) rfl rfl (by show 2 * 0 + (1 + 0) ≤ _; decide) (hb hbytes d45) (⟨rfl, n1⟩)
  obtain ⟨rfl, q11⟩ := E11
  have hB11 := hB1.mv (X8.warmed.alike.symm.trans X11.warmed.alike) q11
  have c12 : Steps p.tables e below (s₁.setTop (entryFrame m #[.ref a, .ref b, .int (Int32.ofNat o), .int (Int32.ofNat len), .null] 6)) (T11.setTop (mkF m 48 #[.val (.ref a), .val (.ref b), .val (.int (Int32.ofNat o)), .val (.int (Int32.ofNat len)), .val .null, .val (.ref s.heap.size)] [.int 0, .ref a])) := g11
  obtain ⟨T13, X13, p13, bl13, sl13, st13⟩ := X11.finit hexec hown (wk W (.fieldLink "java/lang/String" 15 "java/lang/String" "coder" "B")) (Or.inr ⟨_, (wk W (.laysFinal "java/lang/String" "java/lang/String" "coder" "B"))⟩) (Or.inl ⟨rfl, hnm⟩) f2 (Or.inl rfl) hB11 (t := .byte) (by decide +kernel) rfl (g := (mkF m 48 #[.val (.ref a), .val (.ref b), .val (.int (Int32.ofNat o)), .val (.int (Int32.ofNat len)), .val .null, .val (.ref s.heap.size)] [.int 0, .ref a])) rfl (rest := []) rfl (hb hbytes d48)
  have c14 : Steps p.tables e below (s₁.setTop (entryFrame m #[.ref a, .ref b, .int (Int32.ofNat o), .int (Int32.ofNat len), .null] 6)) (T13.setTop (mkF m 54 #[.val (.ref a), .val (.ref b), .val (.int (Int32.ofNat o)), .val (.int (Int32.ofNat len)), .val .null, .val (.ref s.heap.size)] [.ref s.heap.size, .ref a])) := (c12.trans (st13 _ (Steps.refl _))).trans (by
    refine XS.aloadN X13.here hexec rfl (hb hbytes d51) rfl rfl ?_
    refine XS.aload X13.here hexec rfl (hb hbytes d52) rfl rfl ?_
    exact Steps.refl _)
  obtain ⟨T15, X15, p15, bl15, sl15, st15⟩ := X13.finit hexec hown (wk W (.fieldLink "java/lang/String" 9 "java/lang/String" "value" "[B")) (Or.inr ⟨_, (wk W (.laysFinal "java/lang/String" "java/lang/String" "value" "[B"))⟩) (Or.inl ⟨rfl, hnm⟩) f1 (Or.inl rfl) bl13 (t := (.array .byte)) (by decide +kernel) rfl (g := (mkF m 54 #[.val (.ref a), .val (.ref b), .val (.int (Int32.ofNat o)), .val (.int (Int32.ofNat len)), .val .null, .val (.ref s.heap.size)] [.ref s.heap.size, .ref a])) rfl (rest := []) rfl (hb hbytes d54)
  have c16 : Steps p.tables e below (s₁.setTop (entryFrame m #[.ref a, .ref b, .int (Int32.ofNat o), .int (Int32.ofNat len), .null] 6)) (T15.setTop (mkF m 57 #[.val (.ref a), .val (.ref b), .val (.int (Int32.ofNat o)), .val (.int (Int32.ofNat len)), .val .null, .val (.ref s.heap.size)] [])) := c14.trans (st15 _ (Steps.refl _))
  have ap := apart (Or.inr ⟨_, (wk W (.laysFinal "java/lang/String" "java/lang/String" "value" "[B"))⟩) (Or.inr ⟨_, (wk W (.laysFinal "java/lang/String" "java/lang/String" "coder" "B"))⟩) f1 f2 (t₁ := .array .byte) (t₂ := .byte) (by decide +kernel) (by decide +kernel) (by decide)
  have al := X8.warmed.alike.symm.trans X15.warmed.alike
  have n7 : T11.heap[s.heap.size]? = some N := by rw [q11]; exact n1.1
  exact ⟨T15, none, _, _, _, X15, by simp, rfl, by omega, (fun _ => rfl), ⟨rfl, _, N, bl15, ((Same.refl D _).set _ (by simp)).set _ (by simp), sl15, (Cell.slots_setSlot_ne _ ap).trans sl13, n1.keep al (p15.other hne (p13.other hne n7)), n2, by rw [al.findClass]; exact n3, n4, n5, fun y c h1 h2 => p15.other h1 (p13.other h1 (by rw [q11]; exact n6 y c h2)), by rw [p15.2.2, p13.2.2, q11]; exact z8⟩, fun fs hl => c16.trans (X15.returnOut hexec hret (hb hbytes d57) hl)⟩
end New4
namespace New1
def yN : MethodName := ⟨"java/lang/String", "<init>", "([C)V"⟩
abbrev yB : ByteArray := jdk_42_method_3_code
theorem d0 : decode yB 0 = .ok (.aload_n 0, 1) := by decide +kernel
theorem d1 : decode yB 1 = .ok (.aload_n 1, 1) := by decide +kernel
theorem d2 : decode yB 2 = .ok (.iconst 0, 1) := by decide +kernel
theorem d3 : decode yB 3 = .ok (.aload_n 1, 1) := by decide +kernel
theorem d4 : decode yB 4 = .ok (.arraylength, 1) := by decide +kernel
theorem d5 : decode yB 5 = .ok (.aconst_null, 1) := by decide +kernel
theorem d6 : decode yB 6 = .ok (.invokespecial 27, 3) := by decide +kernel
theorem d9 : decode yB 9 = .ok (.return_, 1) := by decide +kernel
def site : List Cond := [New4.tab] ++ initW "java/lang/String" 27 New4.yN
def tab : Cond := tabOf yN yB 2 none site
def P (a : Addr) (D : Cell) (fV fC : Field) (b : Addr) (A : Cell) (z : Int32) (args : Array Value) (s : State) : Prop := args = #[.ref a, .ref b] ∧ Blank "java/lang/String" a D s ∧ Found "java/lang/String" "value" "[B" fV s ∧ Found "java/lang/String" "coder" "B" fC s ∧ Ch b A s ∧ StaticIs s "java/lang/String" "COMPACT_STRINGS" "Z" (.int z) ∧ ¬ z = 0 ∧ 0 < A.slots.size ∧ A.slots.size ≤ 536870912 ∧ ∀ i, i < A.slots.size → ¬ 255 < cv A i
def E (a : Addr) (D : Cell) (fV fC : Field) (A : Cell) (r : Option Value) (s u : State) : Prop := Got a D fV fC A 0 A.slots.size r s u
/-- new String(chars), not empty, no char above 255: a Latin-1 String of their low bytes -/
theorem law (l : Launch) (a : Addr) (D : Cell) (fV fC : Field) (b : Addr) (A : Cell) (z : Int32) : Law l yN 2 1 3 52 yB 2 none site (P a D fV fC b A z) (E a D fV fC A) [⟨a, fC.slot⟩, ⟨a, fV.slot⟩] 1 A.slots.size := by
  refine Law.of_walk (plainFor_of_name (by decide +kernel)) (by decide +kernel) (by decide +kernel) (by decide) (fun _ _ h => by rw [h.1]; rfl) (fun _ U U' hal hh h => ⟨h.1, h.2.1.mv hal hh, h.2.2.1.al hal, h.2.2.2.1.al hal, h.2.2.2.2.1.mv hal hh, h.2.2.2.2.2.1.there hal hh, h.2.2.2.2.2.2⟩) (fun r U U' V V' h1 hal h2 h => Got.mv r U U' V V' h1 hal h2 h) ?_
  intro p e s m args below meth c s₁ X0 hexec hbytes hml hret hlk hnm hown hh0 W hP
  obtain ⟨rfl, hB, f1, f2, hA, s1, hz, l0, l2, hp⟩ := hP
  have c1 : Steps p.tables e below (s₁.setTop (entryFrame m #[.ref a, .ref b] 2)) (s₁.setTop (mkF m 0 #[.val (.ref a), .val (.ref b)] [])) := entry rfl
  have c2 : Steps p.tables e below (s₁.setTop (entryFrame m #[.ref a, .ref b] 2)) (s₁.setTop (mkF m 6 #[.val (.ref a), .val (.ref b)] [.null, .int (Int32.ofNat A.slots.size), .int 0, .ref b, .ref a])) := c1.trans (by
    refine XS.aloadN X0.here hexec rfl (hb hbytes d0) rfl rfl ?_
    refine XS.aloadN X0.here hexec rfl (hb hbytes d1) rfl rfl ?_
    refine iconstV X0.here hexec rfl 0 (hb hbytes d2) (by decide) ?_
    refine XS.aloadN X0.here hexec rfl (hb hbytes d3) rfl rfl ?_
    refine X0.alen hexec (hA.1.mv X0.warmed.alike hh0) rfl rfl (hb hbytes d4) ?_
    refine XS.aconstNull X0.here hexec rfl (hb hbytes d5) ?_
    exact Steps.refl _)
  obtain ⟨v3, T3, X3, E3, g3⟩ := X0.callN hexec (New4.law l a D fV fC b A z 0 A.slots.size) rfl hown (wks W (initW "java/lang/String" 27 New4.yN)) (W New4.tab (by simp only [site, List.mem_cons, List.mem_append, true_or, or_true])) (W := 0) (Nat.le_of_ble_eq_true rfl) (Nat.le_of_ble_eq_true rfl) (Nat.le_refl _) (by show 0 + A.slots.size ≤ A.slots.size; omega) (g := (mkF m 6 #[.val (.ref a), .val (.ref b)] [.null, .int (Int32.ofNat A.slots.size), .int (Int32.ofNat 0), .ref b, .ref a])) rfl (by rw [hml]; rfl) c2 (argsL := [.ref b, .int (Int32.ofNat 0), .int (Int32.ofNat A.slots.size), .null]) (rest := []) rfl rfl (by show 2 * 0 + 0 ≤ _; decide) (hb hbytes d6) (⟨rfl, hB.mv X0.warmed.alike hh0, f1.al X0.warmed.alike, f2.al X0.warmed.alike, hA.mv X0.warmed.alike hh0, s1.there X0.warmed.alike hh0, hz, l0, by omega, l2, fun i hi => by rw [Nat.zero_add]; exact hp i hi⟩)
  have e0 := Got.mv _ s₁ s _ _ hh0.symm (Vm.Alike.refl _) rfl E3
  obtain rfl := e0.1
  have c4 : Steps p.tables e below (s₁.setTop (entryFrame m #[.ref a, .ref b] 2)) (T3.setTop (mkF m 9 #[.val (.ref a), .val (.ref b)] [])) := g3
  exact ⟨T3, none, _, _, _, X3, by simp, rfl, by omega, (fun _ => rfl), e0, fun fs hl => c4.trans (X3.returnOut hexec hret (hb hbytes d9) hl)⟩
theorem pays {l : Launch} {R : Room} {p : Program} {e : Env} {below : List Frame} {s : State} {sargs : Array Value} {len W : Nat} (a : Addr) (D : Cell) (fV fC : Field) (b : Addr) (A : Cell) (z : Int32) (htab : tab.before sargs s = true) (hfr : 4 ≤ R.frames) (hlo : W + 65 ≤ R.locals) :
    Back l R p e below s sargs yN len W (fun A₁ a₁ => A₁.cells + 1 ≤ R.cells ∧ A₁.slots + A.slots.size ≤ R.slots ∧ P a D fV fC b A z a₁ A₁.U) (fun A₁ _ v₁ B₁ => E a D fV fC A v₁ A₁.U B₁.U ∧ B₁.locs = A₁.locs ++ [⟨a, fC.slot⟩, ⟨a, fV.slot⟩] ∧ B₁.cells = A₁.cells + 1 ∧ B₁.slots = A₁.slots + A.slots.size) :=
  (law l a D fV fC b A z).pays htab hfr (by omega)
end New1
/-- the byte, read back as charAt reads it, is the char -/
theorem lo8_mask {x : Int32} (h0 : ¬ x < 0) (h1 : ¬ 255 < x) : lo8 x &&& 255 = x := by
  have t : ∀ k : Fin 256, lo8 (Int32.ofNat k.val) &&& 255 = Int32.ofNat k.val := by decide +kernel
  rw [Int32.lt_iff_toInt_lt] at h0 h1
  have e0 : (0 : Int32).toInt = 0 := rfl
  have e1 : (255 : Int32).toInt = 255 := rfl
  obtain ⟨k, hk⟩ : ∃ k : Nat, x.toInt = k := ⟨x.toInt.toNat, by omega⟩
  have hx : x = Int32.ofNat k := Int32.toInt_inj.mp (by rw [hk, Int32.toInt_ofNat_small (by omega)])
  rw [hx]
  exact t ⟨k, by omega⟩
end StrChars
namespace StrChars.Road
open Jvm Sem ClassFile Op Lib Jvm.Stand Jvm.Free Jvm.Free.XT
open Jvm.Lib.Cold (StaticIs)
abbrev ST : String := "java/lang/String"
/-- every table word that New1's law asks, flat -/
abbrev words : List Jvm.Cond := [.code New1.yN New1.yB 2 none, .initialized ST, .methodLink ST 27 New4.yN, .instanceMethod New4.yN,
  .code New4.yN New4.yB 6 none, .fieldLink ST 38 ST "COMPACT_STRINGS" "Z", .laysFinal ST ST "value" "[B", .fieldLink ST 9 ST "value" "[B", .laysFinal ST ST "coder" "B", .fieldLink ST 15 ST "coder" "B",
  .methodLink ST 1 Lib.objectInit, .instanceMethod Lib.objectInit, .code Lib.objectInit ⟨#[0xb1]⟩ 1 none, .methodLink ST 177 Cmp3.yN, .static Cmp3.yN, .methodLink ST 47 CodL.yN, .static CodL.yN,
  .code Cmp3.yN Cmp3.yB 6 (some (.array .byte)), .initialized U16, .arrayClass .byte, .methodLink U16 115 Cmp5.yN, .static Cmp5.yN, .code Cmp5.yN Cmp5.yB 7 (some .int), .code CodL.yN CodL.yB 2 (some .byte)]
theorem tab_of {a : Array Value} {s : State} (h : ∀ w ∈ words, w.before a s = true) : New1.tab.before a s = true := by
  have h5 : Cmp5.tab.before a s = true := unparts (wk h (.code Cmp5.yN Cmp5.yB 7 (some .int))) (wks h (.initialized Cmp5.yN.cls :: Cmp5.site))
  have hc : CodL.tab.before a s = true := unparts (wk h (.code CodL.yN CodL.yB 2 (some .byte))) (wks h (.initialized CodL.yN.cls :: CodL.site))
  have q5 : ∀ w ∈ Cmp5.tab :: words, w.before a s = true := fun w hw => (List.mem_cons.mp hw).elim (fun e => e ▸ h5) (h w)
  have h3 : Cmp3.tab.before a s = true := unparts (wk q5 (.code Cmp3.yN Cmp3.yB 6 (some (.array .byte)))) (wks q5 (.initialized Cmp3.yN.cls :: Cmp3.site))
  have q3 : ∀ w ∈ Cmp3.tab :: CodL.tab :: words, w.before a s = true := fun w hw => (List.mem_cons.mp hw).elim (fun e => e ▸ h3) fun hw => (List.mem_cons.mp hw).elim (fun e => e ▸ hc) (h w)
  have h4 : New4.tab.before a s = true := unparts (wk q3 (.code New4.yN New4.yB 6 none)) (wks q3 (.initialized New4.yN.cls :: New4.site))
  have q4 : ∀ w ∈ New4.tab :: words, w.before a s = true := fun w hw => (List.mem_cons.mp hw).elim (fun e => e ▸ h4) (h w)
  exact unparts (wk q4 (.code New1.yN New1.yB 2 none)) (wks q4 (.initialized New1.yN.cls :: New1.site))
/-- the words ride from the start Z to the walk's own state -/
theorem moved {Z s : State} {a0 args : Array Value} (hZ : Z.Warmed39 s.vm) (hw : ∀ d ∈ words, d.before a0 Z = true) : ∀ d ∈ words, d.before args s = true := fun d hd => by
  have q := hw d hd
  have t : ∀ d ∈ words, d = .arrayClass .byte ∨ (d.onTables && d.keepsFace) = true := by decide +kernel
  rcases t d hd with rfl | t
  · exact RoadKit.mvA hZ q
  · exact RoadKit.mv hZ q t
/-- WHAT COMES BACK, over the tables of the start Z: h the heap at the call, h' behind it -/
def Q (Z : State) (x : Addr) (A : Cell) (h : Heap) (v : Option Value) (h' : Heap) (L : List Loc) : Prop := v = none ∧ (∀ y ∈ L, y.base = x) ∧ RoadKit.Keep h h' [x] ∧ h'.size = h.size + 1 ∧ RoadKit.Exa Z h' x ST ∧ RoadKit.Fld Z h' x ST "value" "[B" (.ref h.size) ∧ RoadKit.Fld Z h' x ST "coder" "B" (.int 0) ∧
  (∃ V : Cell, RoadKit.Arr Z h' h.size V .byte ∧ V.vm = .none ∧ Z.vm.findClass "[B" = some V.cls ∧ V.slots.size = A.slots.size ∧ ∀ j, j < A.slots.size → V.slots[j]? = some (.int (lo8 (cv A j)))) ∧
  ∀ (O n d : String) (w : Value), RoadKit.Fld Z h x O n d w → RoadKit.slotOf Z O n d ≠ RoadKit.slotOf Z ST "value" "[B" → RoadKit.slotOf Z O n d ≠ RoadKit.slotOf Z ST "coder" "B" → RoadKit.Fld Z h' x O n d w
/-- **new String(chars) AT A CALL, IN THE ROAD'S FORM**: for specialBack behind newO: x the fresh String, b the char[] with the cell A -/
theorem back {p : Program} {l : Launch} {e : Env} {R : Room} {s : State} {args : Array Value} {below : List Frame} {len W : Nat} {Z : State} {a0 : Array Value} {h : Heap} (hZ : Z.Warmed39 s.vm) (hw : ∀ d ∈ words, d.before a0 Z = true) {kI : Nat} (wi : (Jvm.Cond.instantiable ST kI).before a0 Z = true)
    {x b : Addr} {A : Cell} {z : Int32} {v0 c0 : Value} (E : RoadKit.Exa Z h x ST) (V : RoadKit.Fld Z h x ST "value" "[B" v0) (C : RoadKit.Fld Z h x ST "coder" "B" c0) (K : RoadKit.Arr Z h b A .char) (hty : Typed .char A) (S : RoadKit.Sta Z h ST "COMPACT_STRINGS" "Z" (.int z)) (hz : ¬ z = 0)
    (l0 : 0 < A.slots.size) (l2 : A.slots.size ≤ 536870912) (hp : ∀ i, i < A.slots.size → ¬ 255 < cv A i) (hfr : 4 ≤ R.frames) (hlo : W + 65 ≤ R.locals) :
    Back l R p e below s args New1.yN len W (fun P a => a = #[.ref x, .ref b] ∧ P.U.heap = h ∧ P.cells + 1 ≤ R.cells ∧ P.slots + A.slots.size ≤ R.slots)
      (fun P _ v B => ∃ L, Q Z x A h v B.U.heap L ∧ B.locs = P.locs ++ L ∧ B.cells = P.cells + 1 ∧ B.slots = P.slots + A.slots.size) := by
  intro m meth c P g ig mk a X hg hsize hdg hW hn hp'
  obtain ⟨rfl, rfl, r1, r2⟩ := hp'
  have al : Z.vm.Alike P.U.vm := hZ.alike.trans X.warmed.alike
  obtain ⟨D, cfV, kV, iV, fV, hD, gV, stV, knV, obV, asV, slV⟩ := id V
  obtain ⟨D', cfC, kC, iC, fC, hD', gC, stC, -, -, asC, slC⟩ := id C
  cases hD.symm.trans hD'
  obtain ⟨D2, kD, e1, e2, e3, e4, e5⟩ := id E
  cases hD.symm.trans e1
  obtain ⟨c2, k2, i1, i2, i3, -⟩ := Cond.instantiable_spec wi
  cases e2.symm.trans i1
  cases e3.symm.trans i2
  obtain ⟨kU, u1, u2⟩ := al.2.2 _ _ e3
  have hB : Blank ST x D P.U := ⟨hD, ⟨knV, fun q hq => by rw [hq] at obV; cases obV⟩, by rw [al.findClass]; exact e2, kU, u1, by rw [u2]; exact i3, by rw [u2]; exact e5 i3⟩
  have F1 : Found ST "value" "[B" fV P.U := ⟨SBG.found_only al ⟨cfV, kV, iV, gV⟩, stV⟩
  have F2 : Found ST "coder" "B" fC P.U := ⟨SBG.found_only al ⟨cfC, kC, iC, gC⟩, stC⟩
  have hA : Ch b A P.U := ⟨⟨K.1, State.isArrayOf_alike al K.2.1, K.2.2, by omega⟩, hty⟩
  have hS : StaticIs P.U ST "COMPACT_STRINGS" "Z" (.int z) := by
    obtain ⟨cfS, iS, kS, fS, st, cS, t1, t2, t3, t4, t5, t6, t7⟩ := S
    exact StaticIs.there (s := { Z with heap := P.U.heap }) ⟨cfS, iS, kS, fS, st, cS, t1, t2, t3, t4, t5, (fun q => by rw [q] at t6; cases t6), t7⟩ al rfl
  obtain ⟨v, B, X', ⟨⟨hv, E', V', q1, q2, q3, q4, q5, q6, q7, q8, q9, q10, q11⟩, hl, hc, hs⟩, st⟩ := New1.pays x D fV fC b A z (tab_of (moved hZ hw)) hfr hlo m meth c P g ig mk _ X hg hsize hdg hW hn ⟨r1, r2, rfl, hB, F1, F2, hA, hS, hz, l0, l2, hp⟩
  have al' : Z.vm.Alike B.U.vm := hZ.alike.trans X'.warmed.alike
  have hsz : E'.slots.size = D.slots.size := by
    obtain ⟨-, -, -, kB, w1, w2, w3⟩ := q1
    obtain ⟨kB', y1, y2⟩ := al'.2.2 _ _ e3
    rw [q2.2.1] at w1
    cases w1.symm.trans y1
    rw [w3, e5 i3, y2]
  refine ⟨v, B, X', ⟨_, ⟨hv, ?_, ⟨by omega, fun y cy hy hn' => q10 y cy (by simpa using hn') hy, fun y cy hy => ?_⟩, q11, ⟨E', _, q1.1, by rw [q2.2.1]; exact e2, by rw [q2.2.1]; exact e3, by rw [q2.1]; exact obV, fun _ => by rw [hsz]; exact e5 i3⟩,
    ⟨E', cfV, kV, iV, fV, q1.1, gV, stV, by rw [q2.1]; exact knV, by rw [q2.1]; exact obV, by rw [q2.2.1]; exact asV, q3⟩, ⟨E', cfC, kC, iC, fC, q1.1, gC, stC, by rw [q2.1]; exact knV, by rw [q2.1]; exact obV, by rw [q2.2.1]; exact asC, q4⟩,
    ⟨V', ⟨q5.1, State.isArrayOf_alike al'.symm q5.2.1, q5.2.2.1⟩, q6, by rw [← al'.findClass]; exact q7, q8, fun j hj => by have := q9 j hj; rwa [Nat.zero_add] at this⟩, fun O n d w F n1 n2 => ?_⟩, hl, hc, hs⟩, st⟩
  · intro y hy
    simp only [List.mem_cons, List.not_mem_nil, or_false] at hy
    rcases hy with rfl | rfl <;> rfl
  · by_cases q : y = x
    · subst q
      cases hD.symm.trans hy
      exact ⟨E', q1.1, q2.2.1, q2.1, hsz⟩
    · exact ⟨cy, q10 y cy q hy, rfl, rfl, rfl⟩
  · obtain ⟨D3, cf, k, i, f, g1, g2, g3, g4, g5, g6, g7⟩ := F
    cases hD.symm.trans g1
    simp only [RoadKit.slotOf, g2, gV, gC, Option.map_some, Option.getD_some] at n1 n2
    exact ⟨E', cf, k, i, f, q1.1, g2, g3, by rw [q2.1]; exact g4, by rw [q2.1]; exact g5, by rw [q2.2.1]; exact g6, by rw [q2.2.2 f.slot (by simp [n1, n2])]; exact g7⟩
end StrChars.Road
namespace StrChars.Road
open Jvm Sem ClassFile Op Lib Jvm.Stand Jvm.Free Jvm.Free.XT
/-- WHAT COMES BACK, the byte[] as a list of values -/
def QA (Z : State) (x : Addr) (zn : Int32) (cs : List Int32) (h : Heap) (v : Option Value) (h' : Heap) (L : List Loc) : Prop := v = none ∧ (∀ y ∈ L, y.base = x) ∧ RoadKit.Keep h h' [x] ∧ h'.size = h.size + 1 ∧ RoadKit.Exa Z h' x ST ∧ RoadKit.Fld Z h' x ST "value" "[B" (.ref h.size) ∧ RoadKit.Fld Z h' x ST "coder" "B" (.int 0) ∧
  (∃ kb, Z.vm.findClass "[B" = some kb ∧ RoadKit.Arv Z h' h.size kb .byte zn (cs.map fun c => .int (lo8 c)) (.int 0)) ∧
  ∀ (O n d : String) (w : Value), RoadKit.Fld Z h x O n d w → RoadKit.slotOf Z O n d ≠ RoadKit.slotOf Z ST "value" "[B" → RoadKit.slotOf Z O n d ≠ RoadKit.slotOf Z ST "coder" "B" → RoadKit.Fld Z h' x O n d w
/-- **new String(chars) AT A CALL, THE ARRAYS AS LISTS**: the char[] at b holds cs, not empty, no char above 255 -/
theorem backArv {p : Program} {l : Launch} {e : Env} {R : Room} {s : State} {args : Array Value} {below : List Frame} {len W : Nat} {Z : State} {a0 : Array Value} {h : Heap} (hZ : Z.Warmed39 s.vm) (hw : ∀ d ∈ words, d.before a0 Z = true) {kI : Nat} (wi : (Jvm.Cond.instantiable ST kI).before a0 Z = true)
    {x b : Addr} {k : ClassId} {zn z : Int32} {cs : List Int32} {dv v0 c0 : Value} (E : RoadKit.Exa Z h x ST) (V : RoadKit.Fld Z h x ST "value" "[B" v0) (C : RoadKit.Fld Z h x ST "coder" "B" c0) (K : RoadKit.Arv Z h b k .char zn (cs.map Value.int) dv) (S : RoadKit.Sta Z h ST "COMPACT_STRINGS" "Z" (.int z)) (hz : ¬ z = 0)
    (hlen : zn.toNatClampNeg = cs.length) (h0 : 0 < cs.length) (hbig : cs.length ≤ 536870912) (hall : ∀ c ∈ cs, ¬ 255 < c) (hfr : 4 ≤ R.frames) (hlo : W + 65 ≤ R.locals) :
    Back l R p e below s args New1.yN len W (fun P a => a = #[.ref x, .ref b] ∧ P.U.heap = h ∧ P.cells + 1 ≤ R.cells ∧ P.slots + cs.length ≤ R.slots)
      (fun P _ v B => ∃ L, QA Z x zn cs h v B.U.heap L ∧ B.locs = P.locs ++ L ∧ B.cells = P.cells + 1 ∧ B.slots = P.slots + cs.length) := by
  obtain ⟨A, K1, K2, K3, K4, K5, K6⟩ := K
  have e : A.slots.size = cs.length := K3.trans hlen
  have hat : ∀ (i : Nat) (hi : i < cs.length), A.slots[i]? = some (.int cs[i]) := fun i hi => by rw [K5 i (by omega)]; simp [List.getD_eq_getElem?_getD, hi]
  have hcv : ∀ (i : Nat) (hi : i < cs.length), cv A i = cs[i] := fun i hi => by unfold cv; rw [hat i hi]
  have hty : Typed .char A := fun i v hv => by
    have hi : i < A.slots.size := (Array.getElem?_eq_some_iff.mp hv).1
    have q := K5 i hi
    rw [hv] at q
    rw [Option.some.inj q]
    exact K6 i hi
  refine Back.mono (back hZ hw wi E V C K1 hty S hz (by omega) (by omega) (fun i hi => by rw [hcv i (by omega)]; exact hall _ (List.getElem_mem _)) hfr hlo) (fun P a hp => ⟨hp.1, hp.2.1, hp.2.2.1, by rw [e]; exact hp.2.2.2⟩) (fun P a v B hp hq => ?_)
  obtain ⟨L, ⟨q1, q2, q3, q4, q5, q6, q7, ⟨V', v1, v2, v3, v4, v5⟩, q9⟩, hl, hc, hs⟩ := hq
  refine ⟨L, ⟨q1, q2, q3, q4, q5, q6, q7, ⟨V'.cls, v3, V', v1, rfl, by rw [v4, e, hlen], K4, fun i hi => ?_, fun i hi => ?_⟩, q9⟩, hl, hc, by rw [hs, e]⟩
  · have hi' : i < cs.length := by omega
    rw [v5 i (by omega), hcv i hi']; simp [List.getD_eq_getElem?_getD, hi']
  · have hi' : i < cs.length := by omega
    simp only [List.getD_eq_getElem?_getD, List.getElem?_map, List.getElem?_eq_getElem hi', Option.map_some, Option.getD_some]
    exact fits_lo8 _
end StrChars.Road
namespace StrChars.Road
open Jvm Sem ClassFile Op Lib Jvm.Stand Jvm.Free Jvm.Free.XT
/-- WHAT COMES BACK, in the writer's own shape -/
def QV (Z : State) (x : Addr) (N : Int32) (bs : List Int32) (h : Heap) (n0 : Nat) (v : Option Value) (h' : Heap) (L : List Loc) : Prop := v = none ∧ RoadKit.Fr n0 L ∧ RoadKit.Keep h h' [x] ∧ RoadKit.Exa Z h' x ST ∧ RoadKit.Fld Z h' x ST "coder" "B" (.int 0) ∧
  ∃ (t : Addr) (kb : ClassId), n0 ≤ t ∧ h.size ≤ t ∧ ¬ t = x ∧ RoadKit.Fld Z h' x ST "value" "[B" (.ref t) ∧ RoadKit.Arv Z h' t kb .byte N (bs.map Value.int) (.int 0)
/-- **new String(chars) AT A CALL, FOR THE WRITER**: a char[] of n known ints, each 0 to 255 -/
theorem backV {p : Program} {l : Launch} {e : Env} {R : Room} {s : State} {args : Array Value} {below : List Frame} {len W : Nat} {Z : State} {a0 : Array Value} {h : Heap} (hZ : Z.Warmed39 s.vm) (hw : ∀ d ∈ words, d.before a0 Z = true) {kI : Nat} (wi : (Jvm.Cond.instantiable ST kI).before a0 Z = true)
    {x b : Addr} {kC : ClassId} {cs bs : List Int32} {d v0 c0 : Value} {z N : Int32} {n n0 : Nat} (hx0 : n0 ≤ x) (hh0 : n0 ≤ h.size) (E : RoadKit.Exa Z h x ST) (V : RoadKit.Fld Z h x ST "value" "[B" v0) (C : RoadKit.Fld Z h x ST "coder" "B" c0) (K : RoadKit.Arv Z h b kC .char N (cs.map Value.int) d) (S : RoadKit.Sta Z h ST "COMPACT_STRINGS" "Z" (.int z)) (hz : ¬ z = 0)
    (hn : cs.length = n) (hN : N = Int32.ofNat n) (l0 : 0 < n) (l2 : n ≤ 4000) (hp : ∀ c ∈ cs, ¬ c < 0 ∧ ¬ (255 : Int32) < c) (hb : bs = cs.map (fun c => c.toInt8.toInt32)) (hfr : 4 ≤ R.frames) (hlo : W + 65 ≤ R.locals) :
    Back l R p e below s args (⟨"java/lang/String", "<init>", "([C)V"⟩ : MethodName) len W (fun P a => a = #[.ref x, .ref b] ∧ P.U.heap = h ∧ P.cells + 1 ≤ R.cells ∧ P.slots + n ≤ R.slots)
      (fun P _ v B => ∃ L, QV Z x N bs h n0 v B.U.heap L ∧ B.locs = P.locs ++ L ∧ B.cells = P.cells + 1 ∧ B.slots = P.slots + n) := by
  subst hn hN hb
  refine Back.mono (backArv hZ hw wi E V C K S hz (n32 (by omega)) l0 (by omega) (fun c hc => (hp c hc).2) hfr hlo) (fun P a hp => hp) (fun P a v B hp hq => ?_)
  obtain ⟨L, ⟨q1, q2, q3, q4, q5, q6, q7, ⟨kb, v1, v2⟩, q9⟩, hl, hc, hs⟩ := hq
  exact ⟨L, ⟨q1, fun y hy => by rw [q2 y hy]; exact hx0, q3, q5, q7, h.size, kb, hh0, Nat.le_refl _, Nat.ne_of_gt E.lt, q6, by rw [List.map_map]; exact v2⟩, hl, hc, hs⟩
end StrChars.Road
namespace StrChars
open Jvm Sem ClassFile Op Lib Jvm.Stand Jvm.Free.XT Jvm.Free.ALB Jvm.Free.JM Jvm.Free
open Jvm.Lib.Cold (StaticIs)
def hi8 (x : Int32) : Int32 := lo8 (x >>> ((8 : Int32) &&& 31))
/-- what StringUTF16.getChar makes of two bytes -/
def pairCh (u v : Int32) : Int32 := (((u &&& 255) <<< ((0 : Int32) &&& 31)) ||| ((v &&& 255) <<< ((8 : Int32) &&& 31))).toUInt32.toUInt16.toUInt32.toInt32
theorem lo8_and (x : Int32) : (lo8 x &&& 255).toBitVec.toNat = x.toBitVec.toNat % 256 := by
  have h : (lo8 x).toBitVec = (x.toBitVec.signExtend 8).signExtend 32 := by rw [lo8, Int8.toBitVec_toInt32, Int32.toBitVec_toInt8]
  rw [Int32.toBitVec_and, BitVec.toNat_and, h]
  have e : ((x.toBitVec.signExtend 8).signExtend 32).toNat % 256 = x.toBitVec.toNat % 256 := by
    rw [BitVec.toNat_signExtend]
    have hlt := x.toBitVec.isLt
    simp only [BitVec.toNat_setWidth, BitVec.toNat_signExtend]
    split <;> split <;> omega
  rw [← e]
  exact Nat.and_two_pow_sub_one_eq_mod _ 8
theorem pair_says {c : Int32} (h0 : ¬ c < 0) (h1 : ¬ 65535 < c) : pairCh (lo8 c) (hi8 c) = c := by
  rw [Int32.lt_iff_toInt_lt] at h0 h1
  have e0 : (0 : Int32).toInt = 0 := rfl
  have e1 : (65535 : Int32).toInt = 65535 := rfl
  have hc : c.toInt = c.toBitVec.toNat := by
    have := c.toBitVec.isLt
    have e : c.toInt = c.toBitVec.toInt := rfl
    rw [e] at h0 h1
    rw [e]
    rw [BitVec.toInt_eq_toNat_cond] at h0 h1 ⊢
    split at h0 <;> split <;> omega
  have hn : c.toBitVec.toNat < 65536 := by omega
  have a1 := lo8_and c
  have a2 : (hi8 c &&& 255).toBitVec.toNat = c.toBitVec.toNat / 256 := by
    rw [hi8, lo8_and]
    have e : ((8 : Int32) &&& 31) = 8 := by decide
    rw [e, Int32.toBitVec_shiftRight]
    have e2 : ((8 : Int32).toBitVec.smod 32) = 8#32 := by decide
    rw [e2, BitVec.sshiftRight_eq', BitVec.toNat_sshiftRight_of_msb_false (by rw [BitVec.msb_eq_false_iff_two_mul_lt]; omega)]
    show c.toBitVec.toNat >>> 8 % 256 = _
    rw [Nat.shiftRight_eq_div_pow]
    omega
  unfold pairCh
  apply Int32.toBitVec_inj.mp
  apply BitVec.eq_of_toNat_eq
  have f0 : ((0 : Int32) &&& 31) = 0 := by decide
  have f8 : ((8 : Int32) &&& 31) = 8 := by decide
  rw [f0, f8]
  have g : (((lo8 c &&& 255) <<< (0 : Int32)) ||| ((hi8 c &&& 255) <<< (8 : Int32))).toBitVec.toNat = c.toBitVec.toNat := by
    rw [Int32.toBitVec_or, Int32.toBitVec_shiftLeft, Int32.toBitVec_shiftLeft]
    have s0 : ((0 : Int32).toBitVec.smod 32) = 0#32 := by decide
    have s8 : ((8 : Int32).toBitVec.smod 32) = 8#32 := by decide
    rw [s0, s8, BitVec.toNat_or]
    simp only [BitVec.shiftLeft_eq', BitVec.toNat_shiftLeft, a1, a2]
    show (c.toBitVec.toNat % 256) <<< 0 % 2 ^ 32 ||| (c.toBitVec.toNat / 256) <<< 8 % 2 ^ 32 = _
    rw [Nat.shiftLeft_zero, Nat.mod_eq_of_lt (show c.toBitVec.toNat % 256 < 2 ^ 32 by omega), Nat.mod_eq_of_lt (show (c.toBitVec.toNat / 256) <<< 8 < 2 ^ 32 by rw [Nat.shiftLeft_eq]; omega), Nat.or_comm, ← Nat.shiftLeft_add_eq_or_of_lt (by omega), Nat.shiftLeft_eq]
    omega
  show BitVec.toNat (((((lo8 c &&& 255) <<< (0 : Int32)) ||| ((hi8 c &&& 255) <<< (8 : Int32))).toBitVec.setWidth 16).setWidth 32) = _
  rw [BitVec.toNat_setWidth, BitVec.toNat_setWidth, g]
  omega
end StrChars
namespace StrChars
open Jvm Sem ClassFile Op Lib Jvm.Stand Jvm.Free.XT Jvm.Free.ALB Jvm.Free.JM Jvm.Free
open Jvm.Lib.Cold (StaticIs)
/-- the array's cell V codes the n chars f 0 .. f (n - 1) by the coder cd, as the JDK does: coder 1 just where some char is above 255 -/
def Cod (cd : Int32) (n : Nat) (f : Nat → Int32) (V : Cell) : Prop := (cd = 0 ∧ V.slots.size = n ∧ ∀ j, j < n → V.slots[j]? = some (.int (lo8 (f j))) ∧ ¬ 255 < f j) ∨ (cd = 1 ∧ V.slots.size = 2 * n ∧ (∀ j, j < n → V.slots[2 * j]? = some (.int (lo8 (f j))) ∧ V.slots[2 * j + 1]? = some (.int (hi8 (f j)))) ∧ ∃ j, j < n ∧ 255 < f j)
/-- **x is a String of the n chars f 0 .. f (n - 1)**, Latin-1 or UTF-16; its array at t has the cell V -/
def Txt (x t : Addr) (V : Cell) (cd : Int32) (n : Nat) (f : Nat → Int32) (U : State) : Prop := Exact "java/lang/String" x U ∧ Has x "java/lang/String" "value" "[B" (.ref t) U ∧ Has x "java/lang/String" "coder" "B" (.int cd) U ∧ XT.Arr .byte t V U ∧ Cod cd n f V ∧ ∀ j, j < n → ¬ f j < 0 ∧ ¬ 65535 < f j
theorem Txt.mv {x t : Addr} {V : Cell} {cd : Int32} {n : Nat} {f : Nat → Int32} {U U' : State} (h : Txt x t V cd n f U) (hal : U.vm.Alike U'.vm) (hh : U'.heap = U.heap) : Txt x t V cd n f U' := ⟨h.1.mv hal hh, h.2.1.mv hal hh, h.2.2.1.mv hal hh, h.2.2.2.1.mv hal hh, h.2.2.2.2⟩
end StrChars
namespace StrChars.Road
open Jvm Sem ClassFile Op Lib Jvm.Stand Jvm.Free Jvm.Free.XT
open Jvm.Lib.Cold (StaticIs)
theorem consq {a : Array Value} {s : State} {c : Jvm.Cond} {L : List Jvm.Cond} (h0 : c.before a s = true) (h : ∀ w ∈ L, w.before a s = true) : ∀ w ∈ c :: L, w.before a s = true := fun w hw => (List.mem_cons.mp hw).elim (fun e => e ▸ h0) (h w)
/-- the bytes of the chars cs, low before high -/
def wideBytes : List Int32 → List Value
  | [] => []
  | c :: cs => .int (lo8 c) :: .int (hi8 c) :: wideBytes cs
theorem wide_lo (d : Value) : ∀ (cs : List Int32) (j : Nat), j < cs.length → (wideBytes cs).getD (2 * j) d = .int (lo8 (cs.getD j 0))
  | [], j, h => absurd h (Nat.not_lt_zero j)
  | c :: cs, 0, _ => rfl
  | c :: cs, j + 1, h => by
    have q := wide_lo d cs j (by simpa using h)
    rw [show 2 * (j + 1) = 2 * j + 1 + 1 from by omega]
    simpa [wideBytes] using q
theorem wide_hi (d : Value) : ∀ (cs : List Int32) (j : Nat), j < cs.length → (wideBytes cs).getD (2 * j + 1) d = .int (hi8 (cs.getD j 0))
  | [], j, h => absurd h (Nat.not_lt_zero j)
  | c :: cs, 0, _ => rfl
  | c :: cs, j + 1, h => by
    have q := wide_hi d cs j (by simpa using h)
    rw [show 2 * (j + 1) + 1 = 2 * j + 1 + 1 + 1 from by omega]
    simpa [wideBytes] using q
theorem low_at (d : Value) (cs : List Int32) (j : Nat) (h : j < cs.length) : (cs.map fun c => Value.int (lo8 c)).getD j d = .int (lo8 (cs.getD j 0)) := by
  simp [List.getD_eq_getElem?_getD, h]
/-- an array of N2 bytes vs codes the chars cs by the coder cd -/
def CodA (cs : List Int32) (cd N2 : Int32) (vs : List Value) : Prop := (cd = 0 ∧ N2 = Int32.ofNat cs.length ∧ vs = (cs.map fun c => Value.int (lo8 c)) ∧ ∀ c ∈ cs, ¬ 255 < c) ∨ (cd = 1 ∧ N2 = Int32.ofNat (2 * cs.length) ∧ vs = wideBytes cs ∧ ∃ c ∈ cs, 255 < c)
theorem CodA.cod {cs : List Int32} {cd N2 : Int32} {vs : List Value} {V : Cell} (h : CodA cs cd N2 vs) (hn : 2 * cs.length < 2 ^ 31) (hs : V.slots.size = N2.toNatClampNeg) (hv : RoadKit.Has V vs (.int 0)) : Cod cd cs.length (fun j => cs.getD j 0) V := by
  rcases h with ⟨rfl, rfl, rfl, h⟩ | ⟨rfl, rfl, rfl, c, hc, hw⟩
  · rw [n32 (by omega)] at hs
    exact Or.inl ⟨rfl, hs, fun j hj => ⟨by rw [hv j (by omega), low_at _ _ _ hj], by
      have e : cs.getD j 0 = cs[j] := by simp [List.getD_eq_getElem?_getD, hj]
      show ¬ 255 < cs.getD j 0
      rw [e]; exact h _ (List.getElem_mem _)⟩⟩
  · rw [n32 (by omega)] at hs
    obtain ⟨j, hj, rfl⟩ := List.getElem_of_mem hc
    exact Or.inr ⟨rfl, hs, fun j hj => ⟨by rw [hv _ (by omega), wide_lo _ _ _ hj], by rw [hv _ (by omega), wide_hi _ _ _ hj]⟩, j, hj, by
      have e : cs.getD j 0 = cs[j] := by simp [List.getD_eq_getElem?_getD, hj]
      show 255 < cs.getD j 0
      rw [e]; exact hw⟩
/-- an object of exactly java/lang/String, its two fields found: as the laws ask it -/
theorem strObj {Z U : State} {a0 : Array Value} {kI : Nat} (wi : (Jvm.Cond.instantiable ST kI).before a0 Z = true) (al : Z.vm.Alike U.vm) {x : Addr} {v0 c0 : Value} (E : RoadKit.Exa Z U.heap x ST) (V : RoadKit.Fld Z U.heap x ST "value" "[B" v0) (C : RoadKit.Fld Z U.heap x ST "coder" "B" c0) :
    ∃ (D : Cell) (fV fC : Field), Blank ST x D U ∧ Found ST "value" "[B" fV U ∧ Found ST "coder" "B" fC U ∧ D.slots[fV.slot]? = some v0 ∧ D.slots[fC.slot]? = some c0 ∧ RoadKit.slotOf Z ST "value" "[B" = fV.slot ∧ RoadKit.slotOf Z ST "coder" "B" = fC.slot := by
  obtain ⟨D, cfV, kV, iV, fV, hD, gV, stV, knV, obV, asV, slV⟩ := V
  obtain ⟨D', cfC, kC, iC, fC, hD', gC, stC, -, -, asC, slC⟩ := C
  cases hD.symm.trans hD'
  obtain ⟨D2, kD, e1, e2, e3, e4, e5⟩ := E
  cases hD.symm.trans e1
  obtain ⟨c2, k2, i1, i2, i3, -⟩ := Cond.instantiable_spec wi
  cases e2.symm.trans i1
  cases e3.symm.trans i2
  obtain ⟨kU, u1, u2⟩ := al.2.2 _ _ e3
  exact ⟨D, fV, fC, ⟨hD, ⟨knV, fun q hq => by rw [hq] at obV; cases obV⟩, by rw [al.findClass]; exact e2, kU, u1, by rw [u2]; exact i3, by rw [u2]; exact e5 i3⟩, ⟨SBG.found_only al ⟨cfV, kV, iV, gV⟩, stV⟩, ⟨SBG.found_only al ⟨cfC, kC, iC, gC⟩, stC⟩, slV, slC, by simp [RoadKit.slotOf, gV], by simp [RoadKit.slotOf, gC]⟩
theorem sta_is {Z U : State} (al : Z.vm.Alike U.vm) {C n d : String} {v : Value} (S : RoadKit.Sta Z U.heap C n d v) : StaticIs U C n d v := by
  obtain ⟨cfS, iS, kS, fS, st, cS, t1, t2, t3, t4, t5, t6, t7⟩ := S
  exact StaticIs.there (s := { Z with heap := U.heap }) ⟨cfS, iS, kS, fS, st, cS, t1, t2, t3, t4, t5, (fun q => by rw [q] at t6; cases t6), t7⟩ al rfl
end StrChars.Road
namespace StrChars
open Jvm Sem ClassFile Op Lib Jvm.Stand Jvm.Free.XT Jvm.Free.ALB Jvm.Free.JM Jvm.Free
open Jvm.Lib.Cold (StaticIs)
/-- what place i of a byte[]'s cell holds -/
def yv (A : Cell) (i : Nat) : Int32 := match A.slots[i]? with | some (.int x) => x | _ => 0
theorem yv_get {a : Addr} {A : Cell} {U : State} (h : XT.Arr .byte a A U) (ht : Typed .byte A) {i : Nat} (hi : i < A.slots.size) : A.slots[i]? = some (.int (yv A i)) := by
  have e := Array.getElem?_eq_getElem hi
  have f := ht i _ e
  unfold yv; rw [e]
  generalize A.slots[i] = v at f
  cases v <;> simp [fits] at f ⊢
/-- the two arrays are equal, place for place -/
def EqC (A B : Cell) : Prop := A.slots.size = B.slots.size ∧ ∀ i, i < A.slots.size → yv A i = yv B i
/-- a boolean that says whether p -/
def Says01 (q : Prop) (r : Option Value) (s u : State) : Prop := ∃ v : Int32, r = some (.int v) ∧ u.heap = s.heap ∧ ((v = 1 ∧ q) ∨ (v = 0 ∧ ¬ q))
theorem Says01.mv {q : Prop} : ∀ r (U U' V V' : State), U'.heap = U.heap → V.vm.Alike V'.vm → V'.heap = V.heap → Says01 q r U V → Says01 q r U' V' :=
  fun r U U' V V' h1 _ h2 ⟨v, a, b, c⟩ => ⟨v, a, by rw [h1, h2]; exact b, c⟩
namespace LEq
def yN : MethodName := ⟨"java/lang/StringLatin1", "equals", "([B[B)Z"⟩
abbrev yB : ByteArray := jdk_43_method_13_code
theorem d0 : decode yB 0 = .ok (.aload_n 0, 1) := by decide +kernel
theorem d1 : decode yB 1 = .ok (.arraylength, 1) := by decide +kernel
theorem d2 : decode yB 2 = .ok (.aload_n 1, 1) := by decide +kernel
theorem d3 : decode yB 3 = .ok (.arraylength, 1) := by decide +kernel
theorem d4 : decode yB 4 = .ok (.if_icmp (.ne) 30, 3) := by decide +kernel
theorem d7 : decode yB 7 = .ok (.iconst 0, 1) := by decide +kernel
theorem d8 : decode yB 8 = .ok (.istore_n 2, 1) := by decide +kernel
theorem d9 : decode yB 9 = .ok (.iload_n 2, 1) := by decide +kernel
theorem d10 : decode yB 10 = .ok (.aload_n 0, 1) := by decide +kernel
theorem d11 : decode yB 11 = .ok (.arraylength, 1) := by decide +kernel
theorem d12 : decode yB 12 = .ok (.if_icmp (.ge) 20, 3) := by decide +kernel
theorem d15 : decode yB 15 = .ok (.aload_n 0, 1) := by decide +kernel
theorem d16 : decode yB 16 = .ok (.iload_n 2, 1) := by decide +kernel
theorem d17 : decode yB 17 = .ok (.baload, 1) := by decide +kernel
theorem d18 : decode yB 18 = .ok (.aload_n 1, 1) := by decide +kernel
theorem d19 : decode yB 19 = .ok (.iload_n 2, 1) := by decide +kernel
theorem d20 : decode yB 20 = .ok (.baload, 1) := by decide +kernel
theorem d21 : decode yB 21 = .ok (.if_icmp (.eq) 5, 3) := by decide +kernel
theorem d24 : decode yB 24 = .ok (.iconst 0, 1) := by decide +kernel
theorem d25 : decode yB 25 = .ok (.ireturn, 1) := by decide +kernel
theorem d26 : decode yB 26 = .ok (.iinc 2 1, 3) := by decide +kernel
theorem d29 : decode yB 29 = .ok (.goto (-20), 3) := by decide +kernel
theorem d32 : decode yB 32 = .ok (.iconst 1, 1) := by decide +kernel
theorem d33 : decode yB 33 = .ok (.ireturn, 1) := by decide +kernel
theorem d34 : decode yB 34 = .ok (.iconst 0, 1) := by decide +kernel
theorem d35 : decode yB 35 = .ok (.ireturn, 1) := by decide +kernel
def site : List Cond := []
def tab : Cond := tabOf yN yB 3 (some .boolean) site
def P (a : Addr) (A : Cell) (b : Addr) (B : Cell) (args : Array Value) (s : State) : Prop := args = #[.ref a, .ref b] ∧ XT.Arr .byte a A s ∧ Typed .byte A ∧ XT.Arr .byte b B s ∧ Typed .byte B
/-- whether two byte[] are equal, place for place -/
theorem law (l : Launch) (a : Addr) (A : Cell) (b : Addr) (B : Cell) : Law l yN 2 2 0 0 yB 3 (some .boolean) site (P a A b B) (Says01 (EqC A B)) [] 0 0 := by
  refine Law.of_walk (plainFor_of_name (by decide +kernel)) (by decide +kernel) (by decide +kernel) (by decide) (fun _ _ h => by rw [h.1]; rfl) (fun _ U U' hal hh h => ⟨h.1, h.2.1.mv hal hh, h.2.2.1, h.2.2.2.1.mv hal hh, h.2.2.2.2⟩) (fun r U U' V V' h1 hal h2 h => Says01.mv r U U' V V' h1 hal h2 h) ?_
  intro p e s m args below meth c s₁ X0 hexec hbytes hml hret hlk hnm hown hh0 W hP
  obtain ⟨rfl, hA, tA, hB, tB⟩ := hP
  have a31 := hA.2.2.2
  have b31 := hB.2.2.2
  have hA0 := hA.mv X0.warmed.alike hh0
  have hB0 := hB.mv X0.warmed.alike hh0
  have c1 : Steps p.tables e below (s₁.setTop (entryFrame m #[.ref a, .ref b] 3)) (s₁.setTop (mkF m 0 #[.val (.ref a), .val (.ref b), .unset] [])) := entry rfl
  have c2 : Steps p.tables e below (s₁.setTop (entryFrame m #[.ref a, .ref b] 3)) (s₁.setTop (mkF m 4 #[.val (.ref a), .val (.ref b), .unset] [.int (Int32.ofNat B.slots.size), .int (Int32.ofNat A.slots.size)])) := c1.trans (by
    refine XS.aloadN X0.here hexec rfl (hb hbytes d0) rfl rfl ?_
    refine X0.alen hexec hA0 rfl rfl (hb hbytes d1) ?_
    refine XS.aloadN X0.here hexec rfl (hb hbytes d2) rfl rfl ?_
    refine X0.alen hexec hB0 rfl rfl (hb hbytes d3) ?_
    exact Steps.refl _)
  by_cases hs : A.slots.size = B.slots.size
  · have c3 : Steps p.tables e below (s₁.setTop (entryFrame m #[.ref a, .ref b] 3)) (s₁.setTop (mkF m 9 #[.val (.ref a), .val (.ref b), .val (.int 0)] [])) := c2.trans (by
      refine XS.icmpNo X0.here hexec rfl (hb hbytes d4) rfl (ii_ne_f (by rw [hs])) ?_
      refine iconstV X0.here hexec rfl 0 (hb hbytes d7) (by decide) ?_
      refine XS.istoreN X0.here hexec rfl (hb hbytes d8) rfl rfl ?_
      exact Steps.refl _)
    have loop : ∀ (r i : Nat), i + r = A.slots.size → (∀ j, j < i → yv A j = yv B j) → Steps p.tables e below (s₁.setTop (entryFrame m #[.ref a, .ref b] 3)) (s₁.setTop (mkF m 9 #[.val (.ref a), .val (.ref b), .val (.int (Int32.ofNat i))] [])) → ∃ (pc : Nat) (Ls : Array Slot) (v : Int32), (pc = 25 ∨ pc = 33) ∧ ((v = 1 ∧ EqC A B) ∨ (v = 0 ∧ ¬ EqC A B)) ∧ Steps p.tables e below (s₁.setTop (entryFrame m #[.ref a, .ref b] 3)) (s₁.setTop (mkF m pc Ls [.int v])) := by
      intro r
      induction r with
      | zero =>
        intro i hi he cl
        exact ⟨33, _, 1, Or.inr rfl, Or.inl ⟨rfl, hs, fun j hj => he j (by omega)⟩, cl.trans (by
          refine XS.iloadN X0.here hexec rfl (hb hbytes d9) rfl ?_
          refine XS.aloadN X0.here hexec rfl (hb hbytes d10) rfl rfl ?_
          refine X0.alen hexec hA0 rfl rfl (hb hbytes d11) ?_
          refine XS.icmpYes X0.here hexec rfl (pc0 := 12) rfl (hb hbytes d12) rfl (ii_ge_t (nlt32 (by omega) (by omega))) (by decide) rfl ?_
          refine iconstV X0.here hexec rfl 1 (hb hbytes d32) (by decide) ?_
          exact Steps.refl _)⟩
      | succ r ih =>
        intro i hi he cl
        have c4 : Steps p.tables e below (s₁.setTop (entryFrame m #[.ref a, .ref b] 3)) (s₁.setTop (mkF m 21 #[.val (.ref a), .val (.ref b), .val (.int (Int32.ofNat i))] [.int (yv B i), .int (yv A i)])) := cl.trans (by
          refine XS.iloadN X0.here hexec rfl (hb hbytes d9) rfl ?_
          refine XS.aloadN X0.here hexec rfl (hb hbytes d10) rfl rfl ?_
          refine X0.alen hexec hA0 rfl rfl (hb hbytes d11) ?_
          refine XS.icmpNo X0.here hexec rfl (hb hbytes d12) rfl (ii_ge_f (lt32 (by omega) (by omega))) ?_
          refine XS.aloadN X0.here hexec rfl (hb hbytes d15) rfl rfl ?_
          refine XS.iloadN X0.here hexec rfl (hb hbytes d16) rfl ?_
          refine X0.aget hexec hA0 rfl (yv_get hA tA (i := i) (by omega)) rfl rfl (hb hbytes d17) ?_
          refine XS.aloadN X0.here hexec rfl (hb hbytes d18) rfl rfl ?_
          refine XS.iloadN X0.here hexec rfl (hb hbytes d19) rfl ?_
          refine X0.aget hexec hB0 rfl (yv_get hB tB (i := i) (by omega)) rfl rfl (hb hbytes d20) ?_
          exact Steps.refl _)
        by_cases hv : yv A i = yv B i
        · have c5 : Steps p.tables e below (s₁.setTop (entryFrame m #[.ref a, .ref b] 3)) (s₁.setTop (mkF m 9 #[.val (.ref a), .val (.ref b), .val (.int (Int32.ofNat i + 1))] [])) := c4.trans (by
            refine XS.icmpYes X0.here hexec rfl (pc0 := 21) rfl (hb hbytes d21) rfl (ii_eq_t hv) (by decide) rfl ?_
            refine iincV X0.here hexec rfl 1 (hb hbytes d26) (by decide) rfl rfl ?_
            refine XS.goto X0.here hexec rfl (pc0 := 29) rfl (hb hbytes d29) (by decide) rfl ?_
            exact Steps.refl _)
          rw [succ32] at c5
          exact ih (i + 1) (by omega) (fun j hj => by
            by_cases e : j = i
            · rw [e]; exact hv
            · exact he j (by omega)) c5
        · exact ⟨25, _, 0, Or.inl rfl, Or.inr ⟨rfl, fun q => hv (q.2 i (by omega))⟩, c4.trans (by
            refine XS.icmpNo X0.here hexec rfl (hb hbytes d21) rfl (ii_eq_f hv) ?_
            refine iconstV X0.here hexec rfl 0 (hb hbytes d24) (by decide) ?_
            exact Steps.refl _)⟩
    obtain ⟨pc, Ls, v, hpc, hv, cz⟩ := loop A.slots.size 0 (by omega) (fun j hj => absurd hj (Nat.not_lt_zero j)) c3
    have nv : narrow .boolean (.int v) = .int v := by rcases hv with ⟨rfl, -⟩ | ⟨rfl, -⟩ <;> rfl
    rcases hpc with rfl | rfl
    · exact ⟨s₁, some (.int v), _, _, _, X0, rfl, rfl, rfl, (fun h => by cases h), ⟨v, rfl, hh0, hv⟩, fun fs hl => cz.trans (X0.ireturnOut hexec hret nv (Or.inr (Or.inl rfl)) (hb hbytes d25) hl)⟩
    · exact ⟨s₁, some (.int v), _, _, _, X0, rfl, rfl, rfl, (fun h => by cases h), ⟨v, rfl, hh0, hv⟩, fun fs hl => cz.trans (X0.ireturnOut hexec hret nv (Or.inr (Or.inl rfl)) (hb hbytes d33) hl)⟩
  · have c3 : Steps p.tables e below (s₁.setTop (entryFrame m #[.ref a, .ref b] 3)) (s₁.setTop (mkF m 35 #[.val (.ref a), .val (.ref b), .unset] [.int 0])) := c2.trans (by
      refine XS.icmpYes X0.here hexec rfl (pc0 := 4) rfl (hb hbytes d4) rfl (ii_ne_t (ne32 a31 b31 hs)) (by decide) rfl ?_
      refine iconstV X0.here hexec rfl 0 (hb hbytes d34) (by decide) ?_
      exact Steps.refl _)
    exact ⟨s₁, some (.int 0), _, _, _, X0, rfl, rfl, rfl, (fun h => by cases h), ⟨0, rfl, hh0, Or.inr ⟨rfl, fun q => hs q.1⟩⟩, fun fs hl => c3.trans (X0.ireturnOut hexec hret rfl (Or.inr (Or.inl rfl)) (hb hbytes d35) hl)⟩
end LEq
theorem Cod.ty {cd : Int32} {n : Nat} {f : Nat → Int32} {V : Cell} (h : Cod cd n f V) : Typed .byte V := fun i v hv => by
  have hi : i < V.slots.size := (Array.getElem?_eq_some_iff.mp hv).1
  rcases h with ⟨-, k1, k2⟩ | ⟨-, k1, k2, -⟩
  · rw [(k2 i (by omega)).1] at hv; cases hv; exact fits_lo8 _
  · rcases Nat.mod_two_eq_zero_or_one i with e | e
    · obtain ⟨j, rfl⟩ : ∃ j, i = 2 * j := ⟨i / 2, by omega⟩
      rw [(k2 j (by omega)).1] at hv; cases hv; exact fits_lo8 _
    · obtain ⟨j, rfl⟩ : ∃ j, i = 2 * j + 1 := ⟨i / 2, by omega⟩
      rw [(k2 j (by omega)).2] at hv; cases hv; exact fits_lo8 _
/-- the same text -/
def SameT (n : Nat) (f : Nat → Int32) (k : Nat) (g : Nat → Int32) : Prop := n = k ∧ ∀ j, j < n → f j = g j
theorem lo8_inj {x y : Int32} (h0 : ¬ x < 0) (h1 : ¬ 255 < x) (k0 : ¬ y < 0) (k1 : ¬ 255 < y) (h : lo8 x = lo8 y) : x = y := by
  rw [← lo8_mask h0 h1, ← lo8_mask k0 k1, h]
/-- arrays coded by one coder are equal just where the texts are -/
theorem Cod.eqv {cd : Int32} {n k : Nat} {f g : Nat → Int32} {V V' : Cell} (h : Cod cd n f V) (h' : Cod cd k g V') (hf : ∀ j, j < n → ¬ f j < 0 ∧ ¬ 65535 < f j) (hg : ∀ j, j < k → ¬ g j < 0 ∧ ¬ 65535 < g j) : EqC V V' ↔ SameT n f k g := by
  have yvv : ∀ {W : Cell} {i : Nat} {x : Int32}, W.slots[i]? = some (.int x) → yv W i = x := fun q => by unfold yv; rw [q]
  rcases h with ⟨rfl, k1, k2⟩ | ⟨rfl, k1, k2, -⟩
  · rcases h' with ⟨-, m1, m2⟩ | ⟨e, -⟩
    · constructor
      · rintro ⟨e1, e2⟩
        refine ⟨by omega, fun j hj => ?_⟩
        have q := e2 j (by omega)
        rw [yvv (k2 j hj).1, yvv (m2 j (by omega)).1] at q
        exact lo8_inj (hf j hj).1 (k2 j hj).2 (hg j (by omega)).1 (m2 j (by omega)).2 q
      · rintro ⟨rfl, e2⟩
        refine ⟨by omega, fun j hj => ?_⟩
        rw [yvv (k2 j (by omega)).1, yvv (m2 j (by omega)).1, e2 j (by omega)]
    · exact absurd e (by decide)
  · rcases h' with ⟨e, -⟩ | ⟨-, m1, m2, -⟩
    · exact absurd e (by decide)
    · constructor
      · rintro ⟨e1, e2⟩
        refine ⟨by omega, fun j hj => ?_⟩
        have q1 := e2 (2 * j) (by omega)
        have q2 := e2 (2 * j + 1) (by omega)
        rw [yvv (k2 j hj).1, yvv (m2 j (by omega)).1] at q1
        rw [yvv (k2 j hj).2, yvv (m2 j (by omega)).2] at q2
        rw [← pair_says (hf j hj).1 (hf j hj).2, ← pair_says (hg j (by omega)).1 (hg j (by omega)).2, q1, q2]
      · rintro ⟨rfl, e2⟩
        refine ⟨by omega, fun i hi => ?_⟩
        rcases Nat.mod_two_eq_zero_or_one i with e | e
        · obtain ⟨j, rfl⟩ : ∃ j, i = 2 * j := ⟨i / 2, by omega⟩
          rw [yvv (k2 j (by omega)).1, yvv (m2 j (by omega)).1, e2 j (by omega)]
        · obtain ⟨j, rfl⟩ : ∃ j, i = 2 * j + 1 := ⟨i / 2, by omega⟩
          rw [yvv (k2 j (by omega)).2, yvv (m2 j (by omega)).2, e2 j (by omega)]
/-- two codings differ: so do the texts -/
theorem Cod.dif {cd cd' : Int32} {n k : Nat} {f g : Nat → Int32} {V V' : Cell} (h : Cod cd n f V) (h' : Cod cd' k g V') (hne : ¬ cd = cd') : ¬ SameT n f k g := by
  rintro ⟨rfl, e⟩
  rcases h with ⟨rfl, -, k2⟩ | ⟨rfl, -, -, j, hj, hw⟩
  · rcases h' with ⟨rfl, -⟩ | ⟨-, -, -, j, hj, hw⟩
    · exact hne rfl
    · exact (k2 j hj).2 (by rw [e j hj]; exact hw)
  · rcases h' with ⟨-, -, m2⟩ | ⟨rfl, -⟩
    · exact (m2 j hj).2 (by rw [← e j hj]; exact hw)
    · exact hne rfl
/-- an object of exactly C is an instance of C -/
theorem cinst {p : Program} {l : Launch} {e : Env} {R : Room} {s : State} {m : MethodId} {args : Array Value} {below : List Frame} {meth : Method} {c : Code} {T : State} {locs : List Loc} {cells slots : Nat} (X : Stand p l e R s m args below meth c T locs cells slots) (hexec : p.tables.exec = Jvm.exec) {own C : String} {index : Nat} (hown : s.vm.findClass own = some m.cls) (hlink : (Cond.classLink own index C).before args s = true) {a : Addr} (hE : Exact C a T)
    {g : JFrame} (hg : g.method = m) {rest : List Value} (hstack : g.stack = .ref a :: rest) (hdg : decode c.code g.pc = .ok (.instanceof index, 3)) :
    ∃ T', Stand p l e R s m args below meth c T' locs cells slots ∧ T'.heap = T.heap ∧ ∀ target, Steps p.tables e below (T'.setTop { g with pc := g.pc + 3, stack := .int 1 :: rest }) target → Steps p.tables e below (T.setTop g) target := by
  obtain ⟨cB, h1, D, h2, h3, h4⟩ := hE
  have h1' : s.vm.findClass C = some cB := by rw [← X.warmed.alike.findClass]; exact h1
  obtain ⟨vm', X', st⟩ := X.instanceofYes hexec hown hlink h2 h4 h1' (by rw [h3]; exact Jvm.Free.SB.assignable_self _ _) hg hstack hdg
  exact ⟨_, X', rfl, st⟩
theorem cself {p : Program} {l : Launch} {e : Env} {R : Room} {s : State} {m : MethodId} {args : Array Value} {below : List Frame} {meth : Method} {c : Code} {T : State} {locs : List Loc} {cells slots : Nat} (X : Stand p l e R s m args below meth c T locs cells slots) (hexec : p.tables.exec = Jvm.exec) {own C : String} {index : Nat} (hown : s.vm.findClass own = some m.cls) (hlink : (Cond.classLink own index C).before args s = true) {a : Addr} (hE : Exact C a T)
    {g : JFrame} (hg : g.method = m) {rest : List Value} (hstack : g.stack = .ref a :: rest) (hdg : decode c.code g.pc = .ok (.checkcast index, 3)) :
    ∃ T', Stand p l e R s m args below meth c T' locs cells slots ∧ T'.heap = T.heap ∧ ∀ target, Steps p.tables e below (T'.setTop { g with pc := g.pc + 3, stack := .ref a :: rest }) target → Steps p.tables e below (T.setTop g) target := by
  obtain ⟨cB, h1, D, h2, h3, h4⟩ := hE
  have h1' : s.vm.findClass C = some cB := by rw [← X.warmed.alike.findClass]; exact h1
  obtain ⟨vm', X', st⟩ := X.checkcastYes hexec hown hlink h2 h4 h1' (by rw [h3]; exact Jvm.Free.SB.assignable_self _ _) hg hstack hdg
  exact ⟨_, X', rfl, fun t h => st t (by rw [← hstack] at h; exact h)⟩
namespace SEq
def yN : MethodName := ⟨"java/lang/String", "equals", "(Ljava/lang/Object;)Z"⟩
abbrev yB : ByteArray := jdk_42_method_66_code
theorem d0 : decode yB 0 = .ok (.aload_n 0, 1) := by decide +kernel
theorem d1 : decode yB 1 = .ok (.aload_n 1, 1) := by decide +kernel
theorem d2 : decode yB 2 = .ok (.if_acmp (.ne) 5, 3) := by decide +kernel
theorem d5 : decode yB 5 = .ok (.iconst 1, 1) := by decide +kernel
theorem d6 : decode yB 6 = .ok (.ireturn, 1) := by decide +kernel
theorem d7 : decode yB 7 = .ok (.aload_n 1, 1) := by decide +kernel
theorem d8 : decode yB 8 = .ok (.instanceof 10, 3) := by decide +kernel
theorem d11 : decode yB 11 = .ok (.ifCond (.eq) 43, 3) := by decide +kernel
theorem d14 : decode yB 14 = .ok (.aload_n 1, 1) := by decide +kernel
theorem d15 : decode yB 15 = .ok (.checkcast 10, 3) := by decide +kernel
theorem d18 : decode yB 18 = .ok (.astore_n 2, 1) := by decide +kernel
theorem d19 : decode yB 19 = .ok (.getstatic 38, 3) := by decide +kernel
theorem d22 : decode yB 22 = .ok (.ifCond (.eq) 14, 3) := by decide +kernel
theorem d25 : decode yB 25 = .ok (.aload_n 0, 1) := by decide +kernel
theorem d26 : decode yB 26 = .ok (.getfield 15, 3) := by decide +kernel
theorem d29 : decode yB 29 = .ok (.aload_n 2, 1) := by decide +kernel
theorem d30 : decode yB 30 = .ok (.getfield 15, 3) := by decide +kernel
theorem d33 : decode yB 33 = .ok (.if_icmp (.ne) 21, 3) := by decide +kernel
theorem d36 : decode yB 36 = .ok (.aload_n 0, 1) := by decide +kernel
theorem d37 : decode yB 37 = .ok (.getfield 9, 3) := by decide +kernel
theorem d40 : decode yB 40 = .ok (.aload_n 2, 1) := by decide +kernel
theorem d41 : decode yB 41 = .ok (.getfield 9, 3) := by decide +kernel
theorem d44 : decode yB 44 = .ok (.invokestatic 541, 3) := by decide +kernel
theorem d47 : decode yB 47 = .ok (.ifCond (.eq) 7, 3) := by decide +kernel
theorem d50 : decode yB 50 = .ok (.iconst 1, 1) := by decide +kernel
theorem d51 : decode yB 51 = .ok (.goto 4, 3) := by decide +kernel
theorem d54 : decode yB 54 = .ok (.iconst 0, 1) := by decide +kernel
theorem d55 : decode yB 55 = .ok (.ireturn, 1) := by decide +kernel
def site : List Cond := [.classLink "java/lang/String" 10 "java/lang/String", .fieldLink "java/lang/String" 38 "java/lang/String" "COMPACT_STRINGS" "Z", .fieldLink "java/lang/String" 15 "java/lang/String" "coder" "B", .fieldLink "java/lang/String" 9 "java/lang/String" "value" "[B", LEq.tab] ++ staticW "java/lang/String" 541 LEq.yN
def tab : Cond := tabOf yN yB 3 (some .boolean) site
def P (x t : Addr) (V : Cell) (cd : Int32) (n : Nat) (f : Nat → Int32) (y t' : Addr) (V' : Cell) (cd' : Int32) (k : Nat) (g : Nat → Int32) (z : Int32) (args : Array Value) (s : State) : Prop := args = #[.ref x, .ref y] ∧ Txt x t V cd n f s ∧ Txt y t' V' cd' k g s ∧ StaticIs s "java/lang/String" "COMPACT_STRINGS" "Z" (.int z) ∧ ¬ z = 0
/-- equals(Object) of two Strings: whether the texts are the same -/
theorem law (l : Launch) (x t : Addr) (V : Cell) (cd : Int32) (n : Nat) (f : Nat → Int32) (y t' : Addr) (V' : Cell) (cd' : Int32) (k : Nat) (g : Nat → Int32) (z : Int32) : Law l yN 2 1 1 14 yB 3 (some .boolean) site (P x t V cd n f y t' V' cd' k g z) (Says01 (SameT n f k g)) [] 0 0 := by
  refine Law.of_walk (plainFor_of_name (by decide +kernel)) (by decide +kernel) (by decide +kernel) (by decide) (fun _ _ h => by rw [h.1]; rfl) (fun _ U U' hal hh h => ⟨h.1, h.2.1.mv hal hh, h.2.2.1.mv hal hh, h.2.2.2.1.there hal hh, h.2.2.2.2⟩) (fun r U U' V V' h1 hal h2 h => Says01.mv r U U' V V' h1 hal h2 h) ?_
  intro p e s m args below meth c s₁ X0 hexec hbytes hml hret hlk hnm hown hh0 W hP
  obtain ⟨rfl, hx, hy, s1, hz⟩ := hP
  have c1 : Steps p.tables e below (s₁.setTop (entryFrame m #[.ref x, .ref y] 3)) (s₁.setTop (mkF m 2 #[.val (.ref x), .val (.ref y), .unset] [.ref y, .ref x])) := Steps.trans (entry rfl) (by
    show Steps p.tables e below (s₁.setTop (mkF m 0 #[.val (.ref x), .val (.ref y), .unset] [])) _
    refine XS.aloadN X0.here hexec rfl (hb hbytes d0) rfl rfl ?_
    refine XS.aloadN X0.here hexec rfl (hb hbytes d1) rfl rfl ?_
    exact Steps.refl _)
  by_cases hxy : x = y
  · have c2 : Steps p.tables e below (s₁.setTop (entryFrame m #[.ref x, .ref y] 3)) (s₁.setTop (mkF m 6 #[.val (.ref x), .val (.ref y), .unset] [.int 1])) := c1.trans (by
      refine acmpNo X0.here hexec rfl (hb hbytes d2) rfl rfl rfl (by simp [acmp, hxy]) ?_
      refine iconstV X0.here hexec rfl 1 (hb hbytes d5) (by decide) ?_
      exact Steps.refl _)
    subst hxy
    have ec : cd = cd' := by
      obtain ⟨D, fd, a1, a2, a3⟩ := hx.2.2.1
      obtain ⟨D', fd', b1, b2, b3⟩ := hy.2.2.1
      cases a1.symm.trans b1
      obtain ⟨q1, q2, q3, q4⟩ := a2.1
      obtain ⟨r1, r2, r3, r4⟩ := b2.1
      cases q4.symm.trans r4
      cases a3.symm.trans b3; rfl
    have et : t = t' := by
      obtain ⟨D, fd, a1, a2, a3⟩ := hx.2.1
      obtain ⟨D', fd', b1, b2, b3⟩ := hy.2.1
      cases a1.symm.trans b1
      obtain ⟨q1, q2, q3, q4⟩ := a2.1
      obtain ⟨r1, r2, r3, r4⟩ := b2.1
      cases q4.symm.trans r4
      cases a3.symm.trans b3; rfl
    subst ec et
    have ev : V = V' := by cases hx.2.2.2.1.1.symm.trans hy.2.2.2.1.1; rfl
    subst ev
    have hs : SameT n f k g := (Cod.eqv hx.2.2.2.2.1 hy.2.2.2.2.1 hx.2.2.2.2.2 hy.2.2.2.2.2).mp ⟨rfl, fun _ _ => rfl⟩
    exact ⟨s₁, some (.int 1), _, _, _, X0, rfl, rfl, rfl, (fun h => by cases h), ⟨1, rfl, hh0, Or.inl ⟨rfl, hs⟩⟩, fun fs hl => c2.trans (X0.ireturnOut hexec hret rfl (Or.inr (Or.inl rfl)) (hb hbytes d6) hl)⟩
  · have c2 : Steps p.tables e below (s₁.setTop (entryFrame m #[.ref x, .ref y] 3)) (s₁.setTop (mkF m 8 #[.val (.ref x), .val (.ref y), .unset] [.ref y])) := c1.trans (by
      refine acmpYes X0.here hexec rfl (pc0 := 2) rfl (hb hbytes d2) rfl rfl rfl (by simp [acmp, hxy]) (by decide) rfl ?_
      refine XS.aloadN X0.here hexec rfl (hb hbytes d7) rfl rfl ?_
      exact Steps.refl _)
    obtain ⟨T3, X3, q3, st3⟩ := cinst X0 hexec hown (wk W (.classLink "java/lang/String" 10 "java/lang/String")) (hy.mv X0.warmed.alike hh0).1 (g := (mkF m 8 #[.val (.ref x), .val (.ref y), .unset] [.ref y])) rfl (rest := []) rfl (hb hbytes d8)
    have hh3 := q3.trans hh0
    have c4 : Steps p.tables e below (s₁.setTop (entryFrame m #[.ref x, .ref y] 3)) (T3.setTop (mkF m 15 #[.val (.ref x), .val (.ref y), .unset] [.ref y])) := (c2.trans (st3 _ (Steps.refl _))).trans (by
      refine XS.ifNo X3.here hexec rfl (hb hbytes d11) rfl (i0_eq_f (by decide)) ?_
      refine XS.aloadN X3.here hexec rfl (hb hbytes d14) rfl rfl ?_
      exact Steps.refl _)
    obtain ⟨T5, X5, q5, st5⟩ := cself X3 hexec hown (wk W (.classLink "java/lang/String" 10 "java/lang/String")) (hy.mv X3.warmed.alike hh3).1 (g := (mkF m 15 #[.val (.ref x), .val (.ref y), .unset] [.ref y])) rfl (rest := []) rfl (hb hbytes d15)
    have hh5 := q5.trans hh3
    have c6 : Steps p.tables e below (s₁.setTop (entryFrame m #[.ref x, .ref y] 3)) (T5.setTop (mkF m 19 #[.val (.ref x), .val (.ref y), .val (.ref y)] [])) := (c4.trans (st5 _ (Steps.refl _))).trans (by
      refine XS.astoreN X5.here hexec rfl (hb hbytes d18) rfl rfl rfl ?_
      exact Steps.refl _)
    obtain ⟨T7, X7, q7, st7⟩ := X5.sget hexec hown (wk W (.fieldLink "java/lang/String" 38 "java/lang/String" "COMPACT_STRINGS" "Z")) s1 (fun _ _ h => by rw [hh5]; exact h) (g := (mkF m 19 #[.val (.ref x), .val (.ref y), .val (.ref y)] [])) rfl (hb hbytes d19)
    have hh7 := q7.trans hh5
    have c8 : Steps p.tables e below (s₁.setTop (entryFrame m #[.ref x, .ref y] 3)) (T7.setTop (mkF m 26 #[.val (.ref x), .val (.ref y), .val (.ref y)] [.ref x])) := (c6.trans (st7 _ (Steps.refl _))).trans (by
      refine XS.ifNo X7.here hexec rfl (hb hbytes d22) rfl (i0_eq_f hz) ?_
      refine XS.aloadN X7.here hexec rfl (hb hbytes d25) rfl rfl ?_
      exact Steps.refl _)
    obtain ⟨T9, X9, q9, st9⟩ := X7.hget hexec hown (wk W (.fieldLink "java/lang/String" 15 "java/lang/String" "coder" "B")) (hx.mv X7.warmed.alike hh7).2.2.1 (g := (mkF m 26 #[.val (.ref x), .val (.ref y), .val (.ref y)] [.ref x])) rfl (rest := []) rfl (hb hbytes d26)
    have hh9 := q9.trans hh7
    have c10 : Steps p.tables e below (s₁.setTop (entryFrame m #[.ref x, .ref y] 3)) (T9.setTop (mkF m 30 #[.val (.ref x), .val (.ref y), .val (.ref y)] [.ref y, .int cd])) := (c8.trans (st9 _ (Steps.refl _))).trans (by
      refine XS.aloadN X9.here hexec rfl (hb hbytes d29) rfl rfl ?_
      exact Steps.refl _)
    obtain ⟨T11, X11, q11, st11⟩ := X9.hget hexec hown (wk W (.fieldLink "java/lang/String" 15 "java/lang/String" "coder" "B")) (hy.mv X9.warmed.alike hh9).2.2.1 (g := (mkF m 30 #[.val (.ref x), .val (.ref y), .val (.ref y)] [.ref y, .int cd])) rfl (rest := [.int cd]) rfl (hb hbytes d30)
    have hh11 := q11.trans hh9
    have c12 : Steps p.tables e below (s₁.setTop (entryFrame m #[.ref x, .ref y] 3)) (T11.setTop (mkF m 33 #[.val (.ref x), .val (.ref y), .val (.ref y)] [.int cd', .int cd])) := c10.trans (st11 _ (Steps.refl _))
    by_cases hcd : cd = cd'
    · subst hcd
      have c13 : Steps p.tables e below (s₁.setTop (entryFrame m #[.ref x, .ref y] 3)) (T11.setTop (mkF m 37 #[.val (.ref x), .val (.ref y), .val (.ref y)] [.ref x])) := c12.trans (by
        refine XS.icmpNo X11.here hexec rfl (hb hbytes d33) rfl (ii_ne_f rfl) ?_
        refine XS.aloadN X11.here hexec rfl (hb hbytes d36) rfl rfl ?_
        exact Steps.refl _)
      obtain ⟨T14, X14, q14, st14⟩ := X11.hget hexec hown (wk W (.fieldLink "java/lang/String" 9 "java/lang/String" "value" "[B")) (hx.mv X11.warmed.alike hh11).2.1 (g := (mkF m 37 #[.val (.ref x), .val (.ref y), .val (.ref y)] [.ref x])) rfl (rest := []) rfl (hb hbytes d37)
      have hh14 := q14.trans hh11
      have c15 : Steps p.tables e below (s₁.setTop (entryFrame m #[.ref x, .ref y] 3)) (T14.setTop (mkF m 41 #[.val (.ref x), .val (.ref y), .val (.ref y)] [.ref y, .ref t])) := (c13.trans (st14 _ (Steps.refl _))).trans (by
        refine XS.aloadN X14.here hexec rfl (hb hbytes d40) rfl rfl ?_
        exact Steps.refl _)
      obtain ⟨T16, X16, q16, st16⟩ := X14.hget hexec hown (wk W (.fieldLink "java/lang/String" 9 "java/lang/String" "value" "[B")) (hy.mv X14.warmed.alike hh14).2.1 (g := (mkF m 41 #[.val (.ref x), .val (.ref y), .val (.ref y)] [.ref y, .ref t])) rfl (rest := [.ref t]) rfl (hb hbytes d41)
      have hh16 := q16.trans hh14
      have c17 : Steps p.tables e below (s₁.setTop (entryFrame m #[.ref x, .ref y] 3)) (T16.setTop (mkF m 44 #[.val (.ref x), .val (.ref y), .val (.ref y)] [.ref t', .ref t])) := c15.trans (st16 _ (Steps.refl _))
      obtain ⟨v18, T18, X18, E18, g18⟩ := X16.callS hexec (LEq.law l t V t' V') hown (wks W (staticW "java/lang/String" 541 LEq.yN)) (wk W LEq.tab) (W := 0) (Nat.le_of_ble_eq_true rfl) (Nat.le_of_ble_eq_true rfl) (Nat.le_refl _) (Nat.le_refl _) (g := (mkF m 44 #[.val (.ref x), .val (.ref y), .val (.ref y)] [.ref t', .ref t])) rfl (by rw [hml]; rfl) c17 (argsL := [.ref t, .ref t']) (rest := []) rfl rfl (by show 2 * 0 + 0 ≤ _; decide) (hb hbytes d44) (⟨rfl, hx.2.2.2.1.mv X16.warmed.alike hh16, hx.2.2.2.2.1.ty, hy.2.2.2.1.mv X16.warmed.alike hh16, hy.2.2.2.2.1.ty⟩)
      obtain ⟨v, rfl, q18, hv⟩ := E18
      have iff := Cod.eqv hx.2.2.2.2.1 hy.2.2.2.2.1 hx.2.2.2.2.2 hy.2.2.2.2.2
      rcases hv with ⟨rfl, he⟩ | ⟨rfl, he⟩
      · have c19 : Steps p.tables e below (s₁.setTop (entryFrame m #[.ref x, .ref y] 3)) (T18.setTop (mkF m 55 #[.val (.ref x), .val (.ref y), .val (.ref y)] [.int 1])) := Steps.trans g18 (by
          refine XS.ifNo X18.here hexec rfl (hb hbytes d47) rfl (i0_eq_f (by decide)) ?_
          refine iconstV X18.here hexec rfl 1 (hb hbytes d50) (by decide) ?_
          refine XS.goto X18.here hexec rfl (pc0 := 51) rfl (hb hbytes d51) (by decide) rfl ?_
          exact Steps.refl _)
        exact ⟨T18, some (.int 1), _, _, _, X18, rfl, rfl, rfl, (fun h => by cases h), ⟨1, rfl, q18.trans hh16, Or.inl ⟨rfl, iff.mp he⟩⟩, fun fs hl => c19.trans (X18.ireturnOut hexec hret rfl (Or.inr (Or.inl rfl)) (hb hbytes d55) hl)⟩
      · have c19 : Steps p.tables e below (s₁.setTop (entryFrame m #[.ref x, .ref y] 3)) (T18.setTop (mkF m 55 #[.val (.ref x), .val (.ref y), .val (.ref y)] [.int 0])) := Steps.trans g18 (by
          refine XS.ifYes X18.here hexec rfl (pc0 := 47) rfl (hb hbytes d47) rfl (i0_eq_t rfl) (by decide) rfl ?_
          refine iconstV X18.here hexec rfl 0 (hb hbytes d54) (by decide) ?_
          exact Steps.refl _)
        exact ⟨T18, some (.int 0), _, _, _, X18, rfl, rfl, rfl, (fun h => by cases h), ⟨0, rfl, q18.trans hh16, Or.inr ⟨rfl, fun q => he (iff.mpr q)⟩⟩, fun fs hl => c19.trans (X18.ireturnOut hexec hret rfl (Or.inr (Or.inl rfl)) (hb hbytes d55) hl)⟩
    · have c13 : Steps p.tables e below (s₁.setTop (entryFrame m #[.ref x, .ref y] 3)) (T11.setTop (mkF m 55 #[.val (.ref x), .val (.ref y), .val (.ref y)] [.int 0])) := c12.trans (by
        refine XS.icmpYes X11.here hexec rfl (pc0 := 33) rfl (hb hbytes d33) rfl (ii_ne_t hcd) (by decide) rfl ?_
        refine iconstV X11.here hexec rfl 0 (hb hbytes d54) (by decide) ?_
        exact Steps.refl _)
      exact ⟨T11, some (.int 0), _, _, _, X11, rfl, rfl, rfl, (fun h => by cases h), ⟨0, rfl, hh11, Or.inr ⟨rfl, Cod.dif hx.2.2.2.2.1 hy.2.2.2.2.1 hcd⟩⟩, fun fs hl => c13.trans (X11.ireturnOut hexec hret rfl (Or.inr (Or.inl rfl)) (hb hbytes d55) hl)⟩
theorem pays {l : Launch} {R : Room} {p : Program} {e : Env} {below : List Frame} {s : State} {sargs : Array Value} {len W : Nat} (x t : Addr) (V : Cell) (cd : Int32) (n : Nat) (f : Nat → Int32) (y t' : Addr) (V' : Cell) (cd' : Int32) (k : Nat) (g : Nat → Int32) (z : Int32) (htab : tab.before sargs s = true) (hfr : 2 ≤ R.frames) (hlo : W + 28 ≤ R.locals) :
    Back l R p e below s sargs yN len W (fun A₁ a₁ => A₁.cells + 0 ≤ R.cells ∧ A₁.slots + 0 ≤ R.slots ∧ P x t V cd n f y t' V' cd' k g z a₁ A₁.U) (fun A₁ _ v₁ B₁ => Says01 (SameT n f k g) v₁ A₁.U B₁.U ∧ B₁.locs = A₁.locs ++ [] ∧ B₁.cells = A₁.cells + 0 ∧ B₁.slots = A₁.slots + 0) :=
  (law l x t V cd n f y t' V' cd' k g z).pays htab hfr (by omega)
end SEq
end StrChars
namespace StrChars.Road
open Jvm Sem ClassFile Op Lib Jvm.Stand Jvm.Free Jvm.Free.XT
open Jvm.Lib.Cold (StaticIs)
/-- the words of String.equals(Object) -/
abbrev wordsEq : List Jvm.Cond := [.code SEq.yN SEq.yB 3 (some .boolean), .initialized ST, .classLink ST 10 ST, .fieldLink ST 38 ST "COMPACT_STRINGS" "Z", .fieldLink ST 15 ST "coder" "B", .fieldLink ST 9 ST "value" "[B", .methodLink ST 541 LEq.yN, .static LEq.yN, .code LEq.yN LEq.yB 3 (some .boolean), .initialized "java/lang/StringLatin1"]
theorem tabEq_of {a : Array Value} {s : State} (h : ∀ w ∈ wordsEq, w.before a s = true) : SEq.tab.before a s = true := by
  have hl : LEq.tab.before a s = true := unparts (wk h (.code LEq.yN LEq.yB 3 (some .boolean))) (wks h (.initialized LEq.yN.cls :: LEq.site))
  have q := consq hl h
  exact unparts (wk q (.code SEq.yN SEq.yB 3 (some .boolean))) (wks q (.initialized SEq.yN.cls :: SEq.site))
theorem movedEq {Z s : State} {a0 args : Array Value} (hZ : Z.Warmed39 s.vm) (hw : ∀ d ∈ wordsEq, d.before a0 Z = true) : ∀ d ∈ wordsEq, d.before args s = true := fun d hd => by
  have t : ∀ d ∈ wordsEq, (d.onTables && d.keepsFace) = true := by decide +kernel
  exact RoadKit.mv hZ (hw d hd) (t d hd)
/-- the road's facts of a String, as the laws ask it -/
theorem txt_of {Z U : State} {a0 : Array Value} {kI : Nat} (wi : (Jvm.Cond.instantiable ST kI).before a0 Z = true) (al : Z.vm.Alike U.vm) {x t : Addr} {kb : ClassId} {cs : List Int32} {cd N2 : Int32} {vs : List Value} (E : RoadKit.Exa Z U.heap x ST) (V : RoadKit.Fld Z U.heap x ST "value" "[B" (.ref t)) (C : RoadKit.Fld Z U.heap x ST "coder" "B" (.int cd)) (K : RoadKit.Arv Z U.heap t kb .byte N2 vs (.int 0)) (hc : CodA cs cd N2 vs) (hb : ∀ c ∈ cs, ¬ c < 0 ∧ ¬ (65535 : Int32) < c) (l2 : cs.length ≤ 4000) :
    ∃ A, Txt x t A cd cs.length (fun j => cs.getD j 0) U := by
  obtain ⟨A, K1, K2, K3, K4, K5, K6⟩ := K
  have hcod := hc.cod (by omega) K3 K5
  obtain ⟨D, fV, fC, hB, F1, F2, g1, g2, -, -⟩ := strObj wi al E V C
  exact ⟨A, ⟨_, hB.2.2.1, D, hB.1, rfl, by cases q : D.vm <;> first | rfl | exact absurd q (hB.2.1.2 _)⟩, Has.of hB F1 g1, Has.of hB F2 g2, ⟨K1.1, State.isArrayOf_alike al K1.2.1, K1.2.2, by rcases hcod with ⟨-, q, -⟩ | ⟨-, q, -⟩ <;> omega⟩, hcod, fun j hj => by
    have e : cs.getD j 0 = cs[j] := by simp [List.getD_eq_getElem?_getD, hj]
    show ¬ cs.getD j 0 < 0 ∧ ¬ 65535 < cs.getD j 0
    rw [e]; exact hb _ (List.getElem_mem _)⟩
theorem same_list (cs ds : List Int32) : SameT cs.length (fun j => cs.getD j 0) ds.length (fun j => ds.getD j 0) ↔ cs = ds := by
  constructor
  · rintro ⟨e, q⟩
    refine List.ext_getElem e fun j h1 h2 => ?_
    have := q j h1
    simpa [List.getD_eq_getElem?_getD, h1, h2] using this
  · rintro rfl
    exact ⟨rfl, fun _ _ => rfl⟩
/-- **equals(Object) OF TWO SUCH STRINGS**: 1 just where the chars are the same -/
theorem eqW {p : Program} {l : Launch} {e : Env} {R : Room} {s : State} {args : Array Value} {below : List Frame} {len W : Nat} {Z : State} {a0 : Array Value} {h : Heap} (hZ : Z.Warmed39 s.vm) (hw : ∀ d ∈ wordsEq, d.before a0 Z = true) {kI : Nat} (wi : (Jvm.Cond.instantiable ST kI).before a0 Z = true)
    {x t : Addr} {kb : ClassId} {cs : List Int32} {cd N2 : Int32} {vs : List Value} (E : RoadKit.Exa Z h x ST) (V : RoadKit.Fld Z h x ST "value" "[B" (.ref t)) (C : RoadKit.Fld Z h x ST "coder" "B" (.int cd)) (K : RoadKit.Arv Z h t kb .byte N2 vs (.int 0)) (hc : CodA cs cd N2 vs) (hb : ∀ c ∈ cs, ¬ c < 0 ∧ ¬ (65535 : Int32) < c) (l2 : cs.length ≤ 4000)
    {y t' : Addr} {kb' : ClassId} {ds : List Int32} {cd' N2' : Int32} {vs' : List Value} (E' : RoadKit.Exa Z h y ST) (V' : RoadKit.Fld Z h y ST "value" "[B" (.ref t')) (C' : RoadKit.Fld Z h y ST "coder" "B" (.int cd')) (K' : RoadKit.Arv Z h t' kb' .byte N2' vs' (.int 0)) (hc' : CodA ds cd' N2' vs') (hb' : ∀ c ∈ ds, ¬ c < 0 ∧ ¬ (65535 : Int32) < c) (l2' : ds.length ≤ 4000)
    {z : Int32} (S : RoadKit.Sta Z h ST "COMPACT_STRINGS" "Z" (.int z)) (hz : ¬ z = 0) (hfr : 2 ≤ R.frames) (hlo : W + 28 ≤ R.locals) :
    Back l R p e below s args (⟨"java/lang/String", "equals", "(Ljava/lang/Object;)Z"⟩ : MethodName) len W (fun P a => a = #[.ref x, .ref y] ∧ P.U.heap = h ∧ P.cells + 0 ≤ R.cells ∧ P.slots + 0 ≤ R.slots)
      (fun P _ v B => ∃ L, (((v = some (.int 1) ∧ cs = ds) ∨ (v = some (.int 0) ∧ ¬ cs = ds)) ∧ L = [] ∧ B.U.heap = h) ∧ B.locs = P.locs ++ L ∧ B.cells = P.cells + 0 ∧ B.slots = P.slots + 0) := by
  intro m meth c P g ig mk a X hg hsize hdg hW hn hp'
  obtain ⟨rfl, rfl, r1, r2⟩ := hp'
  have al : Z.vm.Alike P.U.vm := hZ.alike.trans X.warmed.alike
  obtain ⟨A, hx⟩ := txt_of wi al E V C K hc hb l2
  obtain ⟨A', hy⟩ := txt_of wi al E' V' C' K' hc' hb' l2'
  obtain ⟨v, B, X', ⟨⟨w, hv, hh, hq⟩, hl, hk, hs⟩, st⟩ := SEq.pays x t A cd cs.length (fun j => cs.getD j 0) y t' A' cd' ds.length (fun j => ds.getD j 0) z (tabEq_of (movedEq hZ hw)) hfr hlo m meth c P g ig mk _ X hg hsize hdg hW hn ⟨r1, r2, rfl, hx, hy, sta_is al S, hz⟩
  refine ⟨v, B, X', ⟨[], ⟨?_, rfl, hh⟩, hl, hk, hs⟩, st⟩
  rcases hq with ⟨rfl, q⟩ | ⟨rfl, q⟩
  · exact Or.inl ⟨hv, (same_list cs ds).mp q⟩
  · exact Or.inr ⟨hv, fun e => q ((same_list cs ds).mpr e)⟩
end StrChars.Road
namespace StrChars.Road
open Jvm Sem ClassFile Op Lib Jvm.Stand Jvm.Free Jvm.Free.XT
open Jvm.Lib.Cold (StaticIs)
/-- what backV says of its String, as the contracts of this text ask it: cs's low bytes, coder 0 -/
theorem codOf {cs : List Int32} {n : Nat} (hn : cs.length = n) (hb : ∀ c ∈ cs, ¬ 255 < c) : CodA cs 0 (Int32.ofNat n) ((cs.map lo8).map Value.int) := Or.inl ⟨rfl, by rw [hn], by simp [List.map_map, Function.comp_def], hb⟩
end StrChars.Road
end Jvm.Pilot.@@N@@

namespace Jvm.Pilot.@@N@@
open Jvm Jvm.ClassFile Sem Op Lib Jvm.Free Jvm.Stand Jvm.LawKit Jvm.RoadKit Bundle Jvm.Pilot.@@N@@.Jvm.D


theorem own_int {s : State} {args : Array Value} {t : Term} {k : Int32} (h : (Cond.eq t (.int k)).value args s none s [] = some true) : t.eval args s none [] s = some (.int k) := by
  obtain ⟨x, y, h1, h2, k1, k2⟩ := cmp_v (Or.inl h)
  have e2 : (Term.int k).eval args s none [] s = some (.int k) := Term.int_eval k
  obtain rfl := Option.some.inj (e2.symm.trans h2)
  obtain ⟨z, rfl⟩ := k2
  have hq : (Cond.eq t (.int k)).value args s none s [] = some (decide (z = k)) := by simp [Cond.value, h1, e2]
  rw [h1, gotT hq h]
theorem own_fldI {s : State} {args : Array Value} {t : Term} {a : Addr} {C n d : String} {k : Int32} (ht : t.eval args s none [] s = some (.ref a)) (h : (Cond.eq (.field t C n d) (.int k)).value args s none s [] = some true) : Fld s s.heap a C n d (.int k) :=
  Fld.start ((fld_at ht).symm.trans (own_int h))
theorem own_fldR {s : State} {args : Array Value} {t u : Term} {a b : Addr} {C n d : String} (ht : t.eval args s none [] s = some (.ref a)) (hu : u.eval args s none [] s = some (.ref b)) (h : (Cond.eq (.field t C n d) u).value args s none s [] = some true) : Fld s s.heap a C n d (.ref b) := by
  obtain ⟨x, y, h1, h2, k1, k2⟩ := cmp_v (Or.inl h)
  obtain rfl := Option.some.inj (hu.symm.trans h2)
  have hx : x.isRef = true := k2.2
  have e := gotT (eq_R h1 hu hx rfl) h
  subst e
  exact Fld.start ((fld_at ht).symm.trans h1)

theorem own_wS {a0 : Array Value} {Z : State} (hw : ∀ d ∈ tables_1, d.before a0 Z = true) : ∀ d ∈ Bundle.stringAtoms, d.before a0 Z = true := fun d hd => by
  simp only [Bundle.stringAtoms, List.mem_cons, List.not_mem_nil, or_false] at hd
  rcases hd with rfl | rfl | rfl | rfl | rfl | rfl | rfl
  · exact hw _ (List.mem_of_getElem? (i := 20) rfl)
  · exact hw _ (List.mem_of_getElem? (i := 19) rfl)
  · exact hw _ (List.mem_of_getElem? (i := 36) rfl)
  · exact hw _ (List.mem_of_getElem? (i := 46) rfl)
  · exact hw _ (List.mem_of_getElem? (i := 44) rfl)
  · exact hw _ (List.mem_of_getElem? (i := 48) rfl)
  · exact hw _ (List.mem_of_getElem? (i := 49) rfl)


theorem own_frnil {n0 : Nat} {L : List Loc} (h : L = []) : Fr n0 L := h ▸ Fr.nil n0
def own_str (Z : State) (h : Heap) (x : Addr) (cs : List Int32) : Prop := Exa Z h x "java/lang/String" ∧ Fld Z h x "java/lang/String" "coder" "B" (.int 0) ∧ (∀ c ∈ cs, ¬ c < 0 ∧ ¬ (255 : Int32) < c) ∧ ∃ (t : Addr) (kb : ClassId), Fld Z h x "java/lang/String" "value" "[B" (.ref t) ∧ Arv Z h t kb .byte (Int32.ofNat cs.length) ((cs.map StrChars.lo8).map Value.int) (.int 0)
theorem own_sext {Z : State} {h h' : Heap} {x : Addr} {cs : List Int32} (F : own_str Z h x cs) (E : Ext h h') : own_str Z h' x cs := by
  obtain ⟨a, b, c, t, kb, d, e⟩ := F
  exact ⟨a.ext E, b.ext E, c, t, kb, d.ext E, e.ext E⟩
theorem own_skeep {Z : State} {h h' : Heap} {x : Addr} {cs : List Int32} (F : own_str Z h x cs) (K : Keep h h' []) : own_str Z h' x cs := by
  obtain ⟨a, b, c, t, kb, d, e⟩ := F
  exact ⟨a.keep K, b.keep K nin0, c, t, kb, d.keep K nin0, e.keep K nin0⟩
theorem own_up {cs : List Int32} (h : ∀ c ∈ cs, ¬ c < 0 ∧ ¬ (255 : Int32) < c) : ∀ c ∈ cs, ¬ c < 0 ∧ ¬ (65535 : Int32) < c := fun c hc => ⟨(h c hc).1, fun q => (h c hc).2 (by rw [Int32.lt_iff_toInt_lt] at q ⊢; have e1 : (65535 : Int32).toInt = 65535 := rfl; have e2 : (255 : Int32).toInt = 255 := rfl; omega)⟩
theorem own_mem {cs : List Int32} {i : Nat} (h : i < cs.length) : cs.getD i 0 ∈ cs := by
  rw [List.getD_eq_getElem?_getD, List.getElem?_eq_getElem h]
  exact List.getElem_mem h


theorem own_hasl {cl : Cell} : ∀ (cs : List Int32) (i : Nat), (∀ j, j < cs.length → cl.slots[i + j]? = some (.int (StrChars.lo8 (cs.getD j 0)))) → HasL cl i ((cs.map StrChars.lo8).map Value.int)
  | [], _, _ => trivial
  | c :: cs, i, h => ⟨by simpa using h 0 (by simp), own_hasl cs (i + 1) fun j hj => by
      have q := h (j + 1) (by simpa using hj)
      rw [Nat.add_assoc, Nat.add_comm 1 j]
      simpa using q⟩
theorem own_len {s : State} {args : Array Value} {t : Term} {b : Addr} {k : Int32} {cl : Cell} {ty : FieldType} (hb : t.eval args s none [] s = some (.ref b)) (A : Arr s s.heap b cl ty) (h : (Cond.eq (.length t) (.int k)).value args s none s [] = some true) : cl.slots.size < 2 ^ 31 ∧ cl.slots.size.toInt32 = k := by
  have hL := own_int h
  have hA : s.arrayAt? b = some cl := Arr.fin (Vm.Alike.refl _) A
  by_cases q : cl.slots.size < 2 ^ 31
  · refine ⟨q, ?_⟩
    rw [len_f hb hA q] at hL
    exact Value.int.inj (Option.some.inj hL)
  · simp [Term.eval, hb, hA, q] at hL
/-- a String of the case, read at the start -/
theorem own_strstart {s : State} {args : Array Value} {t : Term} {x : Addr} {cs : List Int32} (hf : Fit s) (ht : t.eval args s none [] s = some (.ref x)) (hx : (Cond.exactly t "java/lang/String").value args s none s [] = some true) (hc : (Cond.eq (.field t "java/lang/String" "coder" "B") (.int 0)).value args s none s [] = some true)
    (ha : (Cond.arrayOf (.field t "java/lang/String" "value" "[B") .byte).value args s none s [] = some true) (hl : (Cond.eq (.length (.field t "java/lang/String" "value" "[B")) (.int (Int32.ofNat cs.length))).value args s none s [] = some true) (hr : ∀ c ∈ cs, ¬ c < 0 ∧ ¬ (255 : Int32) < c) (hn : cs.length < 2 ^ 31)
    (he : ∀ i, i < cs.length → (Cond.eq (.elem (.field t "java/lang/String" "value" "[B") (.int (Int32.ofNat i))) (.int (StrChars.lo8 (cs.getD i 0)))).value args s none s [] = some true) : own_str s s.heap x cs := by
  obtain ⟨b, hb⟩ := arr_v ha
  have F := Fld.start ((fld_at ht).symm.trans hb)
  obtain ⟨cl, A⟩ := Arr.start hb ha
  obtain ⟨q1, q2⟩ := own_len hb A hl
  have e1 : (Int32.ofNat cs.length).toNatClampNeg = cs.length := clamp_of rfl hn
  refine ⟨Exa.start ht hx, own_fldI ht hc, hr, b, cl.cls, F, Arv.start hf A q1 q2 ?_ (by rw [e1]; simp) (own_hasl cs 0 fun j hj => ?_)⟩
  · rw [Int32.lt_iff_toInt_lt, Int32.toInt_ofNat_of_lt hn]
    have e0 : (0 : Int32).toInt = 0 := rfl
    omega
  · have q := (elem_in (own_int (he j hj)) hb (Term.int_eval (Int32.ofNat j)) A.1).2
    have e2 : (Int32.ofNat j).toNatClampNeg = j := clamp_of rfl (by omega)
    rw [e2] at q
    rw [Nat.zero_add]
    exact q


theorem own_nz {s : State} {args : Array Value} {t : Term} {z : Int32} (ht : t.eval args s none [] s = some (.int z)) (h : (Cond.not (Cond.eq t (.int 0))).value args s none s [] = some true) : ¬ z = 0 := by
  have e2 : (Term.int 0).eval args s none [] s = some (.int 0) := Term.int_eval 0
  have hq : (Cond.eq t (.int 0)).value args s none s [] = some (decide (z = 0)) := by simp [Cond.value, ht, e2]
  exact gotF hq (not_v h)


/-- a String whose array isn't there yet is none that the tables book -/
theorem own_safe {Z : State} {EL : List (String × Nat)} {vm : Vm} {h : Heap} {x : Addr} (hal : Z.vm.Alike vm) (E : Exa Z h x "java/lang/String") (Fv : Fld Z h x "java/lang/String" "value" "[B" .null) : Safe Z EL vm h x := fun B => by
  obtain ⟨cell, cf, k, i, f, h1, h2, h3, h4, h5, h6, h7⟩ := Fv
  obtain ⟨cell', k', g1, g2, g3, -, -⟩ := E
  cases h1.symm.trans g1
  have nm : ∀ {n : String} {c : ClassId}, vm.findClass n = some c → c = cell.cls → n = "java/lang/String" := fun {n c} f e => by
    subst e
    rw [hal.findClass] at f
    obtain ⟨k1, q1, q2⟩ := Vm.findClass_spec f
    obtain ⟨k2, q3, q4⟩ := Vm.findClass_spec g2
    cases q1.symm.trans q3
    exact q2.symm.trans q4
  obtain ⟨p, -, u, a, -, q, -, F, rfl | rfl⟩ := B
  · cases (show h[q.sa]? = some q.sC from F.ha).symm.trans h1
    obtain ⟨cS, ⟨⟨-, -, -, ⟨c1, k1, i1, f1, -⟩, -, -, -, v1, -⟩, -⟩, -⟩ := F
    obtain ⟨k3, e3, -⟩ := State.fieldFound?_setVm (s := { Z with heap := h }) hal (show ({ Z with heap := h } : State).fieldFound? "java/lang/String" "value" "[B" = some (cf, k, i, f) from h2)
    have e4 := (show (Wst Z vm h).fieldFound? _ _ _ = _ from e3).symm.trans f1
    simp only [Option.some.injEq, Prod.mk.injEq] at e4
    rw [← e4.2.2.2, h7] at v1
    cases v1
  · cases (show h[q.sd]? = some q.SA from F.hd).symm.trans h1
    obtain ⟨cS, -, -, f, -⟩ := F
    exact absurd (nm f rfl) (by decide)

theorem own_wmk {a0 : Array Value} {Z : State} (hw : ∀ d ∈ tables_1, d.before a0 Z = true) : ∀ d ∈ StrChars.Road.words, d.before a0 Z = true := fun d hd => hw d ((by decide +kernel : ∀ d ∈ StrChars.Road.words, d ∈ tables_1) d hd)
theorem own_weq {a0 : Array Value} {Z : State} (hw : ∀ d ∈ tables_1, d.before a0 Z = true) : ∀ d ∈ StrChars.Road.wordsEq, d.before a0 Z = true := fun d hd => hw d ((by decide +kernel : ∀ d ∈ StrChars.Road.wordsEq, d ∈ tables_1) d hd)

def own_ov : List Int32 := ([111, 118, 101, 114, 108, 111, 97, 100, 101, 100] : List Int32)
def own_on : List Int32 := ([111, 118, 101, 114, 108, 111, 97, 100, 101, 100, 45, 110, 111, 45, 114, 101, 116, 114, 121] : List Int32)
def own_rj (p : Int32) (cs : List Int32) (o n : Addr) : Value := if p = 503 then (if cs = own_ov then .ref o else if cs = own_on then .ref n else .null) else .null
theorem own_rjr (p : Int32) (cs : List Int32) (o n : Addr) : (own_rj p cs o n).isRef = true := by
  unfold own_rj
  repeat' split
  all_goals rfl
theorem own_cat {x : Value} (h : x.isRef = true) : x.category = 1 := by
  rcases ref_cases h with rfl | ⟨_, rfl⟩ <;> rfl
def own_hdr (Z : State) (h : Heap) (x : Value) : Prop := x = .null ∨ ∃ (a : Addr) (cs : List Int32), x = .ref a ∧ own_str Z h a cs ∧ cs.length ≤ 19
theorem own_chr {x : Int32} (h : ¬ x < 0 ∧ ¬ (255 : Int32) < x) : ¬ nar .char x < 0 ∧ ¬ (255 : Int32) < nar .char x := by
  have q := c_i2c x
  have e1 : (255 : Int32).toInt = 255 := rfl
  have e0 : (0 : Int32).toInt = 0 := rfl
  have e : nar .char x = x := by
    rw [Int32.lt_iff_toInt_lt, Int32.lt_iff_toInt_lt, e0, e1] at h
    exact Int32.toInt_inj.mp (show x.toUInt32.toUInt16.toUInt32.toInt32.toInt = x.toInt by omega)
  rw [e]; exact h
theorem own_ff (x : Int32) : ¬ ((x &&& (255 : Int32)).toUInt32.toUInt16.toUInt32.toInt32) < 0 ∧ ¬ (255 : Int32) < ((x &&& (255 : Int32)).toUInt32.toUInt16.toUInt32.toInt32) := by
  have h := c_and x 255 (by decide)
  have q := c_i2c (x &&& 255)
  have e1 : (255 : Int32).toInt = 255 := rfl
  have e0 : (0 : Int32).toInt = 0 := rfl
  rw [Int32.lt_iff_toInt_lt, Int32.lt_iff_toInt_lt, e0, e1]
  omega
theorem own_ix (x : Int32) (k : Int32) (n : Nat) (hk : k.toInt = n) (h0 : 0 < n) (hn : n < 1000) : (¬ ((x &&& (2147483647 : Int32)) % k) < 0 ∧ ((x &&& (2147483647 : Int32)) % k) < k) ∧ ((x &&& (2147483647 : Int32)) % k).toNatClampNeg < n := by
  have h1 := c_and x 2147483647 (by decide)
  have h2 := (c_iremV (x &&& (2147483647 : Int32)) k).1 h1.1 (by omega)
  generalize (x &&& (2147483647 : Int32)) % k = i at h2
  have e0 : (0 : Int32).toInt = 0 := rfl
  rw [Int32.lt_iff_toInt_lt, Int32.lt_iff_toInt_lt, e0]
  refine ⟨⟨by omega, by omega⟩, ?_⟩
  have e : i = Int32.ofNat i.toInt.toNat := Int32.toInt_inj.mp (by rw [Int32.toInt_ofNat_of_lt (by omega)]; omega)
  rw [clamp_of e (by omega)]
  omega
theorem own_inset {l : List Int32} {i : Nat} {x : Int32} (hl : ∀ c ∈ l, ¬ c < 0 ∧ ¬ (255 : Int32) < c) (hx : ¬ x < 0 ∧ ¬ (255 : Int32) < x) : ∀ c ∈ l.set i x, ¬ c < 0 ∧ ¬ (255 : Int32) < c := fun c hc => by
  rcases List.mem_or_eq_of_mem_set hc with h | rfl
  · exact hl c h
  · exact hx
theorem own_two {l : List Int32} {c : Int32} (h : ¬ c < 0 ∧ ¬ (255 : Int32) < c) (hl : ∀ c ∈ l, ¬ c < 0 ∧ ¬ (255 : Int32) < c) : ∀ x ∈ c :: l, ¬ x < 0 ∧ ¬ (255 : Int32) < x := fun x hx => by
  rcases List.mem_cons.mp hx with rfl | q
  · exact h
  · exact hl x q
theorem own_rj0 {p : Int32} (cs : List Int32) (o n : Addr) (h : ¬ (503 : Int32) = p) : .null = own_rj p cs o n := (if_neg fun q => h q.symm).symm
theorem own_rjO {p : Int32} {cs : List Int32} (o n : Addr) (h : (503 : Int32) = p) (h1 : own_ov = cs) : .ref o = own_rj p cs o n := ((if_pos h.symm).trans (if_pos h1.symm)).symm
theorem own_rjN {p : Int32} {cs : List Int32} (o n : Addr) (h : (503 : Int32) = p) (h1 : ¬ own_ov = cs) (h2 : own_on = cs) : .ref n = own_rj p cs o n := ((if_pos h.symm).trans ((if_neg fun q => h1 q.symm).trans (if_pos h2.symm))).symm
theorem own_rjX {p : Int32} {cs : List Int32} (o n : Addr) (h : (503 : Int32) = p) (h1 : ¬ own_ov = cs) (h2 : ¬ own_on = cs) : .null = own_rj p cs o n := ((if_pos h.symm).trans ((if_neg fun q => h1 q.symm).trans (if_neg fun q => h2 q.symm))).symm
theorem own_nil : ∀ x ∈ ([] : List Int32), ¬ x < 0 ∧ ¬ (255 : Int32) < x := fun x hx => by cases hx

theorem d5_0 : decode jdk_42_method_149_code 0 = .ok (.aload_n 0, 1) := by decide +kernel
theorem d5_1 : decode jdk_42_method_149_code 1 = .ok (.invokespecial 1, 3) := by decide +kernel
theorem d5_4 : decode jdk_42_method_149_code 4 = .ok (.iload_n 3, 1) := by decide +kernel
theorem d5_5 : decode jdk_42_method_149_code 5 = .ok (.ifCond .ne 22, 3) := by decide +kernel
theorem d5_8 : decode jdk_42_method_149_code 8 = .ok (.aload_n 0, 1) := by decide +kernel
theorem d5_9 : decode jdk_42_method_149_code 9 = .ok (.ldc 7, 2) := by decide +kernel
theorem d5_11 : decode jdk_42_method_149_code 11 = .ok (.getfield 9, 3) := by decide +kernel
theorem d5_14 : decode jdk_42_method_149_code 14 = .ok (.putfield 9, 3) := by decide +kernel
theorem d5_17 : decode jdk_42_method_149_code 17 = .ok (.aload_n 0, 1) := by decide +kernel
theorem d5_18 : decode jdk_42_method_149_code 18 = .ok (.ldc 7, 2) := by decide +kernel
theorem d5_20 : decode jdk_42_method_149_code 20 = .ok (.getfield 15, 3) := by decide +kernel
theorem d5_23 : decode jdk_42_method_149_code 23 = .ok (.putfield 15, 3) := by decide +kernel
theorem d5_26 : decode jdk_42_method_149_code 26 = .ok (.return_, 1) := by decide +kernel
theorem pn_5 : plainName "java/lang/String" = true := by first | (simp [plainName, overriddenIn]; done) | decide +kernel
theorem ef_si4 (m : MethodId) (x0 : Addr) (x1 : Addr) (x2 : Int32) (x3 : Int32) : entryFrame m #[(.ref x0), (.ref x1), (.int x2), (.int x3), .null] 6 = mkF m 0 #[.val (.ref x0), .val (.ref x1), .val (.int x2), .val (.int x3), .val .null, .unset] [] := by (first | (simp [entryFrame, mkF, argsToLocals, Value.category]; done) | rfl)
def Q_si4 (Z : State) (a1 : Addr) (b1 : Addr) (h0 : Heap) (n0 : Nat) (v : Option Value) (h : Heap) (L : List Loc) : Prop := v = none ∧ Fr n0 L ∧ Keep h0 h [a1] ∧ own_str Z h a1 []
set_option maxRecDepth 65536 in
set_option maxHeartbeats 40000000 in
theorem rm_si4 (l : Launch) (Z : State) (a0 : Array Value) (hw : ∀ d ∈ tables_1, d.before a0 Z = true) (ws : List Jvm.Cond) (a1 : Addr) (b1 : Addr) (h0 : Heap) (n0 : Nat) (Z0 : n0 ≤ h0.size) (hEL : EW Z a0 consts_1) (Fv : Fld Z h0 a1 "java/lang/String" "value" "[B" .null) (Fc : Fld Z h0 a1 "java/lang/String" "coder" "B" (.int (0 : Int32))) (E1 : Exa Z h0 a1 "java/lang/String") (g1 : n0 ≤ a1) :
    MetFree l (⟨"java/lang/String", "<init>", "([CIILjava/lang/Void;)V"⟩ : MethodName) (head1 (Jvm.Cond.code (⟨"java/lang/String", "<init>", "([CIILjava/lang/Void;)V"⟩ : MethodName) jdk_42_method_149_code 6 none :: ws) ({ frames := 1, cells := 2, slots := 4, locals := 12 } : Room)) (fun a U => a = #[(.ref a1), (.ref b1), (.int (0 : Int32)), (.int (0 : Int32)), .null] ∧ Z.Warmed39 U.vm ∧ U.heap = h0 ∧ CHv Z consts_1 U.vm h0) (fun _ _ _ _ _ => True) (fun _ U o U' => ∃ v L, o = .returned v ∧ Q_si4 Z a1 b1 h0 n0 v U'.heap L ∧ CHr Z consts_1 U.vm U.heap U'.vm U'.heap ∧ ReturnedEndW U o U' L ({ frames := 1, cells := 2, slots := 4, locals := 12 } : Room).cells ({ frames := 1, cells := 2, slots := 4, locals := 12 } : Room).slots) := by
  refine MetFree.of_bodySF (plainFor_of_name pn_5) hisR ?_
  intro p e s m args below meth c s₁ Bd hml0 hP hK
  obtain ⟨rfl, hZ, hh, hCH0⟩ := hP
  have hx := Bd.exec
  have hby := Bd.bytes
  have hml : c.maxLocals = 6 := hml0
  have hown : s.vm.findClass "java/lang/String" = some m.cls := findClass_of_methodNamed Bd.named
  have hnm := (name_of_methodNamed Bd.named Bd.method).1
  have X0 : Stand p l e ({ frames := 1, cells := 2, slots := 4, locals := 12 } : Room) s m #[(.ref a1), (.ref b1), (.int (0 : Int32)), (.int (0 : Int32)), .null] below meth c s₁ [] 0 0 := Stand.of_body Bd
  have e0 : s₁.heap = h0 := by rw [← hh, Bd.state]; rfl
  have N0 := Fr.nil n0
  have c0 : Goes p e below s₁ (entryFrame m #[(.ref a1), (.ref b1), (.int (0 : Int32)), (.int (0 : Int32)), .null] 6) s₁ (mkF m 0 #[.val (.ref a1), .val (.ref b1), .val (.int (0 : Int32)), .val (.int (0 : Int32)), .val .null, .unset] []) := fun t k => castTop (ef_si4 m a1 b1 (0 : Int32) (0 : Int32)) k
  have XW0 : Stand p l e ({ frames := 1, cells := 2, slots := 4, locals := 12 } : Room) (s.setVm s.vm) m #[(.ref a1), (.ref b1), (.int (0 : Int32)), (.int (0 : Int32)), .null] below meth c s₁ [] 0 0 := X0
  have SW0 : s.Since s.vm 0 := (State.WarmedH.refl s).since 0
  have c1 : Goes p e below s₁ (entryFrame m #[(.ref a1), (.ref b1), (.int (0 : Int32)), (.int (0 : Int32)), .null] 6) s₁ (mkF m 1 #[.val (.ref a1), .val (.ref b1), .val (.int (0 : Int32)), .val (.int (0 : Int32)), .val .null, .unset] [(.ref a1)]) := by
    intro t kk
    refine c0 t ?_
    show Steps p.tables e below (s₁.setTop (mkF m 0 #[.val (.ref a1), .val (.ref b1), .val (.int (0 : Int32)), .val (.int (0 : Int32)), .val .null, .unset] [])) t
    refine XS.aloadN XW0.here hx rfl (hb hby d5_0) rfl rfl ?_
    exact kk
  obtain ⟨T2, X2, e2, st2⟩ := initO XW0 hx hZ hown (hw _ (List.mem_of_getElem? (i := 28) rfl)) (hw _ (List.mem_of_getElem? (i := 29) rfl)) (hw _ (List.mem_of_getElem? (i := 30) rfl)) e0 (g := (mkF m 1 #[.val (.ref a1), .val (.ref b1), .val (.int (0 : Int32)), .val (.int (0 : Int32)), .val .null, .unset] [(.ref a1)])) rfl (by rw [hml]; rfl) rfl (hb hby d5_1) (by decide) (W := 0) (by show 2 * 0 + _ ≤ _; exact Nat.le_of_eq rfl) (by decide)
  have c3 : Goes p e below s₁ (entryFrame m #[(.ref a1), (.ref b1), (.int (0 : Int32)), (.int (0 : Int32)), .null] 6) T2 (mkF m 4 #[.val (.ref a1), .val (.ref b1), .val (.int (0 : Int32)), .val (.int (0 : Int32)), .val .null, .unset] []) := fun t kk => c1 t (st2 t kk)
  have c4 : Goes p e below s₁ (entryFrame m #[(.ref a1), (.ref b1), (.int (0 : Int32)), (.int (0 : Int32)), .null] 6) T2 (mkF m 9 #[.val (.ref a1), .val (.ref b1), .val (.int (0 : Int32)), .val (.int (0 : Int32)), .val .null, .unset] [(.ref a1)]) := by
    intro t kk
    refine c3 t ?_
    show Steps p.tables e below (T2.setTop (mkF m 4 #[.val (.ref a1), .val (.ref b1), .val (.int (0 : Int32)), .val (.int (0 : Int32)), .val .null, .unset] [])) t
    refine XS.iloadN X2.here hx rfl (hb hby d5_4) rfl ?_
    show Steps p.tables e below (T2.setTop (mkF m 5 #[.val (.ref a1), .val (.ref b1), .val (.int (0 : Int32)), .val (.int (0 : Int32)), .val .null, .unset] [(.int (0 : Int32))])) t
    refine XS.ifNo X2.here hx rfl (hb hby d5_5) rfl ((if0 _ _).trans (teq (rfl : (0 : Int32) = (0 : Int32))).2) ?_
    show Steps p.tables e below (T2.setTop (mkF m 8 #[.val (.ref a1), .val (.ref b1), .val (.int (0 : Int32)), .val (.int (0 : Int32)), .val .null, .unset] [])) t
    refine XS.aloadN X2.here hx rfl (hb hby d5_8) rfl rfl ?_
    exact kk
  obtain ⟨a5, T5, h5, kk5, sb5, sk5, X5, e5, E5, S5, hk5, hZ5, ho5, sE5, sC5, sV5, sA5, -, -, hCr5, hLit5, -, st5⟩ := ldcCH X2 hx hZ hown (hw _ (List.mem_of_getElem? (i := 64) rfl)) (own_wS hw) e2 SW0 (Nat.zero_le _) hEL (List.mem_of_getElem? (i := 2) rfl) hCH0 (vs := ((([] : List Int32)).map StrChars.lo8).map Value.int) (z := Int32.ofNat (([] : List Int32)).length) (by decide +kernel) (by decide) (by decide) (g := (mkF m 9 #[.val (.ref a1), .val (.ref b1), .val (.int (0 : Int32)), .val (.int (0 : Int32)), .val .null, .unset] [(.ref a1)])) rfl (hb hby d5_9) (n := 0) (by decide) (by decide) (by decide) (by decide)
  have c6 : Goes p e below s₁ (entryFrame m #[(.ref a1), (.ref b1), (.int (0 : Int32)), (.int (0 : Int32)), .null] 6) T5 (mkF m 11 #[.val (.ref a1), .val (.ref b1), .val (.int (0 : Int32)), .val (.int (0 : Int32)), .val .null, .unset] [(.ref a5), (.ref a1)]) := fun t kk => c4 t (st5 t kk)
  have Lt5 : own_str Z h5 a5 ([] : List Int32) := ⟨sE5, sC5, by decide, sb5, sk5, sV5, sA5⟩
  have f7 := (Fv.ext E5)
  have hne5 : a5 ≠ a1 := Fld.ne sV5 f7 (by simp)
  have f8 := (E1.ext E5)
  have hnb5 : sb5 ≠ a1 := fun q => (ne_arr f8 (hw _ (List.mem_of_getElem? (i := 19) rfl)) (id sA5).choose_spec.1) q.symm
  have hsf := own_safe (EL := consts_1) hZ5.alike f8 f7
  obtain ⟨T9, X9, e9, st9⟩ := getF X5 hx hZ5 ho5 (host := "") (Or.inl (hw _ (List.mem_of_getElem? (i := 45) rfl))) Via.refl e5 sV5 (g := (mkF m 11 #[.val (.ref a1), .val (.ref b1), .val (.int (0 : Int32)), .val (.int (0 : Int32)), .val .null, .unset] [(.ref a5), (.ref a1)])) rfl rfl (hb hby d5_11)
  have c10 : Goes p e below s₁ (entryFrame m #[(.ref a1), (.ref b1), (.int (0 : Int32)), (.int (0 : Int32)), .null] 6) T9 (mkF m 14 #[.val (.ref a1), .val (.ref b1), .val (.int (0 : Int32)), .val (.int (0 : Int32)), .val .null, .unset] [(.ref sb5), (.ref a1)]) := fun t kk => c6 t (st9 t kk)
  obtain ⟨T11, h11, X11, e11, W11, st11⟩ := putF X9 hx hZ5 ho5 (host := "") (Or.inl (hw _ (List.mem_of_getElem? (i := 45) rfl))) Via.refl e9 f7 f8 (Or.inr ⟨(hw _ (List.mem_of_getElem? (i := 46) rfl)), rfl, hnm⟩) (hw _ (List.mem_of_getElem? (i := 19) rfl)) (ty := (.array .byte)) (by decide) rfl rfl (g := (mkF m 14 #[.val (.ref a1), .val (.ref b1), .val (.int (0 : Int32)), .val (.int (0 : Int32)), .val .null, .unset] [(.ref sb5), (.ref a1)])) rfl rfl (hb hby d5_14)
  have N11 := Fr.snoc X11 N0 g1
  have F11 := f7.same W11
  have c12 : Goes p e below s₁ (entryFrame m #[(.ref a1), (.ref b1), (.int (0 : Int32)), (.int (0 : Int32)), .null] 6) T11 (mkF m 17 #[.val (.ref a1), .val (.ref b1), .val (.int (0 : Int32)), .val (.int (0 : Int32)), .val .null, .unset] []) := fun t kk => c10 t (st11 t kk)
  have c13 : Goes p e below s₁ (entryFrame m #[(.ref a1), (.ref b1), (.int (0 : Int32)), (.int (0 : Int32)), .null] 6) T11 (mkF m 18 #[.val (.ref a1), .val (.ref b1), .val (.int (0 : Int32)), .val (.int (0 : Int32)), .val .null, .unset] [(.ref a1)]) := by
    intro t kk
    refine c12 t ?_
    show Steps p.tables e below (T11.setTop (mkF m 17 #[.val (.ref a1), .val (.ref b1), .val (.int (0 : Int32)), .val (.int (0 : Int32)), .val .null, .unset] [])) t
    refine XS.aloadN X11.here hx rfl (hb hby d5_17) rfl rfl ?_
    exact kk
  have c15 : Goes p e below s₁ (entryFrame m #[(.ref a1), (.ref b1), (.int (0 : Int32)), (.int (0 : Int32)), .null] 6) T11 (mkF m 20 #[.val (.ref a1), .val (.ref b1), .val (.int (0 : Int32)), .val (.int (0 : Int32)), .val .null, .unset] [(.ref a5), (.ref a1)]) := by
    intro t kk
    refine c13 t ?_
    show Steps p.tables e below (T11.setTop (mkF m 18 #[.val (.ref a1), .val (.ref b1), .val (.int (0 : Int32)), .val (.int (0 : Int32)), .val .null, .unset] [(.ref a1)])) t
    refine ldcAgain X11 hx hZ5 ho5 (hw _ (List.mem_of_getElem? (i := 64) rfl)) hLit5 (g := (mkF m 18 #[.val (.ref a1), .val (.ref b1), .val (.int (0 : Int32)), .val (.int (0 : Int32)), .val .null, .unset] [(.ref a1)])) rfl (hb hby d5_18) _ ?_
    exact kk
  have f16 := (sC5.other W11 (Or.inl hne5))
  obtain ⟨T17, X17, e17, st17⟩ := getF X11 hx hZ5 ho5 (host := "") (Or.inl (hw _ (List.mem_of_getElem? (i := 43) rfl))) Via.refl e11 f16 (g := (mkF m 20 #[.val (.ref a1), .val (.ref b1), .val (.int (0 : Int32)), .val (.int (0 : Int32)), .val .null, .unset] [(.ref a5), (.ref a1)])) rfl rfl (hb hby d5_20)
  have c18 : Goes p e below s₁ (entryFrame m #[(.ref a1), (.ref b1), (.int (0 : Int32)), (.int (0 : Int32)), .null] 6) T17 (mkF m 23 #[.val (.ref a1), .val (.ref b1), .val (.int (0 : Int32)), .val (.int (0 : Int32)), .val .null, .unset] [(.int (0 : Int32)), (.ref a1)]) := fun t kk => c15 t (st17 t kk)
  have f19 := ((Fc.ext E5).other W11 (Or.inr (slot_ne (Or.inr (hw _ (List.mem_of_getElem? (i := 44) rfl))) (Or.inr (hw _ (List.mem_of_getElem? (i := 46) rfl))) (by decide) (t := .byte) (t' := (.array .byte)) (by decide) (by decide))))
  have f20 := (f8.wr W11)
  obtain ⟨T21, h21, X21, e21, W21, st21⟩ := putFN X17 hx hZ5 ho5 (hw _ (List.mem_of_getElem? (i := 43) rfl)) Via.refl e17 f19 f20 (Or.inr ⟨(hw _ (List.mem_of_getElem? (i := 44) rfl)), rfl, hnm⟩) (hw _ (List.mem_of_getElem? (i := 19) rfl)) (ty := .byte) (v' := (.int (nar .byte (0 : Int32)))) (by decide) rfl (fits_nar_byte _) (g := (mkF m 23 #[.val (.ref a1), .val (.ref b1), .val (.int (0 : Int32)), .val (.int (0 : Int32)), .val .null, .unset] [(.int (0 : Int32)), (.ref a1)])) rfl rfl (hb hby d5_23)
  have N21 := Fr.snoc X21 N11 g1
  have F21 := f19.same W21
  have c22 : Goes p e below s₁ (entryFrame m #[(.ref a1), (.ref b1), (.int (0 : Int32)), (.int (0 : Int32)), .null] 6) T21 (mkF m 26 #[.val (.ref a1), .val (.ref b1), .val (.int (0 : Int32)), .val (.int (0 : Int32)), .val .null, .unset] []) := fun t kk => c18 t (st21 t kk)
  have hs1 := CHr.wr W11 hsf hCr5.1
  have hs2 := CHr.wr W21 (Safe.wr W11 hsf hCr5.1 hsf) hs1.1
  have f23 := ((((Keep.refl h0 [a1]).ext E5).wr W11 (Or.inl (List.mem_of_getElem? (i := 0) rfl))).wr W21 (Or.inl (List.mem_of_getElem? (i := 0) rfl)))
  have f24 := (f20.wr W21)
  have f25 := (F11.other W21 (Or.inr (slot_ne (Or.inr (hw _ (List.mem_of_getElem? (i := 46) rfl))) (Or.inr (hw _ (List.mem_of_getElem? (i := 44) rfl))) (by decide) (t := (.array .byte)) (t' := .byte) (by decide) (by decide))))
  have f26 := ((sA5.other W11 hnb5).other W21 hnb5)
  have f27 := (Nat.le_trans (Nat.le_trans hk5 (Keep.of_wr W11).1) (Keep.of_wr W21).1)
  obtain ⟨fs, hr, hrun, hended, hRW⟩ := X21.leaveW S5 (by rw [e21]; exact f27) (v := none) (fun _ => rfl)
  have hCRe := ((((CHr.keep (Keep.refl h0 []) sf0 hCH0).trans hCr5).trans hs1).trans hs2)
  have hCRt : CHr Z consts_1 s.vm s.heap (T21.setFrames fs).vm (T21.setFrames fs).heap := by
    rw [hh]
    show CHr Z consts_1 s.vm h0 T21.vm T21.heap
    rw [e21]
    exact hCRe.trans (CHv.at X21 hZ5 hEL hCRe.1)
  refine ⟨_, _, c22 _ ?_, hrun, hended, _, _, rfl, ?_, hCRt, hRW.1, hRW.2.1, hRW.2.2.1, hRW.2.2.2.mono (by decide) (by decide)⟩
  · exact X21.returnOut hx Bd.returns (hb hby d5_26) hr
  · show Q_si4 Z a1 b1 h0 n0 _ T21.heap _
    rw [e21]
    exact ⟨rfl, N21, f23, f24, F21, own_nil, sb5, sk5, f25, f26⟩
theorem d4_0 : decode jdk_42_method_3_code 0 = .ok (.aload_n 0, 1) := by decide +kernel
theorem d4_1 : decode jdk_42_method_3_code 1 = .ok (.aload_n 1, 1) := by decide +kernel
theorem d4_2 : decode jdk_42_method_3_code 2 = .ok (.iconst 0, 1) := by decide +kernel
theorem d4_3 : decode jdk_42_method_3_code 3 = .ok (.aload_n 1, 1) := by decide +kernel
theorem d4_4 : decode jdk_42_method_3_code 4 = .ok (.arraylength, 1) := by decide +kernel
theorem d4_5 : decode jdk_42_method_3_code 5 = .ok (.aconst_null, 1) := by decide +kernel
theorem d4_6 : decode jdk_42_method_3_code 6 = .ok (.invokespecial 27, 3) := by decide +kernel
theorem d4_9 : decode jdk_42_method_3_code 9 = .ok (.return_, 1) := by decide +kernel
theorem pd___CIILjava_lang_Void__V : parseMethodDescriptor "([CIILjava/lang/Void;)V" = some ⟨[(.array .char), .int, .int, (.object "java/lang/Void")], none⟩ := by decide +kernel
theorem ef_si1 (m : MethodId) (x0 : Addr) (x1 : Addr) : entryFrame m #[(.ref x0), (.ref x1)] 2 = mkF m 0 #[.val (.ref x0), .val (.ref x1)] [] := by (first | (simp [entryFrame, mkF, argsToLocals, Value.category]; done) | rfl)
def Q_si1 (Z : State) (a1 : Addr) (b1 : Addr) (k1 : ClassId) (h0 : Heap) (n0 : Nat) (v : Option Value) (h : Heap) (L : List Loc) : Prop := v = none ∧ Fr n0 L ∧ Keep h0 h [a1] ∧ own_str Z h a1 []
set_option maxRecDepth 65536 in
set_option maxHeartbeats 40000000 in
theorem rm_si1 (l : Launch) (Z : State) (a0 : Array Value) (hw : ∀ d ∈ tables_1, d.before a0 Z = true) (ws : List Jvm.Cond) (a1 : Addr) (b1 : Addr) (k1 : ClassId) (h0 : Heap) (n0 : Nat) (Z0 : n0 ≤ h0.size) (hEL : EW Z a0 consts_1) (Fv : Fld Z h0 a1 "java/lang/String" "value" "[B" .null) (Fc : Fld Z h0 a1 "java/lang/String" "coder" "B" (.int (0 : Int32))) (E1 : Exa Z h0 a1 "java/lang/String") (g1 : n0 ≤ a1) (V1 : Arv Z h0 b1 k1 .char (0 : Int32) [] (.int 0)) :
    MetFree l (⟨"java/lang/String", "<init>", "([C)V"⟩ : MethodName) (head1 (Jvm.Cond.code (⟨"java/lang/String", "<init>", "([C)V"⟩ : MethodName) jdk_42_method_3_code 2 none :: ws) ({ frames := 2, cells := 2, slots := 4, locals := 29 } : Room)) (fun a U => a = #[(.ref a1), (.ref b1)] ∧ Z.Warmed39 U.vm ∧ U.heap = h0 ∧ CHv Z consts_1 U.vm h0) (fun _ _ _ _ _ => True) (fun _ U o U' => ∃ v L, o = .returned v ∧ Q_si1 Z a1 b1 k1 h0 n0 v U'.heap L ∧ CHr Z consts_1 U.vm U.heap U'.vm U'.heap ∧ ReturnedEndW U o U' L ({ frames := 2, cells := 2, slots := 4, locals := 29 } : Room).cells ({ frames := 2, cells := 2, slots := 4, locals := 29 } : Room).slots) := by
  refine MetFree.of_bodySF (plainFor_of_name pn_5) hisR ?_
  intro p e s m args below meth c s₁ Bd hml0 hP hK
  obtain ⟨rfl, hZ, hh, hCH0⟩ := hP
  have hx := Bd.exec
  have hby := Bd.bytes
  have hml : c.maxLocals = 2 := hml0
  have hown : s.vm.findClass "java/lang/String" = some m.cls := findClass_of_methodNamed Bd.named
  have hnm := (name_of_methodNamed Bd.named Bd.method).1
  have X0 : Stand p l e ({ frames := 2, cells := 2, slots := 4, locals := 29 } : Room) s m #[(.ref a1), (.ref b1)] below meth c s₁ [] 0 0 := Stand.of_body Bd
  have e0 : s₁.heap = h0 := by rw [← hh, Bd.state]; rfl
  have N0 := Fr.nil n0
  have c0 : Goes p e below s₁ (entryFrame m #[(.ref a1), (.ref b1)] 2) s₁ (mkF m 0 #[.val (.ref a1), .val (.ref b1)] []) := fun t k => castTop (ef_si1 m a1 b1) k
  have XW0 : Stand p l e ({ frames := 2, cells := 2, slots := 4, locals := 29 } : Room) (s.setVm s.vm) m #[(.ref a1), (.ref b1)] below meth c s₁ [] 0 0 := X0
  have SW0 : s.Since s.vm 0 := (State.WarmedH.refl s).since 0
  obtain ⟨cl28, Ar28, q28, Sz28, Nn28, Hh28, Gg28⟩ := id V1
  have c29 : Goes p e below s₁ (entryFrame m #[(.ref a1), (.ref b1)] 2) s₁ (mkF m 6 #[.val (.ref a1), .val (.ref b1)] [.null, (.int (0 : Int32)), (.int (0 : Int32)), (.ref b1), (.ref a1)]) := by
    intro t kk
    refine c0 t ?_
    show Steps p.tables e below (s₁.setTop (mkF m 0 #[.val (.ref a1), .val (.ref b1)] [])) t
    refine XS.aloadN XW0.here hx rfl (hb hby d4_0) rfl rfl ?_
    show Steps p.tables e below (s₁.setTop (mkF m 1 #[.val (.ref a1), .val (.ref b1)] [(.ref a1)])) t
    refine XS.aloadN XW0.here hx rfl (hb hby d4_1) rfl rfl ?_
    show Steps p.tables e below (s₁.setTop (mkF m 2 #[.val (.ref a1), .val (.ref b1)] [(.ref b1), (.ref a1)])) t
    refine XS.iconst XW0.here hx rfl (hb hby d4_2) ?_
    show Steps p.tables e below (s₁.setTop (mkF m 3 #[.val (.ref a1), .val (.ref b1)] [(.int (0 : Int32)), (.ref b1), (.ref a1)])) t
    refine XS.aloadN XW0.here hx rfl (hb hby d4_3) rfl rfl ?_
    show Steps p.tables e below (s₁.setTop (mkF m 4 #[.val (.ref a1), .val (.ref b1)] [(.ref b1), (.int (0 : Int32)), (.ref b1), (.ref a1)])) t
    refine XW0.arraylength hx (by rw [e0]; exact Ar28.1) (State.isArrayOf_alike hZ.alike Ar28.2.1) (g := (mkF m 4 #[.val (.ref a1), .val (.ref b1)] [(.ref b1), (.int (0 : Int32)), (.ref b1), (.ref a1)])) rfl rfl (hb hby d4_4) _ ?_
    rw [len_of Sz28 Nn28]
    show Steps p.tables e below (s₁.setTop (mkF m 5 #[.val (.ref a1), .val (.ref b1)] [(.int (0 : Int32)), (.int (0 : Int32)), (.ref b1), (.ref a1)])) t
    refine XS.aconstNull XW0.here hx rfl (hb hby d4_5) ?_
    exact kk
  obtain ⟨_, _, ⟨T30, L30, k30, n30⟩, -, XX30, SS30, gr30, ⟨Lc30, hQ30, l30, y30, z30, hCr30⟩, st30⟩ := XW0.specialBackS hx (y := (⟨"java/lang/String", "<init>", "([CIILjava/lang/Void;)V"⟩ : MethodName)) rfl hown (mvT hZ (hw _ (List.mem_of_getElem? (i := 24) rfl))) (mvT hZ (hw _ (List.mem_of_getElem? (i := 25) rfl))) (mvT hZ (hw _ (List.mem_of_getElem? (i := 27) rfl))) (by decide) (backOfSH (W := 0) (rm_si4 l Z a0 hw [] a1 b1 h0 n0 Z0 hEL Fv Fc E1 g1) hZ (hw _ (List.mem_of_getElem? (i := 27) rfl)) (hw _ (List.mem_of_getElem? (i := 20) rfl)) (by decide) (by decide) hEL hCH0) (g := (mkF m 6 #[.val (.ref a1), .val (.ref b1)] [.null, (.int (0 : Int32)), (.int (0 : Int32)), (.ref b1), (.ref a1)])) rfl (by rw [hml]; rfl) (Steps.refl _) (a := a1) (argsL := [(.ref b1), (.int (0 : Int32)), (.int (0 : Int32)), .null]) (rest := []) (lenOf pd___CIILjava_lang_Void__V rfl) rfl (by show 2 * 0 + _ ≤ _; exact Nat.le_of_eq rfl) (hb hby d4_6) (fun _ _ => ⟨rfl, e0, (by decide : 0 + 2 ≤ _), (by decide : 0 + 4 ≤ _)⟩)
  obtain ⟨X30, S30, hZ30, ho30⟩ := rebS SW0 (by rw [e0]; exact (Nat.zero_le _) : _ ≤ s₁.heap.size) XX30 SS30 gr30 hZ hown
  dsimp only [Pt.U, Pt.locs, Pt.cells, Pt.slots] at S30 hZ30 ho30 hCr30 X30 l30 y30 z30 st30 hQ30
  subst l30 y30 z30
  obtain ⟨rfl, Nq30, Kq30, Sq30⟩ := hQ30
  have N30 := Fr.app N0 Nq30
  have c31 : Goes p e below s₁ (entryFrame m #[(.ref a1), (.ref b1)] 2) T30 (mkF m 9 #[.val (.ref a1), .val (.ref b1)] []) := fun t kk => c29 t (st30.trans kk)
  obtain ⟨fs, hr, hrun, hended, hRW⟩ := X30.leaveW S30 (Nat.le_refl _) (v := none) (fun _ => rfl)
  have hCRe := hCr30
  have hCRt : CHr Z consts_1 s.vm s.heap (T30.setFrames fs).vm (T30.setFrames fs).heap := by
    rw [hh]
    show CHr Z consts_1 s.vm h0 T30.vm T30.heap
    exact hCRe.trans (CHv.at X30 hZ30 hEL hCRe.1)
  refine ⟨_, _, c31 _ ?_, hrun, hended, _, _, rfl, ?_, hCRt, hRW.1, hRW.2.1, hRW.2.2.1, hRW.2.2.2.mono (by decide) (by decide)⟩
  · exact X30.returnOut hx Bd.returns (hb hby d4_9) hr
  · show Q_si1 Z a1 b1 k1 h0 n0 _ T30.heap _
    exact ⟨rfl, N30, Kq30, Sq30⟩
theorem d1_0 : decode method_3_code 0 = .ok (.iload_n 0, 1) := by decide +kernel
theorem d1_1 : decode method_3_code 1 = .ok (.ifCond .ne 5, 3) := by decide +kernel
theorem d1_4 : decode method_3_code 4 = .ok (.aconst_null, 1) := by decide +kernel
theorem d1_5 : decode method_3_code 5 = .ok (.areturn, 1) := by decide +kernel
theorem d1_6 : decode method_3_code 6 = .ok (.iload_n 0, 1) := by decide +kernel
theorem d1_7 : decode method_3_code 7 = .ok (.iconst 1, 1) := by decide +kernel
theorem d1_8 : decode method_3_code 8 = .ok (.if_icmp .ne 69, 3) := by decide +kernel
theorem d1_11 : decode method_3_code 11 = .ok (.new 22, 3) := by decide +kernel
theorem d1_14 : decode method_3_code 14 = .ok (.dup, 1) := by decide +kernel
theorem d1_15 : decode method_3_code 15 = .ok (.bipush 10, 2) := by decide +kernel
theorem d1_17 : decode method_3_code 17 = .ok (.newarray .char, 2) := by decide +kernel
theorem d1_19 : decode method_3_code 19 = .ok (.dup, 1) := by decide +kernel
theorem d1_20 : decode method_3_code 20 = .ok (.iconst 0, 1) := by decide +kernel
theorem d1_21 : decode method_3_code 21 = .ok (.bipush 111, 2) := by decide +kernel
theorem d1_23 : decode method_3_code 23 = .ok (.castore, 1) := by decide +kernel
theorem d1_24 : decode method_3_code 24 = .ok (.dup, 1) := by decide +kernel
theorem d1_25 : decode method_3_code 25 = .ok (.iconst 1, 1) := by decide +kernel
theorem d1_26 : decode method_3_code 26 = .ok (.bipush 118, 2) := by decide +kernel
theorem d1_28 : decode method_3_code 28 = .ok (.castore, 1) := by decide +kernel
theorem d1_29 : decode method_3_code 29 = .ok (.dup, 1) := by decide +kernel
theorem d1_30 : decode method_3_code 30 = .ok (.iconst 2, 1) := by decide +kernel
theorem d1_31 : decode method_3_code 31 = .ok (.bipush 101, 2) := by decide +kernel
theorem d1_33 : decode method_3_code 33 = .ok (.castore, 1) := by decide +kernel
theorem d1_34 : decode method_3_code 34 = .ok (.dup, 1) := by decide +kernel
theorem d1_35 : decode method_3_code 35 = .ok (.iconst 3, 1) := by decide +kernel
theorem d1_36 : decode method_3_code 36 = .ok (.bipush 114, 2) := by decide +kernel
theorem d1_38 : decode method_3_code 38 = .ok (.castore, 1) := by decide +kernel
theorem d1_39 : decode method_3_code 39 = .ok (.dup, 1) := by decide +kernel
theorem d1_40 : decode method_3_code 40 = .ok (.iconst 4, 1) := by decide +kernel
theorem d1_41 : decode method_3_code 41 = .ok (.bipush 108, 2) := by decide +kernel
theorem d1_43 : decode method_3_code 43 = .ok (.castore, 1) := by decide +kernel
theorem d1_44 : decode method_3_code 44 = .ok (.dup, 1) := by decide +kernel
theorem d1_45 : decode method_3_code 45 = .ok (.iconst 5, 1) := by decide +kernel
theorem d1_46 : decode method_3_code 46 = .ok (.bipush 111, 2) := by decide +kernel
theorem d1_48 : decode method_3_code 48 = .ok (.castore, 1) := by decide +kernel
theorem d1_49 : decode method_3_code 49 = .ok (.dup, 1) := by decide +kernel
theorem d1_50 : decode method_3_code 50 = .ok (.bipush 6, 2) := by decide +kernel
theorem d1_52 : decode method_3_code 52 = .ok (.bipush 97, 2) := by decide +kernel
theorem d1_54 : decode method_3_code 54 = .ok (.castore, 1) := by decide +kernel
theorem d1_55 : decode method_3_code 55 = .ok (.dup, 1) := by decide +kernel
theorem d1_56 : decode method_3_code 56 = .ok (.bipush 7, 2) := by decide +kernel
theorem d1_58 : decode method_3_code 58 = .ok (.bipush 100, 2) := by decide +kernel
theorem d1_60 : decode method_3_code 60 = .ok (.castore, 1) := by decide +kernel
theorem d1_61 : decode method_3_code 61 = .ok (.dup, 1) := by decide +kernel
theorem d1_62 : decode method_3_code 62 = .ok (.bipush 8, 2) := by decide +kernel
theorem d1_64 : decode method_3_code 64 = .ok (.bipush 101, 2) := by decide +kernel
theorem d1_66 : decode method_3_code 66 = .ok (.castore, 1) := by decide +kernel
theorem d1_67 : decode method_3_code 67 = .ok (.dup, 1) := by decide +kernel
theorem d1_68 : decode method_3_code 68 = .ok (.bipush 9, 2) := by decide +kernel
theorem d1_70 : decode method_3_code 70 = .ok (.bipush 100, 2) := by decide +kernel
theorem d1_72 : decode method_3_code 72 = .ok (.castore, 1) := by decide +kernel
theorem d1_73 : decode method_3_code 73 = .ok (.invokespecial 24, 3) := by decide +kernel
theorem d1_76 : decode method_3_code 76 = .ok (.areturn, 1) := by decide +kernel
theorem d1_77 : decode method_3_code 77 = .ok (.iload_n 0, 1) := by decide +kernel
theorem d1_78 : decode method_3_code 78 = .ok (.iconst 2, 1) := by decide +kernel
theorem d1_79 : decode method_3_code 79 = .ok (.if_icmp .ne 123, 3) := by decide +kernel
theorem d1_82 : decode method_3_code 82 = .ok (.new 22, 3) := by decide +kernel
theorem d1_85 : decode method_3_code 85 = .ok (.dup, 1) := by decide +kernel
theorem d1_86 : decode method_3_code 86 = .ok (.bipush 19, 2) := by decide +kernel
theorem d1_88 : decode method_3_code 88 = .ok (.newarray .char, 2) := by decide +kernel
theorem d1_90 : decode method_3_code 90 = .ok (.dup, 1) := by decide +kernel
theorem d1_91 : decode method_3_code 91 = .ok (.iconst 0, 1) := by decide +kernel
theorem d1_92 : decode method_3_code 92 = .ok (.bipush 111, 2) := by decide +kernel
theorem d1_94 : decode method_3_code 94 = .ok (.castore, 1) := by decide +kernel
theorem d1_95 : decode method_3_code 95 = .ok (.dup, 1) := by decide +kernel
theorem d1_96 : decode method_3_code 96 = .ok (.iconst 1, 1) := by decide +kernel
theorem d1_97 : decode method_3_code 97 = .ok (.bipush 118, 2) := by decide +kernel
theorem d1_99 : decode method_3_code 99 = .ok (.castore, 1) := by decide +kernel
theorem d1_100 : decode method_3_code 100 = .ok (.dup, 1) := by decide +kernel
theorem d1_101 : decode method_3_code 101 = .ok (.iconst 2, 1) := by decide +kernel
theorem d1_102 : decode method_3_code 102 = .ok (.bipush 101, 2) := by decide +kernel
theorem d1_104 : decode method_3_code 104 = .ok (.castore, 1) := by decide +kernel
theorem d1_105 : decode method_3_code 105 = .ok (.dup, 1) := by decide +kernel
theorem d1_106 : decode method_3_code 106 = .ok (.iconst 3, 1) := by decide +kernel
theorem d1_107 : decode method_3_code 107 = .ok (.bipush 114, 2) := by decide +kernel
theorem d1_109 : decode method_3_code 109 = .ok (.castore, 1) := by decide +kernel
theorem d1_110 : decode method_3_code 110 = .ok (.dup, 1) := by decide +kernel
theorem d1_111 : decode method_3_code 111 = .ok (.iconst 4, 1) := by decide +kernel
theorem d1_112 : decode method_3_code 112 = .ok (.bipush 108, 2) := by decide +kernel
theorem d1_114 : decode method_3_code 114 = .ok (.castore, 1) := by decide +kernel
theorem d1_115 : decode method_3_code 115 = .ok (.dup, 1) := by decide +kernel
theorem d1_116 : decode method_3_code 116 = .ok (.iconst 5, 1) := by decide +kernel
theorem d1_117 : decode method_3_code 117 = .ok (.bipush 111, 2) := by decide +kernel
theorem d1_119 : decode method_3_code 119 = .ok (.castore, 1) := by decide +kernel
theorem d1_120 : decode method_3_code 120 = .ok (.dup, 1) := by decide +kernel
theorem d1_121 : decode method_3_code 121 = .ok (.bipush 6, 2) := by decide +kernel
theorem d1_123 : decode method_3_code 123 = .ok (.bipush 97, 2) := by decide +kernel
theorem d1_125 : decode method_3_code 125 = .ok (.castore, 1) := by decide +kernel
theorem d1_126 : decode method_3_code 126 = .ok (.dup, 1) := by decide +kernel
theorem d1_127 : decode method_3_code 127 = .ok (.bipush 7, 2) := by decide +kernel
theorem d1_129 : decode method_3_code 129 = .ok (.bipush 100, 2) := by decide +kernel
theorem d1_131 : decode method_3_code 131 = .ok (.castore, 1) := by decide +kernel
theorem d1_132 : decode method_3_code 132 = .ok (.dup, 1) := by decide +kernel
theorem d1_133 : decode method_3_code 133 = .ok (.bipush 8, 2) := by decide +kernel
theorem d1_135 : decode method_3_code 135 = .ok (.bipush 101, 2) := by decide +kernel
theorem d1_137 : decode method_3_code 137 = .ok (.castore, 1) := by decide +kernel
theorem d1_138 : decode method_3_code 138 = .ok (.dup, 1) := by decide +kernel
theorem d1_139 : decode method_3_code 139 = .ok (.bipush 9, 2) := by decide +kernel
theorem d1_141 : decode method_3_code 141 = .ok (.bipush 100, 2) := by decide +kernel
theorem d1_143 : decode method_3_code 143 = .ok (.castore, 1) := by decide +kernel
theorem d1_144 : decode method_3_code 144 = .ok (.dup, 1) := by decide +kernel
theorem d1_145 : decode method_3_code 145 = .ok (.bipush 10, 2) := by decide +kernel
theorem d1_147 : decode method_3_code 147 = .ok (.bipush 45, 2) := by decide +kernel
theorem d1_149 : decode method_3_code 149 = .ok (.castore, 1) := by decide +kernel
theorem d1_150 : decode method_3_code 150 = .ok (.dup, 1) := by decide +kernel
theorem d1_151 : decode method_3_code 151 = .ok (.bipush 11, 2) := by decide +kernel
theorem d1_153 : decode method_3_code 153 = .ok (.bipush 110, 2) := by decide +kernel
theorem d1_155 : decode method_3_code 155 = .ok (.castore, 1) := by decide +kernel
theorem d1_156 : decode method_3_code 156 = .ok (.dup, 1) := by decide +kernel
theorem d1_157 : decode method_3_code 157 = .ok (.bipush 12, 2) := by decide +kernel
theorem d1_159 : decode method_3_code 159 = .ok (.bipush 111, 2) := by decide +kernel
theorem d1_161 : decode method_3_code 161 = .ok (.castore, 1) := by decide +kernel
theorem d1_162 : decode method_3_code 162 = .ok (.dup, 1) := by decide +kernel
theorem d1_163 : decode method_3_code 163 = .ok (.bipush 13, 2) := by decide +kernel
theorem d1_165 : decode method_3_code 165 = .ok (.bipush 45, 2) := by decide +kernel
theorem d1_167 : decode method_3_code 167 = .ok (.castore, 1) := by decide +kernel
theorem d1_168 : decode method_3_code 168 = .ok (.dup, 1) := by decide +kernel
theorem d1_169 : decode method_3_code 169 = .ok (.bipush 14, 2) := by decide +kernel
theorem d1_171 : decode method_3_code 171 = .ok (.bipush 114, 2) := by decide +kernel
theorem d1_173 : decode method_3_code 173 = .ok (.castore, 1) := by decide +kernel
theorem d1_174 : decode method_3_code 174 = .ok (.dup, 1) := by decide +kernel
theorem d1_175 : decode method_3_code 175 = .ok (.bipush 15, 2) := by decide +kernel
theorem d1_177 : decode method_3_code 177 = .ok (.bipush 101, 2) := by decide +kernel
theorem d1_179 : decode method_3_code 179 = .ok (.castore, 1) := by decide +kernel
theorem d1_180 : decode method_3_code 180 = .ok (.dup, 1) := by decide +kernel
theorem d1_181 : decode method_3_code 181 = .ok (.bipush 16, 2) := by decide +kernel
theorem d1_183 : decode method_3_code 183 = .ok (.bipush 116, 2) := by decide +kernel
theorem d1_185 : decode method_3_code 185 = .ok (.castore, 1) := by decide +kernel
theorem d1_186 : decode method_3_code 186 = .ok (.dup, 1) := by decide +kernel
theorem d1_187 : decode method_3_code 187 = .ok (.bipush 17, 2) := by decide +kernel
theorem d1_189 : decode method_3_code 189 = .ok (.bipush 114, 2) := by decide +kernel
theorem d1_191 : decode method_3_code 191 = .ok (.castore, 1) := by decide +kernel
theorem d1_192 : decode method_3_code 192 = .ok (.dup, 1) := by decide +kernel
theorem d1_193 : decode method_3_code 193 = .ok (.bipush 18, 2) := by decide +kernel
theorem d1_195 : decode method_3_code 195 = .ok (.bipush 121, 2) := by decide +kernel
theorem d1_197 : decode method_3_code 197 = .ok (.castore, 1) := by decide +kernel
theorem d1_198 : decode method_3_code 198 = .ok (.invokespecial 24, 3) := by decide +kernel
theorem d1_201 : decode method_3_code 201 = .ok (.areturn, 1) := by decide +kernel
theorem d1_202 : decode method_3_code 202 = .ok (.iload_n 0, 1) := by decide +kernel
theorem d1_203 : decode method_3_code 203 = .ok (.iconst 3, 1) := by decide +kernel
theorem d1_204 : decode method_3_code 204 = .ok (.if_icmp .ne 84, 3) := by decide +kernel
theorem d1_207 : decode method_3_code 207 = .ok (.bipush 10, 2) := by decide +kernel
theorem d1_209 : decode method_3_code 209 = .ok (.newarray .char, 2) := by decide +kernel
theorem d1_211 : decode method_3_code 211 = .ok (.dup, 1) := by decide +kernel
theorem d1_212 : decode method_3_code 212 = .ok (.iconst 0, 1) := by decide +kernel
theorem d1_213 : decode method_3_code 213 = .ok (.bipush 111, 2) := by decide +kernel
theorem d1_215 : decode method_3_code 215 = .ok (.castore, 1) := by decide +kernel
theorem d1_216 : decode method_3_code 216 = .ok (.dup, 1) := by decide +kernel
theorem d1_217 : decode method_3_code 217 = .ok (.iconst 1, 1) := by decide +kernel
theorem d1_218 : decode method_3_code 218 = .ok (.bipush 118, 2) := by decide +kernel
theorem d1_220 : decode method_3_code 220 = .ok (.castore, 1) := by decide +kernel
theorem d1_221 : decode method_3_code 221 = .ok (.dup, 1) := by decide +kernel
theorem d1_222 : decode method_3_code 222 = .ok (.iconst 2, 1) := by decide +kernel
theorem d1_223 : decode method_3_code 223 = .ok (.bipush 101, 2) := by decide +kernel
theorem d1_225 : decode method_3_code 225 = .ok (.castore, 1) := by decide +kernel
theorem d1_226 : decode method_3_code 226 = .ok (.dup, 1) := by decide +kernel
theorem d1_227 : decode method_3_code 227 = .ok (.iconst 3, 1) := by decide +kernel
theorem d1_228 : decode method_3_code 228 = .ok (.bipush 114, 2) := by decide +kernel
theorem d1_230 : decode method_3_code 230 = .ok (.castore, 1) := by decide +kernel
theorem d1_231 : decode method_3_code 231 = .ok (.dup, 1) := by decide +kernel
theorem d1_232 : decode method_3_code 232 = .ok (.iconst 4, 1) := by decide +kernel
theorem d1_233 : decode method_3_code 233 = .ok (.bipush 108, 2) := by decide +kernel
theorem d1_235 : decode method_3_code 235 = .ok (.castore, 1) := by decide +kernel
theorem d1_236 : decode method_3_code 236 = .ok (.dup, 1) := by decide +kernel
theorem d1_237 : decode method_3_code 237 = .ok (.iconst 5, 1) := by decide +kernel
theorem d1_238 : decode method_3_code 238 = .ok (.bipush 111, 2) := by decide +kernel
theorem d1_240 : decode method_3_code 240 = .ok (.castore, 1) := by decide +kernel
theorem d1_241 : decode method_3_code 241 = .ok (.dup, 1) := by decide +kernel
theorem d1_242 : decode method_3_code 242 = .ok (.bipush 6, 2) := by decide +kernel
theorem d1_244 : decode method_3_code 244 = .ok (.bipush 97, 2) := by decide +kernel
theorem d1_246 : decode method_3_code 246 = .ok (.castore, 1) := by decide +kernel
theorem d1_247 : decode method_3_code 247 = .ok (.dup, 1) := by decide +kernel
theorem d1_248 : decode method_3_code 248 = .ok (.bipush 7, 2) := by decide +kernel
theorem d1_250 : decode method_3_code 250 = .ok (.bipush 100, 2) := by decide +kernel
theorem d1_252 : decode method_3_code 252 = .ok (.castore, 1) := by decide +kernel
theorem d1_253 : decode method_3_code 253 = .ok (.dup, 1) := by decide +kernel
theorem d1_254 : decode method_3_code 254 = .ok (.bipush 8, 2) := by decide +kernel
theorem d1_256 : decode method_3_code 256 = .ok (.bipush 101, 2) := by decide +kernel
theorem d1_258 : decode method_3_code 258 = .ok (.castore, 1) := by decide +kernel
theorem d1_259 : decode method_3_code 259 = .ok (.dup, 1) := by decide +kernel
theorem d1_260 : decode method_3_code 260 = .ok (.bipush 9, 2) := by decide +kernel
theorem d1_262 : decode method_3_code 262 = .ok (.bipush 100, 2) := by decide +kernel
theorem d1_264 : decode method_3_code 264 = .ok (.castore, 1) := by decide +kernel
theorem d1_265 : decode method_3_code 265 = .ok (.astore 5, 2) := by decide +kernel
theorem d1_267 : decode method_3_code 267 = .ok (.aload 5, 2) := by decide +kernel
theorem d1_269 : decode method_3_code 269 = .ok (.iload_n 1, 1) := by decide +kernel
theorem d1_270 : decode method_3_code 270 = .ok (.ldc 27, 2) := by decide +kernel
theorem d1_272 : decode method_3_code 272 = .ok (.iand, 1) := by decide +kernel
theorem d1_273 : decode method_3_code 273 = .ok (.bipush 10, 2) := by decide +kernel
theorem d1_275 : decode method_3_code 275 = .ok (.irem, 1) := by decide +kernel
theorem d1_276 : decode method_3_code 276 = .ok (.iload_n 2, 1) := by decide +kernel
theorem d1_277 : decode method_3_code 277 = .ok (.castore, 1) := by decide +kernel
theorem d1_278 : decode method_3_code 278 = .ok (.new 22, 3) := by decide +kernel
theorem d1_281 : decode method_3_code 281 = .ok (.dup, 1) := by decide +kernel
theorem d1_282 : decode method_3_code 282 = .ok (.aload 5, 2) := by decide +kernel
theorem d1_284 : decode method_3_code 284 = .ok (.invokespecial 24, 3) := by decide +kernel
theorem d1_287 : decode method_3_code 287 = .ok (.areturn, 1) := by decide +kernel
theorem d1_288 : decode method_3_code 288 = .ok (.iload_n 0, 1) := by decide +kernel
theorem d1_289 : decode method_3_code 289 = .ok (.iconst 4, 1) := by decide +kernel
theorem d1_290 : decode method_3_code 290 = .ok (.if_icmp .ne 138, 3) := by decide +kernel
theorem d1_293 : decode method_3_code 293 = .ok (.bipush 19, 2) := by decide +kernel
theorem d1_295 : decode method_3_code 295 = .ok (.newarray .char, 2) := by decide +kernel
theorem d1_297 : decode method_3_code 297 = .ok (.dup, 1) := by decide +kernel
theorem d1_298 : decode method_3_code 298 = .ok (.iconst 0, 1) := by decide +kernel
theorem d1_299 : decode method_3_code 299 = .ok (.bipush 111, 2) := by decide +kernel
theorem d1_301 : decode method_3_code 301 = .ok (.castore, 1) := by decide +kernel
theorem d1_302 : decode method_3_code 302 = .ok (.dup, 1) := by decide +kernel
theorem d1_303 : decode method_3_code 303 = .ok (.iconst 1, 1) := by decide +kernel
theorem d1_304 : decode method_3_code 304 = .ok (.bipush 118, 2) := by decide +kernel
theorem d1_306 : decode method_3_code 306 = .ok (.castore, 1) := by decide +kernel
theorem d1_307 : decode method_3_code 307 = .ok (.dup, 1) := by decide +kernel
theorem d1_308 : decode method_3_code 308 = .ok (.iconst 2, 1) := by decide +kernel
theorem d1_309 : decode method_3_code 309 = .ok (.bipush 101, 2) := by decide +kernel
theorem d1_311 : decode method_3_code 311 = .ok (.castore, 1) := by decide +kernel
theorem d1_312 : decode method_3_code 312 = .ok (.dup, 1) := by decide +kernel
theorem d1_313 : decode method_3_code 313 = .ok (.iconst 3, 1) := by decide +kernel
theorem d1_314 : decode method_3_code 314 = .ok (.bipush 114, 2) := by decide +kernel
theorem d1_316 : decode method_3_code 316 = .ok (.castore, 1) := by decide +kernel
theorem d1_317 : decode method_3_code 317 = .ok (.dup, 1) := by decide +kernel
theorem d1_318 : decode method_3_code 318 = .ok (.iconst 4, 1) := by decide +kernel
theorem d1_319 : decode method_3_code 319 = .ok (.bipush 108, 2) := by decide +kernel
theorem d1_321 : decode method_3_code 321 = .ok (.castore, 1) := by decide +kernel
theorem d1_322 : decode method_3_code 322 = .ok (.dup, 1) := by decide +kernel
theorem d1_323 : decode method_3_code 323 = .ok (.iconst 5, 1) := by decide +kernel
theorem d1_324 : decode method_3_code 324 = .ok (.bipush 111, 2) := by decide +kernel
theorem d1_326 : decode method_3_code 326 = .ok (.castore, 1) := by decide +kernel
theorem d1_327 : decode method_3_code 327 = .ok (.dup, 1) := by decide +kernel
theorem d1_328 : decode method_3_code 328 = .ok (.bipush 6, 2) := by decide +kernel
theorem d1_330 : decode method_3_code 330 = .ok (.bipush 97, 2) := by decide +kernel
theorem d1_332 : decode method_3_code 332 = .ok (.castore, 1) := by decide +kernel
theorem d1_333 : decode method_3_code 333 = .ok (.dup, 1) := by decide +kernel
theorem d1_334 : decode method_3_code 334 = .ok (.bipush 7, 2) := by decide +kernel
theorem d1_336 : decode method_3_code 336 = .ok (.bipush 100, 2) := by decide +kernel
theorem d1_338 : decode method_3_code 338 = .ok (.castore, 1) := by decide +kernel
theorem d1_339 : decode method_3_code 339 = .ok (.dup, 1) := by decide +kernel
theorem d1_340 : decode method_3_code 340 = .ok (.bipush 8, 2) := by decide +kernel
theorem d1_342 : decode method_3_code 342 = .ok (.bipush 101, 2) := by decide +kernel
theorem d1_344 : decode method_3_code 344 = .ok (.castore, 1) := by decide +kernel
theorem d1_345 : decode method_3_code 345 = .ok (.dup, 1) := by decide +kernel
theorem d1_346 : decode method_3_code 346 = .ok (.bipush 9, 2) := by decide +kernel
theorem d1_348 : decode method_3_code 348 = .ok (.bipush 100, 2) := by decide +kernel
theorem d1_350 : decode method_3_code 350 = .ok (.castore, 1) := by decide +kernel
theorem d1_351 : decode method_3_code 351 = .ok (.dup, 1) := by decide +kernel
theorem d1_352 : decode method_3_code 352 = .ok (.bipush 10, 2) := by decide +kernel
theorem d1_354 : decode method_3_code 354 = .ok (.bipush 45, 2) := by decide +kernel
theorem d1_356 : decode method_3_code 356 = .ok (.castore, 1) := by decide +kernel
theorem d1_357 : decode method_3_code 357 = .ok (.dup, 1) := by decide +kernel
theorem d1_358 : decode method_3_code 358 = .ok (.bipush 11, 2) := by decide +kernel
theorem d1_360 : decode method_3_code 360 = .ok (.bipush 110, 2) := by decide +kernel
theorem d1_362 : decode method_3_code 362 = .ok (.castore, 1) := by decide +kernel
theorem d1_363 : decode method_3_code 363 = .ok (.dup, 1) := by decide +kernel
theorem d1_364 : decode method_3_code 364 = .ok (.bipush 12, 2) := by decide +kernel
theorem d1_366 : decode method_3_code 366 = .ok (.bipush 111, 2) := by decide +kernel
theorem d1_368 : decode method_3_code 368 = .ok (.castore, 1) := by decide +kernel
theorem d1_369 : decode method_3_code 369 = .ok (.dup, 1) := by decide +kernel
theorem d1_370 : decode method_3_code 370 = .ok (.bipush 13, 2) := by decide +kernel
theorem d1_372 : decode method_3_code 372 = .ok (.bipush 45, 2) := by decide +kernel
theorem d1_374 : decode method_3_code 374 = .ok (.castore, 1) := by decide +kernel
theorem d1_375 : decode method_3_code 375 = .ok (.dup, 1) := by decide +kernel
theorem d1_376 : decode method_3_code 376 = .ok (.bipush 14, 2) := by decide +kernel
theorem d1_378 : decode method_3_code 378 = .ok (.bipush 114, 2) := by decide +kernel
theorem d1_380 : decode method_3_code 380 = .ok (.castore, 1) := by decide +kernel
theorem d1_381 : decode method_3_code 381 = .ok (.dup, 1) := by decide +kernel
theorem d1_382 : decode method_3_code 382 = .ok (.bipush 15, 2) := by decide +kernel
theorem d1_384 : decode method_3_code 384 = .ok (.bipush 101, 2) := by decide +kernel
theorem d1_386 : decode method_3_code 386 = .ok (.castore, 1) := by decide +kernel
theorem d1_387 : decode method_3_code 387 = .ok (.dup, 1) := by decide +kernel
theorem d1_388 : decode method_3_code 388 = .ok (.bipush 16, 2) := by decide +kernel
theorem d1_390 : decode method_3_code 390 = .ok (.bipush 116, 2) := by decide +kernel
theorem d1_392 : decode method_3_code 392 = .ok (.castore, 1) := by decide +kernel
theorem d1_393 : decode method_3_code 393 = .ok (.dup, 1) := by decide +kernel
theorem d1_394 : decode method_3_code 394 = .ok (.bipush 17, 2) := by decide +kernel
theorem d1_396 : decode method_3_code 396 = .ok (.bipush 114, 2) := by decide +kernel
theorem d1_398 : decode method_3_code 398 = .ok (.castore, 1) := by decide +kernel
theorem d1_399 : decode method_3_code 399 = .ok (.dup, 1) := by decide +kernel
theorem d1_400 : decode method_3_code 400 = .ok (.bipush 18, 2) := by decide +kernel
theorem d1_402 : decode method_3_code 402 = .ok (.bipush 121, 2) := by decide +kernel
theorem d1_404 : decode method_3_code 404 = .ok (.castore, 1) := by decide +kernel
theorem d1_405 : decode method_3_code 405 = .ok (.astore 5, 2) := by decide +kernel
theorem d1_407 : decode method_3_code 407 = .ok (.aload 5, 2) := by decide +kernel
theorem d1_409 : decode method_3_code 409 = .ok (.iload_n 1, 1) := by decide +kernel
theorem d1_410 : decode method_3_code 410 = .ok (.ldc 27, 2) := by decide +kernel
theorem d1_412 : decode method_3_code 412 = .ok (.iand, 1) := by decide +kernel
theorem d1_413 : decode method_3_code 413 = .ok (.bipush 19, 2) := by decide +kernel
theorem d1_415 : decode method_3_code 415 = .ok (.irem, 1) := by decide +kernel
theorem d1_416 : decode method_3_code 416 = .ok (.iload_n 2, 1) := by decide +kernel
theorem d1_417 : decode method_3_code 417 = .ok (.castore, 1) := by decide +kernel
theorem d1_418 : decode method_3_code 418 = .ok (.new 22, 3) := by decide +kernel
theorem d1_421 : decode method_3_code 421 = .ok (.dup, 1) := by decide +kernel
theorem d1_422 : decode method_3_code 422 = .ok (.aload 5, 2) := by decide +kernel
theorem d1_424 : decode method_3_code 424 = .ok (.invokespecial 24, 3) := by decide +kernel
theorem d1_427 : decode method_3_code 427 = .ok (.areturn, 1) := by decide +kernel
theorem d1_428 : decode method_3_code 428 = .ok (.iload_n 0, 1) := by decide +kernel
theorem d1_429 : decode method_3_code 429 = .ok (.iconst 5, 1) := by decide +kernel
theorem d1_430 : decode method_3_code 430 = .ok (.if_icmp .ne 78, 3) := by decide +kernel
theorem d1_433 : decode method_3_code 433 = .ok (.bipush 11, 2) := by decide +kernel
theorem d1_435 : decode method_3_code 435 = .ok (.newarray .char, 2) := by decide +kernel
theorem d1_437 : decode method_3_code 437 = .ok (.dup, 1) := by decide +kernel
theorem d1_438 : decode method_3_code 438 = .ok (.iconst 0, 1) := by decide +kernel
theorem d1_439 : decode method_3_code 439 = .ok (.bipush 111, 2) := by decide +kernel
theorem d1_441 : decode method_3_code 441 = .ok (.castore, 1) := by decide +kernel
theorem d1_442 : decode method_3_code 442 = .ok (.dup, 1) := by decide +kernel
theorem d1_443 : decode method_3_code 443 = .ok (.iconst 1, 1) := by decide +kernel
theorem d1_444 : decode method_3_code 444 = .ok (.bipush 118, 2) := by decide +kernel
theorem d1_446 : decode method_3_code 446 = .ok (.castore, 1) := by decide +kernel
theorem d1_447 : decode method_3_code 447 = .ok (.dup, 1) := by decide +kernel
theorem d1_448 : decode method_3_code 448 = .ok (.iconst 2, 1) := by decide +kernel
theorem d1_449 : decode method_3_code 449 = .ok (.bipush 101, 2) := by decide +kernel
theorem d1_451 : decode method_3_code 451 = .ok (.castore, 1) := by decide +kernel
theorem d1_452 : decode method_3_code 452 = .ok (.dup, 1) := by decide +kernel
theorem d1_453 : decode method_3_code 453 = .ok (.iconst 3, 1) := by decide +kernel
theorem d1_454 : decode method_3_code 454 = .ok (.bipush 114, 2) := by decide +kernel
theorem d1_456 : decode method_3_code 456 = .ok (.castore, 1) := by decide +kernel
theorem d1_457 : decode method_3_code 457 = .ok (.dup, 1) := by decide +kernel
theorem d1_458 : decode method_3_code 458 = .ok (.iconst 4, 1) := by decide +kernel
theorem d1_459 : decode method_3_code 459 = .ok (.bipush 108, 2) := by decide +kernel
theorem d1_461 : decode method_3_code 461 = .ok (.castore, 1) := by decide +kernel
theorem d1_462 : decode method_3_code 462 = .ok (.dup, 1) := by decide +kernel
theorem d1_463 : decode method_3_code 463 = .ok (.iconst 5, 1) := by decide +kernel
theorem d1_464 : decode method_3_code 464 = .ok (.bipush 111, 2) := by decide +kernel
theorem d1_466 : decode method_3_code 466 = .ok (.castore, 1) := by decide +kernel
theorem d1_467 : decode method_3_code 467 = .ok (.dup, 1) := by decide +kernel
theorem d1_468 : decode method_3_code 468 = .ok (.bipush 6, 2) := by decide +kernel
theorem d1_470 : decode method_3_code 470 = .ok (.bipush 97, 2) := by decide +kernel
theorem d1_472 : decode method_3_code 472 = .ok (.castore, 1) := by decide +kernel
theorem d1_473 : decode method_3_code 473 = .ok (.dup, 1) := by decide +kernel
theorem d1_474 : decode method_3_code 474 = .ok (.bipush 7, 2) := by decide +kernel
theorem d1_476 : decode method_3_code 476 = .ok (.bipush 100, 2) := by decide +kernel
theorem d1_478 : decode method_3_code 478 = .ok (.castore, 1) := by decide +kernel
theorem d1_479 : decode method_3_code 479 = .ok (.dup, 1) := by decide +kernel
theorem d1_480 : decode method_3_code 480 = .ok (.bipush 8, 2) := by decide +kernel
theorem d1_482 : decode method_3_code 482 = .ok (.bipush 101, 2) := by decide +kernel
theorem d1_484 : decode method_3_code 484 = .ok (.castore, 1) := by decide +kernel
theorem d1_485 : decode method_3_code 485 = .ok (.dup, 1) := by decide +kernel
theorem d1_486 : decode method_3_code 486 = .ok (.bipush 9, 2) := by decide +kernel
theorem d1_488 : decode method_3_code 488 = .ok (.bipush 100, 2) := by decide +kernel
theorem d1_490 : decode method_3_code 490 = .ok (.castore, 1) := by decide +kernel
theorem d1_491 : decode method_3_code 491 = .ok (.dup, 1) := by decide +kernel
theorem d1_492 : decode method_3_code 492 = .ok (.bipush 10, 2) := by decide +kernel
theorem d1_494 : decode method_3_code 494 = .ok (.iload_n 2, 1) := by decide +kernel
theorem d1_495 : decode method_3_code 495 = .ok (.castore, 1) := by decide +kernel
theorem d1_496 : decode method_3_code 496 = .ok (.astore 5, 2) := by decide +kernel
theorem d1_498 : decode method_3_code 498 = .ok (.new 22, 3) := by decide +kernel
theorem d1_501 : decode method_3_code 501 = .ok (.dup, 1) := by decide +kernel
theorem d1_502 : decode method_3_code 502 = .ok (.aload 5, 2) := by decide +kernel
theorem d1_504 : decode method_3_code 504 = .ok (.invokespecial 24, 3) := by decide +kernel
theorem d1_507 : decode method_3_code 507 = .ok (.areturn, 1) := by decide +kernel
theorem d1_508 : decode method_3_code 508 = .ok (.iload_n 0, 1) := by decide +kernel
theorem d1_509 : decode method_3_code 509 = .ok (.bipush 6, 2) := by decide +kernel
theorem d1_511 : decode method_3_code 511 = .ok (.if_icmp .ne 26, 3) := by decide +kernel
theorem d1_514 : decode method_3_code 514 = .ok (.iconst 2, 1) := by decide +kernel
theorem d1_515 : decode method_3_code 515 = .ok (.newarray .char, 2) := by decide +kernel
theorem d1_517 : decode method_3_code 517 = .ok (.dup, 1) := by decide +kernel
theorem d1_518 : decode method_3_code 518 = .ok (.iconst 0, 1) := by decide +kernel
theorem d1_519 : decode method_3_code 519 = .ok (.iload_n 2, 1) := by decide +kernel
theorem d1_520 : decode method_3_code 520 = .ok (.castore, 1) := by decide +kernel
theorem d1_521 : decode method_3_code 521 = .ok (.dup, 1) := by decide +kernel
theorem d1_522 : decode method_3_code 522 = .ok (.iconst 1, 1) := by decide +kernel
theorem d1_523 : decode method_3_code 523 = .ok (.iload_n 3, 1) := by decide +kernel
theorem d1_524 : decode method_3_code 524 = .ok (.castore, 1) := by decide +kernel
theorem d1_525 : decode method_3_code 525 = .ok (.astore 5, 2) := by decide +kernel
theorem d1_527 : decode method_3_code 527 = .ok (.new 22, 3) := by decide +kernel
theorem d1_530 : decode method_3_code 530 = .ok (.dup, 1) := by decide +kernel
theorem d1_531 : decode method_3_code 531 = .ok (.aload 5, 2) := by decide +kernel
theorem d1_533 : decode method_3_code 533 = .ok (.invokespecial 24, 3) := by decide +kernel
theorem d1_536 : decode method_3_code 536 = .ok (.areturn, 1) := by decide +kernel
theorem d1_537 : decode method_3_code 537 = .ok (.iload 4, 2) := by decide +kernel
theorem d1_539 : decode method_3_code 539 = .ok (.sipush 256, 3) := by decide +kernel
theorem d1_542 : decode method_3_code 542 = .ok (.iand, 1) := by decide +kernel
theorem d1_543 : decode method_3_code 543 = .ok (.ifCond .ne 14, 3) := by decide +kernel
theorem d1_546 : decode method_3_code 546 = .ok (.new 22, 3) := by decide +kernel
theorem d1_549 : decode method_3_code 549 = .ok (.dup, 1) := by decide +kernel
theorem d1_550 : decode method_3_code 550 = .ok (.iconst 0, 1) := by decide +kernel
theorem d1_551 : decode method_3_code 551 = .ok (.newarray .char, 2) := by decide +kernel
theorem d1_553 : decode method_3_code 553 = .ok (.invokespecial 24, 3) := by decide +kernel
theorem d1_556 : decode method_3_code 556 = .ok (.areturn, 1) := by decide +kernel
theorem d1_557 : decode method_3_code 557 = .ok (.new 22, 3) := by decide +kernel
theorem d1_560 : decode method_3_code 560 = .ok (.dup, 1) := by decide +kernel
theorem d1_561 : decode method_3_code 561 = .ok (.bipush 18, 2) := by decide +kernel
theorem d1_563 : decode method_3_code 563 = .ok (.newarray .char, 2) := by decide +kernel
theorem d1_565 : decode method_3_code 565 = .ok (.dup, 1) := by decide +kernel
theorem d1_566 : decode method_3_code 566 = .ok (.iconst 0, 1) := by decide +kernel
theorem d1_567 : decode method_3_code 567 = .ok (.bipush 111, 2) := by decide +kernel
theorem d1_569 : decode method_3_code 569 = .ok (.castore, 1) := by decide +kernel
theorem d1_570 : decode method_3_code 570 = .ok (.dup, 1) := by decide +kernel
theorem d1_571 : decode method_3_code 571 = .ok (.iconst 1, 1) := by decide +kernel
theorem d1_572 : decode method_3_code 572 = .ok (.bipush 118, 2) := by decide +kernel
theorem d1_574 : decode method_3_code 574 = .ok (.castore, 1) := by decide +kernel
theorem d1_575 : decode method_3_code 575 = .ok (.dup, 1) := by decide +kernel
theorem d1_576 : decode method_3_code 576 = .ok (.iconst 2, 1) := by decide +kernel
theorem d1_577 : decode method_3_code 577 = .ok (.bipush 101, 2) := by decide +kernel
theorem d1_579 : decode method_3_code 579 = .ok (.castore, 1) := by decide +kernel
theorem d1_580 : decode method_3_code 580 = .ok (.dup, 1) := by decide +kernel
theorem d1_581 : decode method_3_code 581 = .ok (.iconst 3, 1) := by decide +kernel
theorem d1_582 : decode method_3_code 582 = .ok (.bipush 114, 2) := by decide +kernel
theorem d1_584 : decode method_3_code 584 = .ok (.castore, 1) := by decide +kernel
theorem d1_585 : decode method_3_code 585 = .ok (.dup, 1) := by decide +kernel
theorem d1_586 : decode method_3_code 586 = .ok (.iconst 4, 1) := by decide +kernel
theorem d1_587 : decode method_3_code 587 = .ok (.bipush 108, 2) := by decide +kernel
theorem d1_589 : decode method_3_code 589 = .ok (.castore, 1) := by decide +kernel
theorem d1_590 : decode method_3_code 590 = .ok (.dup, 1) := by decide +kernel
theorem d1_591 : decode method_3_code 591 = .ok (.iconst 5, 1) := by decide +kernel
theorem d1_592 : decode method_3_code 592 = .ok (.bipush 111, 2) := by decide +kernel
theorem d1_594 : decode method_3_code 594 = .ok (.castore, 1) := by decide +kernel
theorem d1_595 : decode method_3_code 595 = .ok (.dup, 1) := by decide +kernel
theorem d1_596 : decode method_3_code 596 = .ok (.bipush 6, 2) := by decide +kernel
theorem d1_598 : decode method_3_code 598 = .ok (.bipush 97, 2) := by decide +kernel
theorem d1_600 : decode method_3_code 600 = .ok (.castore, 1) := by decide +kernel
theorem d1_601 : decode method_3_code 601 = .ok (.dup, 1) := by decide +kernel
theorem d1_602 : decode method_3_code 602 = .ok (.bipush 7, 2) := by decide +kernel
theorem d1_604 : decode method_3_code 604 = .ok (.bipush 100, 2) := by decide +kernel
theorem d1_606 : decode method_3_code 606 = .ok (.castore, 1) := by decide +kernel
theorem d1_607 : decode method_3_code 607 = .ok (.dup, 1) := by decide +kernel
theorem d1_608 : decode method_3_code 608 = .ok (.bipush 8, 2) := by decide +kernel
theorem d1_610 : decode method_3_code 610 = .ok (.bipush 101, 2) := by decide +kernel
theorem d1_612 : decode method_3_code 612 = .ok (.castore, 1) := by decide +kernel
theorem d1_613 : decode method_3_code 613 = .ok (.dup, 1) := by decide +kernel
theorem d1_614 : decode method_3_code 614 = .ok (.bipush 9, 2) := by decide +kernel
theorem d1_616 : decode method_3_code 616 = .ok (.bipush 100, 2) := by decide +kernel
theorem d1_618 : decode method_3_code 618 = .ok (.castore, 1) := by decide +kernel
theorem d1_619 : decode method_3_code 619 = .ok (.dup, 1) := by decide +kernel
theorem d1_620 : decode method_3_code 620 = .ok (.bipush 10, 2) := by decide +kernel
theorem d1_622 : decode method_3_code 622 = .ok (.bipush 45, 2) := by decide +kernel
theorem d1_624 : decode method_3_code 624 = .ok (.castore, 1) := by decide +kernel
theorem d1_625 : decode method_3_code 625 = .ok (.dup, 1) := by decide +kernel
theorem d1_626 : decode method_3_code 626 = .ok (.bipush 11, 2) := by decide +kernel
theorem d1_628 : decode method_3_code 628 = .ok (.bipush 110, 2) := by decide +kernel
theorem d1_630 : decode method_3_code 630 = .ok (.castore, 1) := by decide +kernel
theorem d1_631 : decode method_3_code 631 = .ok (.dup, 1) := by decide +kernel
theorem d1_632 : decode method_3_code 632 = .ok (.bipush 12, 2) := by decide +kernel
theorem d1_634 : decode method_3_code 634 = .ok (.bipush 111, 2) := by decide +kernel
theorem d1_636 : decode method_3_code 636 = .ok (.castore, 1) := by decide +kernel
theorem d1_637 : decode method_3_code 637 = .ok (.dup, 1) := by decide +kernel
theorem d1_638 : decode method_3_code 638 = .ok (.bipush 13, 2) := by decide +kernel
theorem d1_640 : decode method_3_code 640 = .ok (.bipush 45, 2) := by decide +kernel
theorem d1_642 : decode method_3_code 642 = .ok (.castore, 1) := by decide +kernel
theorem d1_643 : decode method_3_code 643 = .ok (.dup, 1) := by decide +kernel
theorem d1_644 : decode method_3_code 644 = .ok (.bipush 14, 2) := by decide +kernel
theorem d1_646 : decode method_3_code 646 = .ok (.bipush 114, 2) := by decide +kernel
theorem d1_648 : decode method_3_code 648 = .ok (.castore, 1) := by decide +kernel
theorem d1_649 : decode method_3_code 649 = .ok (.dup, 1) := by decide +kernel
theorem d1_650 : decode method_3_code 650 = .ok (.bipush 15, 2) := by decide +kernel
theorem d1_652 : decode method_3_code 652 = .ok (.bipush 101, 2) := by decide +kernel
theorem d1_654 : decode method_3_code 654 = .ok (.castore, 1) := by decide +kernel
theorem d1_655 : decode method_3_code 655 = .ok (.dup, 1) := by decide +kernel
theorem d1_656 : decode method_3_code 656 = .ok (.bipush 16, 2) := by decide +kernel
theorem d1_658 : decode method_3_code 658 = .ok (.bipush 116, 2) := by decide +kernel
theorem d1_660 : decode method_3_code 660 = .ok (.castore, 1) := by decide +kernel
theorem d1_661 : decode method_3_code 661 = .ok (.dup, 1) := by decide +kernel
theorem d1_662 : decode method_3_code 662 = .ok (.bipush 17, 2) := by decide +kernel
theorem d1_664 : decode method_3_code 664 = .ok (.bipush 114, 2) := by decide +kernel
theorem d1_666 : decode method_3_code 666 = .ok (.castore, 1) := by decide +kernel
theorem d1_667 : decode method_3_code 667 = .ok (.invokespecial 24, 3) := by decide +kernel
theorem d1_670 : decode method_3_code 670 = .ok (.areturn, 1) := by decide +kernel
theorem pn_1 : plainName "com/example/ventil/ventil/RejectionOfPinLaw" = true := by first | (simp [plainName, overriddenIn]; done) | decide +kernel
theorem pd___C_V : parseMethodDescriptor "([C)V" = some ⟨[(.array .char)], none⟩ := by decide +kernel
theorem ef_mk (m : MethodId) (x0 : Int32) (x1 : Int32) (x2 : Int32) (x3 : Int32) (x4 : Int32) : entryFrame m #[(.int x0), (.int x1), (.int x2), (.int x3), (.int x4)] 6 = mkF m 0 #[.val (.int x0), .val (.int x1), .val (.int x2), .val (.int x3), .val (.int x4), .unset] [] := by (first | (simp [entryFrame, mkF, argsToLocals, Value.category]; done) | rfl)
def Q_mk (Z : State) (p0 : Int32) (p1 : Int32) (p2 : Int32) (p3 : Int32) (p4 : Int32) (z : Int32) (h0 : Heap) (n0 : Nat) (v : Option Value) (h : Heap) (L : List Loc) : Prop := ∃ x : Value, v = some x ∧ Fr n0 L ∧ Keep h0 h [] ∧ own_hdr Z h x
set_option maxRecDepth 65536 in
set_option maxHeartbeats 40000000 in
theorem rm_mk (l : Launch) (Z : State) (a0 : Array Value) (hw : ∀ d ∈ tables_1, d.before a0 Z = true) (ws : List Jvm.Cond) (p0 : Int32) (p1 : Int32) (p2 : Int32) (p3 : Int32) (p4 : Int32) (z : Int32) (h0 : Heap) (n0 : Nat) (Z0 : n0 ≤ h0.size) (hEL : EW Z a0 consts_1) (O0 : Old Z n0 h0) (S2 : Sta Z Z.heap "java/lang/String" "COMPACT_STRINGS" "Z" (.int z)) (hz : ¬ z = 0) (hp2 : ¬ p2 < 0 ∧ ¬ (255 : Int32) < p2) (hp3 : ¬ p3 < 0 ∧ ¬ (255 : Int32) < p3) :
    MetFree l (⟨"com/example/ventil/ventil/RejectionOfPinLaw", "makeHeader", "(IICCI)Ljava/lang/String;"⟩ : MethodName) (head1 (Jvm.Cond.code (⟨"com/example/ventil/ventil/RejectionOfPinLaw", "makeHeader", "(IICCI)Ljava/lang/String;"⟩ : MethodName) method_3_code 6 (some (.object "java/lang/String")) :: ws) ({ frames := 4, cells := 4, slots := 42, locals := 66 } : Room)) (fun a U => a = #[(.int p0), (.int p1), (.int p2), (.int p3), (.int p4)] ∧ Z.Warmed39 U.vm ∧ U.heap = h0 ∧ CHv Z consts_1 U.vm h0) (fun _ _ _ _ _ => True) (fun _ U o U' => ∃ v L, o = .returned v ∧ Q_mk Z p0 p1 p2 p3 p4 z h0 n0 v U'.heap L ∧ CHr Z consts_1 U.vm U.heap U'.vm U'.heap ∧ ReturnedEndW U o U' L ({ frames := 4, cells := 4, slots := 42, locals := 66 } : Room).cells ({ frames := 4, cells := 4, slots := 42, locals := 66 } : Room).slots) := by
  refine MetFree.of_bodySF (plainFor_of_name pn_1) hisR ?_
  intro p e s m args below meth c s₁ Bd hml0 hP hK
  obtain ⟨rfl, hZ, hh, hCH0⟩ := hP
  have hx := Bd.exec
  have hby := Bd.bytes
  have hml : c.maxLocals = 6 := hml0
  have hown : s.vm.findClass "com/example/ventil/ventil/RejectionOfPinLaw" = some m.cls := findClass_of_methodNamed Bd.named
  have hnm := (name_of_methodNamed Bd.named Bd.method).1
  have X0 : Stand p l e ({ frames := 4, cells := 4, slots := 42, locals := 66 } : Room) s m #[(.int p0), (.int p1), (.int p2), (.int p3), (.int p4)] below meth c s₁ [] 0 0 := Stand.of_body Bd
  have e0 : s₁.heap = h0 := by rw [← hh, Bd.state]; rfl
  have N0 := Fr.nil n0
  have c0 : Goes p e below s₁ (entryFrame m #[(.int p0), (.int p1), (.int p2), (.int p3), (.int p4)] 6) s₁ (mkF m 0 #[.val (.int p0), .val (.int p1), .val (.int p2), .val (.int p3), .val (.int p4), .unset] []) := fun t k => castTop (ef_mk m p0 p1 p2 p3 p4) k
  have XW0 : Stand p l e ({ frames := 4, cells := 4, slots := 42, locals := 66 } : Room) (s.setVm s.vm) m #[(.int p0), (.int p1), (.int p2), (.int p3), (.int p4)] below meth c s₁ [] 0 0 := X0
  have SW0 : s.Since s.vm 0 := (State.WarmedH.refl s).since 0
  have c32 : Goes p e below s₁ (entryFrame m #[(.int p0), (.int p1), (.int p2), (.int p3), (.int p4)] 6) s₁ (mkF m 1 #[.val (.int p0), .val (.int p1), .val (.int p2), .val (.int p3), .val (.int p4), .unset] [(.int p0)]) := by
    intro t kk
    refine c0 t ?_
    show Steps p.tables e below (s₁.setTop (mkF m 0 #[.val (.int p0), .val (.int p1), .val (.int p2), .val (.int p3), .val (.int p4), .unset] [])) t
    refine XS.iloadN XW0.here hx rfl (hb hby d1_0) rfl ?_
    exact kk
  by_cases hc1_33 : p0 = (0 : Int32)
  · have c34 : Goes p e below s₁ (entryFrame m #[(.int p0), (.int p1), (.int p2), (.int p3), (.int p4)] 6) s₁ (mkF m 5 #[.val (.int p0), .val (.int p1), .val (.int p2), .val (.int p3), .val (.int p4), .unset] [.null]) := by
      intro t kk
      refine c32 t ?_
      show Steps p.tables e below (s₁.setTop (mkF m 1 #[.val (.int p0), .val (.int p1), .val (.int p2), .val (.int p3), .val (.int p4), .unset] [(.int p0)])) t
      refine XS.ifNo XW0.here hx rfl (hb hby d1_1) rfl ((if0 _ _).trans (teq hc1_33).2) ?_
      show Steps p.tables e below (s₁.setTop (mkF m 4 #[.val (.int p0), .val (.int p1), .val (.int p2), .val (.int p3), .val (.int p4), .unset] [])) t
      refine XS.aconstNull XW0.here hx rfl (hb hby d1_4) ?_
      exact kk
    obtain ⟨fs, hr, hrun, hended, hRW⟩ := XW0.leaveW SW0 (by rw [e0]; exact (Nat.zero_le _)) (v := some .null) (fun h => by rw [Bd.returns] at h; cases h)
    have hCRe := (CHr.keep (Keep.refl h0 []) sf0 hCH0)
    have hCRt : CHr Z consts_1 s.vm s.heap (s₁.setFrames fs).vm (s₁.setFrames fs).heap := by
      rw [hh]
      show CHr Z consts_1 s.vm h0 s₁.vm s₁.heap
      rw [e0]
      exact hCRe.trans (CHv.at XW0 hZ hEL hCRe.1)
    refine ⟨_, _, c34 _ ?_, hrun, hended, _, _, rfl, ?_, hCRt, hRW.1, hRW.2.1, hRW.2.2.1, hRW.2.2.2.mono (by decide) (by decide)⟩
    · exact retOut XW0 hx Bd.returns rfl (Or.inr (Or.inr (Or.inr (Or.inr ⟨rfl, rfl, rfl⟩)))) (hb hby d1_5) hr
    · show Q_mk Z p0 p1 p2 p3 p4 z h0 n0 _ s₁.heap _
      rw [e0]
      exact ⟨.null, rfl, N0, (Keep.refl h0 []), Or.inl rfl⟩
  · have c35 : Goes p e below s₁ (entryFrame m #[(.int p0), (.int p1), (.int p2), (.int p3), (.int p4)] 6) s₁ (mkF m 8 #[.val (.int p0), .val (.int p1), .val (.int p2), .val (.int p3), .val (.int p4), .unset] [(.int (1 : Int32)), (.int p0)]) := by
      intro t kk
      refine c32 t ?_
      show Steps p.tables e below (s₁.setTop (mkF m 1 #[.val (.int p0), .val (.int p1), .val (.int p2), .val (.int p3), .val (.int p4), .unset] [(.int p0)])) t
      refine XS.ifYes XW0.here hx rfl (pc0 := 1) (pc' := 6) rfl (hb hby d1_1) rfl ((if0 _ _).trans (feq hc1_33).2) (by decide) (by decide) ?_
      show Steps p.tables e below (s₁.setTop (mkF m 6 #[.val (.int p0), .val (.int p1), .val (.int p2), .val (.int p3), .val (.int p4), .unset] [])) t
      refine XS.iloadN XW0.here hx rfl (hb hby d1_6) rfl ?_
      show Steps p.tables e below (s₁.setTop (mkF m 7 #[.val (.int p0), .val (.int p1), .val (.int p2), .val (.int p3), .val (.int p4), .unset] [(.int p0)])) t
      refine XS.iconst XW0.here hx rfl (hb hby d1_7) ?_
      exact kk
    by_cases hc8_36 : p0 = (1 : Int32)
    · have c37 : Goes p e below s₁ (entryFrame m #[(.int p0), (.int p1), (.int p2), (.int p3), (.int p4)] 6) s₁ (mkF m 11 #[.val (.int p0), .val (.int p1), .val (.int p2), .val (.int p3), .val (.int p4), .unset] []) := by
        intro t kk
        refine c35 t ?_
        show Steps p.tables e below (s₁.setTop (mkF m 8 #[.val (.int p0), .val (.int p1), .val (.int p2), .val (.int p3), .val (.int p4), .unset] [(.int (1 : Int32)), (.int p0)])) t
        refine XS.icmpNo XW0.here hx rfl (hb hby d1_8) rfl (teq hc8_36).2 ?_
        exact kk
      obtain ⟨T38, h38, X38, e38, E38, A38, D38, -, st38⟩ := newO XW0 hx hZ hown (hw _ (List.mem_of_getElem? (i := 18) rfl)) (hw _ (List.mem_of_getElem? (i := 19) rfl)) (hw _ (List.mem_of_getElem? (i := 20) rfl)) e0 (g := (mkF m 11 #[.val (.int p0), .val (.int p1), .val (.int p2), .val (.int p3), .val (.int p4), .unset] [])) rfl (hb hby d1_11) (by decide) (by decide)
      obtain ⟨b38, g38⟩ : ∃ z, z = h0.size := ⟨_, rfl⟩
      rw [← g38] at A38 D38 st38
      have gb38 : n0 ≤ b38 := Nat.le_trans Z0 (Nat.le_of_eq g38.symm)
      have szbb38_38 : h0.size ≤ b38 := Nat.le_trans (Keep.refl h0 []).1 (Nat.le_of_eq g38.symm)
      have szb38_38 : h0.size ≤ b38 := Nat.le_trans (Keep.refl h0 []).1 (Nat.le_of_eq g38.symm)
      have F_coder_b38 : Fld Z h38 b38 "java/lang/String" "coder" "B" (.int (0 : Int32)) := D38 (Or.inr (hw _ (List.mem_of_getElem? (i := 44) rfl))) (ty := .byte) (by decide)
      have F_value_b38 : Fld Z h38 b38 "java/lang/String" "value" "[B" .null := D38 (Or.inr (hw _ (List.mem_of_getElem? (i := 46) rfl))) (ty := (.array .byte)) (by decide)
      have c39 : Goes p e below s₁ (entryFrame m #[(.int p0), (.int p1), (.int p2), (.int p3), (.int p4)] 6) T38 (mkF m 14 #[.val (.int p0), .val (.int p1), .val (.int p2), .val (.int p3), .val (.int p4), .unset] [(.ref b38)]) := fun t kk => c37 t (st38 t kk)
      have c40 : Goes p e below s₁ (entryFrame m #[(.int p0), (.int p1), (.int p2), (.int p3), (.int p4)] 6) T38 (mkF m 17 #[.val (.int p0), .val (.int p1), .val (.int p2), .val (.int p3), .val (.int p4), .unset] [(.int (10 : Int32)), (.ref b38), (.ref b38)]) := by
        intro t kk
        refine c39 t ?_
        show Steps p.tables e below (T38.setTop (mkF m 14 #[.val (.int p0), .val (.int p1), .val (.int p2), .val (.int p3), .val (.int p4), .unset] [(.ref b38)])) t
        refine XS.dup X38.here hx rfl (hb hby d1_14) rfl rfl ?_
        show Steps p.tables e below (T38.setTop (mkF m 15 #[.val (.int p0), .val (.int p1), .val (.int p2), .val (.int p3), .val (.int p4), .unset] [(.ref b38), (.ref b38)])) t
        refine XS.bipush X38.here hx rfl (hb hby d1_15) ?_
        exact kk
      obtain ⟨T41, h41, k41, X41, e41, E41, A41, st41⟩ := newP X38 hx hZ (hw _ (List.mem_of_getElem? (i := 17) rfl)) e38 (g := (mkF m 17 #[.val (.int p0), .val (.int p1), .val (.int p2), .val (.int p3), .val (.int p4), .unset] [(.int (10 : Int32)), (.ref b38), (.ref b38)])) rfl (hb hby d1_17) rfl (by decide) (cap := 10) (by decide) (by decide) (by decide) (by decide)
      obtain ⟨b41, g41⟩ : ∃ z, z = h38.size := ⟨_, rfl⟩
      rw [← g41] at A41 st41
      have f42 := (Nat.le_trans Z0 E38.1)
      have gb41 : n0 ≤ b41 := Nat.le_trans f42 (Nat.le_of_eq g41.symm)
      have neb38_41 : b38 ≠ b41 := Nat.ne_of_lt (Nat.lt_of_lt_of_le A38.lt (Nat.le_of_eq g41.symm))
      have f43 := ((Keep.refl h0 []).ext E38)
      have szbb41_41 : h0.size ≤ b41 := Nat.le_trans f43.1 (Nat.le_of_eq g41.symm)
      have f44 := ((Keep.refl h0 []).ext E38)
      have szb41_41 : h0.size ≤ b41 := Nat.le_trans f44.1 (Nat.le_of_eq g41.symm)
      have V41 : Arv Z h41 b41 k41 .char (10 : Int32) [(.int (0 : Int32)), (.int (0 : Int32)), (.int (0 : Int32)), (.int (0 : Int32)), (.int (0 : Int32)), (.int (0 : Int32)), (.int (0 : Int32)), (.int (0 : Int32)), (.int (0 : Int32)), (.int (0 : Int32))] (.int (0 : Int32)) := (Arv.new A41 (by decide)).pad (pad_rep [] (.int (0 : Int32)) 10)
      have c45 : Goes p e below s₁ (entryFrame m #[(.int p0), (.int p1), (.int p2), (.int p3), (.int p4)] 6) T41 (mkF m 19 #[.val (.int p0), .val (.int p1), .val (.int p2), .val (.int p3), .val (.int p4), .unset] [(.ref b41), (.ref b38), (.ref b38)]) := fun t kk => c40 t (st41 t kk)
      have c46 : Goes p e below s₁ (entryFrame m #[(.int p0), (.int p1), (.int p2), (.int p3), (.int p4)] 6) T41 (mkF m 23 #[.val (.int p0), .val (.int p1), .val (.int p2), .val (.int p3), .val (.int p4), .unset] [(.int (111 : Int32)), (.int (0 : Int32)), (.ref b41), (.ref b41), (.ref b38), (.ref b38)]) := by
        intro t kk
        refine c45 t ?_
        show Steps p.tables e below (T41.setTop (mkF m 19 #[.val (.int p0), .val (.int p1), .val (.int p2), .val (.int p3), .val (.int p4), .unset] [(.ref b41), (.ref b38), (.ref b38)])) t
        refine XS.dup X41.here hx rfl (hb hby d1_19) rfl rfl ?_
        show Steps p.tables e below (T41.setTop (mkF m 20 #[.val (.int p0), .val (.int p1), .val (.int p2), .val (.int p3), .val (.int p4), .unset] [(.ref b41), (.ref b41), (.ref b38), (.ref b38)])) t
        refine XS.iconst X41.here hx rfl (hb hby d1_20) ?_
        show Steps p.tables e below (T41.setTop (mkF m 21 #[.val (.int p0), .val (.int p1), .val (.int p2), .val (.int p3), .val (.int p4), .unset] [(.int (0 : Int32)), (.ref b41), (.ref b41), (.ref b38), (.ref b38)])) t
        refine XS.bipush X41.here hx rfl (hb hby d1_21) ?_
        exact kk
      obtain ⟨cl47, Ar47, q47, Sz47, Nn47, Hh47, Gg47⟩ := id V41
      have hin47 : ¬ ((0 : Int32) < 0 ∨ cl47.slots.size ≤ ((0 : Int32)).toNatClampNeg) := inb_of Sz47 ⟨by decide, by decide⟩
      obtain ⟨T47, h47, X47, e47, W47, st47⟩ := stC X41 hx hZ e41 Ar47 (j := (0 : Int32)) hin47 (g := (mkF m 23 #[.val (.int p0), .val (.int p1), .val (.int p2), .val (.int p3), .val (.int p4), .unset] [(.int (111 : Int32)), (.int (0 : Int32)), (.ref b41), (.ref b41), (.ref b38), (.ref b38)])) rfl rfl (hb hby d1_23)
      have V47 := Arv.set Ar47 q47 Sz47 Nn47 Hh47 Gg47 (fits_nar_char _) W47 0 rfl (Nat.le_of_ble_eq_true rfl)
      have N47 := Fr.snoc X47 N0 gb41
      have c48 : Goes p e below s₁ (entryFrame m #[(.int p0), (.int p1), (.int p2), (.int p3), (.int p4)] 6) T47 (mkF m 24 #[.val (.int p0), .val (.int p1), .val (.int p2), .val (.int p3), .val (.int p4), .unset] [(.ref b41), (.ref b38), (.ref b38)]) := fun t kk => c46 t (st47 t kk)
      have c49 : Goes p e below s₁ (entryFrame m #[(.int p0), (.int p1), (.int p2), (.int p3), (.int p4)] 6) T47 (mkF m 28 #[.val (.int p0), .val (.int p1), .val (.int p2), .val (.int p3), .val (.int p4), .unset] [(.int (118 : Int32)), (.int (1 : Int32)), (.ref b41), (.ref b41), (.ref b38), (.ref b38)]) := by
        intro t kk
        refine c48 t ?_
        show Steps p.tables e below (T47.setTop (mkF m 24 #[.val (.int p0), .val (.int p1), .val (.int p2), .val (.int p3), .val (.int p4), .unset] [(.ref b41), (.ref b38), (.ref b38)])) t
        refine XS.dup X47.here hx rfl (hb hby d1_24) rfl rfl ?_
        show Steps p.tables e below (T47.setTop (mkF m 25 #[.val (.int p0), .val (.int p1), .val (.int p2), .val (.int p3), .val (.int p4), .unset] [(.ref b41), (.ref b41), (.ref b38), (.ref b38)])) t
        refine XS.iconst X47.here hx rfl (hb hby d1_25) ?_
        show Steps p.tables e below (T47.setTop (mkF m 26 #[.val (.int p0), .val (.int p1), .val (.int p2), .val (.int p3), .val (.int p4), .unset] [(.int (1 : Int32)), (.ref b41), (.ref b41), (.ref b38), (.ref b38)])) t
        refine XS.bipush X47.here hx rfl (hb hby d1_26) ?_
        exact kk
      obtain ⟨cl50, Ar50, q50, Sz50, Nn50, Hh50, Gg50⟩ := id V47
      have hin50 : ¬ ((1 : Int32) < 0 ∨ cl50.slots.size ≤ ((1 : Int32)).toNatClampNeg) := inb_of Sz50 ⟨by decide, by decide⟩
      obtain ⟨T50, h50, X50, e50, W50, st50⟩ := stC X47 hx hZ e47 Ar50 (j := (1 : Int32)) hin50 (g := (mkF m 28 #[.val (.int p0), .val (.int p1), .val (.int p2), .val (.int p3), .val (.int p4), .unset] [(.int (118 : Int32)), (.int (1 : Int32)), (.ref b41), (.ref b41), (.ref b38), (.ref b38)])) rfl rfl (hb hby d1_28)
      have V50 := Arv.set Ar50 q50 Sz50 Nn50 Hh50 Gg50 (fits_nar_char _) W50 1 rfl (Nat.le_of_ble_eq_true rfl)
      have N50 := Fr.snoc X50 N47 gb41
      have c51 : Goes p e below s₁ (entryFrame m #[(.int p0), (.int p1), (.int p2), (.int p3), (.int p4)] 6) T50 (mkF m 29 #[.val (.int p0), .val (.int p1), .val (.int p2), .val (.int p3), .val (.int p4), .unset] [(.ref b41), (.ref b38), (.ref b38)]) := fun t kk => c49 t (st50 t kk)
      have c52 : Goes p e below s₁ (entryFrame m #[(.int p0), (.int p1), (.int p2), (.int p3), (.int p4)] 6) T50 (mkF m 33 #[.val (.int p0), .val (.int p1), .val (.int p2), .val (.int p3), .val (.int p4), .unset] [(.int (101 : Int32)), (.int (2 : Int32)), (.ref b41), (.ref b41), (.ref b38), (.ref b38)]) := by
        intro t kk
        refine c51 t ?_
        show Steps p.tables e below (T50.setTop (mkF m 29 #[.val (.int p0), .val (.int p1), .val (.int p2), .val (.int p3), .val (.int p4), .unset] [(.ref b41), (.ref b38), (.ref b38)])) t
        refine XS.dup X50.here hx rfl (hb hby d1_29) rfl rfl ?_
        show Steps p.tables e below (T50.setTop (mkF m 30 #[.val (.int p0), .val (.int p1), .val (.int p2), .val (.int p3), .val (.int p4), .unset] [(.ref b41), (.ref b41), (.ref b38), (.ref b38)])) t
        refine XS.iconst X50.here hx rfl (hb hby d1_30) ?_
        show Steps p.tables e below (T50.setTop (mkF m 31 #[.val (.int p0), .val (.int p1), .val (.int p2), .val (.int p3), .val (.int p4), .unset] [(.int (2 : Int32)), (.ref b41), (.ref b41), (.ref b38), (.ref b38)])) t
        refine XS.bipush X50.here hx rfl (hb hby d1_31) ?_
        exact kk
      obtain ⟨cl53, Ar53, q53, Sz53, Nn53, Hh53, Gg53⟩ := id V50
      have hin53 : ¬ ((2 : Int32) < 0 ∨ cl53.slots.size ≤ ((2 : Int32)).toNatClampNeg) := inb_of Sz53 ⟨by decide, by decide⟩
      obtain ⟨T53, h53, X53, e53, W53, st53⟩ := stC X50 hx hZ e50 Ar53 (j := (2 : Int32)) hin53 (g := (mkF m 33 #[.val (.int p0), .val (.int p1), .val (.int p2), .val (.int p3), .val (.int p4), .unset] [(.int (101 : Int32)), (.int (2 : Int32)), (.ref b41), (.ref b41), (.ref b38), (.ref b38)])) rfl rfl (hb hby d1_33)
      have V53 := Arv.set Ar53 q53 Sz53 Nn53 Hh53 Gg53 (fits_nar_char _) W53 2 rfl (Nat.le_of_ble_eq_true rfl)
      have N53 := Fr.snoc X53 N50 gb41
      have c54 : Goes p e below s₁ (entryFrame m #[(.int p0), (.int p1), (.int p2), (.int p3), (.int p4)] 6) T53 (mkF m 34 #[.val (.int p0), .val (.int p1), .val (.int p2), .val (.int p3), .val (.int p4), .unset] [(.ref b41), (.ref b38), (.ref b38)]) := fun t kk => c52 t (st53 t kk)
      have c55 : Goes p e below s₁ (entryFrame m #[(.int p0), (.int p1), (.int p2), (.int p3), (.int p4)] 6) T53 (mkF m 38 #[.val (.int p0), .val (.int p1), .val (.int p2), .val (.int p3), .val (.int p4), .unset] [(.int (114 : Int32)), (.int (3 : Int32)), (.ref b41), (.ref b41), (.ref b38), (.ref b38)]) := by
        intro t kk
        refine c54 t ?_
        show Steps p.tables e below (T53.setTop (mkF m 34 #[.val (.int p0), .val (.int p1), .val (.int p2), .val (.int p3), .val (.int p4), .unset] [(.ref b41), (.ref b38), (.ref b38)])) t
        refine XS.dup X53.here hx rfl (hb hby d1_34) rfl rfl ?_
        show Steps p.tables e below (T53.setTop (mkF m 35 #[.val (.int p0), .val (.int p1), .val (.int p2), .val (.int p3), .val (.int p4), .unset] [(.ref b41), (.ref b41), (.ref b38), (.ref b38)])) t
        refine XS.iconst X53.here hx rfl (hb hby d1_35) ?_
        show Steps p.tables e below (T53.setTop (mkF m 36 #[.val (.int p0), .val (.int p1), .val (.int p2), .val (.int p3), .val (.int p4), .unset] [(.int (3 : Int32)), (.ref b41), (.ref b41), (.ref b38), (.ref b38)])) t
        refine XS.bipush X53.here hx rfl (hb hby d1_36) ?_
        exact kk
      obtain ⟨cl56, Ar56, q56, Sz56, Nn56, Hh56, Gg56⟩ := id V53
      have hin56 : ¬ ((3 : Int32) < 0 ∨ cl56.slots.size ≤ ((3 : Int32)).toNatClampNeg) := inb_of Sz56 ⟨by decide, by decide⟩
      obtain ⟨T56, h56, X56, e56, W56, st56⟩ := stC X53 hx hZ e53 Ar56 (j := (3 : Int32)) hin56 (g := (mkF m 38 #[.val (.int p0), .val (.int p1), .val (.int p2), .val (.int p3), .val (.int p4), .unset] [(.int (114 : Int32)), (.int (3 : Int32)), (.ref b41), (.ref b41), (.ref b38), (.ref b38)])) rfl rfl (hb hby d1_38)
      have V56 := Arv.set Ar56 q56 Sz56 Nn56 Hh56 Gg56 (fits_nar_char _) W56 3 rfl (Nat.le_of_ble_eq_true rfl)
      have N56 := Fr.snoc X56 N53 gb41
      have c57 : Goes p e below s₁ (entryFrame m #[(.int p0), (.int p1), (.int p2), (.int p3), (.int p4)] 6) T56 (mkF m 39 #[.val (.int p0), .val (.int p1), .val (.int p2), .val (.int p3), .val (.int p4), .unset] [(.ref b41), (.ref b38), (.ref b38)]) := fun t kk => c55 t (st56 t kk)
      have c58 : Goes p e below s₁ (entryFrame m #[(.int p0), (.int p1), (.int p2), (.int p3), (.int p4)] 6) T56 (mkF m 43 #[.val (.int p0), .val (.int p1), .val (.int p2), .val (.int p3), .val (.int p4), .unset] [(.int (108 : Int32)), (.int (4 : Int32)), (.ref b41), (.ref b41), (.ref b38), (.ref b38)]) := by
        intro t kk
        refine c57 t ?_
        show Steps p.tables e below (T56.setTop (mkF m 39 #[.val (.int p0), .val (.int p1), .val (.int p2), .val (.int p3), .val (.int p4), .unset] [(.ref b41), (.ref b38), (.ref b38)])) t
        refine XS.dup X56.here hx rfl (hb hby d1_39) rfl rfl ?_
        show Steps p.tables e below (T56.setTop (mkF m 40 #[.val (.int p0), .val (.int p1), .val (.int p2), .val (.int p3), .val (.int p4), .unset] [(.ref b41), (.ref b41), (.ref b38), (.ref b38)])) t
        refine XS.iconst X56.here hx rfl (hb hby d1_40) ?_
        show Steps p.tables e below (T56.setTop (mkF m 41 #[.val (.int p0), .val (.int p1), .val (.int p2), .val (.int p3), .val (.int p4), .unset] [(.int (4 : Int32)), (.ref b41), (.ref b41), (.ref b38), (.ref b38)])) t
        refine XS.bipush X56.here hx rfl (hb hby d1_41) ?_
        exact kk
      obtain ⟨cl59, Ar59, q59, Sz59, Nn59, Hh59, Gg59⟩ := id V56
      have hin59 : ¬ ((4 : Int32) < 0 ∨ cl59.slots.size ≤ ((4 : Int32)).toNatClampNeg) := inb_of Sz59 ⟨by decide, by decide⟩
      obtain ⟨T59, h59, X59, e59, W59, st59⟩ := stC X56 hx hZ e56 Ar59 (j := (4 : Int32)) hin59 (g := (mkF m 43 #[.val (.int p0), .val (.int p1), .val (.int p2), .val (.int p3), .val (.int p4), .unset] [(.int (108 : Int32)), (.int (4 : Int32)), (.ref b41), (.ref b41), (.ref b38), (.ref b38)])) rfl rfl (hb hby d1_43)
      have V59 := Arv.set Ar59 q59 Sz59 Nn59 Hh59 Gg59 (fits_nar_char _) W59 4 rfl (Nat.le_of_ble_eq_true rfl)
      have N59 := Fr.snoc X59 N56 gb41
      have c60 : Goes p e below s₁ (entryFrame m #[(.int p0), (.int p1), (.int p2), (.int p3), (.int p4)] 6) T59 (mkF m 44 #[.val (.int p0), .val (.int p1), .val (.int p2), .val (.int p3), .val (.int p4), .unset] [(.ref b41), (.ref b38), (.ref b38)]) := fun t kk => c58 t (st59 t kk)
      have c61 : Goes p e below s₁ (entryFrame m #[(.int p0), (.int p1), (.int p2), (.int p3), (.int p4)] 6) T59 (mkF m 48 #[.val (.int p0), .val (.int p1), .val (.int p2), .val (.int p3), .val (.int p4), .unset] [(.int (111 : Int32)), (.int (5 : Int32)), (.ref b41), (.ref b41), (.ref b38), (.ref b38)]) := by
        intro t kk
        refine c60 t ?_
        show Steps p.tables e below (T59.setTop (mkF m 44 #[.val (.int p0), .val (.int p1), .val (.int p2), .val (.int p3), .val (.int p4), .unset] [(.ref b41), (.ref b38), (.ref b38)])) t
        refine XS.dup X59.here hx rfl (hb hby d1_44) rfl rfl ?_
        show Steps p.tables e below (T59.setTop (mkF m 45 #[.val (.int p0), .val (.int p1), .val (.int p2), .val (.int p3), .val (.int p4), .unset] [(.ref b41), (.ref b41), (.ref b38), (.ref b38)])) t
        refine XS.iconst X59.here hx rfl (hb hby d1_45) ?_
        show Steps p.tables e below (T59.setTop (mkF m 46 #[.val (.int p0), .val (.int p1), .val (.int p2), .val (.int p3), .val (.int p4), .unset] [(.int (5 : Int32)), (.ref b41), (.ref b41), (.ref b38), (.ref b38)])) t
        refine XS.bipush X59.here hx rfl (hb hby d1_46) ?_
        exact kk
      obtain ⟨cl62, Ar62, q62, Sz62, Nn62, Hh62, Gg62⟩ := id V59
      have hin62 : ¬ ((5 : Int32) < 0 ∨ cl62.slots.size ≤ ((5 : Int32)).toNatClampNeg) := inb_of Sz62 ⟨by decide, by decide⟩
      obtain ⟨T62, h62, X62, e62, W62, st62⟩ := stC X59 hx hZ e59 Ar62 (j := (5 : Int32)) hin62 (g := (mkF m 48 #[.val (.int p0), .val (.int p1), .val (.int p2), .val (.int p3), .val (.int p4), .unset] [(.int (111 : Int32)), (.int (5 : Int32)), (.ref b41), (.ref b41), (.ref b38), (.ref b38)])) rfl rfl (hb hby d1_48)
      have V62 := Arv.set Ar62 q62 Sz62 Nn62 Hh62 Gg62 (fits_nar_char _) W62 5 rfl (Nat.le_of_ble_eq_true rfl)
      have N62 := Fr.snoc X62 N59 gb41
      have c63 : Goes p e below s₁ (entryFrame m #[(.int p0), (.int p1), (.int p2), (.int p3), (.int p4)] 6) T62 (mkF m 49 #[.val (.int p0), .val (.int p1), .val (.int p2), .val (.int p3), .val (.int p4), .unset] [(.ref b41), (.ref b38), (.ref b38)]) := fun t kk => c61 t (st62 t kk)
      have c64 : Goes p e below s₁ (entryFrame m #[(.int p0), (.int p1), (.int p2), (.int p3), (.int p4)] 6) T62 (mkF m 54 #[.val (.int p0), .val (.int p1), .val (.int p2), .val (.int p3), .val (.int p4), .unset] [(.int (97 : Int32)), (.int (6 : Int32)), (.ref b41), (.ref b41), (.ref b38), (.ref b38)]) := by
        intro t kk
        refine c63 t ?_
        show Steps p.tables e below (T62.setTop (mkF m 49 #[.val (.int p0), .val (.int p1), .val (.int p2), .val (.int p3), .val (.int p4), .unset] [(.ref b41), (.ref b38), (.ref b38)])) t
        refine XS.dup X62.here hx rfl (hb hby d1_49) rfl rfl ?_
        show Steps p.tables e below (T62.setTop (mkF m 50 #[.val (.int p0), .val (.int p1), .val (.int p2), .val (.int p3), .val (.int p4), .unset] [(.ref b41), (.ref b41), (.ref b38), (.ref b38)])) t
        refine XS.bipush X62.here hx rfl (hb hby d1_50) ?_
        show Steps p.tables e below (T62.setTop (mkF m 52 #[.val (.int p0), .val (.int p1), .val (.int p2), .val (.int p3), .val (.int p4), .unset] [(.int (6 : Int32)), (.ref b41), (.ref b41), (.ref b38), (.ref b38)])) t
        refine XS.bipush X62.here hx rfl (hb hby d1_52) ?_
        exact kk
      obtain ⟨cl65, Ar65, q65, Sz65, Nn65, Hh65, Gg65⟩ := id V62
      have hin65 : ¬ ((6 : Int32) < 0 ∨ cl65.slots.size ≤ ((6 : Int32)).toNatClampNeg) := inb_of Sz65 ⟨by decide, by decide⟩
      obtain ⟨T65, h65, X65, e65, W65, st65⟩ := stC X62 hx hZ e62 Ar65 (j := (6 : Int32)) hin65 (g := (mkF m 54 #[.val (.int p0), .val (.int p1), .val (.int p2), .val (.int p3), .val (.int p4), .unset] [(.int (97 : Int32)), (.int (6 : Int32)), (.ref b41), (.ref b41), (.ref b38), (.ref b38)])) rfl rfl (hb hby d1_54)
      have V65 := Arv.set Ar65 q65 Sz65 Nn65 Hh65 Gg65 (fits_nar_char _) W65 6 rfl (Nat.le_of_ble_eq_true rfl)
      have N65 := Fr.snoc X65 N62 gb41
      have c66 : Goes p e below s₁ (entryFrame m #[(.int p0), (.int p1), (.int p2), (.int p3), (.int p4)] 6) T65 (mkF m 55 #[.val (.int p0), .val (.int p1), .val (.int p2), .val (.int p3), .val (.int p4), .unset] [(.ref b41), (.ref b38), (.ref b38)]) := fun t kk => c64 t (st65 t kk)
      have c67 : Goes p e below s₁ (entryFrame m #[(.int p0), (.int p1), (.int p2), (.int p3), (.int p4)] 6) T65 (mkF m 60 #[.val (.int p0), .val (.int p1), .val (.int p2), .val (.int p3), .val (.int p4), .unset] [(.int (100 : Int32)), (.int (7 : Int32)), (.ref b41), (.ref b41), (.ref b38), (.ref b38)]) := by
        intro t kk
        refine c66 t ?_
        show Steps p.tables e below (T65.setTop (mkF m 55 #[.val (.int p0), .val (.int p1), .val (.int p2), .val (.int p3), .val (.int p4), .unset] [(.ref b41), (.ref b38), (.ref b38)])) t
        refine XS.dup X65.here hx rfl (hb hby d1_55) rfl rfl ?_
        show Steps p.tables e below (T65.setTop (mkF m 56 #[.val (.int p0), .val (.int p1), .val (.int p2), .val (.int p3), .val (.int p4), .unset] [(.ref b41), (.ref b41), (.ref b38), (.ref b38)])) t
        refine XS.bipush X65.here hx rfl (hb hby d1_56) ?_
        show Steps p.tables e below (T65.setTop (mkF m 58 #[.val (.int p0), .val (.int p1), .val (.int p2), .val (.int p3), .val (.int p4), .unset] [(.int (7 : Int32)), (.ref b41), (.ref b41), (.ref b38), (.ref b38)])) t
        refine XS.bipush X65.here hx rfl (hb hby d1_58) ?_
        exact kk
      obtain ⟨cl68, Ar68, q68, Sz68, Nn68, Hh68, Gg68⟩ := id V65
      have hin68 : ¬ ((7 : Int32) < 0 ∨ cl68.slots.size ≤ ((7 : Int32)).toNatClampNeg) := inb_of Sz68 ⟨by decide, by decide⟩
      obtain ⟨T68, h68, X68, e68, W68, st68⟩ := stC X65 hx hZ e65 Ar68 (j := (7 : Int32)) hin68 (g := (mkF m 60 #[.val (.int p0), .val (.int p1), .val (.int p2), .val (.int p3), .val (.int p4), .unset] [(.int (100 : Int32)), (.int (7 : Int32)), (.ref b41), (.ref b41), (.ref b38), (.ref b38)])) rfl rfl (hb hby d1_60)
      have V68 := Arv.set Ar68 q68 Sz68 Nn68 Hh68 Gg68 (fits_nar_char _) W68 7 rfl (Nat.le_of_ble_eq_true rfl)
      have N68 := Fr.snoc X68 N65 gb41
      have c69 : Goes p e below s₁ (entryFrame m #[(.int p0), (.int p1), (.int p2), (.int p3), (.int p4)] 6) T68 (mkF m 61 #[.val (.int p0), .val (.int p1), .val (.int p2), .val (.int p3), .val (.int p4), .unset] [(.ref b41), (.ref b38), (.ref b38)]) := fun t kk => c67 t (st68 t kk)
      have c70 : Goes p e below s₁ (entryFrame m #[(.int p0), (.int p1), (.int p2), (.int p3), (.int p4)] 6) T68 (mkF m 66 #[.val (.int p0), .val (.int p1), .val (.int p2), .val (.int p3), .val (.int p4), .unset] [(.int (101 : Int32)), (.int (8 : Int32)), (.ref b41), (.ref b41), (.ref b38), (.ref b38)]) := by
        intro t kk
        refine c69 t ?_
        show Steps p.tables e below (T68.setTop (mkF m 61 #[.val (.int p0), .val (.int p1), .val (.int p2), .val (.int p3), .val (.int p4), .unset] [(.ref b41), (.ref b38), (.ref b38)])) t
        refine XS.dup X68.here hx rfl (hb hby d1_61) rfl rfl ?_
        show Steps p.tables e below (T68.setTop (mkF m 62 #[.val (.int p0), .val (.int p1), .val (.int p2), .val (.int p3), .val (.int p4), .unset] [(.ref b41), (.ref b41), (.ref b38), (.ref b38)])) t
        refine XS.bipush X68.here hx rfl (hb hby d1_62) ?_
        show Steps p.tables e below (T68.setTop (mkF m 64 #[.val (.int p0), .val (.int p1), .val (.int p2), .val (.int p3), .val (.int p4), .unset] [(.int (8 : Int32)), (.ref b41), (.ref b41), (.ref b38), (.ref b38)])) t
        refine XS.bipush X68.here hx rfl (hb hby d1_64) ?_
        exact kk
      obtain ⟨cl71, Ar71, q71, Sz71, Nn71, Hh71, Gg71⟩ := id V68
      have hin71 : ¬ ((8 : Int32) < 0 ∨ cl71.slots.size ≤ ((8 : Int32)).toNatClampNeg) := inb_of Sz71 ⟨by decide, by decide⟩
      obtain ⟨T71, h71, X71, e71, W71, st71⟩ := stC X68 hx hZ e68 Ar71 (j := (8 : Int32)) hin71 (g := (mkF m 66 #[.val (.int p0), .val (.int p1), .val (.int p2), .val (.int p3), .val (.int p4), .unset] [(.int (101 : Int32)), (.int (8 : Int32)), (.ref b41), (.ref b41), (.ref b38), (.ref b38)])) rfl rfl (hb hby d1_66)
      have V71 := Arv.set Ar71 q71 Sz71 Nn71 Hh71 Gg71 (fits_nar_char _) W71 8 rfl (Nat.le_of_ble_eq_true rfl)
      have N71 := Fr.snoc X71 N68 gb41
      have c72 : Goes p e below s₁ (entryFrame m #[(.int p0), (.int p1), (.int p2), (.int p3), (.int p4)] 6) T71 (mkF m 67 #[.val (.int p0), .val (.int p1), .val (.int p2), .val (.int p3), .val (.int p4), .unset] [(.ref b41), (.ref b38), (.ref b38)]) := fun t kk => c70 t (st71 t kk)
      have c73 : Goes p e below s₁ (entryFrame m #[(.int p0), (.int p1), (.int p2), (.int p3), (.int p4)] 6) T71 (mkF m 72 #[.val (.int p0), .val (.int p1), .val (.int p2), .val (.int p3), .val (.int p4), .unset] [(.int (100 : Int32)), (.int (9 : Int32)), (.ref b41), (.ref b41), (.ref b38), (.ref b38)]) := by
        intro t kk
        refine c72 t ?_
        show Steps p.tables e below (T71.setTop (mkF m 67 #[.val (.int p0), .val (.int p1), .val (.int p2), .val (.int p3), .val (.int p4), .unset] [(.ref b41), (.ref b38), (.ref b38)])) t
        refine XS.dup X71.here hx rfl (hb hby d1_67) rfl rfl ?_
        show Steps p.tables e below (T71.setTop (mkF m 68 #[.val (.int p0), .val (.int p1), .val (.int p2), .val (.int p3), .val (.int p4), .unset] [(.ref b41), (.ref b41), (.ref b38), (.ref b38)])) t
        refine XS.bipush X71.here hx rfl (hb hby d1_68) ?_
        show Steps p.tables e below (T71.setTop (mkF m 70 #[.val (.int p0), .val (.int p1), .val (.int p2), .val (.int p3), .val (.int p4), .unset] [(.int (9 : Int32)), (.ref b41), (.ref b41), (.ref b38), (.ref b38)])) t
        refine XS.bipush X71.here hx rfl (hb hby d1_70) ?_
        exact kk
      obtain ⟨cl74, Ar74, q74, Sz74, Nn74, Hh74, Gg74⟩ := id V71
      have hin74 : ¬ ((9 : Int32) < 0 ∨ cl74.slots.size ≤ ((9 : Int32)).toNatClampNeg) := inb_of Sz74 ⟨by decide, by decide⟩
      obtain ⟨T74, h74, X74, e74, W74, st74⟩ := stC X71 hx hZ e71 Ar74 (j := (9 : Int32)) hin74 (g := (mkF m 72 #[.val (.int p0), .val (.int p1), .val (.int p2), .val (.int p3), .val (.int p4), .unset] [(.int (100 : Int32)), (.int (9 : Int32)), (.ref b41), (.ref b41), (.ref b38), (.ref b38)])) rfl rfl (hb hby d1_72)
      have V74 := Arv.set Ar74 q74 Sz74 Nn74 Hh74 Gg74 (fits_nar_char _) W74 9 rfl (Nat.le_of_ble_eq_true rfl)
      have N74 := Fr.snoc X74 N71 gb41
      have c75 : Goes p e below s₁ (entryFrame m #[(.int p0), (.int p1), (.int p2), (.int p3), (.int p4)] 6) T74 (mkF m 73 #[.val (.int p0), .val (.int p1), .val (.int p2), .val (.int p3), .val (.int p4), .unset] [(.ref b41), (.ref b38), (.ref b38)]) := fun t kk => c73 t (st74 t kk)
      have f76 := ((((((((((((O0.ext E38).ext E41).wr W47 gb41).wr W50 gb41).wr W53 gb41).wr W56 gb41).wr W59 gb41).wr W62 gb41).wr W65 gb41).wr W68 gb41).wr W71 gb41).wr W74 gb41)
      have f77 := (Nat.le_trans (Nat.le_trans (Nat.le_trans (Nat.le_trans (Nat.le_trans (Nat.le_trans (Nat.le_trans (Nat.le_trans (Nat.le_trans (Nat.le_trans (Nat.le_trans f42 E41.1) (Keep.of_wr W47).1) (Keep.of_wr W50).1) (Keep.of_wr W53).1) (Keep.of_wr W56).1) (Keep.of_wr W59).1) (Keep.of_wr W62).1) (Keep.of_wr W65).1) (Keep.of_wr W68).1) (Keep.of_wr W71).1) (Keep.of_wr W74).1)
      have f78 := (((((((((((A38.ext E41).wr W47).wr W50).wr W53).wr W56).wr W59).wr W62).wr W65).wr W68).wr W71).wr W74)
      have f79 := (((((((((((F_value_b38.ext E41).other W47 (Or.inl neb38_41)).other W50 (Or.inl neb38_41)).other W53 (Or.inl neb38_41)).other W56 (Or.inl neb38_41)).other W59 (Or.inl neb38_41)).other W62 (Or.inl neb38_41)).other W65 (Or.inl neb38_41)).other W68 (Or.inl neb38_41)).other W71 (Or.inl neb38_41)).other W74 (Or.inl neb38_41))
      have f80 := (((((((((((F_coder_b38.ext E41).other W47 (Or.inl neb38_41)).other W50 (Or.inl neb38_41)).other W53 (Or.inl neb38_41)).other W56 (Or.inl neb38_41)).other W59 (Or.inl neb38_41)).other W62 (Or.inl neb38_41)).other W65 (Or.inl neb38_41)).other W68 (Or.inl neb38_41)).other W71 (Or.inl neb38_41)).other W74 (Or.inl neb38_41))
      obtain ⟨_, _, ⟨T81, L81, k81, n81⟩, -, X81, ⟨Lc81, hQ81, l81, y81, z81⟩, st81⟩ := X74.specialBack hx (y := (⟨"java/lang/String", "<init>", "([C)V"⟩ : MethodName)) rfl hown (mvT hZ (hw _ (List.mem_of_getElem? (i := 21) rfl))) (mvT hZ (hw _ (List.mem_of_getElem? (i := 22) rfl))) (mvT hZ (hw _ (List.mem_of_getElem? (i := 23) rfl))) (by decide) (StrChars.Road.backV (W := 1) hZ (own_wmk hw) (kI := 4) (hw _ (List.mem_of_getElem? (i := 19) rfl)) (cs := ([(nar .char (111 : Int32)), (nar .char (118 : Int32)), (nar .char (101 : Int32)), (nar .char (114 : Int32)), (nar .char (108 : Int32)), (nar .char (111 : Int32)), (nar .char (97 : Int32)), (nar .char (100 : Int32)), (nar .char (101 : Int32)), (nar .char (100 : Int32))] : List Int32)) (bs := (([(nar .char (111 : Int32)), (nar .char (118 : Int32)), (nar .char (101 : Int32)), (nar .char (114 : Int32)), (nar .char (108 : Int32)), (nar .char (111 : Int32)), (nar .char (97 : Int32)), (nar .char (100 : Int32)), (nar .char (101 : Int32)), (nar .char (100 : Int32))] : List Int32)).map StrChars.lo8) (n := 10) gb38 f77 f78 f79 f80 V74 (S2.ext f76.2) hz rfl rfl (by decide) (by decide) (own_two (by decide) (own_two (by decide) (own_two (by decide) (own_two (by decide) (own_two (by decide) (own_two (by decide) (own_two (by decide) (own_two (by decide) (own_two (by decide) (own_two (by decide) own_nil)))))))))) rfl (by decide) (by decide)) (g := (mkF m 73 #[.val (.int p0), .val (.int p1), .val (.int p2), .val (.int p3), .val (.int p4), .unset] [(.ref b41), (.ref b38), (.ref b38)])) rfl (by rw [hml]; rfl) (Steps.refl _) (a := b38) (argsL := [(.ref b41)]) (rest := [(.ref b38)]) (lenOf pd___C_V rfl) rfl (by show 2 * 0 + _ ≤ _; exact Nat.le_of_eq rfl) (hb hby d1_73) (fun _ _ => ⟨rfl, e74, (by decide : 2 + 1 ≤ _), (by decide : 14 + 10 ≤ _)⟩)
      dsimp only [Pt.U, Pt.locs, Pt.cells, Pt.slots] at X81 l81 y81 z81 st81 hQ81
      subst l81 y81 z81
      obtain ⟨rfl, Nq81, Kq81, Eq81, Cq81, t81, kb81, gt81, szt81, net81, Vq81, Aq81⟩ := hQ81
      have N81 := Fr.app N74 Nq81
      have c82 : Goes p e below s₁ (entryFrame m #[(.int p0), (.int p1), (.int p2), (.int p3), (.int p4)] 6) T81 (mkF m 76 #[.val (.int p0), .val (.int p1), .val (.int p2), .val (.int p3), .val (.int p4), .unset] [(.ref b38)]) := fun t kk => c75 t (st81.trans kk)
      have Str81 : own_str Z T81.heap b38 ([(nar .char (111 : Int32)), (nar .char (118 : Int32)), (nar .char (101 : Int32)), (nar .char (114 : Int32)), (nar .char (108 : Int32)), (nar .char (111 : Int32)), (nar .char (97 : Int32)), (nar .char (100 : Int32)), (nar .char (101 : Int32)), (nar .char (100 : Int32))] : List Int32) := ⟨Eq81, Cq81, (own_two (by decide) (own_two (by decide) (own_two (by decide) (own_two (by decide) (own_two (by decide) (own_two (by decide) (own_two (by decide) (own_two (by decide) (own_two (by decide) (own_two (by decide) own_nil)))))))))), t81, kb81, Vq81, Aq81⟩
      have f83 := ((((((((((((f44.ext E41).wr W47 (Or.inr szb41_41)).wr W50 (Or.inr szb41_41)).wr W53 (Or.inr szb41_41)).wr W56 (Or.inr szb41_41)).wr W59 (Or.inr szb41_41)).wr W62 (Or.inr szb41_41)).wr W65 (Or.inr szb41_41)).wr W68 (Or.inr szb41_41)).wr W71 (Or.inr szb41_41)).wr W74 (Or.inr szb41_41)).trans Kq81 (allS (Or.inr szb38_38) all0))
      have f84 := (Nat.le_trans (Nat.le_trans (Nat.le_trans (Nat.le_trans (Nat.le_trans (Nat.le_trans (Nat.le_trans (Nat.le_trans (Nat.le_trans (Nat.le_trans (Nat.le_trans (Nat.le_trans (Nat.le_trans (Nat.zero_le _) E38.1) E41.1) (Keep.of_wr W47).1) (Keep.of_wr W50).1) (Keep.of_wr W53).1) (Keep.of_wr W56).1) (Keep.of_wr W59).1) (Keep.of_wr W62).1) (Keep.of_wr W65).1) (Keep.of_wr W68).1) (Keep.of_wr W71).1) (Keep.of_wr W74).1) Kq81.1)
      obtain ⟨fs, hr, hrun, hended, hRW⟩ := X81.leaveW SW0 f84 (v := some (.ref b38)) (fun h => by rw [Bd.returns] at h; cases h)
      have f85 := ((((((((((((f43.ext E41).wr W47 (Or.inr szbb41_41)).wr W50 (Or.inr szbb41_41)).wr W53 (Or.inr szbb41_41)).wr W56 (Or.inr szbb41_41)).wr W59 (Or.inr szbb41_41)).wr W62 (Or.inr szbb41_41)).wr W65 (Or.inr szbb41_41)).wr W68 (Or.inr szbb41_41)).wr W71 (Or.inr szbb41_41)).wr W74 (Or.inr szbb41_41)).trans Kq81 (allS (Or.inr szbb38_38) all0))
      have hCRe := (CHr.keep f85 sf0 hCH0)
      have hCRt : CHr Z consts_1 s.vm s.heap (T81.setFrames fs).vm (T81.setFrames fs).heap := by
        rw [hh]
        show CHr Z consts_1 s.vm h0 T81.vm T81.heap
        exact hCRe.trans (CHv.at X81 hZ hEL hCRe.1)
      refine ⟨_, _, c82 _ ?_, hrun, hended, _, _, rfl, ?_, hCRt, hRW.1, hRW.2.1, hRW.2.2.1, hRW.2.2.2.mono (by decide) (by decide)⟩
      · exact retOut X81 hx Bd.returns rfl (Or.inr (Or.inr (Or.inr (Or.inr ⟨rfl, rfl, rfl⟩)))) (hb hby d1_76) hr
      · show Q_mk Z p0 p1 p2 p3 p4 z h0 n0 _ T81.heap _
        exact ⟨.ref b38, rfl, N81, f83, Or.inr ⟨b38, ([(nar .char (111 : Int32)), (nar .char (118 : Int32)), (nar .char (101 : Int32)), (nar .char (114 : Int32)), (nar .char (108 : Int32)), (nar .char (111 : Int32)), (nar .char (97 : Int32)), (nar .char (100 : Int32)), (nar .char (101 : Int32)), (nar .char (100 : Int32))] : List Int32), rfl, Str81, (by simp)⟩⟩
    · have c86 : Goes p e below s₁ (entryFrame m #[(.int p0), (.int p1), (.int p2), (.int p3), (.int p4)] 6) s₁ (mkF m 79 #[.val (.int p0), .val (.int p1), .val (.int p2), .val (.int p3), .val (.int p4), .unset] [(.int (2 : Int32)), (.int p0)]) := by
        intro t kk
        refine c35 t ?_
        show Steps p.tables e below (s₁.setTop (mkF m 8 #[.val (.int p0), .val (.int p1), .val (.int p2), .val (.int p3), .val (.int p4), .unset] [(.int (1 : Int32)), (.int p0)])) t
        refine XS.icmpYes XW0.here hx rfl (pc0 := 8) (pc' := 77) rfl (hb hby d1_8) rfl (feq hc8_36).2 (by decide) (by decide) ?_
        show Steps p.tables e below (s₁.setTop (mkF m 77 #[.val (.int p0), .val (.int p1), .val (.int p2), .val (.int p3), .val (.int p4), .unset] [])) t
        refine XS.iloadN XW0.here hx rfl (hb hby d1_77) rfl ?_
        show Steps p.tables e below (s₁.setTop (mkF m 78 #[.val (.int p0), .val (.int p1), .val (.int p2), .val (.int p3), .val (.int p4), .unset] [(.int p0)])) t
        refine XS.iconst XW0.here hx rfl (hb hby d1_78) ?_
        exact kk
      by_cases hc79_87 : p0 = (2 : Int32)
      · have c88 : Goes p e below s₁ (entryFrame m #[(.int p0), (.int p1), (.int p2), (.int p3), (.int p4)] 6) s₁ (mkF m 82 #[.val (.int p0), .val (.int p1), .val (.int p2), .val (.int p3), .val (.int p4), .unset] []) := by
          intro t kk
          refine c86 t ?_
          show Steps p.tables e below (s₁.setTop (mkF m 79 #[.val (.int p0), .val (.int p1), .val (.int p2), .val (.int p3), .val (.int p4), .unset] [(.int (2 : Int32)), (.int p0)])) t
          refine XS.icmpNo XW0.here hx rfl (hb hby d1_79) rfl (teq hc79_87).2 ?_
          exact kk
        obtain ⟨T89, h89, X89, e89, E89, A89, D89, -, st89⟩ := newO XW0 hx hZ hown (hw _ (List.mem_of_getElem? (i := 18) rfl)) (hw _ (List.mem_of_getElem? (i := 19) rfl)) (hw _ (List.mem_of_getElem? (i := 20) rfl)) e0 (g := (mkF m 82 #[.val (.int p0), .val (.int p1), .val (.int p2), .val (.int p3), .val (.int p4), .unset] [])) rfl (hb hby d1_82) (by decide) (by decide)
        obtain ⟨b89, g89⟩ : ∃ z, z = h0.size := ⟨_, rfl⟩
        rw [← g89] at A89 D89 st89
        have gb89 : n0 ≤ b89 := Nat.le_trans Z0 (Nat.le_of_eq g89.symm)
        have szbb89_89 : h0.size ≤ b89 := Nat.le_trans (Keep.refl h0 []).1 (Nat.le_of_eq g89.symm)
        have szb89_89 : h0.size ≤ b89 := Nat.le_trans (Keep.refl h0 []).1 (Nat.le_of_eq g89.symm)
        have F_coder_b89 : Fld Z h89 b89 "java/lang/String" "coder" "B" (.int (0 : Int32)) := D89 (Or.inr (hw _ (List.mem_of_getElem? (i := 44) rfl))) (ty := .byte) (by decide)
        have F_value_b89 : Fld Z h89 b89 "java/lang/String" "value" "[B" .null := D89 (Or.inr (hw _ (List.mem_of_getElem? (i := 46) rfl))) (ty := (.array .byte)) (by decide)
        have c90 : Goes p e below s₁ (entryFrame m #[(.int p0), (.int p1), (.int p2), (.int p3), (.int p4)] 6) T89 (mkF m 85 #[.val (.int p0), .val (.int p1), .val (.int p2), .val (.int p3), .val (.int p4), .unset] [(.ref b89)]) := fun t kk => c88 t (st89 t kk)
        have c91 : Goes p e below s₁ (entryFrame m #[(.int p0), (.int p1), (.int p2), (.int p3), (.int p4)] 6) T89 (mkF m 88 #[.val (.int p0), .val (.int p1), .val (.int p2), .val (.int p3), .val (.int p4), .unset] [(.int (19 : Int32)), (.ref b89), (.ref b89)]) := by
          intro t kk
          refine c90 t ?_
          show Steps p.tables e below (T89.setTop (mkF m 85 #[.val (.int p0), .val (.int p1), .val (.int p2), .val (.int p3), .val (.int p4), .unset] [(.ref b89)])) t
          refine XS.dup X89.here hx rfl (hb hby d1_85) rfl rfl ?_
          show Steps p.tables e below (T89.setTop (mkF m 86 #[.val (.int p0), .val (.int p1), .val (.int p2), .val (.int p3), .val (.int p4), .unset] [(.ref b89), (.ref b89)])) t
          refine XS.bipush X89.here hx rfl (hb hby d1_86) ?_
          exact kk
        obtain ⟨T92, h92, k92, X92, e92, E92, A92, st92⟩ := newP X89 hx hZ (hw _ (List.mem_of_getElem? (i := 17) rfl)) e89 (g := (mkF m 88 #[.val (.int p0), .val (.int p1), .val (.int p2), .val (.int p3), .val (.int p4), .unset] [(.int (19 : Int32)), (.ref b89), (.ref b89)])) rfl (hb hby d1_88) rfl (by decide) (cap := 19) (by decide) (by decide) (by decide) (by decide)
        obtain ⟨b92, g92⟩ : ∃ z, z = h89.size := ⟨_, rfl⟩
        rw [← g92] at A92 st92
        have f93 := (Nat.le_trans Z0 E89.1)
        have gb92 : n0 ≤ b92 := Nat.le_trans f93 (Nat.le_of_eq g92.symm)
        have neb89_92 : b89 ≠ b92 := Nat.ne_of_lt (Nat.lt_of_lt_of_le A89.lt (Nat.le_of_eq g92.symm))
        have f94 := ((Keep.refl h0 []).ext E89)
        have szbb92_92 : h0.size ≤ b92 := Nat.le_trans f94.1 (Nat.le_of_eq g92.symm)
        have f95 := ((Keep.refl h0 []).ext E89)
        have szb92_92 : h0.size ≤ b92 := Nat.le_trans f95.1 (Nat.le_of_eq g92.symm)
        have V92 : Arv Z h92 b92 k92 .char (19 : Int32) [(.int (0 : Int32)), (.int (0 : Int32)), (.int (0 : Int32)), (.int (0 : Int32)), (.int (0 : Int32)), (.int (0 : Int32)), (.int (0 : Int32)), (.int (0 : Int32)), (.int (0 : Int32)), (.int (0 : Int32)), (.int (0 : Int32)), (.int (0 : Int32)), (.int (0 : Int32)), (.int (0 : Int32)), (.int (0 : Int32)), (.int (0 : Int32)), (.int (0 : Int32)), (.int (0 : Int32)), (.int (0 : Int32))] (.int (0 : Int32)) := (Arv.new A92 (by decide)).pad (pad_rep [] (.int (0 : Int32)) 19)
        have c96 : Goes p e below s₁ (entryFrame m #[(.int p0), (.int p1), (.int p2), (.int p3), (.int p4)] 6) T92 (mkF m 90 #[.val (.int p0), .val (.int p1), .val (.int p2), .val (.int p3), .val (.int p4), .unset] [(.ref b92), (.ref b89), (.ref b89)]) := fun t kk => c91 t (st92 t kk)
        have c97 : Goes p e below s₁ (entryFrame m #[(.int p0), (.int p1), (.int p2), (.int p3), (.int p4)] 6) T92 (mkF m 94 #[.val (.int p0), .val (.int p1), .val (.int p2), .val (.int p3), .val (.int p4), .unset] [(.int (111 : Int32)), (.int (0 : Int32)), (.ref b92), (.ref b92), (.ref b89), (.ref b89)]) := by
          intro t kk
          refine c96 t ?_
          show Steps p.tables e below (T92.setTop (mkF m 90 #[.val (.int p0), .val (.int p1), .val (.int p2), .val (.int p3), .val (.int p4), .unset] [(.ref b92), (.ref b89), (.ref b89)])) t
          refine XS.dup X92.here hx rfl (hb hby d1_90) rfl rfl ?_
          show Steps p.tables e below (T92.setTop (mkF m 91 #[.val (.int p0), .val (.int p1), .val (.int p2), .val (.int p3), .val (.int p4), .unset] [(.ref b92), (.ref b92), (.ref b89), (.ref b89)])) t
          refine XS.iconst X92.here hx rfl (hb hby d1_91) ?_
          show Steps p.tables e below (T92.setTop (mkF m 92 #[.val (.int p0), .val (.int p1), .val (.int p2), .val (.int p3), .val (.int p4), .unset] [(.int (0 : Int32)), (.ref b92), (.ref b92), (.ref b89), (.ref b89)])) t
          refine XS.bipush X92.here hx rfl (hb hby d1_92) ?_
          exact kk
        obtain ⟨cl98, Ar98, q98, Sz98, Nn98, Hh98, Gg98⟩ := id V92
        have hin98 : ¬ ((0 : Int32) < 0 ∨ cl98.slots.size ≤ ((0 : Int32)).toNatClampNeg) := inb_of Sz98 ⟨by decide, by decide⟩
        obtain ⟨T98, h98, X98, e98, W98, st98⟩ := stC X92 hx hZ e92 Ar98 (j := (0 : Int32)) hin98 (g := (mkF m 94 #[.val (.int p0), .val (.int p1), .val (.int p2), .val (.int p3), .val (.int p4), .unset] [(.int (111 : Int32)), (.int (0 : Int32)), (.ref b92), (.ref b92), (.ref b89), (.ref b89)])) rfl rfl (hb hby d1_94)
        have V98 := Arv.set Ar98 q98 Sz98 Nn98 Hh98 Gg98 (fits_nar_char _) W98 0 rfl (Nat.le_of_ble_eq_true rfl)
        have N98 := Fr.snoc X98 N0 gb92
        have c99 : Goes p e below s₁ (entryFrame m #[(.int p0), (.int p1), (.int p2), (.int p3), (.int p4)] 6) T98 (mkF m 95 #[.val (.int p0), .val (.int p1), .val (.int p2), .val (.int p3), .val (.int p4), .unset] [(.ref b92), (.ref b89), (.ref b89)]) := fun t kk => c97 t (st98 t kk)
        have c100 : Goes p e below s₁ (entryFrame m #[(.int p0), (.int p1), (.int p2), (.int p3), (.int p4)] 6) T98 (mkF m 99 #[.val (.int p0), .val (.int p1), .val (.int p2), .val (.int p3), .val (.int p4), .unset] [(.int (118 : Int32)), (.int (1 : Int32)), (.ref b92), (.ref b92), (.ref b89), (.ref b89)]) := by
          intro t kk
          refine c99 t ?_
          show Steps p.tables e below (T98.setTop (mkF m 95 #[.val (.int p0), .val (.int p1), .val (.int p2), .val (.int p3), .val (.int p4), .unset] [(.ref b92), (.ref b89), (.ref b89)])) t
          refine XS.dup X98.here hx rfl (hb hby d1_95) rfl rfl ?_
          show Steps p.tables e below (T98.setTop (mkF m 96 #[.val (.int p0), .val (.int p1), .val (.int p2), .val (.int p3), .val (.int p4), .unset] [(.ref b92), (.ref b92), (.ref b89), (.ref b89)])) t
          refine XS.iconst X98.here hx rfl (hb hby d1_96) ?_
          show Steps p.tables e below (T98.setTop (mkF m 97 #[.val (.int p0), .val (.int p1), .val (.int p2), .val (.int p3), .val (.int p4), .unset] [(.int (1 : Int32)), (.ref b92), (.ref b92), (.ref b89), (.ref b89)])) t
          refine XS.bipush X98.here hx rfl (hb hby d1_97) ?_
          exact kk
        obtain ⟨cl101, Ar101, q101, Sz101, Nn101, Hh101, Gg101⟩ := id V98
        have hin101 : ¬ ((1 : Int32) < 0 ∨ cl101.slots.size ≤ ((1 : Int32)).toNatClampNeg) := inb_of Sz101 ⟨by decide, by decide⟩
        obtain ⟨T101, h101, X101, e101, W101, st101⟩ := stC X98 hx hZ e98 Ar101 (j := (1 : Int32)) hin101 (g := (mkF m 99 #[.val (.int p0), .val (.int p1), .val (.int p2), .val (.int p3), .val (.int p4), .unset] [(.int (118 : Int32)), (.int (1 : Int32)), (.ref b92), (.ref b92), (.ref b89), (.ref b89)])) rfl rfl (hb hby d1_99)
        have V101 := Arv.set Ar101 q101 Sz101 Nn101 Hh101 Gg101 (fits_nar_char _) W101 1 rfl (Nat.le_of_ble_eq_true rfl)
        have N101 := Fr.snoc X101 N98 gb92
        have c102 : Goes p e below s₁ (entryFrame m #[(.int p0), (.int p1), (.int p2), (.int p3), (.int p4)] 6) T101 (mkF m 100 #[.val (.int p0), .val (.int p1), .val (.int p2), .val (.int p3), .val (.int p4), .unset] [(.ref b92), (.ref b89), (.ref b89)]) := fun t kk => c100 t (st101 t kk)
        have c103 : Goes p e below s₁ (entryFrame m #[(.int p0), (.int p1), (.int p2), (.int p3), (.int p4)] 6) T101 (mkF m 104 #[.val (.int p0), .val (.int p1), .val (.int p2), .val (.int p3), .val (.int p4), .unset] [(.int (101 : Int32)), (.int (2 : Int32)), (.ref b92), (.ref b92), (.ref b89), (.ref b89)]) := by
          intro t kk
          refine c102 t ?_
          show Steps p.tables e below (T101.setTop (mkF m 100 #[.val (.int p0), .val (.int p1), .val (.int p2), .val (.int p3), .val (.int p4), .unset] [(.ref b92), (.ref b89), (.ref b89)])) t
          refine XS.dup X101.here hx rfl (hb hby d1_100) rfl rfl ?_
          show Steps p.tables e below (T101.setTop (mkF m 101 #[.val (.int p0), .val (.int p1), .val (.int p2), .val (.int p3), .val (.int p4), .unset] [(.ref b92), (.ref b92), (.ref b89), (.ref b89)])) t
          refine XS.iconst X101.here hx rfl (hb hby d1_101) ?_
          show Steps p.tables e below (T101.setTop (mkF m 102 #[.val (.int p0), .val (.int p1), .val (.int p2), .val (.int p3), .val (.int p4), .unset] [(.int (2 : Int32)), (.ref b92), (.ref b92), (.ref b89), (.ref b89)])) t
          refine XS.bipush X101.here hx rfl (hb hby d1_102) ?_
          exact kk
        obtain ⟨cl104, Ar104, q104, Sz104, Nn104, Hh104, Gg104⟩ := id V101
        have hin104 : ¬ ((2 : Int32) < 0 ∨ cl104.slots.size ≤ ((2 : Int32)).toNatClampNeg) := inb_of Sz104 ⟨by decide, by decide⟩
        obtain ⟨T104, h104, X104, e104, W104, st104⟩ := stC X101 hx hZ e101 Ar104 (j := (2 : Int32)) hin104 (g := (mkF m 104 #[.val (.int p0), .val (.int p1), .val (.int p2), .val (.int p3), .val (.int p4), .unset] [(.int (101 : Int32)), (.int (2 : Int32)), (.ref b92), (.ref b92), (.ref b89), (.ref b89)])) rfl rfl (hb hby d1_104)
        have V104 := Arv.set Ar104 q104 Sz104 Nn104 Hh104 Gg104 (fits_nar_char _) W104 2 rfl (Nat.le_of_ble_eq_true rfl)
        have N104 := Fr.snoc X104 N101 gb92
        have c105 : Goes p e below s₁ (entryFrame m #[(.int p0), (.int p1), (.int p2), (.int p3), (.int p4)] 6) T104 (mkF m 105 #[.val (.int p0), .val (.int p1), .val (.int p2), .val (.int p3), .val (.int p4), .unset] [(.ref b92), (.ref b89), (.ref b89)]) := fun t kk => c103 t (st104 t kk)
        have c106 : Goes p e below s₁ (entryFrame m #[(.int p0), (.int p1), (.int p2), (.int p3), (.int p4)] 6) T104 (mkF m 109 #[.val (.int p0), .val (.int p1), .val (.int p2), .val (.int p3), .val (.int p4), .unset] [(.int (114 : Int32)), (.int (3 : Int32)), (.ref b92), (.ref b92), (.ref b89), (.ref b89)]) := by
          intro t kk
          refine c105 t ?_
          show Steps p.tables e below (T104.setTop (mkF m 105 #[.val (.int p0), .val (.int p1), .val (.int p2), .val (.int p3), .val (.int p4), .unset] [(.ref b92), (.ref b89), (.ref b89)])) t
          refine XS.dup X104.here hx rfl (hb hby d1_105) rfl rfl ?_
          show Steps p.tables e below (T104.setTop (mkF m 106 #[.val (.int p0), .val (.int p1), .val (.int p2), .val (.int p3), .val (.int p4), .unset] [(.ref b92), (.ref b92), (.ref b89), (.ref b89)])) t
          refine XS.iconst X104.here hx rfl (hb hby d1_106) ?_
          show Steps p.tables e below (T104.setTop (mkF m 107 #[.val (.int p0), .val (.int p1), .val (.int p2), .val (.int p3), .val (.int p4), .unset] [(.int (3 : Int32)), (.ref b92), (.ref b92), (.ref b89), (.ref b89)])) t
          refine XS.bipush X104.here hx rfl (hb hby d1_107) ?_
          exact kk
        obtain ⟨cl107, Ar107, q107, Sz107, Nn107, Hh107, Gg107⟩ := id V104
        have hin107 : ¬ ((3 : Int32) < 0 ∨ cl107.slots.size ≤ ((3 : Int32)).toNatClampNeg) := inb_of Sz107 ⟨by decide, by decide⟩
        obtain ⟨T107, h107, X107, e107, W107, st107⟩ := stC X104 hx hZ e104 Ar107 (j := (3 : Int32)) hin107 (g := (mkF m 109 #[.val (.int p0), .val (.int p1), .val (.int p2), .val (.int p3), .val (.int p4), .unset] [(.int (114 : Int32)), (.int (3 : Int32)), (.ref b92), (.ref b92), (.ref b89), (.ref b89)])) rfl rfl (hb hby d1_109)
        have V107 := Arv.set Ar107 q107 Sz107 Nn107 Hh107 Gg107 (fits_nar_char _) W107 3 rfl (Nat.le_of_ble_eq_true rfl)
        have N107 := Fr.snoc X107 N104 gb92
        have c108 : Goes p e below s₁ (entryFrame m #[(.int p0), (.int p1), (.int p2), (.int p3), (.int p4)] 6) T107 (mkF m 110 #[.val (.int p0), .val (.int p1), .val (.int p2), .val (.int p3), .val (.int p4), .unset] [(.ref b92), (.ref b89), (.ref b89)]) := fun t kk => c106 t (st107 t kk)
        have c109 : Goes p e below s₁ (entryFrame m #[(.int p0), (.int p1), (.int p2), (.int p3), (.int p4)] 6) T107 (mkF m 114 #[.val (.int p0), .val (.int p1), .val (.int p2), .val (.int p3), .val (.int p4), .unset] [(.int (108 : Int32)), (.int (4 : Int32)), (.ref b92), (.ref b92), (.ref b89), (.ref b89)]) := by
          intro t kk
          refine c108 t ?_
          show Steps p.tables e below (T107.setTop (mkF m 110 #[.val (.int p0), .val (.int p1), .val (.int p2), .val (.int p3), .val (.int p4), .unset] [(.ref b92), (.ref b89), (.ref b89)])) t
          refine XS.dup X107.here hx rfl (hb hby d1_110) rfl rfl ?_
          show Steps p.tables e below (T107.setTop (mkF m 111 #[.val (.int p0), .val (.int p1), .val (.int p2), .val (.int p3), .val (.int p4), .unset] [(.ref b92), (.ref b92), (.ref b89), (.ref b89)])) t
          refine XS.iconst X107.here hx rfl (hb hby d1_111) ?_
          show Steps p.tables e below (T107.setTop (mkF m 112 #[.val (.int p0), .val (.int p1), .val (.int p2), .val (.int p3), .val (.int p4), .unset] [(.int (4 : Int32)), (.ref b92), (.ref b92), (.ref b89), (.ref b89)])) t
          refine XS.bipush X107.here hx rfl (hb hby d1_112) ?_
          exact kk
        obtain ⟨cl110, Ar110, q110, Sz110, Nn110, Hh110, Gg110⟩ := id V107
        have hin110 : ¬ ((4 : Int32) < 0 ∨ cl110.slots.size ≤ ((4 : Int32)).toNatClampNeg) := inb_of Sz110 ⟨by decide, by decide⟩
        obtain ⟨T110, h110, X110, e110, W110, st110⟩ := stC X107 hx hZ e107 Ar110 (j := (4 : Int32)) hin110 (g := (mkF m 114 #[.val (.int p0), .val (.int p1), .val (.int p2), .val (.int p3), .val (.int p4), .unset] [(.int (108 : Int32)), (.int (4 : Int32)), (.ref b92), (.ref b92), (.ref b89), (.ref b89)])) rfl rfl (hb hby d1_114)
        have V110 := Arv.set Ar110 q110 Sz110 Nn110 Hh110 Gg110 (fits_nar_char _) W110 4 rfl (Nat.le_of_ble_eq_true rfl)
        have N110 := Fr.snoc X110 N107 gb92
        have c111 : Goes p e below s₁ (entryFrame m #[(.int p0), (.int p1), (.int p2), (.int p3), (.int p4)] 6) T110 (mkF m 115 #[.val (.int p0), .val (.int p1), .val (.int p2), .val (.int p3), .val (.int p4), .unset] [(.ref b92), (.ref b89), (.ref b89)]) := fun t kk => c109 t (st110 t kk)
        have c112 : Goes p e below s₁ (entryFrame m #[(.int p0), (.int p1), (.int p2), (.int p3), (.int p4)] 6) T110 (mkF m 119 #[.val (.int p0), .val (.int p1), .val (.int p2), .val (.int p3), .val (.int p4), .unset] [(.int (111 : Int32)), (.int (5 : Int32)), (.ref b92), (.ref b92), (.ref b89), (.ref b89)]) := by
          intro t kk
          refine c111 t ?_
          show Steps p.tables e below (T110.setTop (mkF m 115 #[.val (.int p0), .val (.int p1), .val (.int p2), .val (.int p3), .val (.int p4), .unset] [(.ref b92), (.ref b89), (.ref b89)])) t
          refine XS.dup X110.here hx rfl (hb hby d1_115) rfl rfl ?_
          show Steps p.tables e below (T110.setTop (mkF m 116 #[.val (.int p0), .val (.int p1), .val (.int p2), .val (.int p3), .val (.int p4), .unset] [(.ref b92), (.ref b92), (.ref b89), (.ref b89)])) t
          refine XS.iconst X110.here hx rfl (hb hby d1_116) ?_
          show Steps p.tables e below (T110.setTop (mkF m 117 #[.val (.int p0), .val (.int p1), .val (.int p2), .val (.int p3), .val (.int p4), .unset] [(.int (5 : Int32)), (.ref b92), (.ref b92), (.ref b89), (.ref b89)])) t
          refine XS.bipush X110.here hx rfl (hb hby d1_117) ?_
          exact kk
        obtain ⟨cl113, Ar113, q113, Sz113, Nn113, Hh113, Gg113⟩ := id V110
        have hin113 : ¬ ((5 : Int32) < 0 ∨ cl113.slots.size ≤ ((5 : Int32)).toNatClampNeg) := inb_of Sz113 ⟨by decide, by decide⟩
        obtain ⟨T113, h113, X113, e113, W113, st113⟩ := stC X110 hx hZ e110 Ar113 (j := (5 : Int32)) hin113 (g := (mkF m 119 #[.val (.int p0), .val (.int p1), .val (.int p2), .val (.int p3), .val (.int p4), .unset] [(.int (111 : Int32)), (.int (5 : Int32)), (.ref b92), (.ref b92), (.ref b89), (.ref b89)])) rfl rfl (hb hby d1_119)
        have V113 := Arv.set Ar113 q113 Sz113 Nn113 Hh113 Gg113 (fits_nar_char _) W113 5 rfl (Nat.le_of_ble_eq_true rfl)
        have N113 := Fr.snoc X113 N110 gb92
        have c114 : Goes p e below s₁ (entryFrame m #[(.int p0), (.int p1), (.int p2), (.int p3), (.int p4)] 6) T113 (mkF m 120 #[.val (.int p0), .val (.int p1), .val (.int p2), .val (.int p3), .val (.int p4), .unset] [(.ref b92), (.ref b89), (.ref b89)]) := fun t kk => c112 t (st113 t kk)
        have c115 : Goes p e below s₁ (entryFrame m #[(.int p0), (.int p1), (.int p2), (.int p3), (.int p4)] 6) T113 (mkF m 125 #[.val (.int p0), .val (.int p1), .val (.int p2), .val (.int p3), .val (.int p4), .unset] [(.int (97 : Int32)), (.int (6 : Int32)), (.ref b92), (.ref b92), (.ref b89), (.ref b89)]) := by
          intro t kk
          refine c114 t ?_
          show Steps p.tables e below (T113.setTop (mkF m 120 #[.val (.int p0), .val (.int p1), .val (.int p2), .val (.int p3), .val (.int p4), .unset] [(.ref b92), (.ref b89), (.ref b89)])) t
          refine XS.dup X113.here hx rfl (hb hby d1_120) rfl rfl ?_
          show Steps p.tables e below (T113.setTop (mkF m 121 #[.val (.int p0), .val (.int p1), .val (.int p2), .val (.int p3), .val (.int p4), .unset] [(.ref b92), (.ref b92), (.ref b89), (.ref b89)])) t
          refine XS.bipush X113.here hx rfl (hb hby d1_121) ?_
          show Steps p.tables e below (T113.setTop (mkF m 123 #[.val (.int p0), .val (.int p1), .val (.int p2), .val (.int p3), .val (.int p4), .unset] [(.int (6 : Int32)), (.ref b92), (.ref b92), (.ref b89), (.ref b89)])) t
          refine XS.bipush X113.here hx rfl (hb hby d1_123) ?_
          exact kk
        obtain ⟨cl116, Ar116, q116, Sz116, Nn116, Hh116, Gg116⟩ := id V113
        have hin116 : ¬ ((6 : Int32) < 0 ∨ cl116.slots.size ≤ ((6 : Int32)).toNatClampNeg) := inb_of Sz116 ⟨by decide, by decide⟩
        obtain ⟨T116, h116, X116, e116, W116, st116⟩ := stC X113 hx hZ e113 Ar116 (j := (6 : Int32)) hin116 (g := (mkF m 125 #[.val (.int p0), .val (.int p1), .val (.int p2), .val (.int p3), .val (.int p4), .unset] [(.int (97 : Int32)), (.int (6 : Int32)), (.ref b92), (.ref b92), (.ref b89), (.ref b89)])) rfl rfl (hb hby d1_125)
        have V116 := Arv.set Ar116 q116 Sz116 Nn116 Hh116 Gg116 (fits_nar_char _) W116 6 rfl (Nat.le_of_ble_eq_true rfl)
        have N116 := Fr.snoc X116 N113 gb92
        have c117 : Goes p e below s₁ (entryFrame m #[(.int p0), (.int p1), (.int p2), (.int p3), (.int p4)] 6) T116 (mkF m 126 #[.val (.int p0), .val (.int p1), .val (.int p2), .val (.int p3), .val (.int p4), .unset] [(.ref b92), (.ref b89), (.ref b89)]) := fun t kk => c115 t (st116 t kk)
        have c118 : Goes p e below s₁ (entryFrame m #[(.int p0), (.int p1), (.int p2), (.int p3), (.int p4)] 6) T116 (mkF m 131 #[.val (.int p0), .val (.int p1), .val (.int p2), .val (.int p3), .val (.int p4), .unset] [(.int (100 : Int32)), (.int (7 : Int32)), (.ref b92), (.ref b92), (.ref b89), (.ref b89)]) := by
          intro t kk
          refine c117 t ?_
          show Steps p.tables e below (T116.setTop (mkF m 126 #[.val (.int p0), .val (.int p1), .val (.int p2), .val (.int p3), .val (.int p4), .unset] [(.ref b92), (.ref b89), (.ref b89)])) t
          refine XS.dup X116.here hx rfl (hb hby d1_126) rfl rfl ?_
          show Steps p.tables e below (T116.setTop (mkF m 127 #[.val (.int p0), .val (.int p1), .val (.int p2), .val (.int p3), .val (.int p4), .unset] [(.ref b92), (.ref b92), (.ref b89), (.ref b89)])) t
          refine XS.bipush X116.here hx rfl (hb hby d1_127) ?_
          show Steps p.tables e below (T116.setTop (mkF m 129 #[.val (.int p0), .val (.int p1), .val (.int p2), .val (.int p3), .val (.int p4), .unset] [(.int (7 : Int32)), (.ref b92), (.ref b92), (.ref b89), (.ref b89)])) t
          refine XS.bipush X116.here hx rfl (hb hby d1_129) ?_
          exact kk
        obtain ⟨cl119, Ar119, q119, Sz119, Nn119, Hh119, Gg119⟩ := id V116
        have hin119 : ¬ ((7 : Int32) < 0 ∨ cl119.slots.size ≤ ((7 : Int32)).toNatClampNeg) := inb_of Sz119 ⟨by decide, by decide⟩
        obtain ⟨T119, h119, X119, e119, W119, st119⟩ := stC X116 hx hZ e116 Ar119 (j := (7 : Int32)) hin119 (g := (mkF m 131 #[.val (.int p0), .val (.int p1), .val (.int p2), .val (.int p3), .val (.int p4), .unset] [(.int (100 : Int32)), (.int (7 : Int32)), (.ref b92), (.ref b92), (.ref b89), (.ref b89)])) rfl rfl (hb hby d1_131)
        have V119 := Arv.set Ar119 q119 Sz119 Nn119 Hh119 Gg119 (fits_nar_char _) W119 7 rfl (Nat.le_of_ble_eq_true rfl)
        have N119 := Fr.snoc X119 N116 gb92
        have c120 : Goes p e below s₁ (entryFrame m #[(.int p0), (.int p1), (.int p2), (.int p3), (.int p4)] 6) T119 (mkF m 132 #[.val (.int p0), .val (.int p1), .val (.int p2), .val (.int p3), .val (.int p4), .unset] [(.ref b92), (.ref b89), (.ref b89)]) := fun t kk => c118 t (st119 t kk)
        have c121 : Goes p e below s₁ (entryFrame m #[(.int p0), (.int p1), (.int p2), (.int p3), (.int p4)] 6) T119 (mkF m 137 #[.val (.int p0), .val (.int p1), .val (.int p2), .val (.int p3), .val (.int p4), .unset] [(.int (101 : Int32)), (.int (8 : Int32)), (.ref b92), (.ref b92), (.ref b89), (.ref b89)]) := by
          intro t kk
          refine c120 t ?_
          show Steps p.tables e below (T119.setTop (mkF m 132 #[.val (.int p0), .val (.int p1), .val (.int p2), .val (.int p3), .val (.int p4), .unset] [(.ref b92), (.ref b89), (.ref b89)])) t
          refine XS.dup X119.here hx rfl (hb hby d1_132) rfl rfl ?_
          show Steps p.tables e below (T119.setTop (mkF m 133 #[.val (.int p0), .val (.int p1), .val (.int p2), .val (.int p3), .val (.int p4), .unset] [(.ref b92), (.ref b92), (.ref b89), (.ref b89)])) t
          refine XS.bipush X119.here hx rfl (hb hby d1_133) ?_
          show Steps p.tables e below (T119.setTop (mkF m 135 #[.val (.int p0), .val (.int p1), .val (.int p2), .val (.int p3), .val (.int p4), .unset] [(.int (8 : Int32)), (.ref b92), (.ref b92), (.ref b89), (.ref b89)])) t
          refine XS.bipush X119.here hx rfl (hb hby d1_135) ?_
          exact kk
        obtain ⟨cl122, Ar122, q122, Sz122, Nn122, Hh122, Gg122⟩ := id V119
        have hin122 : ¬ ((8 : Int32) < 0 ∨ cl122.slots.size ≤ ((8 : Int32)).toNatClampNeg) := inb_of Sz122 ⟨by decide, by decide⟩
        obtain ⟨T122, h122, X122, e122, W122, st122⟩ := stC X119 hx hZ e119 Ar122 (j := (8 : Int32)) hin122 (g := (mkF m 137 #[.val (.int p0), .val (.int p1), .val (.int p2), .val (.int p3), .val (.int p4), .unset] [(.int (101 : Int32)), (.int (8 : Int32)), (.ref b92), (.ref b92), (.ref b89), (.ref b89)])) rfl rfl (hb hby d1_137)
        have V122 := Arv.set Ar122 q122 Sz122 Nn122 Hh122 Gg122 (fits_nar_char _) W122 8 rfl (Nat.le_of_ble_eq_true rfl)
        have N122 := Fr.snoc X122 N119 gb92
        have c123 : Goes p e below s₁ (entryFrame m #[(.int p0), (.int p1), (.int p2), (.int p3), (.int p4)] 6) T122 (mkF m 138 #[.val (.int p0), .val (.int p1), .val (.int p2), .val (.int p3), .val (.int p4), .unset] [(.ref b92), (.ref b89), (.ref b89)]) := fun t kk => c121 t (st122 t kk)
        have c124 : Goes p e below s₁ (entryFrame m #[(.int p0), (.int p1), (.int p2), (.int p3), (.int p4)] 6) T122 (mkF m 143 #[.val (.int p0), .val (.int p1), .val (.int p2), .val (.int p3), .val (.int p4), .unset] [(.int (100 : Int32)), (.int (9 : Int32)), (.ref b92), (.ref b92), (.ref b89), (.ref b89)]) := by
          intro t kk
          refine c123 t ?_
          show Steps p.tables e below (T122.setTop (mkF m 138 #[.val (.int p0), .val (.int p1), .val (.int p2), .val (.int p3), .val (.int p4), .unset] [(.ref b92), (.ref b89), (.ref b89)])) t
          refine XS.dup X122.here hx rfl (hb hby d1_138) rfl rfl ?_
          show Steps p.tables e below (T122.setTop (mkF m 139 #[.val (.int p0), .val (.int p1), .val (.int p2), .val (.int p3), .val (.int p4), .unset] [(.ref b92), (.ref b92), (.ref b89), (.ref b89)])) t
          refine XS.bipush X122.here hx rfl (hb hby d1_139) ?_
          show Steps p.tables e below (T122.setTop (mkF m 141 #[.val (.int p0), .val (.int p1), .val (.int p2), .val (.int p3), .val (.int p4), .unset] [(.int (9 : Int32)), (.ref b92), (.ref b92), (.ref b89), (.ref b89)])) t
          refine XS.bipush X122.here hx rfl (hb hby d1_141) ?_
          exact kk
        obtain ⟨cl125, Ar125, q125, Sz125, Nn125, Hh125, Gg125⟩ := id V122
        have hin125 : ¬ ((9 : Int32) < 0 ∨ cl125.slots.size ≤ ((9 : Int32)).toNatClampNeg) := inb_of Sz125 ⟨by decide, by decide⟩
        obtain ⟨T125, h125, X125, e125, W125, st125⟩ := stC X122 hx hZ e122 Ar125 (j := (9 : Int32)) hin125 (g := (mkF m 143 #[.val (.int p0), .val (.int p1), .val (.int p2), .val (.int p3), .val (.int p4), .unset] [(.int (100 : Int32)), (.int (9 : Int32)), (.ref b92), (.ref b92), (.ref b89), (.ref b89)])) rfl rfl (hb hby d1_143)
        have V125 := Arv.set Ar125 q125 Sz125 Nn125 Hh125 Gg125 (fits_nar_char _) W125 9 rfl (Nat.le_of_ble_eq_true rfl)
        have N125 := Fr.snoc X125 N122 gb92
        have c126 : Goes p e below s₁ (entryFrame m #[(.int p0), (.int p1), (.int p2), (.int p3), (.int p4)] 6) T125 (mkF m 144 #[.val (.int p0), .val (.int p1), .val (.int p2), .val (.int p3), .val (.int p4), .unset] [(.ref b92), (.ref b89), (.ref b89)]) := fun t kk => c124 t (st125 t kk)
        have c127 : Goes p e below s₁ (entryFrame m #[(.int p0), (.int p1), (.int p2), (.int p3), (.int p4)] 6) T125 (mkF m 149 #[.val (.int p0), .val (.int p1), .val (.int p2), .val (.int p3), .val (.int p4), .unset] [(.int (45 : Int32)), (.int (10 : Int32)), (.ref b92), (.ref b92), (.ref b89), (.ref b89)]) := by
          intro t kk
          refine c126 t ?_
          show Steps p.tables e below (T125.setTop (mkF m 144 #[.val (.int p0), .val (.int p1), .val (.int p2), .val (.int p3), .val (.int p4), .unset] [(.ref b92), (.ref b89), (.ref b89)])) t
          refine XS.dup X125.here hx rfl (hb hby d1_144) rfl rfl ?_
          show Steps p.tables e below (T125.setTop (mkF m 145 #[.val (.int p0), .val (.int p1), .val (.int p2), .val (.int p3), .val (.int p4), .unset] [(.ref b92), (.ref b92), (.ref b89), (.ref b89)])) t
          refine XS.bipush X125.here hx rfl (hb hby d1_145) ?_
          show Steps p.tables e below (T125.setTop (mkF m 147 #[.val (.int p0), .val (.int p1), .val (.int p2), .val (.int p3), .val (.int p4), .unset] [(.int (10 : Int32)), (.ref b92), (.ref b92), (.ref b89), (.ref b89)])) t
          refine XS.bipush X125.here hx rfl (hb hby d1_147) ?_
          exact kk
        obtain ⟨cl128, Ar128, q128, Sz128, Nn128, Hh128, Gg128⟩ := id V125
        have hin128 : ¬ ((10 : Int32) < 0 ∨ cl128.slots.size ≤ ((10 : Int32)).toNatClampNeg) := inb_of Sz128 ⟨by decide, by decide⟩
        obtain ⟨T128, h128, X128, e128, W128, st128⟩ := stC X125 hx hZ e125 Ar128 (j := (10 : Int32)) hin128 (g := (mkF m 149 #[.val (.int p0), .val (.int p1), .val (.int p2), .val (.int p3), .val (.int p4), .unset] [(.int (45 : Int32)), (.int (10 : Int32)), (.ref b92), (.ref b92), (.ref b89), (.ref b89)])) rfl rfl (hb hby d1_149)
        have V128 := Arv.set Ar128 q128 Sz128 Nn128 Hh128 Gg128 (fits_nar_char _) W128 10 rfl (Nat.le_of_ble_eq_true rfl)
        have N128 := Fr.snoc X128 N125 gb92
        have c129 : Goes p e below s₁ (entryFrame m #[(.int p0), (.int p1), (.int p2), (.int p3), (.int p4)] 6) T128 (mkF m 150 #[.val (.int p0), .val (.int p1), .val (.int p2), .val (.int p3), .val (.int p4), .unset] [(.ref b92), (.ref b89), (.ref b89)]) := fun t kk => c127 t (st128 t kk)
        have c130 : Goes p e below s₁ (entryFrame m #[(.int p0), (.int p1), (.int p2), (.int p3), (.int p4)] 6) T128 (mkF m 155 #[.val (.int p0), .val (.int p1), .val (.int p2), .val (.int p3), .val (.int p4), .unset] [(.int (110 : Int32)), (.int (11 : Int32)), (.ref b92), (.ref b92), (.ref b89), (.ref b89)]) := by
          intro t kk
          refine c129 t ?_
          show Steps p.tables e below (T128.setTop (mkF m 150 #[.val (.int p0), .val (.int p1), .val (.int p2), .val (.int p3), .val (.int p4), .unset] [(.ref b92), (.ref b89), (.ref b89)])) t
          refine XS.dup X128.here hx rfl (hb hby d1_150) rfl rfl ?_
          show Steps p.tables e below (T128.setTop (mkF m 151 #[.val (.int p0), .val (.int p1), .val (.int p2), .val (.int p3), .val (.int p4), .unset] [(.ref b92), (.ref b92), (.ref b89), (.ref b89)])) t
          refine XS.bipush X128.here hx rfl (hb hby d1_151) ?_
          show Steps p.tables e below (T128.setTop (mkF m 153 #[.val (.int p0), .val (.int p1), .val (.int p2), .val (.int p3), .val (.int p4), .unset] [(.int (11 : Int32)), (.ref b92), (.ref b92), (.ref b89), (.ref b89)])) t
          refine XS.bipush X128.here hx rfl (hb hby d1_153) ?_
          exact kk
        obtain ⟨cl131, Ar131, q131, Sz131, Nn131, Hh131, Gg131⟩ := id V128
        have hin131 : ¬ ((11 : Int32) < 0 ∨ cl131.slots.size ≤ ((11 : Int32)).toNatClampNeg) := inb_of Sz131 ⟨by decide, by decide⟩
        obtain ⟨T131, h131, X131, e131, W131, st131⟩ := stC X128 hx hZ e128 Ar131 (j := (11 : Int32)) hin131 (g := (mkF m 155 #[.val (.int p0), .val (.int p1), .val (.int p2), .val (.int p3), .val (.int p4), .unset] [(.int (110 : Int32)), (.int (11 : Int32)), (.ref b92), (.ref b92), (.ref b89), (.ref b89)])) rfl rfl (hb hby d1_155)
        have V131 := Arv.set Ar131 q131 Sz131 Nn131 Hh131 Gg131 (fits_nar_char _) W131 11 rfl (Nat.le_of_ble_eq_true rfl)
        have N131 := Fr.snoc X131 N128 gb92
        have c132 : Goes p e below s₁ (entryFrame m #[(.int p0), (.int p1), (.int p2), (.int p3), (.int p4)] 6) T131 (mkF m 156 #[.val (.int p0), .val (.int p1), .val (.int p2), .val (.int p3), .val (.int p4), .unset] [(.ref b92), (.ref b89), (.ref b89)]) := fun t kk => c130 t (st131 t kk)
        have c133 : Goes p e below s₁ (entryFrame m #[(.int p0), (.int p1), (.int p2), (.int p3), (.int p4)] 6) T131 (mkF m 161 #[.val (.int p0), .val (.int p1), .val (.int p2), .val (.int p3), .val (.int p4), .unset] [(.int (111 : Int32)), (.int (12 : Int32)), (.ref b92), (.ref b92), (.ref b89), (.ref b89)]) := by
          intro t kk
          refine c132 t ?_
          show Steps p.tables e below (T131.setTop (mkF m 156 #[.val (.int p0), .val (.int p1), .val (.int p2), .val (.int p3), .val (.int p4), .unset] [(.ref b92), (.ref b89), (.ref b89)])) t
          refine XS.dup X131.here hx rfl (hb hby d1_156) rfl rfl ?_
          show Steps p.tables e below (T131.setTop (mkF m 157 #[.val (.int p0), .val (.int p1), .val (.int p2), .val (.int p3), .val (.int p4), .unset] [(.ref b92), (.ref b92), (.ref b89), (.ref b89)])) t
          refine XS.bipush X131.here hx rfl (hb hby d1_157) ?_
          show Steps p.tables e below (T131.setTop (mkF m 159 #[.val (.int p0), .val (.int p1), .val (.int p2), .val (.int p3), .val (.int p4), .unset] [(.int (12 : Int32)), (.ref b92), (.ref b92), (.ref b89), (.ref b89)])) t
          refine XS.bipush X131.here hx rfl (hb hby d1_159) ?_
          exact kk
        obtain ⟨cl134, Ar134, q134, Sz134, Nn134, Hh134, Gg134⟩ := id V131
        have hin134 : ¬ ((12 : Int32) < 0 ∨ cl134.slots.size ≤ ((12 : Int32)).toNatClampNeg) := inb_of Sz134 ⟨by decide, by decide⟩
        obtain ⟨T134, h134, X134, e134, W134, st134⟩ := stC X131 hx hZ e131 Ar134 (j := (12 : Int32)) hin134 (g := (mkF m 161 #[.val (.int p0), .val (.int p1), .val (.int p2), .val (.int p3), .val (.int p4), .unset] [(.int (111 : Int32)), (.int (12 : Int32)), (.ref b92), (.ref b92), (.ref b89), (.ref b89)])) rfl rfl (hb hby d1_161)
        have V134 := Arv.set Ar134 q134 Sz134 Nn134 Hh134 Gg134 (fits_nar_char _) W134 12 rfl (Nat.le_of_ble_eq_true rfl)
        have N134 := Fr.snoc X134 N131 gb92
        have c135 : Goes p e below s₁ (entryFrame m #[(.int p0), (.int p1), (.int p2), (.int p3), (.int p4)] 6) T134 (mkF m 162 #[.val (.int p0), .val (.int p1), .val (.int p2), .val (.int p3), .val (.int p4), .unset] [(.ref b92), (.ref b89), (.ref b89)]) := fun t kk => c133 t (st134 t kk)
        have c136 : Goes p e below s₁ (entryFrame m #[(.int p0), (.int p1), (.int p2), (.int p3), (.int p4)] 6) T134 (mkF m 167 #[.val (.int p0), .val (.int p1), .val (.int p2), .val (.int p3), .val (.int p4), .unset] [(.int (45 : Int32)), (.int (13 : Int32)), (.ref b92), (.ref b92), (.ref b89), (.ref b89)]) := by
          intro t kk
          refine c135 t ?_
          show Steps p.tables e below (T134.setTop (mkF m 162 #[.val (.int p0), .val (.int p1), .val (.int p2), .val (.int p3), .val (.int p4), .unset] [(.ref b92), (.ref b89), (.ref b89)])) t
          refine XS.dup X134.here hx rfl (hb hby d1_162) rfl rfl ?_
          show Steps p.tables e below (T134.setTop (mkF m 163 #[.val (.int p0), .val (.int p1), .val (.int p2), .val (.int p3), .val (.int p4), .unset] [(.ref b92), (.ref b92), (.ref b89), (.ref b89)])) t
          refine XS.bipush X134.here hx rfl (hb hby d1_163) ?_
          show Steps p.tables e below (T134.setTop (mkF m 165 #[.val (.int p0), .val (.int p1), .val (.int p2), .val (.int p3), .val (.int p4), .unset] [(.int (13 : Int32)), (.ref b92), (.ref b92), (.ref b89), (.ref b89)])) t
          refine XS.bipush X134.here hx rfl (hb hby d1_165) ?_
          exact kk
        obtain ⟨cl137, Ar137, q137, Sz137, Nn137, Hh137, Gg137⟩ := id V134
        have hin137 : ¬ ((13 : Int32) < 0 ∨ cl137.slots.size ≤ ((13 : Int32)).toNatClampNeg) := inb_of Sz137 ⟨by decide, by decide⟩
        obtain ⟨T137, h137, X137, e137, W137, st137⟩ := stC X134 hx hZ e134 Ar137 (j := (13 : Int32)) hin137 (g := (mkF m 167 #[.val (.int p0), .val (.int p1), .val (.int p2), .val (.int p3), .val (.int p4), .unset] [(.int (45 : Int32)), (.int (13 : Int32)), (.ref b92), (.ref b92), (.ref b89), (.ref b89)])) rfl rfl (hb hby d1_167)
        have V137 := Arv.set Ar137 q137 Sz137 Nn137 Hh137 Gg137 (fits_nar_char _) W137 13 rfl (Nat.le_of_ble_eq_true rfl)
        have N137 := Fr.snoc X137 N134 gb92
        have c138 : Goes p e below s₁ (entryFrame m #[(.int p0), (.int p1), (.int p2), (.int p3), (.int p4)] 6) T137 (mkF m 168 #[.val (.int p0), .val (.int p1), .val (.int p2), .val (.int p3), .val (.int p4), .unset] [(.ref b92), (.ref b89), (.ref b89)]) := fun t kk => c136 t (st137 t kk)
        have c139 : Goes p e below s₁ (entryFrame m #[(.int p0), (.int p1), (.int p2), (.int p3), (.int p4)] 6) T137 (mkF m 173 #[.val (.int p0), .val (.int p1), .val (.int p2), .val (.int p3), .val (.int p4), .unset] [(.int (114 : Int32)), (.int (14 : Int32)), (.ref b92), (.ref b92), (.ref b89), (.ref b89)]) := by
          intro t kk
          refine c138 t ?_
          show Steps p.tables e below (T137.setTop (mkF m 168 #[.val (.int p0), .val (.int p1), .val (.int p2), .val (.int p3), .val (.int p4), .unset] [(.ref b92), (.ref b89), (.ref b89)])) t
          refine XS.dup X137.here hx rfl (hb hby d1_168) rfl rfl ?_
          show Steps p.tables e below (T137.setTop (mkF m 169 #[.val (.int p0), .val (.int p1), .val (.int p2), .val (.int p3), .val (.int p4), .unset] [(.ref b92), (.ref b92), (.ref b89), (.ref b89)])) t
          refine XS.bipush X137.here hx rfl (hb hby d1_169) ?_
          show Steps p.tables e below (T137.setTop (mkF m 171 #[.val (.int p0), .val (.int p1), .val (.int p2), .val (.int p3), .val (.int p4), .unset] [(.int (14 : Int32)), (.ref b92), (.ref b92), (.ref b89), (.ref b89)])) t
          refine XS.bipush X137.here hx rfl (hb hby d1_171) ?_
          exact kk
        obtain ⟨cl140, Ar140, q140, Sz140, Nn140, Hh140, Gg140⟩ := id V137
        have hin140 : ¬ ((14 : Int32) < 0 ∨ cl140.slots.size ≤ ((14 : Int32)).toNatClampNeg) := inb_of Sz140 ⟨by decide, by decide⟩
        obtain ⟨T140, h140, X140, e140, W140, st140⟩ := stC X137 hx hZ e137 Ar140 (j := (14 : Int32)) hin140 (g := (mkF m 173 #[.val (.int p0), .val (.int p1), .val (.int p2), .val (.int p3), .val (.int p4), .unset] [(.int (114 : Int32)), (.int (14 : Int32)), (.ref b92), (.ref b92), (.ref b89), (.ref b89)])) rfl rfl (hb hby d1_173)
        have V140 := Arv.set Ar140 q140 Sz140 Nn140 Hh140 Gg140 (fits_nar_char _) W140 14 rfl (Nat.le_of_ble_eq_true rfl)
        have N140 := Fr.snoc X140 N137 gb92
        have c141 : Goes p e below s₁ (entryFrame m #[(.int p0), (.int p1), (.int p2), (.int p3), (.int p4)] 6) T140 (mkF m 174 #[.val (.int p0), .val (.int p1), .val (.int p2), .val (.int p3), .val (.int p4), .unset] [(.ref b92), (.ref b89), (.ref b89)]) := fun t kk => c139 t (st140 t kk)
        have c142 : Goes p e below s₁ (entryFrame m #[(.int p0), (.int p1), (.int p2), (.int p3), (.int p4)] 6) T140 (mkF m 179 #[.val (.int p0), .val (.int p1), .val (.int p2), .val (.int p3), .val (.int p4), .unset] [(.int (101 : Int32)), (.int (15 : Int32)), (.ref b92), (.ref b92), (.ref b89), (.ref b89)]) := by
          intro t kk
          refine c141 t ?_
          show Steps p.tables e below (T140.setTop (mkF m 174 #[.val (.int p0), .val (.int p1), .val (.int p2), .val (.int p3), .val (.int p4), .unset] [(.ref b92), (.ref b89), (.ref b89)])) t
          refine XS.dup X140.here hx rfl (hb hby d1_174) rfl rfl ?_
          show Steps p.tables e below (T140.setTop (mkF m 175 #[.val (.int p0), .val (.int p1), .val (.int p2), .val (.int p3), .val (.int p4), .unset] [(.ref b92), (.ref b92), (.ref b89), (.ref b89)])) t
          refine XS.bipush X140.here hx rfl (hb hby d1_175) ?_
          show Steps p.tables e below (T140.setTop (mkF m 177 #[.val (.int p0), .val (.int p1), .val (.int p2), .val (.int p3), .val (.int p4), .unset] [(.int (15 : Int32)), (.ref b92), (.ref b92), (.ref b89), (.ref b89)])) t
          refine XS.bipush X140.here hx rfl (hb hby d1_177) ?_
          exact kk
        obtain ⟨cl143, Ar143, q143, Sz143, Nn143, Hh143, Gg143⟩ := id V140
        have hin143 : ¬ ((15 : Int32) < 0 ∨ cl143.slots.size ≤ ((15 : Int32)).toNatClampNeg) := inb_of Sz143 ⟨by decide, by decide⟩
        obtain ⟨T143, h143, X143, e143, W143, st143⟩ := stC X140 hx hZ e140 Ar143 (j := (15 : Int32)) hin143 (g := (mkF m 179 #[.val (.int p0), .val (.int p1), .val (.int p2), .val (.int p3), .val (.int p4), .unset] [(.int (101 : Int32)), (.int (15 : Int32)), (.ref b92), (.ref b92), (.ref b89), (.ref b89)])) rfl rfl (hb hby d1_179)
        have V143 := Arv.set Ar143 q143 Sz143 Nn143 Hh143 Gg143 (fits_nar_char _) W143 15 rfl (Nat.le_of_ble_eq_true rfl)
        have N143 := Fr.snoc X143 N140 gb92
        have c144 : Goes p e below s₁ (entryFrame m #[(.int p0), (.int p1), (.int p2), (.int p3), (.int p4)] 6) T143 (mkF m 180 #[.val (.int p0), .val (.int p1), .val (.int p2), .val (.int p3), .val (.int p4), .unset] [(.ref b92), (.ref b89), (.ref b89)]) := fun t kk => c142 t (st143 t kk)
        have c145 : Goes p e below s₁ (entryFrame m #[(.int p0), (.int p1), (.int p2), (.int p3), (.int p4)] 6) T143 (mkF m 185 #[.val (.int p0), .val (.int p1), .val (.int p2), .val (.int p3), .val (.int p4), .unset] [(.int (116 : Int32)), (.int (16 : Int32)), (.ref b92), (.ref b92), (.ref b89), (.ref b89)]) := by
          intro t kk
          refine c144 t ?_
          show Steps p.tables e below (T143.setTop (mkF m 180 #[.val (.int p0), .val (.int p1), .val (.int p2), .val (.int p3), .val (.int p4), .unset] [(.ref b92), (.ref b89), (.ref b89)])) t
          refine XS.dup X143.here hx rfl (hb hby d1_180) rfl rfl ?_
          show Steps p.tables e below (T143.setTop (mkF m 181 #[.val (.int p0), .val (.int p1), .val (.int p2), .val (.int p3), .val (.int p4), .unset] [(.ref b92), (.ref b92), (.ref b89), (.ref b89)])) t
          refine XS.bipush X143.here hx rfl (hb hby d1_181) ?_
          show Steps p.tables e below (T143.setTop (mkF m 183 #[.val (.int p0), .val (.int p1), .val (.int p2), .val (.int p3), .val (.int p4), .unset] [(.int (16 : Int32)), (.ref b92), (.ref b92), (.ref b89), (.ref b89)])) t
          refine XS.bipush X143.here hx rfl (hb hby d1_183) ?_
          exact kk
        obtain ⟨cl146, Ar146, q146, Sz146, Nn146, Hh146, Gg146⟩ := id V143
        have hin146 : ¬ ((16 : Int32) < 0 ∨ cl146.slots.size ≤ ((16 : Int32)).toNatClampNeg) := inb_of Sz146 ⟨by decide, by decide⟩
        obtain ⟨T146, h146, X146, e146, W146, st146⟩ := stC X143 hx hZ e143 Ar146 (j := (16 : Int32)) hin146 (g := (mkF m 185 #[.val (.int p0), .val (.int p1), .val (.int p2), .val (.int p3), .val (.int p4), .unset] [(.int (116 : Int32)), (.int (16 : Int32)), (.ref b92), (.ref b92), (.ref b89), (.ref b89)])) rfl rfl (hb hby d1_185)
        have V146 := Arv.set Ar146 q146 Sz146 Nn146 Hh146 Gg146 (fits_nar_char _) W146 16 rfl (Nat.le_of_ble_eq_true rfl)
        have N146 := Fr.snoc X146 N143 gb92
        have c147 : Goes p e below s₁ (entryFrame m #[(.int p0), (.int p1), (.int p2), (.int p3), (.int p4)] 6) T146 (mkF m 186 #[.val (.int p0), .val (.int p1), .val (.int p2), .val (.int p3), .val (.int p4), .unset] [(.ref b92), (.ref b89), (.ref b89)]) := fun t kk => c145 t (st146 t kk)
        have c148 : Goes p e below s₁ (entryFrame m #[(.int p0), (.int p1), (.int p2), (.int p3), (.int p4)] 6) T146 (mkF m 191 #[.val (.int p0), .val (.int p1), .val (.int p2), .val (.int p3), .val (.int p4), .unset] [(.int (114 : Int32)), (.int (17 : Int32)), (.ref b92), (.ref b92), (.ref b89), (.ref b89)]) := by
          intro t kk
          refine c147 t ?_
          show Steps p.tables e below (T146.setTop (mkF m 186 #[.val (.int p0), .val (.int p1), .val (.int p2), .val (.int p3), .val (.int p4), .unset] [(.ref b92), (.ref b89), (.ref b89)])) t
          refine XS.dup X146.here hx rfl (hb hby d1_186) rfl rfl ?_
          show Steps p.tables e below (T146.setTop (mkF m 187 #[.val (.int p0), .val (.int p1), .val (.int p2), .val (.int p3), .val (.int p4), .unset] [(.ref b92), (.ref b92), (.ref b89), (.ref b89)])) t
          refine XS.bipush X146.here hx rfl (hb hby d1_187) ?_
          show Steps p.tables e below (T146.setTop (mkF m 189 #[.val (.int p0), .val (.int p1), .val (.int p2), .val (.int p3), .val (.int p4), .unset] [(.int (17 : Int32)), (.ref b92), (.ref b92), (.ref b89), (.ref b89)])) t
          refine XS.bipush X146.here hx rfl (hb hby d1_189) ?_
          exact kk
        obtain ⟨cl149, Ar149, q149, Sz149, Nn149, Hh149, Gg149⟩ := id V146
        have hin149 : ¬ ((17 : Int32) < 0 ∨ cl149.slots.size ≤ ((17 : Int32)).toNatClampNeg) := inb_of Sz149 ⟨by decide, by decide⟩
        obtain ⟨T149, h149, X149, e149, W149, st149⟩ := stC X146 hx hZ e146 Ar149 (j := (17 : Int32)) hin149 (g := (mkF m 191 #[.val (.int p0), .val (.int p1), .val (.int p2), .val (.int p3), .val (.int p4), .unset] [(.int (114 : Int32)), (.int (17 : Int32)), (.ref b92), (.ref b92), (.ref b89), (.ref b89)])) rfl rfl (hb hby d1_191)
        have V149 := Arv.set Ar149 q149 Sz149 Nn149 Hh149 Gg149 (fits_nar_char _) W149 17 rfl (Nat.le_of_ble_eq_true rfl)
        have N149 := Fr.snoc X149 N146 gb92
        have c150 : Goes p e below s₁ (entryFrame m #[(.int p0), (.int p1), (.int p2), (.int p3), (.int p4)] 6) T149 (mkF m 192 #[.val (.int p0), .val (.int p1), .val (.int p2), .val (.int p3), .val (.int p4), .unset] [(.ref b92), (.ref b89), (.ref b89)]) := fun t kk => c148 t (st149 t kk)
        have c151 : Goes p e below s₁ (entryFrame m #[(.int p0), (.int p1), (.int p2), (.int p3), (.int p4)] 6) T149 (mkF m 197 #[.val (.int p0), .val (.int p1), .val (.int p2), .val (.int p3), .val (.int p4), .unset] [(.int (121 : Int32)), (.int (18 : Int32)), (.ref b92), (.ref b92), (.ref b89), (.ref b89)]) := by
          intro t kk
          refine c150 t ?_
          show Steps p.tables e below (T149.setTop (mkF m 192 #[.val (.int p0), .val (.int p1), .val (.int p2), .val (.int p3), .val (.int p4), .unset] [(.ref b92), (.ref b89), (.ref b89)])) t
          refine XS.dup X149.here hx rfl (hb hby d1_192) rfl rfl ?_
          show Steps p.tables e below (T149.setTop (mkF m 193 #[.val (.int p0), .val (.int p1), .val (.int p2), .val (.int p3), .val (.int p4), .unset] [(.ref b92), (.ref b92), (.ref b89), (.ref b89)])) t
          refine XS.bipush X149.here hx rfl (hb hby d1_193) ?_
          show Steps p.tables e below (T149.setTop (mkF m 195 #[.val (.int p0), .val (.int p1), .val (.int p2), .val (.int p3), .val (.int p4), .unset] [(.int (18 : Int32)), (.ref b92), (.ref b92), (.ref b89), (.ref b89)])) t
          refine XS.bipush X149.here hx rfl (hb hby d1_195) ?_
          exact kk
        obtain ⟨cl152, Ar152, q152, Sz152, Nn152, Hh152, Gg152⟩ := id V149
        have hin152 : ¬ ((18 : Int32) < 0 ∨ cl152.slots.size ≤ ((18 : Int32)).toNatClampNeg) := inb_of Sz152 ⟨by decide, by decide⟩
        obtain ⟨T152, h152, X152, e152, W152, st152⟩ := stC X149 hx hZ e149 Ar152 (j := (18 : Int32)) hin152 (g := (mkF m 197 #[.val (.int p0), .val (.int p1), .val (.int p2), .val (.int p3), .val (.int p4), .unset] [(.int (121 : Int32)), (.int (18 : Int32)), (.ref b92), (.ref b92), (.ref b89), (.ref b89)])) rfl rfl (hb hby d1_197)
        have V152 := Arv.set Ar152 q152 Sz152 Nn152 Hh152 Gg152 (fits_nar_char _) W152 18 rfl (Nat.le_of_ble_eq_true rfl)
        have N152 := Fr.snoc X152 N149 gb92
        have c153 : Goes p e below s₁ (entryFrame m #[(.int p0), (.int p1), (.int p2), (.int p3), (.int p4)] 6) T152 (mkF m 198 #[.val (.int p0), .val (.int p1), .val (.int p2), .val (.int p3), .val (.int p4), .unset] [(.ref b92), (.ref b89), (.ref b89)]) := fun t kk => c151 t (st152 t kk)
        have f154 := (((((((((((((((((((((O0.ext E89).ext E92).wr W98 gb92).wr W101 gb92).wr W104 gb92).wr W107 gb92).wr W110 gb92).wr W113 gb92).wr W116 gb92).wr W119 gb92).wr W122 gb92).wr W125 gb92).wr W128 gb92).wr W131 gb92).wr W134 gb92).wr W137 gb92).wr W140 gb92).wr W143 gb92).wr W146 gb92).wr W149 gb92).wr W152 gb92)
        have f155 := (Nat.le_trans (Nat.le_trans (Nat.le_trans (Nat.le_trans (Nat.le_trans (Nat.le_trans (Nat.le_trans (Nat.le_trans (Nat.le_trans (Nat.le_trans (Nat.le_trans (Nat.le_trans (Nat.le_trans (Nat.le_trans (Nat.le_trans (Nat.le_trans (Nat.le_trans (Nat.le_trans (Nat.le_trans (Nat.le_trans f93 E92.1) (Keep.of_wr W98).1) (Keep.of_wr W101).1) (Keep.of_wr W104).1) (Keep.of_wr W107).1) (Keep.of_wr W110).1) (Keep.of_wr W113).1) (Keep.of_wr W116).1) (Keep.of_wr W119).1) (Keep.of_wr W122).1) (Keep.of_wr W125).1) (Keep.of_wr W128).1) (Keep.of_wr W131).1) (Keep.of_wr W134).1) (Keep.of_wr W137).1) (Keep.of_wr W140).1) (Keep.of_wr W143).1) (Keep.of_wr W146).1) (Keep.of_wr W149).1) (Keep.of_wr W152).1)
        have f156 := ((((((((((((((((((((A89.ext E92).wr W98).wr W101).wr W104).wr W107).wr W110).wr W113).wr W116).wr W119).wr W122).wr W125).wr W128).wr W131).wr W134).wr W137).wr W140).wr W143).wr W146).wr W149).wr W152)
        have f157 := ((((((((((((((((((((F_value_b89.ext E92).other W98 (Or.inl neb89_92)).other W101 (Or.inl neb89_92)).other W104 (Or.inl neb89_92)).other W107 (Or.inl neb89_92)).other W110 (Or.inl neb89_92)).other W113 (Or.inl neb89_92)).other W116 (Or.inl neb89_92)).other W119 (Or.inl neb89_92)).other W122 (Or.inl neb89_92)).other W125 (Or.inl neb89_92)).other W128 (Or.inl neb89_92)).other W131 (Or.inl neb89_92)).other W134 (Or.inl neb89_92)).other W137 (Or.inl neb89_92)).other W140 (Or.inl neb89_92)).other W143 (Or.inl neb89_92)).other W146 (Or.inl neb89_92)).other W149 (Or.inl neb89_92)).other W152 (Or.inl neb89_92))
        have f158 := ((((((((((((((((((((F_coder_b89.ext E92).other W98 (Or.inl neb89_92)).other W101 (Or.inl neb89_92)).other W104 (Or.inl neb89_92)).other W107 (Or.inl neb89_92)).other W110 (Or.inl neb89_92)).other W113 (Or.inl neb89_92)).other W116 (Or.inl neb89_92)).other W119 (Or.inl neb89_92)).other W122 (Or.inl neb89_92)).other W125 (Or.inl neb89_92)).other W128 (Or.inl neb89_92)).other W131 (Or.inl neb89_92)).other W134 (Or.inl neb89_92)).other W137 (Or.inl neb89_92)).other W140 (Or.inl neb89_92)).other W143 (Or.inl neb89_92)).other W146 (Or.inl neb89_92)).other W149 (Or.inl neb89_92)).other W152 (Or.inl neb89_92))
        obtain ⟨_, _, ⟨T159, L159, k159, n159⟩, -, X159, ⟨Lc159, hQ159, l159, y159, z159⟩, st159⟩ := X152.specialBack hx (y := (⟨"java/lang/String", "<init>", "([C)V"⟩ : MethodName)) rfl hown (mvT hZ (hw _ (List.mem_of_getElem? (i := 21) rfl))) (mvT hZ (hw _ (List.mem_of_getElem? (i := 22) rfl))) (mvT hZ (hw _ (List.mem_of_getElem? (i := 23) rfl))) (by decide) (StrChars.Road.backV (W := 1) hZ (own_wmk hw) (kI := 4) (hw _ (List.mem_of_getElem? (i := 19) rfl)) (cs := ([(nar .char (111 : Int32)), (nar .char (118 : Int32)), (nar .char (101 : Int32)), (nar .char (114 : Int32)), (nar .char (108 : Int32)), (nar .char (111 : Int32)), (nar .char (97 : Int32)), (nar .char (100 : Int32)), (nar .char (101 : Int32)), (nar .char (100 : Int32)), (nar .char (45 : Int32)), (nar .char (110 : Int32)), (nar .char (111 : Int32)), (nar .char (45 : Int32)), (nar .char (114 : Int32)), (nar .char (101 : Int32)), (nar .char (116 : Int32)), (nar .char (114 : Int32)), (nar .char (121 : Int32))] : List Int32)) (bs := (([(nar .char (111 : Int32)), (nar .char (118 : Int32)), (nar .char (101 : Int32)), (nar .char (114 : Int32)), (nar .char (108 : Int32)), (nar .char (111 : Int32)), (nar .char (97 : Int32)), (nar .char (100 : Int32)), (nar .char (101 : Int32)), (nar .char (100 : Int32)), (nar .char (45 : Int32)), (nar .char (110 : Int32)), (nar .char (111 : Int32)), (nar .char (45 : Int32)), (nar .char (114 : Int32)), (nar .char (101 : Int32)), (nar .char (116 : Int32)), (nar .char (114 : Int32)), (nar .char (121 : Int32))] : List Int32)).map StrChars.lo8) (n := 19) gb89 f155 f156 f157 f158 V152 (S2.ext f154.2) hz rfl rfl (by decide) (by decide) (own_two (by decide) (own_two (by decide) (own_two (by decide) (own_two (by decide) (own_two (by decide) (own_two (by decide) (own_two (by decide) (own_two (by decide) (own_two (by decide) (own_two (by decide) (own_two (by decide) (own_two (by decide) (own_two (by decide) (own_two (by decide) (own_two (by decide) (own_two (by decide) (own_two (by decide) (own_two (by decide) (own_two (by decide) own_nil))))))))))))))))))) rfl (by decide) (by decide)) (g := (mkF m 198 #[.val (.int p0), .val (.int p1), .val (.int p2), .val (.int p3), .val (.int p4), .unset] [(.ref b92), (.ref b89), (.ref b89)])) rfl (by rw [hml]; rfl) (Steps.refl _) (a := b89) (argsL := [(.ref b92)]) (rest := [(.ref b89)]) (lenOf pd___C_V rfl) rfl (by show 2 * 0 + _ ≤ _; exact Nat.le_of_eq rfl) (hb hby d1_198) (fun _ _ => ⟨rfl, e152, (by decide : 2 + 1 ≤ _), (by decide : 23 + 19 ≤ _)⟩)
        dsimp only [Pt.U, Pt.locs, Pt.cells, Pt.slots] at X159 l159 y159 z159 st159 hQ159
        subst l159 y159 z159
        obtain ⟨rfl, Nq159, Kq159, Eq159, Cq159, t159, kb159, gt159, szt159, net159, Vq159, Aq159⟩ := hQ159
        have N159 := Fr.app N152 Nq159
        have c160 : Goes p e below s₁ (entryFrame m #[(.int p0), (.int p1), (.int p2), (.int p3), (.int p4)] 6) T159 (mkF m 201 #[.val (.int p0), .val (.int p1), .val (.int p2), .val (.int p3), .val (.int p4), .unset] [(.ref b89)]) := fun t kk => c153 t (st159.trans kk)
        have Str159 : own_str Z T159.heap b89 ([(nar .char (111 : Int32)), (nar .char (118 : Int32)), (nar .char (101 : Int32)), (nar .char (114 : Int32)), (nar .char (108 : Int32)), (nar .char (111 : Int32)), (nar .char (97 : Int32)), (nar .char (100 : Int32)), (nar .char (101 : Int32)), (nar .char (100 : Int32)), (nar .char (45 : Int32)), (nar .char (110 : Int32)), (nar .char (111 : Int32)), (nar .char (45 : Int32)), (nar .char (114 : Int32)), (nar .char (101 : Int32)), (nar .char (116 : Int32)), (nar .char (114 : Int32)), (nar .char (121 : Int32))] : List Int32) := ⟨Eq159, Cq159, (own_two (by decide) (own_two (by decide) (own_two (by decide) (own_two (by decide) (own_two (by decide) (own_two (by decide) (own_two (by decide) (own_two (by decide) (own_two (by decide) (own_two (by decide) (own_two (by decide) (own_two (by decide) (own_two (by decide) (own_two (by decide) (own_two (by decide) (own_two (by decide) (own_two (by decide) (own_two (by decide) (own_two (by decide) own_nil))))))))))))))))))), t159, kb159, Vq159, Aq159⟩
        have f161 := (((((((((((((((((((((f95.ext E92).wr W98 (Or.inr szb92_92)).wr W101 (Or.inr szb92_92)).wr W104 (Or.inr szb92_92)).wr W107 (Or.inr szb92_92)).wr W110 (Or.inr szb92_92)).wr W113 (Or.inr szb92_92)).wr W116 (Or.inr szb92_92)).wr W119 (Or.inr szb92_92)).wr W122 (Or.inr szb92_92)).wr W125 (Or.inr szb92_92)).wr W128 (Or.inr szb92_92)).wr W131 (Or.inr szb92_92)).wr W134 (Or.inr szb92_92)).wr W137 (Or.inr szb92_92)).wr W140 (Or.inr szb92_92)).wr W143 (Or.inr szb92_92)).wr W146 (Or.inr szb92_92)).wr W149 (Or.inr szb92_92)).wr W152 (Or.inr szb92_92)).trans Kq159 (allS (Or.inr szb89_89) all0))
        have f162 := (Nat.le_trans (Nat.le_trans (Nat.le_trans (Nat.le_trans (Nat.le_trans (Nat.le_trans (Nat.le_trans (Nat.le_trans (Nat.le_trans (Nat.le_trans (Nat.le_trans (Nat.le_trans (Nat.le_trans (Nat.le_trans (Nat.le_trans (Nat.le_trans (Nat.le_trans (Nat.le_trans (Nat.le_trans (Nat.le_trans (Nat.le_trans (Nat.le_trans (Nat.zero_le _) E89.1) E92.1) (Keep.of_wr W98).1) (Keep.of_wr W101).1) (Keep.of_wr W104).1) (Keep.of_wr W107).1) (Keep.of_wr W110).1) (Keep.of_wr W113).1) (Keep.of_wr W116).1) (Keep.of_wr W119).1) (Keep.of_wr W122).1) (Keep.of_wr W125).1) (Keep.of_wr W128).1) (Keep.of_wr W131).1) (Keep.of_wr W134).1) (Keep.of_wr W137).1) (Keep.of_wr W140).1) (Keep.of_wr W143).1) (Keep.of_wr W146).1) (Keep.of_wr W149).1) (Keep.of_wr W152).1) Kq159.1)
        obtain ⟨fs, hr, hrun, hended, hRW⟩ := X159.leaveW SW0 f162 (v := some (.ref b89)) (fun h => by rw [Bd.returns] at h; cases h)
        have f163 := (((((((((((((((((((((f94.ext E92).wr W98 (Or.inr szbb92_92)).wr W101 (Or.inr szbb92_92)).wr W104 (Or.inr szbb92_92)).wr W107 (Or.inr szbb92_92)).wr W110 (Or.inr szbb92_92)).wr W113 (Or.inr szbb92_92)).wr W116 (Or.inr szbb92_92)).wr W119 (Or.inr szbb92_92)).wr W122 (Or.inr szbb92_92)).wr W125 (Or.inr szbb92_92)).wr W128 (Or.inr szbb92_92)).wr W131 (Or.inr szbb92_92)).wr W134 (Or.inr szbb92_92)).wr W137 (Or.inr szbb92_92)).wr W140 (Or.inr szbb92_92)).wr W143 (Or.inr szbb92_92)).wr W146 (Or.inr szbb92_92)).wr W149 (Or.inr szbb92_92)).wr W152 (Or.inr szbb92_92)).trans Kq159 (allS (Or.inr szbb89_89) all0))
        have hCRe := (CHr.keep f163 sf0 hCH0)
        have hCRt : CHr Z consts_1 s.vm s.heap (T159.setFrames fs).vm (T159.setFrames fs).heap := by
          rw [hh]
          show CHr Z consts_1 s.vm h0 T159.vm T159.heap
          exact hCRe.trans (CHv.at X159 hZ hEL hCRe.1)
        refine ⟨_, _, c160 _ ?_, hrun, hended, _, _, rfl, ?_, hCRt, hRW.1, hRW.2.1, hRW.2.2.1, hRW.2.2.2.mono (by decide) (by decide)⟩
        · exact retOut X159 hx Bd.returns rfl (Or.inr (Or.inr (Or.inr (Or.inr ⟨rfl, rfl, rfl⟩)))) (hb hby d1_201) hr
        · show Q_mk Z p0 p1 p2 p3 p4 z h0 n0 _ T159.heap _
          exact ⟨.ref b89, rfl, N159, f161, Or.inr ⟨b89, ([(nar .char (111 : Int32)), (nar .char (118 : Int32)), (nar .char (101 : Int32)), (nar .char (114 : Int32)), (nar .char (108 : Int32)), (nar .char (111 : Int32)), (nar .char (97 : Int32)), (nar .char (100 : Int32)), (nar .char (101 : Int32)), (nar .char (100 : Int32)), (nar .char (45 : Int32)), (nar .char (110 : Int32)), (nar .char (111 : Int32)), (nar .char (45 : Int32)), (nar .char (114 : Int32)), (nar .char (101 : Int32)), (nar .char (116 : Int32)), (nar .char (114 : Int32)), (nar .char (121 : Int32))] : List Int32), rfl, Str159, (by simp)⟩⟩
      · have c164 : Goes p e below s₁ (entryFrame m #[(.int p0), (.int p1), (.int p2), (.int p3), (.int p4)] 6) s₁ (mkF m 204 #[.val (.int p0), .val (.int p1), .val (.int p2), .val (.int p3), .val (.int p4), .unset] [(.int (3 : Int32)), (.int p0)]) := by
          intro t kk
          refine c86 t ?_
          show Steps p.tables e below (s₁.setTop (mkF m 79 #[.val (.int p0), .val (.int p1), .val (.int p2), .val (.int p3), .val (.int p4), .unset] [(.int (2 : Int32)), (.int p0)])) t
          refine XS.icmpYes XW0.here hx rfl (pc0 := 79) (pc' := 202) rfl (hb hby d1_79) rfl (feq hc79_87).2 (by decide) (by decide) ?_
          show Steps p.tables e below (s₁.setTop (mkF m 202 #[.val (.int p0), .val (.int p1), .val (.int p2), .val (.int p3), .val (.int p4), .unset] [])) t
          refine XS.iloadN XW0.here hx rfl (hb hby d1_202) rfl ?_
          show Steps p.tables e below (s₁.setTop (mkF m 203 #[.val (.int p0), .val (.int p1), .val (.int p2), .val (.int p3), .val (.int p4), .unset] [(.int p0)])) t
          refine XS.iconst XW0.here hx rfl (hb hby d1_203) ?_
          exact kk
        by_cases hc204_165 : p0 = (3 : Int32)
        · have c166 : Goes p e below s₁ (entryFrame m #[(.int p0), (.int p1), (.int p2), (.int p3), (.int p4)] 6) s₁ (mkF m 209 #[.val (.int p0), .val (.int p1), .val (.int p2), .val (.int p3), .val (.int p4), .unset] [(.int (10 : Int32))]) := by
            intro t kk
            refine c164 t ?_
            show Steps p.tables e below (s₁.setTop (mkF m 204 #[.val (.int p0), .val (.int p1), .val (.int p2), .val (.int p3), .val (.int p4), .unset] [(.int (3 : Int32)), (.int p0)])) t
            refine XS.icmpNo XW0.here hx rfl (hb hby d1_204) rfl (teq hc204_165).2 ?_
            show Steps p.tables e below (s₁.setTop (mkF m 207 #[.val (.int p0), .val (.int p1), .val (.int p2), .val (.int p3), .val (.int p4), .unset] [])) t
            refine XS.bipush XW0.here hx rfl (hb hby d1_207) ?_
            exact kk
          obtain ⟨T167, h167, k167, X167, e167, E167, A167, st167⟩ := newP XW0 hx hZ (hw _ (List.mem_of_getElem? (i := 17) rfl)) e0 (g := (mkF m 209 #[.val (.int p0), .val (.int p1), .val (.int p2), .val (.int p3), .val (.int p4), .unset] [(.int (10 : Int32))])) rfl (hb hby d1_209) rfl (by decide) (cap := 10) (by decide) (by decide) (by decide) (by decide)
          obtain ⟨b167, g167⟩ : ∃ z, z = h0.size := ⟨_, rfl⟩
          rw [← g167] at A167 st167
          have gb167 : n0 ≤ b167 := Nat.le_trans Z0 (Nat.le_of_eq g167.symm)
          have szbb167_167 : h0.size ≤ b167 := Nat.le_trans (Keep.refl h0 []).1 (Nat.le_of_eq g167.symm)
          have szb167_167 : h0.size ≤ b167 := Nat.le_trans (Keep.refl h0 []).1 (Nat.le_of_eq g167.symm)
          have V167 : Arv Z h167 b167 k167 .char (10 : Int32) [(.int (0 : Int32)), (.int (0 : Int32)), (.int (0 : Int32)), (.int (0 : Int32)), (.int (0 : Int32)), (.int (0 : Int32)), (.int (0 : Int32)), (.int (0 : Int32)), (.int (0 : Int32)), (.int (0 : Int32))] (.int (0 : Int32)) := (Arv.new A167 (by decide)).pad (pad_rep [] (.int (0 : Int32)) 10)
          have c168 : Goes p e below s₁ (entryFrame m #[(.int p0), (.int p1), (.int p2), (.int p3), (.int p4)] 6) T167 (mkF m 211 #[.val (.int p0), .val (.int p1), .val (.int p2), .val (.int p3), .val (.int p4), .unset] [(.ref b167)]) := fun t kk => c166 t (st167 t kk)
          have c169 : Goes p e below s₁ (entryFrame m #[(.int p0), (.int p1), (.int p2), (.int p3), (.int p4)] 6) T167 (mkF m 215 #[.val (.int p0), .val (.int p1), .val (.int p2), .val (.int p3), .val (.int p4), .unset] [(.int (111 : Int32)), (.int (0 : Int32)), (.ref b167), (.ref b167)]) := by
            intro t kk
            refine c168 t ?_
            show Steps p.tables e below (T167.setTop (mkF m 211 #[.val (.int p0), .val (.int p1), .val (.int p2), .val (.int p3), .val (.int p4), .unset] [(.ref b167)])) t
            refine XS.dup X167.here hx rfl (hb hby d1_211) rfl rfl ?_
            show Steps p.tables e below (T167.setTop (mkF m 212 #[.val (.int p0), .val (.int p1), .val (.int p2), .val (.int p3), .val (.int p4), .unset] [(.ref b167), (.ref b167)])) t
            refine XS.iconst X167.here hx rfl (hb hby d1_212) ?_
            show Steps p.tables e below (T167.setTop (mkF m 213 #[.val (.int p0), .val (.int p1), .val (.int p2), .val (.int p3), .val (.int p4), .unset] [(.int (0 : Int32)), (.ref b167), (.ref b167)])) t
            refine XS.bipush X167.here hx rfl (hb hby d1_213) ?_
            exact kk
          obtain ⟨cl170, Ar170, q170, Sz170, Nn170, Hh170, Gg170⟩ := id V167
          have hin170 : ¬ ((0 : Int32) < 0 ∨ cl170.slots.size ≤ ((0 : Int32)).toNatClampNeg) := inb_of Sz170 ⟨by decide, by decide⟩
          obtain ⟨T170, h170, X170, e170, W170, st170⟩ := stC X167 hx hZ e167 Ar170 (j := (0 : Int32)) hin170 (g := (mkF m 215 #[.val (.int p0), .val (.int p1), .val (.int p2), .val (.int p3), .val (.int p4), .unset] [(.int (111 : Int32)), (.int (0 : Int32)), (.ref b167), (.ref b167)])) rfl rfl (hb hby d1_215)
          have V170 := Arv.set Ar170 q170 Sz170 Nn170 Hh170 Gg170 (fits_nar_char _) W170 0 rfl (Nat.le_of_ble_eq_true rfl)
          have N170 := Fr.snoc X170 N0 gb167
          have c171 : Goes p e below s₁ (entryFrame m #[(.int p0), (.int p1), (.int p2), (.int p3), (.int p4)] 6) T170 (mkF m 216 #[.val (.int p0), .val (.int p1), .val (.int p2), .val (.int p3), .val (.int p4), .unset] [(.ref b167)]) := fun t kk => c169 t (st170 t kk)
          have c172 : Goes p e below s₁ (entryFrame m #[(.int p0), (.int p1), (.int p2), (.int p3), (.int p4)] 6) T170 (mkF m 220 #[.val (.int p0), .val (.int p1), .val (.int p2), .val (.int p3), .val (.int p4), .unset] [(.int (118 : Int32)), (.int (1 : Int32)), (.ref b167), (.ref b167)]) := by
            intro t kk
            refine c171 t ?_
            show Steps p.tables e below (T170.setTop (mkF m 216 #[.val (.int p0), .val (.int p1), .val (.int p2), .val (.int p3), .val (.int p4), .unset] [(.ref b167)])) t
            refine XS.dup X170.here hx rfl (hb hby d1_216) rfl rfl ?_
            show Steps p.tables e below (T170.setTop (mkF m 217 #[.val (.int p0), .val (.int p1), .val (.int p2), .val (.int p3), .val (.int p4), .unset] [(.ref b167), (.ref b167)])) t
            refine XS.iconst X170.here hx rfl (hb hby d1_217) ?_
            show Steps p.tables e below (T170.setTop (mkF m 218 #[.val (.int p0), .val (.int p1), .val (.int p2), .val (.int p3), .val (.int p4), .unset] [(.int (1 : Int32)), (.ref b167), (.ref b167)])) t
            refine XS.bipush X170.here hx rfl (hb hby d1_218) ?_
            exact kk
          obtain ⟨cl173, Ar173, q173, Sz173, Nn173, Hh173, Gg173⟩ := id V170
          have hin173 : ¬ ((1 : Int32) < 0 ∨ cl173.slots.size ≤ ((1 : Int32)).toNatClampNeg) := inb_of Sz173 ⟨by decide, by decide⟩
          obtain ⟨T173, h173, X173, e173, W173, st173⟩ := stC X170 hx hZ e170 Ar173 (j := (1 : Int32)) hin173 (g := (mkF m 220 #[.val (.int p0), .val (.int p1), .val (.int p2), .val (.int p3), .val (.int p4), .unset] [(.int (118 : Int32)), (.int (1 : Int32)), (.ref b167), (.ref b167)])) rfl rfl (hb hby d1_220)
          have V173 := Arv.set Ar173 q173 Sz173 Nn173 Hh173 Gg173 (fits_nar_char _) W173 1 rfl (Nat.le_of_ble_eq_true rfl)
          have N173 := Fr.snoc X173 N170 gb167
          have c174 : Goes p e below s₁ (entryFrame m #[(.int p0), (.int p1), (.int p2), (.int p3), (.int p4)] 6) T173 (mkF m 221 #[.val (.int p0), .val (.int p1), .val (.int p2), .val (.int p3), .val (.int p4), .unset] [(.ref b167)]) := fun t kk => c172 t (st173 t kk)
          have c175 : Goes p e below s₁ (entryFrame m #[(.int p0), (.int p1), (.int p2), (.int p3), (.int p4)] 6) T173 (mkF m 225 #[.val (.int p0), .val (.int p1), .val (.int p2), .val (.int p3), .val (.int p4), .unset] [(.int (101 : Int32)), (.int (2 : Int32)), (.ref b167), (.ref b167)]) := by
            intro t kk
            refine c174 t ?_
            show Steps p.tables e below (T173.setTop (mkF m 221 #[.val (.int p0), .val (.int p1), .val (.int p2), .val (.int p3), .val (.int p4), .unset] [(.ref b167)])) t
            refine XS.dup X173.here hx rfl (hb hby d1_221) rfl rfl ?_
            show Steps p.tables e below (T173.setTop (mkF m 222 #[.val (.int p0), .val (.int p1), .val (.int p2), .val (.int p3), .val (.int p4), .unset] [(.ref b167), (.ref b167)])) t
            refine XS.iconst X173.here hx rfl (hb hby d1_222) ?_
            show Steps p.tables e below (T173.setTop (mkF m 223 #[.val (.int p0), .val (.int p1), .val (.int p2), .val (.int p3), .val (.int p4), .unset] [(.int (2 : Int32)), (.ref b167), (.ref b167)])) t
            refine XS.bipush X173.here hx rfl (hb hby d1_223) ?_
            exact kk
          obtain ⟨cl176, Ar176, q176, Sz176, Nn176, Hh176, Gg176⟩ := id V173
          have hin176 : ¬ ((2 : Int32) < 0 ∨ cl176.slots.size ≤ ((2 : Int32)).toNatClampNeg) := inb_of Sz176 ⟨by decide, by decide⟩
          obtain ⟨T176, h176, X176, e176, W176, st176⟩ := stC X173 hx hZ e173 Ar176 (j := (2 : Int32)) hin176 (g := (mkF m 225 #[.val (.int p0), .val (.int p1), .val (.int p2), .val (.int p3), .val (.int p4), .unset] [(.int (101 : Int32)), (.int (2 : Int32)), (.ref b167), (.ref b167)])) rfl rfl (hb hby d1_225)
          have V176 := Arv.set Ar176 q176 Sz176 Nn176 Hh176 Gg176 (fits_nar_char _) W176 2 rfl (Nat.le_of_ble_eq_true rfl)
          have N176 := Fr.snoc X176 N173 gb167
          have c177 : Goes p e below s₁ (entryFrame m #[(.int p0), (.int p1), (.int p2), (.int p3), (.int p4)] 6) T176 (mkF m 226 #[.val (.int p0), .val (.int p1), .val (.int p2), .val (.int p3), .val (.int p4), .unset] [(.ref b167)]) := fun t kk => c175 t (st176 t kk)
          have c178 : Goes p e below s₁ (entryFrame m #[(.int p0), (.int p1), (.int p2), (.int p3), (.int p4)] 6) T176 (mkF m 230 #[.val (.int p0), .val (.int p1), .val (.int p2), .val (.int p3), .val (.int p4), .unset] [(.int (114 : Int32)), (.int (3 : Int32)), (.ref b167), (.ref b167)]) := by
            intro t kk
            refine c177 t ?_
            show Steps p.tables e below (T176.setTop (mkF m 226 #[.val (.int p0), .val (.int p1), .val (.int p2), .val (.int p3), .val (.int p4), .unset] [(.ref b167)])) t
            refine XS.dup X176.here hx rfl (hb hby d1_226) rfl rfl ?_
            show Steps p.tables e below (T176.setTop (mkF m 227 #[.val (.int p0), .val (.int p1), .val (.int p2), .val (.int p3), .val (.int p4), .unset] [(.ref b167), (.ref b167)])) t
            refine XS.iconst X176.here hx rfl (hb hby d1_227) ?_
            show Steps p.tables e below (T176.setTop (mkF m 228 #[.val (.int p0), .val (.int p1), .val (.int p2), .val (.int p3), .val (.int p4), .unset] [(.int (3 : Int32)), (.ref b167), (.ref b167)])) t
            refine XS.bipush X176.here hx rfl (hb hby d1_228) ?_
            exact kk
          obtain ⟨cl179, Ar179, q179, Sz179, Nn179, Hh179, Gg179⟩ := id V176
          have hin179 : ¬ ((3 : Int32) < 0 ∨ cl179.slots.size ≤ ((3 : Int32)).toNatClampNeg) := inb_of Sz179 ⟨by decide, by decide⟩
          obtain ⟨T179, h179, X179, e179, W179, st179⟩ := stC X176 hx hZ e176 Ar179 (j := (3 : Int32)) hin179 (g := (mkF m 230 #[.val (.int p0), .val (.int p1), .val (.int p2), .val (.int p3), .val (.int p4), .unset] [(.int (114 : Int32)), (.int (3 : Int32)), (.ref b167), (.ref b167)])) rfl rfl (hb hby d1_230)
          have V179 := Arv.set Ar179 q179 Sz179 Nn179 Hh179 Gg179 (fits_nar_char _) W179 3 rfl (Nat.le_of_ble_eq_true rfl)
          have N179 := Fr.snoc X179 N176 gb167
          have c180 : Goes p e below s₁ (entryFrame m #[(.int p0), (.int p1), (.int p2), (.int p3), (.int p4)] 6) T179 (mkF m 231 #[.val (.int p0), .val (.int p1), .val (.int p2), .val (.int p3), .val (.int p4), .unset] [(.ref b167)]) := fun t kk => c178 t (st179 t kk)
          have c181 : Goes p e below s₁ (entryFrame m #[(.int p0), (.int p1), (.int p2), (.int p3), (.int p4)] 6) T179 (mkF m 235 #[.val (.int p0), .val (.int p1), .val (.int p2), .val (.int p3), .val (.int p4), .unset] [(.int (108 : Int32)), (.int (4 : Int32)), (.ref b167), (.ref b167)]) := by
            intro t kk
            refine c180 t ?_
            show Steps p.tables e below (T179.setTop (mkF m 231 #[.val (.int p0), .val (.int p1), .val (.int p2), .val (.int p3), .val (.int p4), .unset] [(.ref b167)])) t
            refine XS.dup X179.here hx rfl (hb hby d1_231) rfl rfl ?_
            show Steps p.tables e below (T179.setTop (mkF m 232 #[.val (.int p0), .val (.int p1), .val (.int p2), .val (.int p3), .val (.int p4), .unset] [(.ref b167), (.ref b167)])) t
            refine XS.iconst X179.here hx rfl (hb hby d1_232) ?_
            show Steps p.tables e below (T179.setTop (mkF m 233 #[.val (.int p0), .val (.int p1), .val (.int p2), .val (.int p3), .val (.int p4), .unset] [(.int (4 : Int32)), (.ref b167), (.ref b167)])) t
            refine XS.bipush X179.here hx rfl (hb hby d1_233) ?_
            exact kk
          obtain ⟨cl182, Ar182, q182, Sz182, Nn182, Hh182, Gg182⟩ := id V179
          have hin182 : ¬ ((4 : Int32) < 0 ∨ cl182.slots.size ≤ ((4 : Int32)).toNatClampNeg) := inb_of Sz182 ⟨by decide, by decide⟩
          obtain ⟨T182, h182, X182, e182, W182, st182⟩ := stC X179 hx hZ e179 Ar182 (j := (4 : Int32)) hin182 (g := (mkF m 235 #[.val (.int p0), .val (.int p1), .val (.int p2), .val (.int p3), .val (.int p4), .unset] [(.int (108 : Int32)), (.int (4 : Int32)), (.ref b167), (.ref b167)])) rfl rfl (hb hby d1_235)
          have V182 := Arv.set Ar182 q182 Sz182 Nn182 Hh182 Gg182 (fits_nar_char _) W182 4 rfl (Nat.le_of_ble_eq_true rfl)
          have N182 := Fr.snoc X182 N179 gb167
          have c183 : Goes p e below s₁ (entryFrame m #[(.int p0), (.int p1), (.int p2), (.int p3), (.int p4)] 6) T182 (mkF m 236 #[.val (.int p0), .val (.int p1), .val (.int p2), .val (.int p3), .val (.int p4), .unset] [(.ref b167)]) := fun t kk => c181 t (st182 t kk)
          have c184 : Goes p e below s₁ (entryFrame m #[(.int p0), (.int p1), (.int p2), (.int p3), (.int p4)] 6) T182 (mkF m 240 #[.val (.int p0), .val (.int p1), .val (.int p2), .val (.int p3), .val (.int p4), .unset] [(.int (111 : Int32)), (.int (5 : Int32)), (.ref b167), (.ref b167)]) := by
            intro t kk
            refine c183 t ?_
            show Steps p.tables e below (T182.setTop (mkF m 236 #[.val (.int p0), .val (.int p1), .val (.int p2), .val (.int p3), .val (.int p4), .unset] [(.ref b167)])) t
            refine XS.dup X182.here hx rfl (hb hby d1_236) rfl rfl ?_
            show Steps p.tables e below (T182.setTop (mkF m 237 #[.val (.int p0), .val (.int p1), .val (.int p2), .val (.int p3), .val (.int p4), .unset] [(.ref b167), (.ref b167)])) t
            refine XS.iconst X182.here hx rfl (hb hby d1_237) ?_
            show Steps p.tables e below (T182.setTop (mkF m 238 #[.val (.int p0), .val (.int p1), .val (.int p2), .val (.int p3), .val (.int p4), .unset] [(.int (5 : Int32)), (.ref b167), (.ref b167)])) t
            refine XS.bipush X182.here hx rfl (hb hby d1_238) ?_
            exact kk
          obtain ⟨cl185, Ar185, q185, Sz185, Nn185, Hh185, Gg185⟩ := id V182
          have hin185 : ¬ ((5 : Int32) < 0 ∨ cl185.slots.size ≤ ((5 : Int32)).toNatClampNeg) := inb_of Sz185 ⟨by decide, by decide⟩
          obtain ⟨T185, h185, X185, e185, W185, st185⟩ := stC X182 hx hZ e182 Ar185 (j := (5 : Int32)) hin185 (g := (mkF m 240 #[.val (.int p0), .val (.int p1), .val (.int p2), .val (.int p3), .val (.int p4), .unset] [(.int (111 : Int32)), (.int (5 : Int32)), (.ref b167), (.ref b167)])) rfl rfl (hb hby d1_240)
          have V185 := Arv.set Ar185 q185 Sz185 Nn185 Hh185 Gg185 (fits_nar_char _) W185 5 rfl (Nat.le_of_ble_eq_true rfl)
          have N185 := Fr.snoc X185 N182 gb167
          have c186 : Goes p e below s₁ (entryFrame m #[(.int p0), (.int p1), (.int p2), (.int p3), (.int p4)] 6) T185 (mkF m 241 #[.val (.int p0), .val (.int p1), .val (.int p2), .val (.int p3), .val (.int p4), .unset] [(.ref b167)]) := fun t kk => c184 t (st185 t kk)
          have c187 : Goes p e below s₁ (entryFrame m #[(.int p0), (.int p1), (.int p2), (.int p3), (.int p4)] 6) T185 (mkF m 246 #[.val (.int p0), .val (.int p1), .val (.int p2), .val (.int p3), .val (.int p4), .unset] [(.int (97 : Int32)), (.int (6 : Int32)), (.ref b167), (.ref b167)]) := by
            intro t kk
            refine c186 t ?_
            show Steps p.tables e below (T185.setTop (mkF m 241 #[.val (.int p0), .val (.int p1), .val (.int p2), .val (.int p3), .val (.int p4), .unset] [(.ref b167)])) t
            refine XS.dup X185.here hx rfl (hb hby d1_241) rfl rfl ?_
            show Steps p.tables e below (T185.setTop (mkF m 242 #[.val (.int p0), .val (.int p1), .val (.int p2), .val (.int p3), .val (.int p4), .unset] [(.ref b167), (.ref b167)])) t
            refine XS.bipush X185.here hx rfl (hb hby d1_242) ?_
            show Steps p.tables e below (T185.setTop (mkF m 244 #[.val (.int p0), .val (.int p1), .val (.int p2), .val (.int p3), .val (.int p4), .unset] [(.int (6 : Int32)), (.ref b167), (.ref b167)])) t
            refine XS.bipush X185.here hx rfl (hb hby d1_244) ?_
            exact kk
          obtain ⟨cl188, Ar188, q188, Sz188, Nn188, Hh188, Gg188⟩ := id V185
          have hin188 : ¬ ((6 : Int32) < 0 ∨ cl188.slots.size ≤ ((6 : Int32)).toNatClampNeg) := inb_of Sz188 ⟨by decide, by decide⟩
          obtain ⟨T188, h188, X188, e188, W188, st188⟩ := stC X185 hx hZ e185 Ar188 (j := (6 : Int32)) hin188 (g := (mkF m 246 #[.val (.int p0), .val (.int p1), .val (.int p2), .val (.int p3), .val (.int p4), .unset] [(.int (97 : Int32)), (.int (6 : Int32)), (.ref b167), (.ref b167)])) rfl rfl (hb hby d1_246)
          have V188 := Arv.set Ar188 q188 Sz188 Nn188 Hh188 Gg188 (fits_nar_char _) W188 6 rfl (Nat.le_of_ble_eq_true rfl)
          have N188 := Fr.snoc X188 N185 gb167
          have c189 : Goes p e below s₁ (entryFrame m #[(.int p0), (.int p1), (.int p2), (.int p3), (.int p4)] 6) T188 (mkF m 247 #[.val (.int p0), .val (.int p1), .val (.int p2), .val (.int p3), .val (.int p4), .unset] [(.ref b167)]) := fun t kk => c187 t (st188 t kk)
          have c190 : Goes p e below s₁ (entryFrame m #[(.int p0), (.int p1), (.int p2), (.int p3), (.int p4)] 6) T188 (mkF m 252 #[.val (.int p0), .val (.int p1), .val (.int p2), .val (.int p3), .val (.int p4), .unset] [(.int (100 : Int32)), (.int (7 : Int32)), (.ref b167), (.ref b167)]) := by
            intro t kk
            refine c189 t ?_
            show Steps p.tables e below (T188.setTop (mkF m 247 #[.val (.int p0), .val (.int p1), .val (.int p2), .val (.int p3), .val (.int p4), .unset] [(.ref b167)])) t
            refine XS.dup X188.here hx rfl (hb hby d1_247) rfl rfl ?_
            show Steps p.tables e below (T188.setTop (mkF m 248 #[.val (.int p0), .val (.int p1), .val (.int p2), .val (.int p3), .val (.int p4), .unset] [(.ref b167), (.ref b167)])) t
            refine XS.bipush X188.here hx rfl (hb hby d1_248) ?_
            show Steps p.tables e below (T188.setTop (mkF m 250 #[.val (.int p0), .val (.int p1), .val (.int p2), .val (.int p3), .val (.int p4), .unset] [(.int (7 : Int32)), (.ref b167), (.ref b167)])) t
            refine XS.bipush X188.here hx rfl (hb hby d1_250) ?_
            exact kk
          obtain ⟨cl191, Ar191, q191, Sz191, Nn191, Hh191, Gg191⟩ := id V188
          have hin191 : ¬ ((7 : Int32) < 0 ∨ cl191.slots.size ≤ ((7 : Int32)).toNatClampNeg) := inb_of Sz191 ⟨by decide, by decide⟩
          obtain ⟨T191, h191, X191, e191, W191, st191⟩ := stC X188 hx hZ e188 Ar191 (j := (7 : Int32)) hin191 (g := (mkF m 252 #[.val (.int p0), .val (.int p1), .val (.int p2), .val (.int p3), .val (.int p4), .unset] [(.int (100 : Int32)), (.int (7 : Int32)), (.ref b167), (.ref b167)])) rfl rfl (hb hby d1_252)
          have V191 := Arv.set Ar191 q191 Sz191 Nn191 Hh191 Gg191 (fits_nar_char _) W191 7 rfl (Nat.le_of_ble_eq_true rfl)
          have N191 := Fr.snoc X191 N188 gb167
          have c192 : Goes p e below s₁ (entryFrame m #[(.int p0), (.int p1), (.int p2), (.int p3), (.int p4)] 6) T191 (mkF m 253 #[.val (.int p0), .val (.int p1), .val (.int p2), .val (.int p3), .val (.int p4), .unset] [(.ref b167)]) := fun t kk => c190 t (st191 t kk)
          have c193 : Goes p e below s₁ (entryFrame m #[(.int p0), (.int p1), (.int p2), (.int p3), (.int p4)] 6) T191 (mkF m 258 #[.val (.int p0), .val (.int p1), .val (.int p2), .val (.int p3), .val (.int p4), .unset] [(.int (101 : Int32)), (.int (8 : Int32)), (.ref b167), (.ref b167)]) := by
            intro t kk
            refine c192 t ?_
            show Steps p.tables e below (T191.setTop (mkF m 253 #[.val (.int p0), .val (.int p1), .val (.int p2), .val (.int p3), .val (.int p4), .unset] [(.ref b167)])) t
            refine XS.dup X191.here hx rfl (hb hby d1_253) rfl rfl ?_
            show Steps p.tables e below (T191.setTop (mkF m 254 #[.val (.int p0), .val (.int p1), .val (.int p2), .val (.int p3), .val (.int p4), .unset] [(.ref b167), (.ref b167)])) t
            refine XS.bipush X191.here hx rfl (hb hby d1_254) ?_
            show Steps p.tables e below (T191.setTop (mkF m 256 #[.val (.int p0), .val (.int p1), .val (.int p2), .val (.int p3), .val (.int p4), .unset] [(.int (8 : Int32)), (.ref b167), (.ref b167)])) t
            refine XS.bipush X191.here hx rfl (hb hby d1_256) ?_
            exact kk
          obtain ⟨cl194, Ar194, q194, Sz194, Nn194, Hh194, Gg194⟩ := id V191
          have hin194 : ¬ ((8 : Int32) < 0 ∨ cl194.slots.size ≤ ((8 : Int32)).toNatClampNeg) := inb_of Sz194 ⟨by decide, by decide⟩
          obtain ⟨T194, h194, X194, e194, W194, st194⟩ := stC X191 hx hZ e191 Ar194 (j := (8 : Int32)) hin194 (g := (mkF m 258 #[.val (.int p0), .val (.int p1), .val (.int p2), .val (.int p3), .val (.int p4), .unset] [(.int (101 : Int32)), (.int (8 : Int32)), (.ref b167), (.ref b167)])) rfl rfl (hb hby d1_258)
          have V194 := Arv.set Ar194 q194 Sz194 Nn194 Hh194 Gg194 (fits_nar_char _) W194 8 rfl (Nat.le_of_ble_eq_true rfl)
          have N194 := Fr.snoc X194 N191 gb167
          have c195 : Goes p e below s₁ (entryFrame m #[(.int p0), (.int p1), (.int p2), (.int p3), (.int p4)] 6) T194 (mkF m 259 #[.val (.int p0), .val (.int p1), .val (.int p2), .val (.int p3), .val (.int p4), .unset] [(.ref b167)]) := fun t kk => c193 t (st194 t kk)
          have c196 : Goes p e below s₁ (entryFrame m #[(.int p0), (.int p1), (.int p2), (.int p3), (.int p4)] 6) T194 (mkF m 264 #[.val (.int p0), .val (.int p1), .val (.int p2), .val (.int p3), .val (.int p4), .unset] [(.int (100 : Int32)), (.int (9 : Int32)), (.ref b167), (.ref b167)]) := by
            intro t kk
            refine c195 t ?_
            show Steps p.tables e below (T194.setTop (mkF m 259 #[.val (.int p0), .val (.int p1), .val (.int p2), .val (.int p3), .val (.int p4), .unset] [(.ref b167)])) t
            refine XS.dup X194.here hx rfl (hb hby d1_259) rfl rfl ?_
            show Steps p.tables e below (T194.setTop (mkF m 260 #[.val (.int p0), .val (.int p1), .val (.int p2), .val (.int p3), .val (.int p4), .unset] [(.ref b167), (.ref b167)])) t
            refine XS.bipush X194.here hx rfl (hb hby d1_260) ?_
            show Steps p.tables e below (T194.setTop (mkF m 262 #[.val (.int p0), .val (.int p1), .val (.int p2), .val (.int p3), .val (.int p4), .unset] [(.int (9 : Int32)), (.ref b167), (.ref b167)])) t
            refine XS.bipush X194.here hx rfl (hb hby d1_262) ?_
            exact kk
          obtain ⟨cl197, Ar197, q197, Sz197, Nn197, Hh197, Gg197⟩ := id V194
          have hin197 : ¬ ((9 : Int32) < 0 ∨ cl197.slots.size ≤ ((9 : Int32)).toNatClampNeg) := inb_of Sz197 ⟨by decide, by decide⟩
          obtain ⟨T197, h197, X197, e197, W197, st197⟩ := stC X194 hx hZ e194 Ar197 (j := (9 : Int32)) hin197 (g := (mkF m 264 #[.val (.int p0), .val (.int p1), .val (.int p2), .val (.int p3), .val (.int p4), .unset] [(.int (100 : Int32)), (.int (9 : Int32)), (.ref b167), (.ref b167)])) rfl rfl (hb hby d1_264)
          have V197 := Arv.set Ar197 q197 Sz197 Nn197 Hh197 Gg197 (fits_nar_char _) W197 9 rfl (Nat.le_of_ble_eq_true rfl)
          have N197 := Fr.snoc X197 N194 gb167
          have c198 : Goes p e below s₁ (entryFrame m #[(.int p0), (.int p1), (.int p2), (.int p3), (.int p4)] 6) T197 (mkF m 265 #[.val (.int p0), .val (.int p1), .val (.int p2), .val (.int p3), .val (.int p4), .unset] [(.ref b167)]) := fun t kk => c196 t (st197 t kk)
          have c199 : Goes p e below s₁ (entryFrame m #[(.int p0), (.int p1), (.int p2), (.int p3), (.int p4)] 6) T197 (mkF m 277 #[.val (.int p0), .val (.int p1), .val (.int p2), .val (.int p3), .val (.int p4), .val (.ref b167)] [(.int p2), (.int ((p1 &&& (2147483647 : Int32)) % (10 : Int32))), (.ref b167)]) := by
            intro t kk
            refine c198 t ?_
            show Steps p.tables e below (T197.setTop (mkF m 265 #[.val (.int p0), .val (.int p1), .val (.int p2), .val (.int p3), .val (.int p4), .unset] [(.ref b167)])) t
            refine XS.astore X197.here hx rfl (hb hby d1_265) rfl rfl (l' := #[.val (.int p0), .val (.int p1), .val (.int p2), .val (.int p3), .val (.int p4), .val (.ref b167)]) rfl ?_
            show Steps p.tables e below (T197.setTop (mkF m 267 #[.val (.int p0), .val (.int p1), .val (.int p2), .val (.int p3), .val (.int p4), .val (.ref b167)] [])) t
            refine XS.aload X197.here hx rfl (hb hby d1_267) rfl rfl ?_
            show Steps p.tables e below (T197.setTop (mkF m 269 #[.val (.int p0), .val (.int p1), .val (.int p2), .val (.int p3), .val (.int p4), .val (.ref b167)] [(.ref b167)])) t
            refine XS.iloadN X197.here hx rfl (hb hby d1_269) rfl ?_
            show Steps p.tables e below (T197.setTop (mkF m 270 #[.val (.int p0), .val (.int p1), .val (.int p2), .val (.int p3), .val (.int p4), .val (.ref b167)] [(.int p1), (.ref b167)])) t
            refine X197.ldcInt hx hown (mvT hZ (hw _ (List.mem_of_getElem? (i := 66) rfl))) (g := (mkF m 270 #[.val (.int p0), .val (.int p1), .val (.int p2), .val (.int p3), .val (.int p4), .val (.ref b167)] [(.int p1), (.ref b167)])) rfl (hb hby d1_270) _ ?_
            show Steps p.tables e below (T197.setTop (mkF m 272 #[.val (.int p0), .val (.int p1), .val (.int p2), .val (.int p3), .val (.int p4), .val (.ref b167)] [(.int (2147483647 : Int32)), (.int p1), (.ref b167)])) t
            refine XS.iand X197.here hx rfl (hb hby d1_272) rfl ?_
            show Steps p.tables e below (T197.setTop (mkF m 273 #[.val (.int p0), .val (.int p1), .val (.int p2), .val (.int p3), .val (.int p4), .val (.ref b167)] [(.int (p1 &&& (2147483647 : Int32))), (.ref b167)])) t
            refine XS.bipush X197.here hx rfl (hb hby d1_273) ?_
            show Steps p.tables e below (T197.setTop (mkF m 275 #[.val (.int p0), .val (.int p1), .val (.int p2), .val (.int p3), .val (.int p4), .val (.ref b167)] [(.int (10 : Int32)), (.int (p1 &&& (2147483647 : Int32))), (.ref b167)])) t
            refine iremM X197 hx rfl (hb hby d1_275) rfl (by decide) ?_
            show Steps p.tables e below (T197.setTop (mkF m 276 #[.val (.int p0), .val (.int p1), .val (.int p2), .val (.int p3), .val (.int p4), .val (.ref b167)] [(.int ((p1 &&& (2147483647 : Int32)) % (10 : Int32))), (.ref b167)])) t
            refine XS.iloadN X197.here hx rfl (hb hby d1_276) rfl ?_
            exact kk
          obtain ⟨cl200, Ar200, q200, Sz200, Nn200, Hh200, Gg200⟩ := id V197
          have hin200 : ¬ (((p1 &&& (2147483647 : Int32)) % (10 : Int32)) < 0 ∨ cl200.slots.size ≤ (((p1 &&& (2147483647 : Int32)) % (10 : Int32))).toNatClampNeg) := inb_of Sz200 (own_ix p1 10 10 rfl (by decide) (by decide)).1
          obtain ⟨T200, h200, X200, e200, W200, st200⟩ := stC X197 hx hZ e197 Ar200 (j := ((p1 &&& (2147483647 : Int32)) % (10 : Int32))) hin200 (g := (mkF m 277 #[.val (.int p0), .val (.int p1), .val (.int p2), .val (.int p3), .val (.int p4), .val (.ref b167)] [(.int p2), (.int ((p1 &&& (2147483647 : Int32)) % (10 : Int32))), (.ref b167)])) rfl rfl (hb hby d1_277)
          have V200 := Arv.set Ar200 q200 Sz200 Nn200 Hh200 Gg200 (fits_nar_char _) W200 (((p1 &&& (2147483647 : Int32)) % (10 : Int32))).toNatClampNeg rfl (own_ix p1 10 10 rfl (by decide) (by decide)).2
          have N200 := Fr.snoc X200 N197 gb167
          have c201 : Goes p e below s₁ (entryFrame m #[(.int p0), (.int p1), (.int p2), (.int p3), (.int p4)] 6) T200 (mkF m 278 #[.val (.int p0), .val (.int p1), .val (.int p2), .val (.int p3), .val (.int p4), .val (.ref b167)] []) := fun t kk => c199 t (st200 t kk)
          obtain ⟨T202, h202, X202, e202, E202, A202, D202, -, st202⟩ := newO X200 hx hZ hown (hw _ (List.mem_of_getElem? (i := 18) rfl)) (hw _ (List.mem_of_getElem? (i := 19) rfl)) (hw _ (List.mem_of_getElem? (i := 20) rfl)) e200 (g := (mkF m 278 #[.val (.int p0), .val (.int p1), .val (.int p2), .val (.int p3), .val (.int p4), .val (.ref b167)] [])) rfl (hb hby d1_278) (by decide) (by decide)
          obtain ⟨b202, g202⟩ : ∃ z, z = h200.size := ⟨_, rfl⟩
          rw [← g202] at A202 D202 st202
          have f203 := (Nat.le_trans (Nat.le_trans (Nat.le_trans (Nat.le_trans (Nat.le_trans (Nat.le_trans (Nat.le_trans (Nat.le_trans (Nat.le_trans (Nat.le_trans (Nat.le_trans (Nat.le_trans Z0 E167.1) (Keep.of_wr W170).1) (Keep.of_wr W173).1) (Keep.of_wr W176).1) (Keep.of_wr W179).1) (Keep.of_wr W182).1) (Keep.of_wr W185).1) (Keep.of_wr W188).1) (Keep.of_wr W191).1) (Keep.of_wr W194).1) (Keep.of_wr W197).1) (Keep.of_wr W200).1)
          have gb202 : n0 ≤ b202 := Nat.le_trans f203 (Nat.le_of_eq g202.symm)
          have neb167_202 : b167 ≠ b202 := Nat.ne_of_lt (Nat.lt_of_lt_of_le V200.lt (Nat.le_of_eq g202.symm))
          have f204 := (((((((((((((Keep.refl h0 []).ext E167).wr W170 (Or.inr szbb167_167)).wr W173 (Or.inr szbb167_167)).wr W176 (Or.inr szbb167_167)).wr W179 (Or.inr szbb167_167)).wr W182 (Or.inr szbb167_167)).wr W185 (Or.inr szbb167_167)).wr W188 (Or.inr szbb167_167)).wr W191 (Or.inr szbb167_167)).wr W194 (Or.inr szbb167_167)).wr W197 (Or.inr szbb167_167)).wr W200 (Or.inr szbb167_167))
          have szbb202_202 : h0.size ≤ b202 := Nat.le_trans f204.1 (Nat.le_of_eq g202.symm)
          have f205 := (((((((((((((Keep.refl h0 []).ext E167).wr W170 (Or.inr szb167_167)).wr W173 (Or.inr szb167_167)).wr W176 (Or.inr szb167_167)).wr W179 (Or.inr szb167_167)).wr W182 (Or.inr szb167_167)).wr W185 (Or.inr szb167_167)).wr W188 (Or.inr szb167_167)).wr W191 (Or.inr szb167_167)).wr W194 (Or.inr szb167_167)).wr W197 (Or.inr szb167_167)).wr W200 (Or.inr szb167_167))
          have szb202_202 : h0.size ≤ b202 := Nat.le_trans f205.1 (Nat.le_of_eq g202.symm)
          have F_coder_b202 : Fld Z h202 b202 "java/lang/String" "coder" "B" (.int (0 : Int32)) := D202 (Or.inr (hw _ (List.mem_of_getElem? (i := 44) rfl))) (ty := .byte) (by decide)
          have F_value_b202 : Fld Z h202 b202 "java/lang/String" "value" "[B" .null := D202 (Or.inr (hw _ (List.mem_of_getElem? (i := 46) rfl))) (ty := (.array .byte)) (by decide)
          have c206 : Goes p e below s₁ (entryFrame m #[(.int p0), (.int p1), (.int p2), (.int p3), (.int p4)] 6) T202 (mkF m 281 #[.val (.int p0), .val (.int p1), .val (.int p2), .val (.int p3), .val (.int p4), .val (.ref b167)] [(.ref b202)]) := fun t kk => c201 t (st202 t kk)
          have f207 := (((((((((((((O0.ext E167).wr W170 gb167).wr W173 gb167).wr W176 gb167).wr W179 gb167).wr W182 gb167).wr W185 gb167).wr W188 gb167).wr W191 gb167).wr W194 gb167).wr W197 gb167).wr W200 gb167).ext E202)
          have f209 := (V200.ext E202)
          have Vs208 : Arv Z h202 b167 k167 .char (10 : Int32) ((([(nar .char (111 : Int32)), (nar .char (118 : Int32)), (nar .char (101 : Int32)), (nar .char (114 : Int32)), (nar .char (108 : Int32)), (nar .char (111 : Int32)), (nar .char (97 : Int32)), (nar .char (100 : Int32)), (nar .char (101 : Int32)), (nar .char (100 : Int32))] : List Int32).set (((p1 &&& (2147483647 : Int32)) % (10 : Int32))).toNatClampNeg (nar .char p2)).map Value.int) (.int 0) := by rw [List.map_set]; exact f209
          have f210 := (Nat.le_trans f203 E202.1)
          have c211 : Goes p e below s₁ (entryFrame m #[(.int p0), (.int p1), (.int p2), (.int p3), (.int p4)] 6) T202 (mkF m 284 #[.val (.int p0), .val (.int p1), .val (.int p2), .val (.int p3), .val (.int p4), .val (.ref b167)] [(.ref b167), (.ref b202), (.ref b202)]) := by
            intro t kk
            refine c206 t ?_
            show Steps p.tables e below (T202.setTop (mkF m 281 #[.val (.int p0), .val (.int p1), .val (.int p2), .val (.int p3), .val (.int p4), .val (.ref b167)] [(.ref b202)])) t
            refine XS.dup X202.here hx rfl (hb hby d1_281) rfl rfl ?_
            show Steps p.tables e below (T202.setTop (mkF m 282 #[.val (.int p0), .val (.int p1), .val (.int p2), .val (.int p3), .val (.int p4), .val (.ref b167)] [(.ref b202), (.ref b202)])) t
            refine XS.aload X202.here hx rfl (hb hby d1_282) rfl rfl ?_
            exact kk
          obtain ⟨_, _, ⟨T212, L212, k212, n212⟩, -, X212, ⟨Lc212, hQ212, l212, y212, z212⟩, st212⟩ := X202.specialBack hx (y := (⟨"java/lang/String", "<init>", "([C)V"⟩ : MethodName)) rfl hown (mvT hZ (hw _ (List.mem_of_getElem? (i := 21) rfl))) (mvT hZ (hw _ (List.mem_of_getElem? (i := 22) rfl))) (mvT hZ (hw _ (List.mem_of_getElem? (i := 23) rfl))) (by decide) (StrChars.Road.backV (W := 1) hZ (own_wmk hw) (kI := 4) (hw _ (List.mem_of_getElem? (i := 19) rfl)) (cs := (([(nar .char (111 : Int32)), (nar .char (118 : Int32)), (nar .char (101 : Int32)), (nar .char (114 : Int32)), (nar .char (108 : Int32)), (nar .char (111 : Int32)), (nar .char (97 : Int32)), (nar .char (100 : Int32)), (nar .char (101 : Int32)), (nar .char (100 : Int32))] : List Int32).set (((p1 &&& (2147483647 : Int32)) % (10 : Int32))).toNatClampNeg (nar .char p2))) (bs := ((([(nar .char (111 : Int32)), (nar .char (118 : Int32)), (nar .char (101 : Int32)), (nar .char (114 : Int32)), (nar .char (108 : Int32)), (nar .char (111 : Int32)), (nar .char (97 : Int32)), (nar .char (100 : Int32)), (nar .char (101 : Int32)), (nar .char (100 : Int32))] : List Int32).set (((p1 &&& (2147483647 : Int32)) % (10 : Int32))).toNatClampNeg (nar .char p2))).map StrChars.lo8) (n := 10) gb202 f210 A202 F_value_b202 F_coder_b202 Vs208 (S2.ext f207.2) hz (by simp) rfl (by decide) (by decide) (own_inset (own_two (by decide) (own_two (by decide) (own_two (by decide) (own_two (by decide) (own_two (by decide) (own_two (by decide) (own_two (by decide) (own_two (by decide) (own_two (by decide) (own_two (by decide) own_nil)))))))))) (own_chr hp2)) rfl (by decide) (by decide)) (g := (mkF m 284 #[.val (.int p0), .val (.int p1), .val (.int p2), .val (.int p3), .val (.int p4), .val (.ref b167)] [(.ref b167), (.ref b202), (.ref b202)])) rfl (by rw [hml]; rfl) (Steps.refl _) (a := b202) (argsL := [(.ref b167)]) (rest := [(.ref b202)]) (lenOf pd___C_V rfl) rfl (by show 2 * 0 + _ ≤ _; exact Nat.le_of_eq rfl) (hb hby d1_284) (fun _ _ => ⟨rfl, e202, (by decide : 2 + 1 ≤ _), (by decide : 14 + 10 ≤ _)⟩)
          dsimp only [Pt.U, Pt.locs, Pt.cells, Pt.slots] at X212 l212 y212 z212 st212 hQ212
          subst l212 y212 z212
          obtain ⟨rfl, Nq212, Kq212, Eq212, Cq212, t212, kb212, gt212, szt212, net212, Vq212, Aq212⟩ := hQ212
          have N212 := Fr.app N200 Nq212
          have c213 : Goes p e below s₁ (entryFrame m #[(.int p0), (.int p1), (.int p2), (.int p3), (.int p4)] 6) T212 (mkF m 287 #[.val (.int p0), .val (.int p1), .val (.int p2), .val (.int p3), .val (.int p4), .val (.ref b167)] [(.ref b202)]) := fun t kk => c211 t (st212.trans kk)
          have Str212 : own_str Z T212.heap b202 (([(nar .char (111 : Int32)), (nar .char (118 : Int32)), (nar .char (101 : Int32)), (nar .char (114 : Int32)), (nar .char (108 : Int32)), (nar .char (111 : Int32)), (nar .char (97 : Int32)), (nar .char (100 : Int32)), (nar .char (101 : Int32)), (nar .char (100 : Int32))] : List Int32).set (((p1 &&& (2147483647 : Int32)) % (10 : Int32))).toNatClampNeg (nar .char p2)) := ⟨Eq212, Cq212, (own_inset (own_two (by decide) (own_two (by decide) (own_two (by decide) (own_two (by decide) (own_two (by decide) (own_two (by decide) (own_two (by decide) (own_two (by decide) (own_two (by decide) (own_two (by decide) own_nil)))))))))) (own_chr hp2)), t212, kb212, Vq212, (by rw [show ((([(nar .char (111 : Int32)), (nar .char (118 : Int32)), (nar .char (101 : Int32)), (nar .char (114 : Int32)), (nar .char (108 : Int32)), (nar .char (111 : Int32)), (nar .char (97 : Int32)), (nar .char (100 : Int32)), (nar .char (101 : Int32)), (nar .char (100 : Int32))] : List Int32).set (((p1 &&& (2147483647 : Int32)) % (10 : Int32))).toNatClampNeg (nar .char p2))).length = 10 from (by simp)]; exact Aq212)⟩
          have f214 := ((f205.ext E202).trans Kq212 (allS (Or.inr szb202_202) all0))
          have f215 := (Nat.le_trans (Nat.le_trans (Nat.le_trans (Nat.le_trans (Nat.le_trans (Nat.le_trans (Nat.le_trans (Nat.le_trans (Nat.le_trans (Nat.le_trans (Nat.le_trans (Nat.le_trans (Nat.le_trans (Nat.le_trans (Nat.zero_le _) E167.1) (Keep.of_wr W170).1) (Keep.of_wr W173).1) (Keep.of_wr W176).1) (Keep.of_wr W179).1) (Keep.of_wr W182).1) (Keep.of_wr W185).1) (Keep.of_wr W188).1) (Keep.of_wr W191).1) (Keep.of_wr W194).1) (Keep.of_wr W197).1) (Keep.of_wr W200).1) E202.1) Kq212.1)
          obtain ⟨fs, hr, hrun, hended, hRW⟩ := X212.leaveW SW0 f215 (v := some (.ref b202)) (fun h => by rw [Bd.returns] at h; cases h)
          have f216 := ((f204.ext E202).trans Kq212 (allS (Or.inr szbb202_202) all0))
          have hCRe := (CHr.keep f216 sf0 hCH0)
          have hCRt : CHr Z consts_1 s.vm s.heap (T212.setFrames fs).vm (T212.setFrames fs).heap := by
            rw [hh]
            show CHr Z consts_1 s.vm h0 T212.vm T212.heap
            exact hCRe.trans (CHv.at X212 hZ hEL hCRe.1)
          refine ⟨_, _, c213 _ ?_, hrun, hended, _, _, rfl, ?_, hCRt, hRW.1, hRW.2.1, hRW.2.2.1, hRW.2.2.2.mono (by decide) (by decide)⟩
          · exact retOut X212 hx Bd.returns rfl (Or.inr (Or.inr (Or.inr (Or.inr ⟨rfl, rfl, rfl⟩)))) (hb hby d1_287) hr
          · show Q_mk Z p0 p1 p2 p3 p4 z h0 n0 _ T212.heap _
            exact ⟨.ref b202, rfl, N212, f214, Or.inr ⟨b202, (([(nar .char (111 : Int32)), (nar .char (118 : Int32)), (nar .char (101 : Int32)), (nar .char (114 : Int32)), (nar .char (108 : Int32)), (nar .char (111 : Int32)), (nar .char (97 : Int32)), (nar .char (100 : Int32)), (nar .char (101 : Int32)), (nar .char (100 : Int32))] : List Int32).set (((p1 &&& (2147483647 : Int32)) % (10 : Int32))).toNatClampNeg (nar .char p2)), rfl, Str212, (by simp)⟩⟩
        · have c217 : Goes p e below s₁ (entryFrame m #[(.int p0), (.int p1), (.int p2), (.int p3), (.int p4)] 6) s₁ (mkF m 290 #[.val (.int p0), .val (.int p1), .val (.int p2), .val (.int p3), .val (.int p4), .unset] [(.int (4 : Int32)), (.int p0)]) := by
            intro t kk
            refine c164 t ?_
            show Steps p.tables e below (s₁.setTop (mkF m 204 #[.val (.int p0), .val (.int p1), .val (.int p2), .val (.int p3), .val (.int p4), .unset] [(.int (3 : Int32)), (.int p0)])) t
            refine XS.icmpYes XW0.here hx rfl (pc0 := 204) (pc' := 288) rfl (hb hby d1_204) rfl (feq hc204_165).2 (by decide) (by decide) ?_
            show Steps p.tables e below (s₁.setTop (mkF m 288 #[.val (.int p0), .val (.int p1), .val (.int p2), .val (.int p3), .val (.int p4), .unset] [])) t
            refine XS.iloadN XW0.here hx rfl (hb hby d1_288) rfl ?_
            show Steps p.tables e below (s₁.setTop (mkF m 289 #[.val (.int p0), .val (.int p1), .val (.int p2), .val (.int p3), .val (.int p4), .unset] [(.int p0)])) t
            refine XS.iconst XW0.here hx rfl (hb hby d1_289) ?_
            exact kk
          by_cases hc290_218 : p0 = (4 : Int32)
          · have c219 : Goes p e below s₁ (entryFrame m #[(.int p0), (.int p1), (.int p2), (.int p3), (.int p4)] 6) s₁ (mkF m 295 #[.val (.int p0), .val (.int p1), .val (.int p2), .val (.int p3), .val (.int p4), .unset] [(.int (19 : Int32))]) := by
              intro t kk
              refine c217 t ?_
              show Steps p.tables e below (s₁.setTop (mkF m 290 #[.val (.int p0), .val (.int p1), .val (.int p2), .val (.int p3), .val (.int p4), .unset] [(.int (4 : Int32)), (.int p0)])) t
              refine XS.icmpNo XW0.here hx rfl (hb hby d1_290) rfl (teq hc290_218).2 ?_
              show Steps p.tables e below (s₁.setTop (mkF m 293 #[.val (.int p0), .val (.int p1), .val (.int p2), .val (.int p3), .val (.int p4), .unset] [])) t
              refine XS.bipush XW0.here hx rfl (hb hby d1_293) ?_
              exact kk
            obtain ⟨T220, h220, k220, X220, e220, E220, A220, st220⟩ := newP XW0 hx hZ (hw _ (List.mem_of_getElem? (i := 17) rfl)) e0 (g := (mkF m 295 #[.val (.int p0), .val (.int p1), .val (.int p2), .val (.int p3), .val (.int p4), .unset] [(.int (19 : Int32))])) rfl (hb hby d1_295) rfl (by decide) (cap := 19) (by decide) (by decide) (by decide) (by decide)
            obtain ⟨b220, g220⟩ : ∃ z, z = h0.size := ⟨_, rfl⟩
            rw [← g220] at A220 st220
            have gb220 : n0 ≤ b220 := Nat.le_trans Z0 (Nat.le_of_eq g220.symm)
            have szbb220_220 : h0.size ≤ b220 := Nat.le_trans (Keep.refl h0 []).1 (Nat.le_of_eq g220.symm)
            have szb220_220 : h0.size ≤ b220 := Nat.le_trans (Keep.refl h0 []).1 (Nat.le_of_eq g220.symm)
            have V220 : Arv Z h220 b220 k220 .char (19 : Int32) [(.int (0 : Int32)), (.int (0 : Int32)), (.int (0 : Int32)), (.int (0 : Int32)), (.int (0 : Int32)), (.int (0 : Int32)), (.int (0 : Int32)), (.int (0 : Int32)), (.int (0 : Int32)), (.int (0 : Int32)), (.int (0 : Int32)), (.int (0 : Int32)), (.int (0 : Int32)), (.int (0 : Int32)), (.int (0 : Int32)), (.int (0 : Int32)), (.int (0 : Int32)), (.int (0 : Int32)), (.int (0 : Int32))] (.int (0 : Int32)) := (Arv.new A220 (by decide)).pad (pad_rep [] (.int (0 : Int32)) 19)
            have c221 : Goes p e below s₁ (entryFrame m #[(.int p0), (.int p1), (.int p2), (.int p3), (.int p4)] 6) T220 (mkF m 297 #[.val (.int p0), .val (.int p1), .val (.int p2), .val (.int p3), .val (.int p4), .unset] [(.ref b220)]) := fun t kk => c219 t (st220 t kk)
            have c222 : Goes p e below s₁ (entryFrame m #[(.int p0), (.int p1), (.int p2), (.int p3), (.int p4)] 6) T220 (mkF m 301 #[.val (.int p0), .val (.int p1), .val (.int p2), .val (.int p3), .val (.int p4), .unset] [(.int (111 : Int32)), (.int (0 : Int32)), (.ref b220), (.ref b220)]) := by
              intro t kk
              refine c221 t ?_
              show Steps p.tables e below (T220.setTop (mkF m 297 #[.val (.int p0), .val (.int p1), .val (.int p2), .val (.int p3), .val (.int p4), .unset] [(.ref b220)])) t
              refine XS.dup X220.here hx rfl (hb hby d1_297) rfl rfl ?_
              show Steps p.tables e below (T220.setTop (mkF m 298 #[.val (.int p0), .val (.int p1), .val (.int p2), .val (.int p3), .val (.int p4), .unset] [(.ref b220), (.ref b220)])) t
              refine XS.iconst X220.here hx rfl (hb hby d1_298) ?_
              show Steps p.tables e below (T220.setTop (mkF m 299 #[.val (.int p0), .val (.int p1), .val (.int p2), .val (.int p3), .val (.int p4), .unset] [(.int (0 : Int32)), (.ref b220), (.ref b220)])) t
              refine XS.bipush X220.here hx rfl (hb hby d1_299) ?_
              exact kk
            obtain ⟨cl223, Ar223, q223, Sz223, Nn223, Hh223, Gg223⟩ := id V220
            have hin223 : ¬ ((0 : Int32) < 0 ∨ cl223.slots.size ≤ ((0 : Int32)).toNatClampNeg) := inb_of Sz223 ⟨by decide, by decide⟩
            obtain ⟨T223, h223, X223, e223, W223, st223⟩ := stC X220 hx hZ e220 Ar223 (j := (0 : Int32)) hin223 (g := (mkF m 301 #[.val (.int p0), .val (.int p1), .val (.int p2), .val (.int p3), .val (.int p4), .unset] [(.int (111 : Int32)), (.int (0 : Int32)), (.ref b220), (.ref b220)])) rfl rfl (hb hby d1_301)
            have V223 := Arv.set Ar223 q223 Sz223 Nn223 Hh223 Gg223 (fits_nar_char _) W223 0 rfl (Nat.le_of_ble_eq_true rfl)
            have N223 := Fr.snoc X223 N0 gb220
            have c224 : Goes p e below s₁ (entryFrame m #[(.int p0), (.int p1), (.int p2), (.int p3), (.int p4)] 6) T223 (mkF m 302 #[.val (.int p0), .val (.int p1), .val (.int p2), .val (.int p3), .val (.int p4), .unset] [(.ref b220)]) := fun t kk => c222 t (st223 t kk)
            have c225 : Goes p e below s₁ (entryFrame m #[(.int p0), (.int p1), (.int p2), (.int p3), (.int p4)] 6) T223 (mkF m 306 #[.val (.int p0), .val (.int p1), .val (.int p2), .val (.int p3), .val (.int p4), .unset] [(.int (118 : Int32)), (.int (1 : Int32)), (.ref b220), (.ref b220)]) := by
              intro t kk
              refine c224 t ?_
              show Steps p.tables e below (T223.setTop (mkF m 302 #[.val (.int p0), .val (.int p1), .val (.int p2), .val (.int p3), .val (.int p4), .unset] [(.ref b220)])) t
              refine XS.dup X223.here hx rfl (hb hby d1_302) rfl rfl ?_
              show Steps p.tables e below (T223.setTop (mkF m 303 #[.val (.int p0), .val (.int p1), .val (.int p2), .val (.int p3), .val (.int p4), .unset] [(.ref b220), (.ref b220)])) t
              refine XS.iconst X223.here hx rfl (hb hby d1_303) ?_
              show Steps p.tables e below (T223.setTop (mkF m 304 #[.val (.int p0), .val (.int p1), .val (.int p2), .val (.int p3), .val (.int p4), .unset] [(.int (1 : Int32)), (.ref b220), (.ref b220)])) t
              refine XS.bipush X223.here hx rfl (hb hby d1_304) ?_
              exact kk
            obtain ⟨cl226, Ar226, q226, Sz226, Nn226, Hh226, Gg226⟩ := id V223
            have hin226 : ¬ ((1 : Int32) < 0 ∨ cl226.slots.size ≤ ((1 : Int32)).toNatClampNeg) := inb_of Sz226 ⟨by decide, by decide⟩
            obtain ⟨T226, h226, X226, e226, W226, st226⟩ := stC X223 hx hZ e223 Ar226 (j := (1 : Int32)) hin226 (g := (mkF m 306 #[.val (.int p0), .val (.int p1), .val (.int p2), .val (.int p3), .val (.int p4), .unset] [(.int (118 : Int32)), (.int (1 : Int32)), (.ref b220), (.ref b220)])) rfl rfl (hb hby d1_306)
            have V226 := Arv.set Ar226 q226 Sz226 Nn226 Hh226 Gg226 (fits_nar_char _) W226 1 rfl (Nat.le_of_ble_eq_true rfl)
            have N226 := Fr.snoc X226 N223 gb220
            have c227 : Goes p e below s₁ (entryFrame m #[(.int p0), (.int p1), (.int p2), (.int p3), (.int p4)] 6) T226 (mkF m 307 #[.val (.int p0), .val (.int p1), .val (.int p2), .val (.int p3), .val (.int p4), .unset] [(.ref b220)]) := fun t kk => c225 t (st226 t kk)
            have c228 : Goes p e below s₁ (entryFrame m #[(.int p0), (.int p1), (.int p2), (.int p3), (.int p4)] 6) T226 (mkF m 311 #[.val (.int p0), .val (.int p1), .val (.int p2), .val (.int p3), .val (.int p4), .unset] [(.int (101 : Int32)), (.int (2 : Int32)), (.ref b220), (.ref b220)]) := by
              intro t kk
              refine c227 t ?_
              show Steps p.tables e below (T226.setTop (mkF m 307 #[.val (.int p0), .val (.int p1), .val (.int p2), .val (.int p3), .val (.int p4), .unset] [(.ref b220)])) t
              refine XS.dup X226.here hx rfl (hb hby d1_307) rfl rfl ?_
              show Steps p.tables e below (T226.setTop (mkF m 308 #[.val (.int p0), .val (.int p1), .val (.int p2), .val (.int p3), .val (.int p4), .unset] [(.ref b220), (.ref b220)])) t
              refine XS.iconst X226.here hx rfl (hb hby d1_308) ?_
              show Steps p.tables e below (T226.setTop (mkF m 309 #[.val (.int p0), .val (.int p1), .val (.int p2), .val (.int p3), .val (.int p4), .unset] [(.int (2 : Int32)), (.ref b220), (.ref b220)])) t
              refine XS.bipush X226.here hx rfl (hb hby d1_309) ?_
              exact kk
            obtain ⟨cl229, Ar229, q229, Sz229, Nn229, Hh229, Gg229⟩ := id V226
            have hin229 : ¬ ((2 : Int32) < 0 ∨ cl229.slots.size ≤ ((2 : Int32)).toNatClampNeg) := inb_of Sz229 ⟨by decide, by decide⟩
            obtain ⟨T229, h229, X229, e229, W229, st229⟩ := stC X226 hx hZ e226 Ar229 (j := (2 : Int32)) hin229 (g := (mkF m 311 #[.val (.int p0), .val (.int p1), .val (.int p2), .val (.int p3), .val (.int p4), .unset] [(.int (101 : Int32)), (.int (2 : Int32)), (.ref b220), (.ref b220)])) rfl rfl (hb hby d1_311)
            have V229 := Arv.set Ar229 q229 Sz229 Nn229 Hh229 Gg229 (fits_nar_char _) W229 2 rfl (Nat.le_of_ble_eq_true rfl)
            have N229 := Fr.snoc X229 N226 gb220
            have c230 : Goes p e below s₁ (entryFrame m #[(.int p0), (.int p1), (.int p2), (.int p3), (.int p4)] 6) T229 (mkF m 312 #[.val (.int p0), .val (.int p1), .val (.int p2), .val (.int p3), .val (.int p4), .unset] [(.ref b220)]) := fun t kk => c228 t (st229 t kk)
            have c231 : Goes p e below s₁ (entryFrame m #[(.int p0), (.int p1), (.int p2), (.int p3), (.int p4)] 6) T229 (mkF m 316 #[.val (.int p0), .val (.int p1), .val (.int p2), .val (.int p3), .val (.int p4), .unset] [(.int (114 : Int32)), (.int (3 : Int32)), (.ref b220), (.ref b220)]) := by
              intro t kk
              refine c230 t ?_
              show Steps p.tables e below (T229.setTop (mkF m 312 #[.val (.int p0), .val (.int p1), .val (.int p2), .val (.int p3), .val (.int p4), .unset] [(.ref b220)])) t
              refine XS.dup X229.here hx rfl (hb hby d1_312) rfl rfl ?_
              show Steps p.tables e below (T229.setTop (mkF m 313 #[.val (.int p0), .val (.int p1), .val (.int p2), .val (.int p3), .val (.int p4), .unset] [(.ref b220), (.ref b220)])) t
              refine XS.iconst X229.here hx rfl (hb hby d1_313) ?_
              show Steps p.tables e below (T229.setTop (mkF m 314 #[.val (.int p0), .val (.int p1), .val (.int p2), .val (.int p3), .val (.int p4), .unset] [(.int (3 : Int32)), (.ref b220), (.ref b220)])) t
              refine XS.bipush X229.here hx rfl (hb hby d1_314) ?_
              exact kk
            obtain ⟨cl232, Ar232, q232, Sz232, Nn232, Hh232, Gg232⟩ := id V229
            have hin232 : ¬ ((3 : Int32) < 0 ∨ cl232.slots.size ≤ ((3 : Int32)).toNatClampNeg) := inb_of Sz232 ⟨by decide, by decide⟩
            obtain ⟨T232, h232, X232, e232, W232, st232⟩ := stC X229 hx hZ e229 Ar232 (j := (3 : Int32)) hin232 (g := (mkF m 316 #[.val (.int p0), .val (.int p1), .val (.int p2), .val (.int p3), .val (.int p4), .unset] [(.int (114 : Int32)), (.int (3 : Int32)), (.ref b220), (.ref b220)])) rfl rfl (hb hby d1_316)
            have V232 := Arv.set Ar232 q232 Sz232 Nn232 Hh232 Gg232 (fits_nar_char _) W232 3 rfl (Nat.le_of_ble_eq_true rfl)
            have N232 := Fr.snoc X232 N229 gb220
            have c233 : Goes p e below s₁ (entryFrame m #[(.int p0), (.int p1), (.int p2), (.int p3), (.int p4)] 6) T232 (mkF m 317 #[.val (.int p0), .val (.int p1), .val (.int p2), .val (.int p3), .val (.int p4), .unset] [(.ref b220)]) := fun t kk => c231 t (st232 t kk)
            have c234 : Goes p e below s₁ (entryFrame m #[(.int p0), (.int p1), (.int p2), (.int p3), (.int p4)] 6) T232 (mkF m 321 #[.val (.int p0), .val (.int p1), .val (.int p2), .val (.int p3), .val (.int p4), .unset] [(.int (108 : Int32)), (.int (4 : Int32)), (.ref b220), (.ref b220)]) := by
              intro t kk
              refine c233 t ?_
              show Steps p.tables e below (T232.setTop (mkF m 317 #[.val (.int p0), .val (.int p1), .val (.int p2), .val (.int p3), .val (.int p4), .unset] [(.ref b220)])) t
              refine XS.dup X232.here hx rfl (hb hby d1_317) rfl rfl ?_
              show Steps p.tables e below (T232.setTop (mkF m 318 #[.val (.int p0), .val (.int p1), .val (.int p2), .val (.int p3), .val (.int p4), .unset] [(.ref b220), (.ref b220)])) t
              refine XS.iconst X232.here hx rfl (hb hby d1_318) ?_
              show Steps p.tables e below (T232.setTop (mkF m 319 #[.val (.int p0), .val (.int p1), .val (.int p2), .val (.int p3), .val (.int p4), .unset] [(.int (4 : Int32)), (.ref b220), (.ref b220)])) t
              refine XS.bipush X232.here hx rfl (hb hby d1_319) ?_
              exact kk
            obtain ⟨cl235, Ar235, q235, Sz235, Nn235, Hh235, Gg235⟩ := id V232
            have hin235 : ¬ ((4 : Int32) < 0 ∨ cl235.slots.size ≤ ((4 : Int32)).toNatClampNeg) := inb_of Sz235 ⟨by decide, by decide⟩
            obtain ⟨T235, h235, X235, e235, W235, st235⟩ := stC X232 hx hZ e232 Ar235 (j := (4 : Int32)) hin235 (g := (mkF m 321 #[.val (.int p0), .val (.int p1), .val (.int p2), .val (.int p3), .val (.int p4), .unset] [(.int (108 : Int32)), (.int (4 : Int32)), (.ref b220), (.ref b220)])) rfl rfl (hb hby d1_321)
            have V235 := Arv.set Ar235 q235 Sz235 Nn235 Hh235 Gg235 (fits_nar_char _) W235 4 rfl (Nat.le_of_ble_eq_true rfl)
            have N235 := Fr.snoc X235 N232 gb220
            have c236 : Goes p e below s₁ (entryFrame m #[(.int p0), (.int p1), (.int p2), (.int p3), (.int p4)] 6) T235 (mkF m 322 #[.val (.int p0), .val (.int p1), .val (.int p2), .val (.int p3), .val (.int p4), .unset] [(.ref b220)]) := fun t kk => c234 t (st235 t kk)
            have c237 : Goes p e below s₁ (entryFrame m #[(.int p0), (.int p1), (.int p2), (.int p3), (.int p4)] 6) T235 (mkF m 326 #[.val (.int p0), .val (.int p1), .val (.int p2), .val (.int p3), .val (.int p4), .unset] [(.int (111 : Int32)), (.int (5 : Int32)), (.ref b220), (.ref b220)]) := by
              intro t kk
              refine c236 t ?_
              show Steps p.tables e below (T235.setTop (mkF m 322 #[.val (.int p0), .val (.int p1), .val (.int p2), .val (.int p3), .val (.int p4), .unset] [(.ref b220)])) t
              refine XS.dup X235.here hx rfl (hb hby d1_322) rfl rfl ?_
              show Steps p.tables e below (T235.setTop (mkF m 323 #[.val (.int p0), .val (.int p1), .val (.int p2), .val (.int p3), .val (.int p4), .unset] [(.ref b220), (.ref b220)])) t
              refine XS.iconst X235.here hx rfl (hb hby d1_323) ?_
              show Steps p.tables e below (T235.setTop (mkF m 324 #[.val (.int p0), .val (.int p1), .val (.int p2), .val (.int p3), .val (.int p4), .unset] [(.int (5 : Int32)), (.ref b220), (.ref b220)])) t
              refine XS.bipush X235.here hx rfl (hb hby d1_324) ?_
              exact kk
            obtain ⟨cl238, Ar238, q238, Sz238, Nn238, Hh238, Gg238⟩ := id V235
            have hin238 : ¬ ((5 : Int32) < 0 ∨ cl238.slots.size ≤ ((5 : Int32)).toNatClampNeg) := inb_of Sz238 ⟨by decide, by decide⟩
            obtain ⟨T238, h238, X238, e238, W238, st238⟩ := stC X235 hx hZ e235 Ar238 (j := (5 : Int32)) hin238 (g := (mkF m 326 #[.val (.int p0), .val (.int p1), .val (.int p2), .val (.int p3), .val (.int p4), .unset] [(.int (111 : Int32)), (.int (5 : Int32)), (.ref b220), (.ref b220)])) rfl rfl (hb hby d1_326)
            have V238 := Arv.set Ar238 q238 Sz238 Nn238 Hh238 Gg238 (fits_nar_char _) W238 5 rfl (Nat.le_of_ble_eq_true rfl)
            have N238 := Fr.snoc X238 N235 gb220
            have c239 : Goes p e below s₁ (entryFrame m #[(.int p0), (.int p1), (.int p2), (.int p3), (.int p4)] 6) T238 (mkF m 327 #[.val (.int p0), .val (.int p1), .val (.int p2), .val (.int p3), .val (.int p4), .unset] [(.ref b220)]) := fun t kk => c237 t (st238 t kk)
            have c240 : Goes p e below s₁ (entryFrame m #[(.int p0), (.int p1), (.int p2), (.int p3), (.int p4)] 6) T238 (mkF m 332 #[.val (.int p0), .val (.int p1), .val (.int p2), .val (.int p3), .val (.int p4), .unset] [(.int (97 : Int32)), (.int (6 : Int32)), (.ref b220), (.ref b220)]) := by
              intro t kk
              refine c239 t ?_
              show Steps p.tables e below (T238.setTop (mkF m 327 #[.val (.int p0), .val (.int p1), .val (.int p2), .val (.int p3), .val (.int p4), .unset] [(.ref b220)])) t
              refine XS.dup X238.here hx rfl (hb hby d1_327) rfl rfl ?_
              show Steps p.tables e below (T238.setTop (mkF m 328 #[.val (.int p0), .val (.int p1), .val (.int p2), .val (.int p3), .val (.int p4), .unset] [(.ref b220), (.ref b220)])) t
              refine XS.bipush X238.here hx rfl (hb hby d1_328) ?_
              show Steps p.tables e below (T238.setTop (mkF m 330 #[.val (.int p0), .val (.int p1), .val (.int p2), .val (.int p3), .val (.int p4), .unset] [(.int (6 : Int32)), (.ref b220), (.ref b220)])) t
              refine XS.bipush X238.here hx rfl (hb hby d1_330) ?_
              exact kk
            obtain ⟨cl241, Ar241, q241, Sz241, Nn241, Hh241, Gg241⟩ := id V238
            have hin241 : ¬ ((6 : Int32) < 0 ∨ cl241.slots.size ≤ ((6 : Int32)).toNatClampNeg) := inb_of Sz241 ⟨by decide, by decide⟩
            obtain ⟨T241, h241, X241, e241, W241, st241⟩ := stC X238 hx hZ e238 Ar241 (j := (6 : Int32)) hin241 (g := (mkF m 332 #[.val (.int p0), .val (.int p1), .val (.int p2), .val (.int p3), .val (.int p4), .unset] [(.int (97 : Int32)), (.int (6 : Int32)), (.ref b220), (.ref b220)])) rfl rfl (hb hby d1_332)
            have V241 := Arv.set Ar241 q241 Sz241 Nn241 Hh241 Gg241 (fits_nar_char _) W241 6 rfl (Nat.le_of_ble_eq_true rfl)
            have N241 := Fr.snoc X241 N238 gb220
            have c242 : Goes p e below s₁ (entryFrame m #[(.int p0), (.int p1), (.int p2), (.int p3), (.int p4)] 6) T241 (mkF m 333 #[.val (.int p0), .val (.int p1), .val (.int p2), .val (.int p3), .val (.int p4), .unset] [(.ref b220)]) := fun t kk => c240 t (st241 t kk)
            have c243 : Goes p e below s₁ (entryFrame m #[(.int p0), (.int p1), (.int p2), (.int p3), (.int p4)] 6) T241 (mkF m 338 #[.val (.int p0), .val (.int p1), .val (.int p2), .val (.int p3), .val (.int p4), .unset] [(.int (100 : Int32)), (.int (7 : Int32)), (.ref b220), (.ref b220)]) := by
              intro t kk
              refine c242 t ?_
              show Steps p.tables e below (T241.setTop (mkF m 333 #[.val (.int p0), .val (.int p1), .val (.int p2), .val (.int p3), .val (.int p4), .unset] [(.ref b220)])) t
              refine XS.dup X241.here hx rfl (hb hby d1_333) rfl rfl ?_
              show Steps p.tables e below (T241.setTop (mkF m 334 #[.val (.int p0), .val (.int p1), .val (.int p2), .val (.int p3), .val (.int p4), .unset] [(.ref b220), (.ref b220)])) t
              refine XS.bipush X241.here hx rfl (hb hby d1_334) ?_
              show Steps p.tables e below (T241.setTop (mkF m 336 #[.val (.int p0), .val (.int p1), .val (.int p2), .val (.int p3), .val (.int p4), .unset] [(.int (7 : Int32)), (.ref b220), (.ref b220)])) t
              refine XS.bipush X241.here hx rfl (hb hby d1_336) ?_
              exact kk
            obtain ⟨cl244, Ar244, q244, Sz244, Nn244, Hh244, Gg244⟩ := id V241
            have hin244 : ¬ ((7 : Int32) < 0 ∨ cl244.slots.size ≤ ((7 : Int32)).toNatClampNeg) := inb_of Sz244 ⟨by decide, by decide⟩
            obtain ⟨T244, h244, X244, e244, W244, st244⟩ := stC X241 hx hZ e241 Ar244 (j := (7 : Int32)) hin244 (g := (mkF m 338 #[.val (.int p0), .val (.int p1), .val (.int p2), .val (.int p3), .val (.int p4), .unset] [(.int (100 : Int32)), (.int (7 : Int32)), (.ref b220), (.ref b220)])) rfl rfl (hb hby d1_338)
            have V244 := Arv.set Ar244 q244 Sz244 Nn244 Hh244 Gg244 (fits_nar_char _) W244 7 rfl (Nat.le_of_ble_eq_true rfl)
            have N244 := Fr.snoc X244 N241 gb220
            have c245 : Goes p e below s₁ (entryFrame m #[(.int p0), (.int p1), (.int p2), (.int p3), (.int p4)] 6) T244 (mkF m 339 #[.val (.int p0), .val (.int p1), .val (.int p2), .val (.int p3), .val (.int p4), .unset] [(.ref b220)]) := fun t kk => c243 t (st244 t kk)
            have c246 : Goes p e below s₁ (entryFrame m #[(.int p0), (.int p1), (.int p2), (.int p3), (.int p4)] 6) T244 (mkF m 344 #[.val (.int p0), .val (.int p1), .val (.int p2), .val (.int p3), .val (.int p4), .unset] [(.int (101 : Int32)), (.int (8 : Int32)), (.ref b220), (.ref b220)]) := by
              intro t kk
              refine c245 t ?_
              show Steps p.tables e below (T244.setTop (mkF m 339 #[.val (.int p0), .val (.int p1), .val (.int p2), .val (.int p3), .val (.int p4), .unset] [(.ref b220)])) t
              refine XS.dup X244.here hx rfl (hb hby d1_339) rfl rfl ?_
              show Steps p.tables e below (T244.setTop (mkF m 340 #[.val (.int p0), .val (.int p1), .val (.int p2), .val (.int p3), .val (.int p4), .unset] [(.ref b220), (.ref b220)])) t
              refine XS.bipush X244.here hx rfl (hb hby d1_340) ?_
              show Steps p.tables e below (T244.setTop (mkF m 342 #[.val (.int p0), .val (.int p1), .val (.int p2), .val (.int p3), .val (.int p4), .unset] [(.int (8 : Int32)), (.ref b220), (.ref b220)])) t
              refine XS.bipush X244.here hx rfl (hb hby d1_342) ?_
              exact kk
            obtain ⟨cl247, Ar247, q247, Sz247, Nn247, Hh247, Gg247⟩ := id V244
            have hin247 : ¬ ((8 : Int32) < 0 ∨ cl247.slots.size ≤ ((8 : Int32)).toNatClampNeg) := inb_of Sz247 ⟨by decide, by decide⟩
            obtain ⟨T247, h247, X247, e247, W247, st247⟩ := stC X244 hx hZ e244 Ar247 (j := (8 : Int32)) hin247 (g := (mkF m 344 #[.val (.int p0), .val (.int p1), .val (.int p2), .val (.int p3), .val (.int p4), .unset] [(.int (101 : Int32)), (.int (8 : Int32)), (.ref b220), (.ref b220)])) rfl rfl (hb hby d1_344)
            have V247 := Arv.set Ar247 q247 Sz247 Nn247 Hh247 Gg247 (fits_nar_char _) W247 8 rfl (Nat.le_of_ble_eq_true rfl)
            have N247 := Fr.snoc X247 N244 gb220
            have c248 : Goes p e below s₁ (entryFrame m #[(.int p0), (.int p1), (.int p2), (.int p3), (.int p4)] 6) T247 (mkF m 345 #[.val (.int p0), .val (.int p1), .val (.int p2), .val (.int p3), .val (.int p4), .unset] [(.ref b220)]) := fun t kk => c246 t (st247 t kk)
            have c249 : Goes p e below s₁ (entryFrame m #[(.int p0), (.int p1), (.int p2), (.int p3), (.int p4)] 6) T247 (mkF m 350 #[.val (.int p0), .val (.int p1), .val (.int p2), .val (.int p3), .val (.int p4), .unset] [(.int (100 : Int32)), (.int (9 : Int32)), (.ref b220), (.ref b220)]) := by
              intro t kk
              refine c248 t ?_
              show Steps p.tables e below (T247.setTop (mkF m 345 #[.val (.int p0), .val (.int p1), .val (.int p2), .val (.int p3), .val (.int p4), .unset] [(.ref b220)])) t
              refine XS.dup X247.here hx rfl (hb hby d1_345) rfl rfl ?_
              show Steps p.tables e below (T247.setTop (mkF m 346 #[.val (.int p0), .val (.int p1), .val (.int p2), .val (.int p3), .val (.int p4), .unset] [(.ref b220), (.ref b220)])) t
              refine XS.bipush X247.here hx rfl (hb hby d1_346) ?_
              show Steps p.tables e below (T247.setTop (mkF m 348 #[.val (.int p0), .val (.int p1), .val (.int p2), .val (.int p3), .val (.int p4), .unset] [(.int (9 : Int32)), (.ref b220), (.ref b220)])) t
              refine XS.bipush X247.here hx rfl (hb hby d1_348) ?_
              exact kk
            obtain ⟨cl250, Ar250, q250, Sz250, Nn250, Hh250, Gg250⟩ := id V247
            have hin250 : ¬ ((9 : Int32) < 0 ∨ cl250.slots.size ≤ ((9 : Int32)).toNatClampNeg) := inb_of Sz250 ⟨by decide, by decide⟩
            obtain ⟨T250, h250, X250, e250, W250, st250⟩ := stC X247 hx hZ e247 Ar250 (j := (9 : Int32)) hin250 (g := (mkF m 350 #[.val (.int p0), .val (.int p1), .val (.int p2), .val (.int p3), .val (.int p4), .unset] [(.int (100 : Int32)), (.int (9 : Int32)), (.ref b220), (.ref b220)])) rfl rfl (hb hby d1_350)
            have V250 := Arv.set Ar250 q250 Sz250 Nn250 Hh250 Gg250 (fits_nar_char _) W250 9 rfl (Nat.le_of_ble_eq_true rfl)
            have N250 := Fr.snoc X250 N247 gb220
            have c251 : Goes p e below s₁ (entryFrame m #[(.int p0), (.int p1), (.int p2), (.int p3), (.int p4)] 6) T250 (mkF m 351 #[.val (.int p0), .val (.int p1), .val (.int p2), .val (.int p3), .val (.int p4), .unset] [(.ref b220)]) := fun t kk => c249 t (st250 t kk)
            have c252 : Goes p e below s₁ (entryFrame m #[(.int p0), (.int p1), (.int p2), (.int p3), (.int p4)] 6) T250 (mkF m 356 #[.val (.int p0), .val (.int p1), .val (.int p2), .val (.int p3), .val (.int p4), .unset] [(.int (45 : Int32)), (.int (10 : Int32)), (.ref b220), (.ref b220)]) := by
              intro t kk
              refine c251 t ?_
              show Steps p.tables e below (T250.setTop (mkF m 351 #[.val (.int p0), .val (.int p1), .val (.int p2), .val (.int p3), .val (.int p4), .unset] [(.ref b220)])) t
              refine XS.dup X250.here hx rfl (hb hby d1_351) rfl rfl ?_
              show Steps p.tables e below (T250.setTop (mkF m 352 #[.val (.int p0), .val (.int p1), .val (.int p2), .val (.int p3), .val (.int p4), .unset] [(.ref b220), (.ref b220)])) t
              refine XS.bipush X250.here hx rfl (hb hby d1_352) ?_
              show Steps p.tables e below (T250.setTop (mkF m 354 #[.val (.int p0), .val (.int p1), .val (.int p2), .val (.int p3), .val (.int p4), .unset] [(.int (10 : Int32)), (.ref b220), (.ref b220)])) t
              refine XS.bipush X250.here hx rfl (hb hby d1_354) ?_
              exact kk
            obtain ⟨cl253, Ar253, q253, Sz253, Nn253, Hh253, Gg253⟩ := id V250
            have hin253 : ¬ ((10 : Int32) < 0 ∨ cl253.slots.size ≤ ((10 : Int32)).toNatClampNeg) := inb_of Sz253 ⟨by decide, by decide⟩
            obtain ⟨T253, h253, X253, e253, W253, st253⟩ := stC X250 hx hZ e250 Ar253 (j := (10 : Int32)) hin253 (g := (mkF m 356 #[.val (.int p0), .val (.int p1), .val (.int p2), .val (.int p3), .val (.int p4), .unset] [(.int (45 : Int32)), (.int (10 : Int32)), (.ref b220), (.ref b220)])) rfl rfl (hb hby d1_356)
            have V253 := Arv.set Ar253 q253 Sz253 Nn253 Hh253 Gg253 (fits_nar_char _) W253 10 rfl (Nat.le_of_ble_eq_true rfl)
            have N253 := Fr.snoc X253 N250 gb220
            have c254 : Goes p e below s₁ (entryFrame m #[(.int p0), (.int p1), (.int p2), (.int p3), (.int p4)] 6) T253 (mkF m 357 #[.val (.int p0), .val (.int p1), .val (.int p2), .val (.int p3), .val (.int p4), .unset] [(.ref b220)]) := fun t kk => c252 t (st253 t kk)
            have c255 : Goes p e below s₁ (entryFrame m #[(.int p0), (.int p1), (.int p2), (.int p3), (.int p4)] 6) T253 (mkF m 362 #[.val (.int p0), .val (.int p1), .val (.int p2), .val (.int p3), .val (.int p4), .unset] [(.int (110 : Int32)), (.int (11 : Int32)), (.ref b220), (.ref b220)]) := by
              intro t kk
              refine c254 t ?_
              show Steps p.tables e below (T253.setTop (mkF m 357 #[.val (.int p0), .val (.int p1), .val (.int p2), .val (.int p3), .val (.int p4), .unset] [(.ref b220)])) t
              refine XS.dup X253.here hx rfl (hb hby d1_357) rfl rfl ?_
              show Steps p.tables e below (T253.setTop (mkF m 358 #[.val (.int p0), .val (.int p1), .val (.int p2), .val (.int p3), .val (.int p4), .unset] [(.ref b220), (.ref b220)])) t
              refine XS.bipush X253.here hx rfl (hb hby d1_358) ?_
              show Steps p.tables e below (T253.setTop (mkF m 360 #[.val (.int p0), .val (.int p1), .val (.int p2), .val (.int p3), .val (.int p4), .unset] [(.int (11 : Int32)), (.ref b220), (.ref b220)])) t
              refine XS.bipush X253.here hx rfl (hb hby d1_360) ?_
              exact kk
            obtain ⟨cl256, Ar256, q256, Sz256, Nn256, Hh256, Gg256⟩ := id V253
            have hin256 : ¬ ((11 : Int32) < 0 ∨ cl256.slots.size ≤ ((11 : Int32)).toNatClampNeg) := inb_of Sz256 ⟨by decide, by decide⟩
            obtain ⟨T256, h256, X256, e256, W256, st256⟩ := stC X253 hx hZ e253 Ar256 (j := (11 : Int32)) hin256 (g := (mkF m 362 #[.val (.int p0), .val (.int p1), .val (.int p2), .val (.int p3), .val (.int p4), .unset] [(.int (110 : Int32)), (.int (11 : Int32)), (.ref b220), (.ref b220)])) rfl rfl (hb hby d1_362)
            have V256 := Arv.set Ar256 q256 Sz256 Nn256 Hh256 Gg256 (fits_nar_char _) W256 11 rfl (Nat.le_of_ble_eq_true rfl)
            have N256 := Fr.snoc X256 N253 gb220
            have c257 : Goes p e below s₁ (entryFrame m #[(.int p0), (.int p1), (.int p2), (.int p3), (.int p4)] 6) T256 (mkF m 363 #[.val (.int p0), .val (.int p1), .val (.int p2), .val (.int p3), .val (.int p4), .unset] [(.ref b220)]) := fun t kk => c255 t (st256 t kk)
            have c258 : Goes p e below s₁ (entryFrame m #[(.int p0), (.int p1), (.int p2), (.int p3), (.int p4)] 6) T256 (mkF m 368 #[.val (.int p0), .val (.int p1), .val (.int p2), .val (.int p3), .val (.int p4), .unset] [(.int (111 : Int32)), (.int (12 : Int32)), (.ref b220), (.ref b220)]) := by
              intro t kk
              refine c257 t ?_
              show Steps p.tables e below (T256.setTop (mkF m 363 #[.val (.int p0), .val (.int p1), .val (.int p2), .val (.int p3), .val (.int p4), .unset] [(.ref b220)])) t
              refine XS.dup X256.here hx rfl (hb hby d1_363) rfl rfl ?_
              show Steps p.tables e below (T256.setTop (mkF m 364 #[.val (.int p0), .val (.int p1), .val (.int p2), .val (.int p3), .val (.int p4), .unset] [(.ref b220), (.ref b220)])) t
              refine XS.bipush X256.here hx rfl (hb hby d1_364) ?_
              show Steps p.tables e below (T256.setTop (mkF m 366 #[.val (.int p0), .val (.int p1), .val (.int p2), .val (.int p3), .val (.int p4), .unset] [(.int (12 : Int32)), (.ref b220), (.ref b220)])) t
              refine XS.bipush X256.here hx rfl (hb hby d1_366) ?_
              exact kk
            obtain ⟨cl259, Ar259, q259, Sz259, Nn259, Hh259, Gg259⟩ := id V256
            have hin259 : ¬ ((12 : Int32) < 0 ∨ cl259.slots.size ≤ ((12 : Int32)).toNatClampNeg) := inb_of Sz259 ⟨by decide, by decide⟩
            obtain ⟨T259, h259, X259, e259, W259, st259⟩ := stC X256 hx hZ e256 Ar259 (j := (12 : Int32)) hin259 (g := (mkF m 368 #[.val (.int p0), .val (.int p1), .val (.int p2), .val (.int p3), .val (.int p4), .unset] [(.int (111 : Int32)), (.int (12 : Int32)), (.ref b220), (.ref b220)])) rfl rfl (hb hby d1_368)
            have V259 := Arv.set Ar259 q259 Sz259 Nn259 Hh259 Gg259 (fits_nar_char _) W259 12 rfl (Nat.le_of_ble_eq_true rfl)
            have N259 := Fr.snoc X259 N256 gb220
            have c260 : Goes p e below s₁ (entryFrame m #[(.int p0), (.int p1), (.int p2), (.int p3), (.int p4)] 6) T259 (mkF m 369 #[.val (.int p0), .val (.int p1), .val (.int p2), .val (.int p3), .val (.int p4), .unset] [(.ref b220)]) := fun t kk => c258 t (st259 t kk)
            have c261 : Goes p e below s₁ (entryFrame m #[(.int p0), (.int p1), (.int p2), (.int p3), (.int p4)] 6) T259 (mkF m 374 #[.val (.int p0), .val (.int p1), .val (.int p2), .val (.int p3), .val (.int p4), .unset] [(.int (45 : Int32)), (.int (13 : Int32)), (.ref b220), (.ref b220)]) := by
              intro t kk
              refine c260 t ?_
              show Steps p.tables e below (T259.setTop (mkF m 369 #[.val (.int p0), .val (.int p1), .val (.int p2), .val (.int p3), .val (.int p4), .unset] [(.ref b220)])) t
              refine XS.dup X259.here hx rfl (hb hby d1_369) rfl rfl ?_
              show Steps p.tables e below (T259.setTop (mkF m 370 #[.val (.int p0), .val (.int p1), .val (.int p2), .val (.int p3), .val (.int p4), .unset] [(.ref b220), (.ref b220)])) t
              refine XS.bipush X259.here hx rfl (hb hby d1_370) ?_
              show Steps p.tables e below (T259.setTop (mkF m 372 #[.val (.int p0), .val (.int p1), .val (.int p2), .val (.int p3), .val (.int p4), .unset] [(.int (13 : Int32)), (.ref b220), (.ref b220)])) t
              refine XS.bipush X259.here hx rfl (hb hby d1_372) ?_
              exact kk
            obtain ⟨cl262, Ar262, q262, Sz262, Nn262, Hh262, Gg262⟩ := id V259
            have hin262 : ¬ ((13 : Int32) < 0 ∨ cl262.slots.size ≤ ((13 : Int32)).toNatClampNeg) := inb_of Sz262 ⟨by decide, by decide⟩
            obtain ⟨T262, h262, X262, e262, W262, st262⟩ := stC X259 hx hZ e259 Ar262 (j := (13 : Int32)) hin262 (g := (mkF m 374 #[.val (.int p0), .val (.int p1), .val (.int p2), .val (.int p3), .val (.int p4), .unset] [(.int (45 : Int32)), (.int (13 : Int32)), (.ref b220), (.ref b220)])) rfl rfl (hb hby d1_374)
            have V262 := Arv.set Ar262 q262 Sz262 Nn262 Hh262 Gg262 (fits_nar_char _) W262 13 rfl (Nat.le_of_ble_eq_true rfl)
            have N262 := Fr.snoc X262 N259 gb220
            have c263 : Goes p e below s₁ (entryFrame m #[(.int p0), (.int p1), (.int p2), (.int p3), (.int p4)] 6) T262 (mkF m 375 #[.val (.int p0), .val (.int p1), .val (.int p2), .val (.int p3), .val (.int p4), .unset] [(.ref b220)]) := fun t kk => c261 t (st262 t kk)
            have c264 : Goes p e below s₁ (entryFrame m #[(.int p0), (.int p1), (.int p2), (.int p3), (.int p4)] 6) T262 (mkF m 380 #[.val (.int p0), .val (.int p1), .val (.int p2), .val (.int p3), .val (.int p4), .unset] [(.int (114 : Int32)), (.int (14 : Int32)), (.ref b220), (.ref b220)]) := by
              intro t kk
              refine c263 t ?_
              show Steps p.tables e below (T262.setTop (mkF m 375 #[.val (.int p0), .val (.int p1), .val (.int p2), .val (.int p3), .val (.int p4), .unset] [(.ref b220)])) t
              refine XS.dup X262.here hx rfl (hb hby d1_375) rfl rfl ?_
              show Steps p.tables e below (T262.setTop (mkF m 376 #[.val (.int p0), .val (.int p1), .val (.int p2), .val (.int p3), .val (.int p4), .unset] [(.ref b220), (.ref b220)])) t
              refine XS.bipush X262.here hx rfl (hb hby d1_376) ?_
              show Steps p.tables e below (T262.setTop (mkF m 378 #[.val (.int p0), .val (.int p1), .val (.int p2), .val (.int p3), .val (.int p4), .unset] [(.int (14 : Int32)), (.ref b220), (.ref b220)])) t
              refine XS.bipush X262.here hx rfl (hb hby d1_378) ?_
              exact kk
            obtain ⟨cl265, Ar265, q265, Sz265, Nn265, Hh265, Gg265⟩ := id V262
            have hin265 : ¬ ((14 : Int32) < 0 ∨ cl265.slots.size ≤ ((14 : Int32)).toNatClampNeg) := inb_of Sz265 ⟨by decide, by decide⟩
            obtain ⟨T265, h265, X265, e265, W265, st265⟩ := stC X262 hx hZ e262 Ar265 (j := (14 : Int32)) hin265 (g := (mkF m 380 #[.val (.int p0), .val (.int p1), .val (.int p2), .val (.int p3), .val (.int p4), .unset] [(.int (114 : Int32)), (.int (14 : Int32)), (.ref b220), (.ref b220)])) rfl rfl (hb hby d1_380)
            have V265 := Arv.set Ar265 q265 Sz265 Nn265 Hh265 Gg265 (fits_nar_char _) W265 14 rfl (Nat.le_of_ble_eq_true rfl)
            have N265 := Fr.snoc X265 N262 gb220
            have c266 : Goes p e below s₁ (entryFrame m #[(.int p0), (.int p1), (.int p2), (.int p3), (.int p4)] 6) T265 (mkF m 381 #[.val (.int p0), .val (.int p1), .val (.int p2), .val (.int p3), .val (.int p4), .unset] [(.ref b220)]) := fun t kk => c264 t (st265 t kk)
            have c267 : Goes p e below s₁ (entryFrame m #[(.int p0), (.int p1), (.int p2), (.int p3), (.int p4)] 6) T265 (mkF m 386 #[.val (.int p0), .val (.int p1), .val (.int p2), .val (.int p3), .val (.int p4), .unset] [(.int (101 : Int32)), (.int (15 : Int32)), (.ref b220), (.ref b220)]) := by
              intro t kk
              refine c266 t ?_
              show Steps p.tables e below (T265.setTop (mkF m 381 #[.val (.int p0), .val (.int p1), .val (.int p2), .val (.int p3), .val (.int p4), .unset] [(.ref b220)])) t
              refine XS.dup X265.here hx rfl (hb hby d1_381) rfl rfl ?_
              show Steps p.tables e below (T265.setTop (mkF m 382 #[.val (.int p0), .val (.int p1), .val (.int p2), .val (.int p3), .val (.int p4), .unset] [(.ref b220), (.ref b220)])) t
              refine XS.bipush X265.here hx rfl (hb hby d1_382) ?_
              show Steps p.tables e below (T265.setTop (mkF m 384 #[.val (.int p0), .val (.int p1), .val (.int p2), .val (.int p3), .val (.int p4), .unset] [(.int (15 : Int32)), (.ref b220), (.ref b220)])) t
              refine XS.bipush X265.here hx rfl (hb hby d1_384) ?_
              exact kk
            obtain ⟨cl268, Ar268, q268, Sz268, Nn268, Hh268, Gg268⟩ := id V265
            have hin268 : ¬ ((15 : Int32) < 0 ∨ cl268.slots.size ≤ ((15 : Int32)).toNatClampNeg) := inb_of Sz268 ⟨by decide, by decide⟩
            obtain ⟨T268, h268, X268, e268, W268, st268⟩ := stC X265 hx hZ e265 Ar268 (j := (15 : Int32)) hin268 (g := (mkF m 386 #[.val (.int p0), .val (.int p1), .val (.int p2), .val (.int p3), .val (.int p4), .unset] [(.int (101 : Int32)), (.int (15 : Int32)), (.ref b220), (.ref b220)])) rfl rfl (hb hby d1_386)
            have V268 := Arv.set Ar268 q268 Sz268 Nn268 Hh268 Gg268 (fits_nar_char _) W268 15 rfl (Nat.le_of_ble_eq_true rfl)
            have N268 := Fr.snoc X268 N265 gb220
            have c269 : Goes p e below s₁ (entryFrame m #[(.int p0), (.int p1), (.int p2), (.int p3), (.int p4)] 6) T268 (mkF m 387 #[.val (.int p0), .val (.int p1), .val (.int p2), .val (.int p3), .val (.int p4), .unset] [(.ref b220)]) := fun t kk => c267 t (st268 t kk)
            have c270 : Goes p e below s₁ (entryFrame m #[(.int p0), (.int p1), (.int p2), (.int p3), (.int p4)] 6) T268 (mkF m 392 #[.val (.int p0), .val (.int p1), .val (.int p2), .val (.int p3), .val (.int p4), .unset] [(.int (116 : Int32)), (.int (16 : Int32)), (.ref b220), (.ref b220)]) := by
              intro t kk
              refine c269 t ?_
              show Steps p.tables e below (T268.setTop (mkF m 387 #[.val (.int p0), .val (.int p1), .val (.int p2), .val (.int p3), .val (.int p4), .unset] [(.ref b220)])) t
              refine XS.dup X268.here hx rfl (hb hby d1_387) rfl rfl ?_
              show Steps p.tables e below (T268.setTop (mkF m 388 #[.val (.int p0), .val (.int p1), .val (.int p2), .val (.int p3), .val (.int p4), .unset] [(.ref b220), (.ref b220)])) t
              refine XS.bipush X268.here hx rfl (hb hby d1_388) ?_
              show Steps p.tables e below (T268.setTop (mkF m 390 #[.val (.int p0), .val (.int p1), .val (.int p2), .val (.int p3), .val (.int p4), .unset] [(.int (16 : Int32)), (.ref b220), (.ref b220)])) t
              refine XS.bipush X268.here hx rfl (hb hby d1_390) ?_
              exact kk
            obtain ⟨cl271, Ar271, q271, Sz271, Nn271, Hh271, Gg271⟩ := id V268
            have hin271 : ¬ ((16 : Int32) < 0 ∨ cl271.slots.size ≤ ((16 : Int32)).toNatClampNeg) := inb_of Sz271 ⟨by decide, by decide⟩
            obtain ⟨T271, h271, X271, e271, W271, st271⟩ := stC X268 hx hZ e268 Ar271 (j := (16 : Int32)) hin271 (g := (mkF m 392 #[.val (.int p0), .val (.int p1), .val (.int p2), .val (.int p3), .val (.int p4), .unset] [(.int (116 : Int32)), (.int (16 : Int32)), (.ref b220), (.ref b220)])) rfl rfl (hb hby d1_392)
            have V271 := Arv.set Ar271 q271 Sz271 Nn271 Hh271 Gg271 (fits_nar_char _) W271 16 rfl (Nat.le_of_ble_eq_true rfl)
            have N271 := Fr.snoc X271 N268 gb220
            have c272 : Goes p e below s₁ (entryFrame m #[(.int p0), (.int p1), (.int p2), (.int p3), (.int p4)] 6) T271 (mkF m 393 #[.val (.int p0), .val (.int p1), .val (.int p2), .val (.int p3), .val (.int p4), .unset] [(.ref b220)]) := fun t kk => c270 t (st271 t kk)
            have c273 : Goes p e below s₁ (entryFrame m #[(.int p0), (.int p1), (.int p2), (.int p3), (.int p4)] 6) T271 (mkF m 398 #[.val (.int p0), .val (.int p1), .val (.int p2), .val (.int p3), .val (.int p4), .unset] [(.int (114 : Int32)), (.int (17 : Int32)), (.ref b220), (.ref b220)]) := by
              intro t kk
              refine c272 t ?_
              show Steps p.tables e below (T271.setTop (mkF m 393 #[.val (.int p0), .val (.int p1), .val (.int p2), .val (.int p3), .val (.int p4), .unset] [(.ref b220)])) t
              refine XS.dup X271.here hx rfl (hb hby d1_393) rfl rfl ?_
              show Steps p.tables e below (T271.setTop (mkF m 394 #[.val (.int p0), .val (.int p1), .val (.int p2), .val (.int p3), .val (.int p4), .unset] [(.ref b220), (.ref b220)])) t
              refine XS.bipush X271.here hx rfl (hb hby d1_394) ?_
              show Steps p.tables e below (T271.setTop (mkF m 396 #[.val (.int p0), .val (.int p1), .val (.int p2), .val (.int p3), .val (.int p4), .unset] [(.int (17 : Int32)), (.ref b220), (.ref b220)])) t
              refine XS.bipush X271.here hx rfl (hb hby d1_396) ?_
              exact kk
            obtain ⟨cl274, Ar274, q274, Sz274, Nn274, Hh274, Gg274⟩ := id V271
            have hin274 : ¬ ((17 : Int32) < 0 ∨ cl274.slots.size ≤ ((17 : Int32)).toNatClampNeg) := inb_of Sz274 ⟨by decide, by decide⟩
            obtain ⟨T274, h274, X274, e274, W274, st274⟩ := stC X271 hx hZ e271 Ar274 (j := (17 : Int32)) hin274 (g := (mkF m 398 #[.val (.int p0), .val (.int p1), .val (.int p2), .val (.int p3), .val (.int p4), .unset] [(.int (114 : Int32)), (.int (17 : Int32)), (.ref b220), (.ref b220)])) rfl rfl (hb hby d1_398)
            have V274 := Arv.set Ar274 q274 Sz274 Nn274 Hh274 Gg274 (fits_nar_char _) W274 17 rfl (Nat.le_of_ble_eq_true rfl)
            have N274 := Fr.snoc X274 N271 gb220
            have c275 : Goes p e below s₁ (entryFrame m #[(.int p0), (.int p1), (.int p2), (.int p3), (.int p4)] 6) T274 (mkF m 399 #[.val (.int p0), .val (.int p1), .val (.int p2), .val (.int p3), .val (.int p4), .unset] [(.ref b220)]) := fun t kk => c273 t (st274 t kk)
            have c276 : Goes p e below s₁ (entryFrame m #[(.int p0), (.int p1), (.int p2), (.int p3), (.int p4)] 6) T274 (mkF m 404 #[.val (.int p0), .val (.int p1), .val (.int p2), .val (.int p3), .val (.int p4), .unset] [(.int (121 : Int32)), (.int (18 : Int32)), (.ref b220), (.ref b220)]) := by
              intro t kk
              refine c275 t ?_
              show Steps p.tables e below (T274.setTop (mkF m 399 #[.val (.int p0), .val (.int p1), .val (.int p2), .val (.int p3), .val (.int p4), .unset] [(.ref b220)])) t
              refine XS.dup X274.here hx rfl (hb hby d1_399) rfl rfl ?_
              show Steps p.tables e below (T274.setTop (mkF m 400 #[.val (.int p0), .val (.int p1), .val (.int p2), .val (.int p3), .val (.int p4), .unset] [(.ref b220), (.ref b220)])) t
              refine XS.bipush X274.here hx rfl (hb hby d1_400) ?_
              show Steps p.tables e below (T274.setTop (mkF m 402 #[.val (.int p0), .val (.int p1), .val (.int p2), .val (.int p3), .val (.int p4), .unset] [(.int (18 : Int32)), (.ref b220), (.ref b220)])) t
              refine XS.bipush X274.here hx rfl (hb hby d1_402) ?_
              exact kk
            obtain ⟨cl277, Ar277, q277, Sz277, Nn277, Hh277, Gg277⟩ := id V274
            have hin277 : ¬ ((18 : Int32) < 0 ∨ cl277.slots.size ≤ ((18 : Int32)).toNatClampNeg) := inb_of Sz277 ⟨by decide, by decide⟩
            obtain ⟨T277, h277, X277, e277, W277, st277⟩ := stC X274 hx hZ e274 Ar277 (j := (18 : Int32)) hin277 (g := (mkF m 404 #[.val (.int p0), .val (.int p1), .val (.int p2), .val (.int p3), .val (.int p4), .unset] [(.int (121 : Int32)), (.int (18 : Int32)), (.ref b220), (.ref b220)])) rfl rfl (hb hby d1_404)
            have V277 := Arv.set Ar277 q277 Sz277 Nn277 Hh277 Gg277 (fits_nar_char _) W277 18 rfl (Nat.le_of_ble_eq_true rfl)
            have N277 := Fr.snoc X277 N274 gb220
            have c278 : Goes p e below s₁ (entryFrame m #[(.int p0), (.int p1), (.int p2), (.int p3), (.int p4)] 6) T277 (mkF m 405 #[.val (.int p0), .val (.int p1), .val (.int p2), .val (.int p3), .val (.int p4), .unset] [(.ref b220)]) := fun t kk => c276 t (st277 t kk)
            have c279 : Goes p e below s₁ (entryFrame m #[(.int p0), (.int p1), (.int p2), (.int p3), (.int p4)] 6) T277 (mkF m 417 #[.val (.int p0), .val (.int p1), .val (.int p2), .val (.int p3), .val (.int p4), .val (.ref b220)] [(.int p2), (.int ((p1 &&& (2147483647 : Int32)) % (19 : Int32))), (.ref b220)]) := by
              intro t kk
              refine c278 t ?_
              show Steps p.tables e below (T277.setTop (mkF m 405 #[.val (.int p0), .val (.int p1), .val (.int p2), .val (.int p3), .val (.int p4), .unset] [(.ref b220)])) t
              refine XS.astore X277.here hx rfl (hb hby d1_405) rfl rfl (l' := #[.val (.int p0), .val (.int p1), .val (.int p2), .val (.int p3), .val (.int p4), .val (.ref b220)]) rfl ?_
              show Steps p.tables e below (T277.setTop (mkF m 407 #[.val (.int p0), .val (.int p1), .val (.int p2), .val (.int p3), .val (.int p4), .val (.ref b220)] [])) t
              refine XS.aload X277.here hx rfl (hb hby d1_407) rfl rfl ?_
              show Steps p.tables e below (T277.setTop (mkF m 409 #[.val (.int p0), .val (.int p1), .val (.int p2), .val (.int p3), .val (.int p4), .val (.ref b220)] [(.ref b220)])) t
              refine XS.iloadN X277.here hx rfl (hb hby d1_409) rfl ?_
              show Steps p.tables e below (T277.setTop (mkF m 410 #[.val (.int p0), .val (.int p1), .val (.int p2), .val (.int p3), .val (.int p4), .val (.ref b220)] [(.int p1), (.ref b220)])) t
              refine X277.ldcInt hx hown (mvT hZ (hw _ (List.mem_of_getElem? (i := 66) rfl))) (g := (mkF m 410 #[.val (.int p0), .val (.int p1), .val (.int p2), .val (.int p3), .val (.int p4), .val (.ref b220)] [(.int p1), (.ref b220)])) rfl (hb hby d1_410) _ ?_
              show Steps p.tables e below (T277.setTop (mkF m 412 #[.val (.int p0), .val (.int p1), .val (.int p2), .val (.int p3), .val (.int p4), .val (.ref b220)] [(.int (2147483647 : Int32)), (.int p1), (.ref b220)])) t
              refine XS.iand X277.here hx rfl (hb hby d1_412) rfl ?_
              show Steps p.tables e below (T277.setTop (mkF m 413 #[.val (.int p0), .val (.int p1), .val (.int p2), .val (.int p3), .val (.int p4), .val (.ref b220)] [(.int (p1 &&& (2147483647 : Int32))), (.ref b220)])) t
              refine XS.bipush X277.here hx rfl (hb hby d1_413) ?_
              show Steps p.tables e below (T277.setTop (mkF m 415 #[.val (.int p0), .val (.int p1), .val (.int p2), .val (.int p3), .val (.int p4), .val (.ref b220)] [(.int (19 : Int32)), (.int (p1 &&& (2147483647 : Int32))), (.ref b220)])) t
              refine iremM X277 hx rfl (hb hby d1_415) rfl (by decide) ?_
              show Steps p.tables e below (T277.setTop (mkF m 416 #[.val (.int p0), .val (.int p1), .val (.int p2), .val (.int p3), .val (.int p4), .val (.ref b220)] [(.int ((p1 &&& (2147483647 : Int32)) % (19 : Int32))), (.ref b220)])) t
              refine XS.iloadN X277.here hx rfl (hb hby d1_416) rfl ?_
              exact kk
            obtain ⟨cl280, Ar280, q280, Sz280, Nn280, Hh280, Gg280⟩ := id V277
            have hin280 : ¬ (((p1 &&& (2147483647 : Int32)) % (19 : Int32)) < 0 ∨ cl280.slots.size ≤ (((p1 &&& (2147483647 : Int32)) % (19 : Int32))).toNatClampNeg) := inb_of Sz280 (own_ix p1 19 19 rfl (by decide) (by decide)).1
            obtain ⟨T280, h280, X280, e280, W280, st280⟩ := stC X277 hx hZ e277 Ar280 (j := ((p1 &&& (2147483647 : Int32)) % (19 : Int32))) hin280 (g := (mkF m 417 #[.val (.int p0), .val (.int p1), .val (.int p2), .val (.int p3), .val (.int p4), .val (.ref b220)] [(.int p2), (.int ((p1 &&& (2147483647 : Int32)) % (19 : Int32))), (.ref b220)])) rfl rfl (hb hby d1_417)
            have V280 := Arv.set Ar280 q280 Sz280 Nn280 Hh280 Gg280 (fits_nar_char _) W280 (((p1 &&& (2147483647 : Int32)) % (19 : Int32))).toNatClampNeg rfl (own_ix p1 19 19 rfl (by decide) (by decide)).2
            have N280 := Fr.snoc X280 N277 gb220
            have c281 : Goes p e below s₁ (entryFrame m #[(.int p0), (.int p1), (.int p2), (.int p3), (.int p4)] 6) T280 (mkF m 418 #[.val (.int p0), .val (.int p1), .val (.int p2), .val (.int p3), .val (.int p4), .val (.ref b220)] []) := fun t kk => c279 t (st280 t kk)
            obtain ⟨T282, h282, X282, e282, E282, A282, D282, -, st282⟩ := newO X280 hx hZ hown (hw _ (List.mem_of_getElem? (i := 18) rfl)) (hw _ (List.mem_of_getElem? (i := 19) rfl)) (hw _ (List.mem_of_getElem? (i := 20) rfl)) e280 (g := (mkF m 418 #[.val (.int p0), .val (.int p1), .val (.int p2), .val (.int p3), .val (.int p4), .val (.ref b220)] [])) rfl (hb hby d1_418) (by decide) (by decide)
            obtain ⟨b282, g282⟩ : ∃ z, z = h280.size := ⟨_, rfl⟩
            rw [← g282] at A282 D282 st282
            have f283 := (Nat.le_trans (Nat.le_trans (Nat.le_trans (Nat.le_trans (Nat.le_trans (Nat.le_trans (Nat.le_trans (Nat.le_trans (Nat.le_trans (Nat.le_trans (Nat.le_trans (Nat.le_trans (Nat.le_trans (Nat.le_trans (Nat.le_trans (Nat.le_trans (Nat.le_trans (Nat.le_trans (Nat.le_trans (Nat.le_trans (Nat.le_trans Z0 E220.1) (Keep.of_wr W223).1) (Keep.of_wr W226).1) (Keep.of_wr W229).1) (Keep.of_wr W232).1) (Keep.of_wr W235).1) (Keep.of_wr W238).1) (Keep.of_wr W241).1) (Keep.of_wr W244).1) (Keep.of_wr W247).1) (Keep.of_wr W250).1) (Keep.of_wr W253).1) (Keep.of_wr W256).1) (Keep.of_wr W259).1) (Keep.of_wr W262).1) (Keep.of_wr W265).1) (Keep.of_wr W268).1) (Keep.of_wr W271).1) (Keep.of_wr W274).1) (Keep.of_wr W277).1) (Keep.of_wr W280).1)
            have gb282 : n0 ≤ b282 := Nat.le_trans f283 (Nat.le_of_eq g282.symm)
            have neb220_282 : b220 ≠ b282 := Nat.ne_of_lt (Nat.lt_of_lt_of_le V280.lt (Nat.le_of_eq g282.symm))
            have f284 := ((((((((((((((((((((((Keep.refl h0 []).ext E220).wr W223 (Or.inr szbb220_220)).wr W226 (Or.inr szbb220_220)).wr W229 (Or.inr szbb220_220)).wr W232 (Or.inr szbb220_220)).wr W235 (Or.inr szbb220_220)).wr W238 (Or.inr szbb220_220)).wr W241 (Or.inr szbb220_220)).wr W244 (Or.inr szbb220_220)).wr W247 (Or.inr szbb220_220)).wr W250 (Or.inr szbb220_220)).wr W253 (Or.inr szbb220_220)).wr W256 (Or.inr szbb220_220)).wr W259 (Or.inr szbb220_220)).wr W262 (Or.inr szbb220_220)).wr W265 (Or.inr szbb220_220)).wr W268 (Or.inr szbb220_220)).wr W271 (Or.inr szbb220_220)).wr W274 (Or.inr szbb220_220)).wr W277 (Or.inr szbb220_220)).wr W280 (Or.inr szbb220_220))
            have szbb282_282 : h0.size ≤ b282 := Nat.le_trans f284.1 (Nat.le_of_eq g282.symm)
            have f285 := ((((((((((((((((((((((Keep.refl h0 []).ext E220).wr W223 (Or.inr szb220_220)).wr W226 (Or.inr szb220_220)).wr W229 (Or.inr szb220_220)).wr W232 (Or.inr szb220_220)).wr W235 (Or.inr szb220_220)).wr W238 (Or.inr szb220_220)).wr W241 (Or.inr szb220_220)).wr W244 (Or.inr szb220_220)).wr W247 (Or.inr szb220_220)).wr W250 (Or.inr szb220_220)).wr W253 (Or.inr szb220_220)).wr W256 (Or.inr szb220_220)).wr W259 (Or.inr szb220_220)).wr W262 (Or.inr szb220_220)).wr W265 (Or.inr szb220_220)).wr W268 (Or.inr szb220_220)).wr W271 (Or.inr szb220_220)).wr W274 (Or.inr szb220_220)).wr W277 (Or.inr szb220_220)).wr W280 (Or.inr szb220_220))
            have szb282_282 : h0.size ≤ b282 := Nat.le_trans f285.1 (Nat.le_of_eq g282.symm)
            have F_coder_b282 : Fld Z h282 b282 "java/lang/String" "coder" "B" (.int (0 : Int32)) := D282 (Or.inr (hw _ (List.mem_of_getElem? (i := 44) rfl))) (ty := .byte) (by decide)
            have F_value_b282 : Fld Z h282 b282 "java/lang/String" "value" "[B" .null := D282 (Or.inr (hw _ (List.mem_of_getElem? (i := 46) rfl))) (ty := (.array .byte)) (by decide)
            have c286 : Goes p e below s₁ (entryFrame m #[(.int p0), (.int p1), (.int p2), (.int p3), (.int p4)] 6) T282 (mkF m 421 #[.val (.int p0), .val (.int p1), .val (.int p2), .val (.int p3), .val (.int p4), .val (.ref b220)] [(.ref b282)]) := fun t kk => c281 t (st282 t kk)
            have f287 := ((((((((((((((((((((((O0.ext E220).wr W223 gb220).wr W226 gb220).wr W229 gb220).wr W232 gb220).wr W235 gb220).wr W238 gb220).wr W241 gb220).wr W244 gb220).wr W247 gb220).wr W250 gb220).wr W253 gb220).wr W256 gb220).wr W259 gb220).wr W262 gb220).wr W265 gb220).wr W268 gb220).wr W271 gb220).wr W274 gb220).wr W277 gb220).wr W280 gb220).ext E282)
            have f289 := (V280.ext E282)
            have Vs288 : Arv Z h282 b220 k220 .char (19 : Int32) ((([(nar .char (111 : Int32)), (nar .char (118 : Int32)), (nar .char (101 : Int32)), (nar .char (114 : Int32)), (nar .char (108 : Int32)), (nar .char (111 : Int32)), (nar .char (97 : Int32)), (nar .char (100 : Int32)), (nar .char (101 : Int32)), (nar .char (100 : Int32)), (nar .char (45 : Int32)), (nar .char (110 : Int32)), (nar .char (111 : Int32)), (nar .char (45 : Int32)), (nar .char (114 : Int32)), (nar .char (101 : Int32)), (nar .char (116 : Int32)), (nar .char (114 : Int32)), (nar .char (121 : Int32))] : List Int32).set (((p1 &&& (2147483647 : Int32)) % (19 : Int32))).toNatClampNeg (nar .char p2)).map Value.int) (.int 0) := by rw [List.map_set]; exact f289
            have f290 := (Nat.le_trans f283 E282.1)
            have c291 : Goes p e below s₁ (entryFrame m #[(.int p0), (.int p1), (.int p2), (.int p3), (.int p4)] 6) T282 (mkF m 424 #[.val (.int p0), .val (.int p1), .val (.int p2), .val (.int p3), .val (.int p4), .val (.ref b220)] [(.ref b220), (.ref b282), (.ref b282)]) := by
              intro t kk
              refine c286 t ?_
              show Steps p.tables e below (T282.setTop (mkF m 421 #[.val (.int p0), .val (.int p1), .val (.int p2), .val (.int p3), .val (.int p4), .val (.ref b220)] [(.ref b282)])) t
              refine XS.dup X282.here hx rfl (hb hby d1_421) rfl rfl ?_
              show Steps p.tables e below (T282.setTop (mkF m 422 #[.val (.int p0), .val (.int p1), .val (.int p2), .val (.int p3), .val (.int p4), .val (.ref b220)] [(.ref b282), (.ref b282)])) t
              refine XS.aload X282.here hx rfl (hb hby d1_422) rfl rfl ?_
              exact kk
            obtain ⟨_, _, ⟨T292, L292, k292, n292⟩, -, X292, ⟨Lc292, hQ292, l292, y292, z292⟩, st292⟩ := X282.specialBack hx (y := (⟨"java/lang/String", "<init>", "([C)V"⟩ : MethodName)) rfl hown (mvT hZ (hw _ (List.mem_of_getElem? (i := 21) rfl))) (mvT hZ (hw _ (List.mem_of_getElem? (i := 22) rfl))) (mvT hZ (hw _ (List.mem_of_getElem? (i := 23) rfl))) (by decide) (StrChars.Road.backV (W := 1) hZ (own_wmk hw) (kI := 4) (hw _ (List.mem_of_getElem? (i := 19) rfl)) (cs := (([(nar .char (111 : Int32)), (nar .char (118 : Int32)), (nar .char (101 : Int32)), (nar .char (114 : Int32)), (nar .char (108 : Int32)), (nar .char (111 : Int32)), (nar .char (97 : Int32)), (nar .char (100 : Int32)), (nar .char (101 : Int32)), (nar .char (100 : Int32)), (nar .char (45 : Int32)), (nar .char (110 : Int32)), (nar .char (111 : Int32)), (nar .char (45 : Int32)), (nar .char (114 : Int32)), (nar .char (101 : Int32)), (nar .char (116 : Int32)), (nar .char (114 : Int32)), (nar .char (121 : Int32))] : List Int32).set (((p1 &&& (2147483647 : Int32)) % (19 : Int32))).toNatClampNeg (nar .char p2))) (bs := ((([(nar .char (111 : Int32)), (nar .char (118 : Int32)), (nar .char (101 : Int32)), (nar .char (114 : Int32)), (nar .char (108 : Int32)), (nar .char (111 : Int32)), (nar .char (97 : Int32)), (nar .char (100 : Int32)), (nar .char (101 : Int32)), (nar .char (100 : Int32)), (nar .char (45 : Int32)), (nar .char (110 : Int32)), (nar .char (111 : Int32)), (nar .char (45 : Int32)), (nar .char (114 : Int32)), (nar .char (101 : Int32)), (nar .char (116 : Int32)), (nar .char (114 : Int32)), (nar .char (121 : Int32))] : List Int32).set (((p1 &&& (2147483647 : Int32)) % (19 : Int32))).toNatClampNeg (nar .char p2))).map StrChars.lo8) (n := 19) gb282 f290 A282 F_value_b282 F_coder_b282 Vs288 (S2.ext f287.2) hz (by simp) rfl (by decide) (by decide) (own_inset (own_two (by decide) (own_two (by decide) (own_two (by decide) (own_two (by decide) (own_two (by decide) (own_two (by decide) (own_two (by decide) (own_two (by decide) (own_two (by decide) (own_two (by decide) (own_two (by decide) (own_two (by decide) (own_two (by decide) (own_two (by decide) (own_two (by decide) (own_two (by decide) (own_two (by decide) (own_two (by decide) (own_two (by decide) own_nil))))))))))))))))))) (own_chr hp2)) rfl (by decide) (by decide)) (g := (mkF m 424 #[.val (.int p0), .val (.int p1), .val (.int p2), .val (.int p3), .val (.int p4), .val (.ref b220)] [(.ref b220), (.ref b282), (.ref b282)])) rfl (by rw [hml]; rfl) (Steps.refl _) (a := b282) (argsL := [(.ref b220)]) (rest := [(.ref b282)]) (lenOf pd___C_V rfl) rfl (by show 2 * 0 + _ ≤ _; exact Nat.le_of_eq rfl) (hb hby d1_424) (fun _ _ => ⟨rfl, e282, (by decide : 2 + 1 ≤ _), (by decide : 23 + 19 ≤ _)⟩)
            dsimp only [Pt.U, Pt.locs, Pt.cells, Pt.slots] at X292 l292 y292 z292 st292 hQ292
            subst l292 y292 z292
            obtain ⟨rfl, Nq292, Kq292, Eq292, Cq292, t292, kb292, gt292, szt292, net292, Vq292, Aq292⟩ := hQ292
            have N292 := Fr.app N280 Nq292
            have c293 : Goes p e below s₁ (entryFrame m #[(.int p0), (.int p1), (.int p2), (.int p3), (.int p4)] 6) T292 (mkF m 427 #[.val (.int p0), .val (.int p1), .val (.int p2), .val (.int p3), .val (.int p4), .val (.ref b220)] [(.ref b282)]) := fun t kk => c291 t (st292.trans kk)
            have Str292 : own_str Z T292.heap b282 (([(nar .char (111 : Int32)), (nar .char (118 : Int32)), (nar .char (101 : Int32)), (nar .char (114 : Int32)), (nar .char (108 : Int32)), (nar .char (111 : Int32)), (nar .char (97 : Int32)), (nar .char (100 : Int32)), (nar .char (101 : Int32)), (nar .char (100 : Int32)), (nar .char (45 : Int32)), (nar .char (110 : Int32)), (nar .char (111 : Int32)), (nar .char (45 : Int32)), (nar .char (114 : Int32)), (nar .char (101 : Int32)), (nar .char (116 : Int32)), (nar .char (114 : Int32)), (nar .char (121 : Int32))] : List Int32).set (((p1 &&& (2147483647 : Int32)) % (19 : Int32))).toNatClampNeg (nar .char p2)) := ⟨Eq292, Cq292, (own_inset (own_two (by decide) (own_two (by decide) (own_two (by decide) (own_two (by decide) (own_two (by decide) (own_two (by decide) (own_two (by decide) (own_two (by decide) (own_two (by decide) (own_two (by decide) (own_two (by decide) (own_two (by decide) (own_two (by decide) (own_two (by decide) (own_two (by decide) (own_two (by decide) (own_two (by decide) (own_two (by decide) (own_two (by decide) own_nil))))))))))))))))))) (own_chr hp2)), t292, kb292, Vq292, (by rw [show ((([(nar .char (111 : Int32)), (nar .char (118 : Int32)), (nar .char (101 : Int32)), (nar .char (114 : Int32)), (nar .char (108 : Int32)), (nar .char (111 : Int32)), (nar .char (97 : Int32)), (nar .char (100 : Int32)), (nar .char (101 : Int32)), (nar .char (100 : Int32)), (nar .char (45 : Int32)), (nar .char (110 : Int32)), (nar .char (111 : Int32)), (nar .char (45 : Int32)), (nar .char (114 : Int32)), (nar .char (101 : Int32)), (nar .char (116 : Int32)), (nar .char (114 : Int32)), (nar .char (121 : Int32))] : List Int32).set (((p1 &&& (2147483647 : Int32)) % (19 : Int32))).toNatClampNeg (nar .char p2))).length = 19 from (by simp)]; exact Aq292)⟩
            have f294 := ((f285.ext E282).trans Kq292 (allS (Or.inr szb282_282) all0))
            have f295 := (Nat.le_trans (Nat.le_trans (Nat.le_trans (Nat.le_trans (Nat.le_trans (Nat.le_trans (Nat.le_trans (Nat.le_trans (Nat.le_trans (Nat.le_trans (Nat.le_trans (Nat.le_trans (Nat.le_trans (Nat.le_trans (Nat.le_trans (Nat.le_trans (Nat.le_trans (Nat.le_trans (Nat.le_trans (Nat.le_trans (Nat.le_trans (Nat.le_trans (Nat.le_trans (Nat.zero_le _) E220.1) (Keep.of_wr W223).1) (Keep.of_wr W226).1) (Keep.of_wr W229).1) (Keep.of_wr W232).1) (Keep.of_wr W235).1) (Keep.of_wr W238).1) (Keep.of_wr W241).1) (Keep.of_wr W244).1) (Keep.of_wr W247).1) (Keep.of_wr W250).1) (Keep.of_wr W253).1) (Keep.of_wr W256).1) (Keep.of_wr W259).1) (Keep.of_wr W262).1) (Keep.of_wr W265).1) (Keep.of_wr W268).1) (Keep.of_wr W271).1) (Keep.of_wr W274).1) (Keep.of_wr W277).1) (Keep.of_wr W280).1) E282.1) Kq292.1)
            obtain ⟨fs, hr, hrun, hended, hRW⟩ := X292.leaveW SW0 f295 (v := some (.ref b282)) (fun h => by rw [Bd.returns] at h; cases h)
            have f296 := ((f284.ext E282).trans Kq292 (allS (Or.inr szbb282_282) all0))
            have hCRe := (CHr.keep f296 sf0 hCH0)
            have hCRt : CHr Z consts_1 s.vm s.heap (T292.setFrames fs).vm (T292.setFrames fs).heap := by
              rw [hh]
              show CHr Z consts_1 s.vm h0 T292.vm T292.heap
              exact hCRe.trans (CHv.at X292 hZ hEL hCRe.1)
            refine ⟨_, _, c293 _ ?_, hrun, hended, _, _, rfl, ?_, hCRt, hRW.1, hRW.2.1, hRW.2.2.1, hRW.2.2.2.mono (by decide) (by decide)⟩
            · exact retOut X292 hx Bd.returns rfl (Or.inr (Or.inr (Or.inr (Or.inr ⟨rfl, rfl, rfl⟩)))) (hb hby d1_427) hr
            · show Q_mk Z p0 p1 p2 p3 p4 z h0 n0 _ T292.heap _
              exact ⟨.ref b282, rfl, N292, f294, Or.inr ⟨b282, (([(nar .char (111 : Int32)), (nar .char (118 : Int32)), (nar .char (101 : Int32)), (nar .char (114 : Int32)), (nar .char (108 : Int32)), (nar .char (111 : Int32)), (nar .char (97 : Int32)), (nar .char (100 : Int32)), (nar .char (101 : Int32)), (nar .char (100 : Int32)), (nar .char (45 : Int32)), (nar .char (110 : Int32)), (nar .char (111 : Int32)), (nar .char (45 : Int32)), (nar .char (114 : Int32)), (nar .char (101 : Int32)), (nar .char (116 : Int32)), (nar .char (114 : Int32)), (nar .char (121 : Int32))] : List Int32).set (((p1 &&& (2147483647 : Int32)) % (19 : Int32))).toNatClampNeg (nar .char p2)), rfl, Str292, (by simp)⟩⟩
          · have c297 : Goes p e below s₁ (entryFrame m #[(.int p0), (.int p1), (.int p2), (.int p3), (.int p4)] 6) s₁ (mkF m 430 #[.val (.int p0), .val (.int p1), .val (.int p2), .val (.int p3), .val (.int p4), .unset] [(.int (5 : Int32)), (.int p0)]) := by
              intro t kk
              refine c217 t ?_
              show Steps p.tables e below (s₁.setTop (mkF m 290 #[.val (.int p0), .val (.int p1), .val (.int p2), .val (.int p3), .val (.int p4), .unset] [(.int (4 : Int32)), (.int p0)])) t
              refine XS.icmpYes XW0.here hx rfl (pc0 := 290) (pc' := 428) rfl (hb hby d1_290) rfl (feq hc290_218).2 (by decide) (by decide) ?_
              show Steps p.tables e below (s₁.setTop (mkF m 428 #[.val (.int p0), .val (.int p1), .val (.int p2), .val (.int p3), .val (.int p4), .unset] [])) t
              refine XS.iloadN XW0.here hx rfl (hb hby d1_428) rfl ?_
              show Steps p.tables e below (s₁.setTop (mkF m 429 #[.val (.int p0), .val (.int p1), .val (.int p2), .val (.int p3), .val (.int p4), .unset] [(.int p0)])) t
              refine XS.iconst XW0.here hx rfl (hb hby d1_429) ?_
              exact kk
            by_cases hc430_298 : p0 = (5 : Int32)
            · have c299 : Goes p e below s₁ (entryFrame m #[(.int p0), (.int p1), (.int p2), (.int p3), (.int p4)] 6) s₁ (mkF m 435 #[.val (.int p0), .val (.int p1), .val (.int p2), .val (.int p3), .val (.int p4), .unset] [(.int (11 : Int32))]) := by
                intro t kk
                refine c297 t ?_
                show Steps p.tables e below (s₁.setTop (mkF m 430 #[.val (.int p0), .val (.int p1), .val (.int p2), .val (.int p3), .val (.int p4), .unset] [(.int (5 : Int32)), (.int p0)])) t
                refine XS.icmpNo XW0.here hx rfl (hb hby d1_430) rfl (teq hc430_298).2 ?_
                show Steps p.tables e below (s₁.setTop (mkF m 433 #[.val (.int p0), .val (.int p1), .val (.int p2), .val (.int p3), .val (.int p4), .unset] [])) t
                refine XS.bipush XW0.here hx rfl (hb hby d1_433) ?_
                exact kk
              obtain ⟨T300, h300, k300, X300, e300, E300, A300, st300⟩ := newP XW0 hx hZ (hw _ (List.mem_of_getElem? (i := 17) rfl)) e0 (g := (mkF m 435 #[.val (.int p0), .val (.int p1), .val (.int p2), .val (.int p3), .val (.int p4), .unset] [(.int (11 : Int32))])) rfl (hb hby d1_435) rfl (by decide) (cap := 11) (by decide) (by decide) (by decide) (by decide)
              obtain ⟨b300, g300⟩ : ∃ z, z = h0.size := ⟨_, rfl⟩
              rw [← g300] at A300 st300
              have gb300 : n0 ≤ b300 := Nat.le_trans Z0 (Nat.le_of_eq g300.symm)
              have szbb300_300 : h0.size ≤ b300 := Nat.le_trans (Keep.refl h0 []).1 (Nat.le_of_eq g300.symm)
              have szb300_300 : h0.size ≤ b300 := Nat.le_trans (Keep.refl h0 []).1 (Nat.le_of_eq g300.symm)
              have V300 : Arv Z h300 b300 k300 .char (11 : Int32) [(.int (0 : Int32)), (.int (0 : Int32)), (.int (0 : Int32)), (.int (0 : Int32)), (.int (0 : Int32)), (.int (0 : Int32)), (.int (0 : Int32)), (.int (0 : Int32)), (.int (0 : Int32)), (.int (0 : Int32)), (.int (0 : Int32))] (.int (0 : Int32)) := (Arv.new A300 (by decide)).pad (pad_rep [] (.int (0 : Int32)) 11)
              have c301 : Goes p e below s₁ (entryFrame m #[(.int p0), (.int p1), (.int p2), (.int p3), (.int p4)] 6) T300 (mkF m 437 #[.val (.int p0), .val (.int p1), .val (.int p2), .val (.int p3), .val (.int p4), .unset] [(.ref b300)]) := fun t kk => c299 t (st300 t kk)
              have c302 : Goes p e below s₁ (entryFrame m #[(.int p0), (.int p1), (.int p2), (.int p3), (.int p4)] 6) T300 (mkF m 441 #[.val (.int p0), .val (.int p1), .val (.int p2), .val (.int p3), .val (.int p4), .unset] [(.int (111 : Int32)), (.int (0 : Int32)), (.ref b300), (.ref b300)]) := by
                intro t kk
                refine c301 t ?_
                show Steps p.tables e below (T300.setTop (mkF m 437 #[.val (.int p0), .val (.int p1), .val (.int p2), .val (.int p3), .val (.int p4), .unset] [(.ref b300)])) t
                refine XS.dup X300.here hx rfl (hb hby d1_437) rfl rfl ?_
                show Steps p.tables e below (T300.setTop (mkF m 438 #[.val (.int p0), .val (.int p1), .val (.int p2), .val (.int p3), .val (.int p4), .unset] [(.ref b300), (.ref b300)])) t
                refine XS.iconst X300.here hx rfl (hb hby d1_438) ?_
                show Steps p.tables e below (T300.setTop (mkF m 439 #[.val (.int p0), .val (.int p1), .val (.int p2), .val (.int p3), .val (.int p4), .unset] [(.int (0 : Int32)), (.ref b300), (.ref b300)])) t
                refine XS.bipush X300.here hx rfl (hb hby d1_439) ?_
                exact kk
              obtain ⟨cl303, Ar303, q303, Sz303, Nn303, Hh303, Gg303⟩ := id V300
              have hin303 : ¬ ((0 : Int32) < 0 ∨ cl303.slots.size ≤ ((0 : Int32)).toNatClampNeg) := inb_of Sz303 ⟨by decide, by decide⟩
              obtain ⟨T303, h303, X303, e303, W303, st303⟩ := stC X300 hx hZ e300 Ar303 (j := (0 : Int32)) hin303 (g := (mkF m 441 #[.val (.int p0), .val (.int p1), .val (.int p2), .val (.int p3), .val (.int p4), .unset] [(.int (111 : Int32)), (.int (0 : Int32)), (.ref b300), (.ref b300)])) rfl rfl (hb hby d1_441)
              have V303 := Arv.set Ar303 q303 Sz303 Nn303 Hh303 Gg303 (fits_nar_char _) W303 0 rfl (Nat.le_of_ble_eq_true rfl)
              have N303 := Fr.snoc X303 N0 gb300
              have c304 : Goes p e below s₁ (entryFrame m #[(.int p0), (.int p1), (.int p2), (.int p3), (.int p4)] 6) T303 (mkF m 442 #[.val (.int p0), .val (.int p1), .val (.int p2), .val (.int p3), .val (.int p4), .unset] [(.ref b300)]) := fun t kk => c302 t (st303 t kk)
              have c305 : Goes p e below s₁ (entryFrame m #[(.int p0), (.int p1), (.int p2), (.int p3), (.int p4)] 6) T303 (mkF m 446 #[.val (.int p0), .val (.int p1), .val (.int p2), .val (.int p3), .val (.int p4), .unset] [(.int (118 : Int32)), (.int (1 : Int32)), (.ref b300), (.ref b300)]) := by
                intro t kk
                refine c304 t ?_
                show Steps p.tables e below (T303.setTop (mkF m 442 #[.val (.int p0), .val (.int p1), .val (.int p2), .val (.int p3), .val (.int p4), .unset] [(.ref b300)])) t
                refine XS.dup X303.here hx rfl (hb hby d1_442) rfl rfl ?_
                show Steps p.tables e below (T303.setTop (mkF m 443 #[.val (.int p0), .val (.int p1), .val (.int p2), .val (.int p3), .val (.int p4), .unset] [(.ref b300), (.ref b300)])) t
                refine XS.iconst X303.here hx rfl (hb hby d1_443) ?_
                show Steps p.tables e below (T303.setTop (mkF m 444 #[.val (.int p0), .val (.int p1), .val (.int p2), .val (.int p3), .val (.int p4), .unset] [(.int (1 : Int32)), (.ref b300), (.ref b300)])) t
                refine XS.bipush X303.here hx rfl (hb hby d1_444) ?_
                exact kk
              obtain ⟨cl306, Ar306, q306, Sz306, Nn306, Hh306, Gg306⟩ := id V303
              have hin306 : ¬ ((1 : Int32) < 0 ∨ cl306.slots.size ≤ ((1 : Int32)).toNatClampNeg) := inb_of Sz306 ⟨by decide, by decide⟩
              obtain ⟨T306, h306, X306, e306, W306, st306⟩ := stC X303 hx hZ e303 Ar306 (j := (1 : Int32)) hin306 (g := (mkF m 446 #[.val (.int p0), .val (.int p1), .val (.int p2), .val (.int p3), .val (.int p4), .unset] [(.int (118 : Int32)), (.int (1 : Int32)), (.ref b300), (.ref b300)])) rfl rfl (hb hby d1_446)
              have V306 := Arv.set Ar306 q306 Sz306 Nn306 Hh306 Gg306 (fits_nar_char _) W306 1 rfl (Nat.le_of_ble_eq_true rfl)
              have N306 := Fr.snoc X306 N303 gb300
              have c307 : Goes p e below s₁ (entryFrame m #[(.int p0), (.int p1), (.int p2), (.int p3), (.int p4)] 6) T306 (mkF m 447 #[.val (.int p0), .val (.int p1), .val (.int p2), .val (.int p3), .val (.int p4), .unset] [(.ref b300)]) := fun t kk => c305 t (st306 t kk)
              have c308 : Goes p e below s₁ (entryFrame m #[(.int p0), (.int p1), (.int p2), (.int p3), (.int p4)] 6) T306 (mkF m 451 #[.val (.int p0), .val (.int p1), .val (.int p2), .val (.int p3), .val (.int p4), .unset] [(.int (101 : Int32)), (.int (2 : Int32)), (.ref b300), (.ref b300)]) := by
                intro t kk
                refine c307 t ?_
                show Steps p.tables e below (T306.setTop (mkF m 447 #[.val (.int p0), .val (.int p1), .val (.int p2), .val (.int p3), .val (.int p4), .unset] [(.ref b300)])) t
                refine XS.dup X306.here hx rfl (hb hby d1_447) rfl rfl ?_
                show Steps p.tables e below (T306.setTop (mkF m 448 #[.val (.int p0), .val (.int p1), .val (.int p2), .val (.int p3), .val (.int p4), .unset] [(.ref b300), (.ref b300)])) t
                refine XS.iconst X306.here hx rfl (hb hby d1_448) ?_
                show Steps p.tables e below (T306.setTop (mkF m 449 #[.val (.int p0), .val (.int p1), .val (.int p2), .val (.int p3), .val (.int p4), .unset] [(.int (2 : Int32)), (.ref b300), (.ref b300)])) t
                refine XS.bipush X306.here hx rfl (hb hby d1_449) ?_
                exact kk
              obtain ⟨cl309, Ar309, q309, Sz309, Nn309, Hh309, Gg309⟩ := id V306
              have hin309 : ¬ ((2 : Int32) < 0 ∨ cl309.slots.size ≤ ((2 : Int32)).toNatClampNeg) := inb_of Sz309 ⟨by decide, by decide⟩
              obtain ⟨T309, h309, X309, e309, W309, st309⟩ := stC X306 hx hZ e306 Ar309 (j := (2 : Int32)) hin309 (g := (mkF m 451 #[.val (.int p0), .val (.int p1), .val (.int p2), .val (.int p3), .val (.int p4), .unset] [(.int (101 : Int32)), (.int (2 : Int32)), (.ref b300), (.ref b300)])) rfl rfl (hb hby d1_451)
              have V309 := Arv.set Ar309 q309 Sz309 Nn309 Hh309 Gg309 (fits_nar_char _) W309 2 rfl (Nat.le_of_ble_eq_true rfl)
              have N309 := Fr.snoc X309 N306 gb300
              have c310 : Goes p e below s₁ (entryFrame m #[(.int p0), (.int p1), (.int p2), (.int p3), (.int p4)] 6) T309 (mkF m 452 #[.val (.int p0), .val (.int p1), .val (.int p2), .val (.int p3), .val (.int p4), .unset] [(.ref b300)]) := fun t kk => c308 t (st309 t kk)
              have c311 : Goes p e below s₁ (entryFrame m #[(.int p0), (.int p1), (.int p2), (.int p3), (.int p4)] 6) T309 (mkF m 456 #[.val (.int p0), .val (.int p1), .val (.int p2), .val (.int p3), .val (.int p4), .unset] [(.int (114 : Int32)), (.int (3 : Int32)), (.ref b300), (.ref b300)]) := by
                intro t kk
                refine c310 t ?_
                show Steps p.tables e below (T309.setTop (mkF m 452 #[.val (.int p0), .val (.int p1), .val (.int p2), .val (.int p3), .val (.int p4), .unset] [(.ref b300)])) t
                refine XS.dup X309.here hx rfl (hb hby d1_452) rfl rfl ?_
                show Steps p.tables e below (T309.setTop (mkF m 453 #[.val (.int p0), .val (.int p1), .val (.int p2), .val (.int p3), .val (.int p4), .unset] [(.ref b300), (.ref b300)])) t
                refine XS.iconst X309.here hx rfl (hb hby d1_453) ?_
                show Steps p.tables e below (T309.setTop (mkF m 454 #[.val (.int p0), .val (.int p1), .val (.int p2), .val (.int p3), .val (.int p4), .unset] [(.int (3 : Int32)), (.ref b300), (.ref b300)])) t
                refine XS.bipush X309.here hx rfl (hb hby d1_454) ?_
                exact kk
              obtain ⟨cl312, Ar312, q312, Sz312, Nn312, Hh312, Gg312⟩ := id V309
              have hin312 : ¬ ((3 : Int32) < 0 ∨ cl312.slots.size ≤ ((3 : Int32)).toNatClampNeg) := inb_of Sz312 ⟨by decide, by decide⟩
              obtain ⟨T312, h312, X312, e312, W312, st312⟩ := stC X309 hx hZ e309 Ar312 (j := (3 : Int32)) hin312 (g := (mkF m 456 #[.val (.int p0), .val (.int p1), .val (.int p2), .val (.int p3), .val (.int p4), .unset] [(.int (114 : Int32)), (.int (3 : Int32)), (.ref b300), (.ref b300)])) rfl rfl (hb hby d1_456)
              have V312 := Arv.set Ar312 q312 Sz312 Nn312 Hh312 Gg312 (fits_nar_char _) W312 3 rfl (Nat.le_of_ble_eq_true rfl)
              have N312 := Fr.snoc X312 N309 gb300
              have c313 : Goes p e below s₁ (entryFrame m #[(.int p0), (.int p1), (.int p2), (.int p3), (.int p4)] 6) T312 (mkF m 457 #[.val (.int p0), .val (.int p1), .val (.int p2), .val (.int p3), .val (.int p4), .unset] [(.ref b300)]) := fun t kk => c311 t (st312 t kk)
              have c314 : Goes p e below s₁ (entryFrame m #[(.int p0), (.int p1), (.int p2), (.int p3), (.int p4)] 6) T312 (mkF m 461 #[.val (.int p0), .val (.int p1), .val (.int p2), .val (.int p3), .val (.int p4), .unset] [(.int (108 : Int32)), (.int (4 : Int32)), (.ref b300), (.ref b300)]) := by
                intro t kk
                refine c313 t ?_
                show Steps p.tables e below (T312.setTop (mkF m 457 #[.val (.int p0), .val (.int p1), .val (.int p2), .val (.int p3), .val (.int p4), .unset] [(.ref b300)])) t
                refine XS.dup X312.here hx rfl (hb hby d1_457) rfl rfl ?_
                show Steps p.tables e below (T312.setTop (mkF m 458 #[.val (.int p0), .val (.int p1), .val (.int p2), .val (.int p3), .val (.int p4), .unset] [(.ref b300), (.ref b300)])) t
                refine XS.iconst X312.here hx rfl (hb hby d1_458) ?_
                show Steps p.tables e below (T312.setTop (mkF m 459 #[.val (.int p0), .val (.int p1), .val (.int p2), .val (.int p3), .val (.int p4), .unset] [(.int (4 : Int32)), (.ref b300), (.ref b300)])) t
                refine XS.bipush X312.here hx rfl (hb hby d1_459) ?_
                exact kk
              obtain ⟨cl315, Ar315, q315, Sz315, Nn315, Hh315, Gg315⟩ := id V312
              have hin315 : ¬ ((4 : Int32) < 0 ∨ cl315.slots.size ≤ ((4 : Int32)).toNatClampNeg) := inb_of Sz315 ⟨by decide, by decide⟩
              obtain ⟨T315, h315, X315, e315, W315, st315⟩ := stC X312 hx hZ e312 Ar315 (j := (4 : Int32)) hin315 (g := (mkF m 461 #[.val (.int p0), .val (.int p1), .val (.int p2), .val (.int p3), .val (.int p4), .unset] [(.int (108 : Int32)), (.int (4 : Int32)), (.ref b300), (.ref b300)])) rfl rfl (hb hby d1_461)
              have V315 := Arv.set Ar315 q315 Sz315 Nn315 Hh315 Gg315 (fits_nar_char _) W315 4 rfl (Nat.le_of_ble_eq_true rfl)
              have N315 := Fr.snoc X315 N312 gb300
              have c316 : Goes p e below s₁ (entryFrame m #[(.int p0), (.int p1), (.int p2), (.int p3), (.int p4)] 6) T315 (mkF m 462 #[.val (.int p0), .val (.int p1), .val (.int p2), .val (.int p3), .val (.int p4), .unset] [(.ref b300)]) := fun t kk => c314 t (st315 t kk)
              have c317 : Goes p e below s₁ (entryFrame m #[(.int p0), (.int p1), (.int p2), (.int p3), (.int p4)] 6) T315 (mkF m 466 #[.val (.int p0), .val (.int p1), .val (.int p2), .val (.int p3), .val (.int p4), .unset] [(.int (111 : Int32)), (.int (5 : Int32)), (.ref b300), (.ref b300)]) := by
                intro t kk
                refine c316 t ?_
                show Steps p.tables e below (T315.setTop (mkF m 462 #[.val (.int p0), .val (.int p1), .val (.int p2), .val (.int p3), .val (.int p4), .unset] [(.ref b300)])) t
                refine XS.dup X315.here hx rfl (hb hby d1_462) rfl rfl ?_
                show Steps p.tables e below (T315.setTop (mkF m 463 #[.val (.int p0), .val (.int p1), .val (.int p2), .val (.int p3), .val (.int p4), .unset] [(.ref b300), (.ref b300)])) t
                refine XS.iconst X315.here hx rfl (hb hby d1_463) ?_
                show Steps p.tables e below (T315.setTop (mkF m 464 #[.val (.int p0), .val (.int p1), .val (.int p2), .val (.int p3), .val (.int p4), .unset] [(.int (5 : Int32)), (.ref b300), (.ref b300)])) t
                refine XS.bipush X315.here hx rfl (hb hby d1_464) ?_
                exact kk
              obtain ⟨cl318, Ar318, q318, Sz318, Nn318, Hh318, Gg318⟩ := id V315
              have hin318 : ¬ ((5 : Int32) < 0 ∨ cl318.slots.size ≤ ((5 : Int32)).toNatClampNeg) := inb_of Sz318 ⟨by decide, by decide⟩
              obtain ⟨T318, h318, X318, e318, W318, st318⟩ := stC X315 hx hZ e315 Ar318 (j := (5 : Int32)) hin318 (g := (mkF m 466 #[.val (.int p0), .val (.int p1), .val (.int p2), .val (.int p3), .val (.int p4), .unset] [(.int (111 : Int32)), (.int (5 : Int32)), (.ref b300), (.ref b300)])) rfl rfl (hb hby d1_466)
              have V318 := Arv.set Ar318 q318 Sz318 Nn318 Hh318 Gg318 (fits_nar_char _) W318 5 rfl (Nat.le_of_ble_eq_true rfl)
              have N318 := Fr.snoc X318 N315 gb300
              have c319 : Goes p e below s₁ (entryFrame m #[(.int p0), (.int p1), (.int p2), (.int p3), (.int p4)] 6) T318 (mkF m 467 #[.val (.int p0), .val (.int p1), .val (.int p2), .val (.int p3), .val (.int p4), .unset] [(.ref b300)]) := fun t kk => c317 t (st318 t kk)
              have c320 : Goes p e below s₁ (entryFrame m #[(.int p0), (.int p1), (.int p2), (.int p3), (.int p4)] 6) T318 (mkF m 472 #[.val (.int p0), .val (.int p1), .val (.int p2), .val (.int p3), .val (.int p4), .unset] [(.int (97 : Int32)), (.int (6 : Int32)), (.ref b300), (.ref b300)]) := by
                intro t kk
                refine c319 t ?_
                show Steps p.tables e below (T318.setTop (mkF m 467 #[.val (.int p0), .val (.int p1), .val (.int p2), .val (.int p3), .val (.int p4), .unset] [(.ref b300)])) t
                refine XS.dup X318.here hx rfl (hb hby d1_467) rfl rfl ?_
                show Steps p.tables e below (T318.setTop (mkF m 468 #[.val (.int p0), .val (.int p1), .val (.int p2), .val (.int p3), .val (.int p4), .unset] [(.ref b300), (.ref b300)])) t
                refine XS.bipush X318.here hx rfl (hb hby d1_468) ?_
                show Steps p.tables e below (T318.setTop (mkF m 470 #[.val (.int p0), .val (.int p1), .val (.int p2), .val (.int p3), .val (.int p4), .unset] [(.int (6 : Int32)), (.ref b300), (.ref b300)])) t
                refine XS.bipush X318.here hx rfl (hb hby d1_470) ?_
                exact kk
              obtain ⟨cl321, Ar321, q321, Sz321, Nn321, Hh321, Gg321⟩ := id V318
              have hin321 : ¬ ((6 : Int32) < 0 ∨ cl321.slots.size ≤ ((6 : Int32)).toNatClampNeg) := inb_of Sz321 ⟨by decide, by decide⟩
              obtain ⟨T321, h321, X321, e321, W321, st321⟩ := stC X318 hx hZ e318 Ar321 (j := (6 : Int32)) hin321 (g := (mkF m 472 #[.val (.int p0), .val (.int p1), .val (.int p2), .val (.int p3), .val (.int p4), .unset] [(.int (97 : Int32)), (.int (6 : Int32)), (.ref b300), (.ref b300)])) rfl rfl (hb hby d1_472)
              have V321 := Arv.set Ar321 q321 Sz321 Nn321 Hh321 Gg321 (fits_nar_char _) W321 6 rfl (Nat.le_of_ble_eq_true rfl)
              have N321 := Fr.snoc X321 N318 gb300
              have c322 : Goes p e below s₁ (entryFrame m #[(.int p0), (.int p1), (.int p2), (.int p3), (.int p4)] 6) T321 (mkF m 473 #[.val (.int p0), .val (.int p1), .val (.int p2), .val (.int p3), .val (.int p4), .unset] [(.ref b300)]) := fun t kk => c320 t (st321 t kk)
              have c323 : Goes p e below s₁ (entryFrame m #[(.int p0), (.int p1), (.int p2), (.int p3), (.int p4)] 6) T321 (mkF m 478 #[.val (.int p0), .val (.int p1), .val (.int p2), .val (.int p3), .val (.int p4), .unset] [(.int (100 : Int32)), (.int (7 : Int32)), (.ref b300), (.ref b300)]) := by
                intro t kk
                refine c322 t ?_
                show Steps p.tables e below (T321.setTop (mkF m 473 #[.val (.int p0), .val (.int p1), .val (.int p2), .val (.int p3), .val (.int p4), .unset] [(.ref b300)])) t
                refine XS.dup X321.here hx rfl (hb hby d1_473) rfl rfl ?_
                show Steps p.tables e below (T321.setTop (mkF m 474 #[.val (.int p0), .val (.int p1), .val (.int p2), .val (.int p3), .val (.int p4), .unset] [(.ref b300), (.ref b300)])) t
                refine XS.bipush X321.here hx rfl (hb hby d1_474) ?_
                show Steps p.tables e below (T321.setTop (mkF m 476 #[.val (.int p0), .val (.int p1), .val (.int p2), .val (.int p3), .val (.int p4), .unset] [(.int (7 : Int32)), (.ref b300), (.ref b300)])) t
                refine XS.bipush X321.here hx rfl (hb hby d1_476) ?_
                exact kk
              obtain ⟨cl324, Ar324, q324, Sz324, Nn324, Hh324, Gg324⟩ := id V321
              have hin324 : ¬ ((7 : Int32) < 0 ∨ cl324.slots.size ≤ ((7 : Int32)).toNatClampNeg) := inb_of Sz324 ⟨by decide, by decide⟩
              obtain ⟨T324, h324, X324, e324, W324, st324⟩ := stC X321 hx hZ e321 Ar324 (j := (7 : Int32)) hin324 (g := (mkF m 478 #[.val (.int p0), .val (.int p1), .val (.int p2), .val (.int p3), .val (.int p4), .unset] [(.int (100 : Int32)), (.int (7 : Int32)), (.ref b300), (.ref b300)])) rfl rfl (hb hby d1_478)
              have V324 := Arv.set Ar324 q324 Sz324 Nn324 Hh324 Gg324 (fits_nar_char _) W324 7 rfl (Nat.le_of_ble_eq_true rfl)
              have N324 := Fr.snoc X324 N321 gb300
              have c325 : Goes p e below s₁ (entryFrame m #[(.int p0), (.int p1), (.int p2), (.int p3), (.int p4)] 6) T324 (mkF m 479 #[.val (.int p0), .val (.int p1), .val (.int p2), .val (.int p3), .val (.int p4), .unset] [(.ref b300)]) := fun t kk => c323 t (st324 t kk)
              have c326 : Goes p e below s₁ (entryFrame m #[(.int p0), (.int p1), (.int p2), (.int p3), (.int p4)] 6) T324 (mkF m 484 #[.val (.int p0), .val (.int p1), .val (.int p2), .val (.int p3), .val (.int p4), .unset] [(.int (101 : Int32)), (.int (8 : Int32)), (.ref b300), (.ref b300)]) := by
                intro t kk
                refine c325 t ?_
                show Steps p.tables e below (T324.setTop (mkF m 479 #[.val (.int p0), .val (.int p1), .val (.int p2), .val (.int p3), .val (.int p4), .unset] [(.ref b300)])) t
                refine XS.dup X324.here hx rfl (hb hby d1_479) rfl rfl ?_
                show Steps p.tables e below (T324.setTop (mkF m 480 #[.val (.int p0), .val (.int p1), .val (.int p2), .val (.int p3), .val (.int p4), .unset] [(.ref b300), (.ref b300)])) t
                refine XS.bipush X324.here hx rfl (hb hby d1_480) ?_
                show Steps p.tables e below (T324.setTop (mkF m 482 #[.val (.int p0), .val (.int p1), .val (.int p2), .val (.int p3), .val (.int p4), .unset] [(.int (8 : Int32)), (.ref b300), (.ref b300)])) t
                refine XS.bipush X324.here hx rfl (hb hby d1_482) ?_
                exact kk
              obtain ⟨cl327, Ar327, q327, Sz327, Nn327, Hh327, Gg327⟩ := id V324
              have hin327 : ¬ ((8 : Int32) < 0 ∨ cl327.slots.size ≤ ((8 : Int32)).toNatClampNeg) := inb_of Sz327 ⟨by decide, by decide⟩
              obtain ⟨T327, h327, X327, e327, W327, st327⟩ := stC X324 hx hZ e324 Ar327 (j := (8 : Int32)) hin327 (g := (mkF m 484 #[.val (.int p0), .val (.int p1), .val (.int p2), .val (.int p3), .val (.int p4), .unset] [(.int (101 : Int32)), (.int (8 : Int32)), (.ref b300), (.ref b300)])) rfl rfl (hb hby d1_484)
              have V327 := Arv.set Ar327 q327 Sz327 Nn327 Hh327 Gg327 (fits_nar_char _) W327 8 rfl (Nat.le_of_ble_eq_true rfl)
              have N327 := Fr.snoc X327 N324 gb300
              have c328 : Goes p e below s₁ (entryFrame m #[(.int p0), (.int p1), (.int p2), (.int p3), (.int p4)] 6) T327 (mkF m 485 #[.val (.int p0), .val (.int p1), .val (.int p2), .val (.int p3), .val (.int p4), .unset] [(.ref b300)]) := fun t kk => c326 t (st327 t kk)
              have c329 : Goes p e below s₁ (entryFrame m #[(.int p0), (.int p1), (.int p2), (.int p3), (.int p4)] 6) T327 (mkF m 490 #[.val (.int p0), .val (.int p1), .val (.int p2), .val (.int p3), .val (.int p4), .unset] [(.int (100 : Int32)), (.int (9 : Int32)), (.ref b300), (.ref b300)]) := by
                intro t kk
                refine c328 t ?_
                show Steps p.tables e below (T327.setTop (mkF m 485 #[.val (.int p0), .val (.int p1), .val (.int p2), .val (.int p3), .val (.int p4), .unset] [(.ref b300)])) t
                refine XS.dup X327.here hx rfl (hb hby d1_485) rfl rfl ?_
                show Steps p.tables e below (T327.setTop (mkF m 486 #[.val (.int p0), .val (.int p1), .val (.int p2), .val (.int p3), .val (.int p4), .unset] [(.ref b300), (.ref b300)])) t
                refine XS.bipush X327.here hx rfl (hb hby d1_486) ?_
                show Steps p.tables e below (T327.setTop (mkF m 488 #[.val (.int p0), .val (.int p1), .val (.int p2), .val (.int p3), .val (.int p4), .unset] [(.int (9 : Int32)), (.ref b300), (.ref b300)])) t
                refine XS.bipush X327.here hx rfl (hb hby d1_488) ?_
                exact kk
              obtain ⟨cl330, Ar330, q330, Sz330, Nn330, Hh330, Gg330⟩ := id V327
              have hin330 : ¬ ((9 : Int32) < 0 ∨ cl330.slots.size ≤ ((9 : Int32)).toNatClampNeg) := inb_of Sz330 ⟨by decide, by decide⟩
              obtain ⟨T330, h330, X330, e330, W330, st330⟩ := stC X327 hx hZ e327 Ar330 (j := (9 : Int32)) hin330 (g := (mkF m 490 #[.val (.int p0), .val (.int p1), .val (.int p2), .val (.int p3), .val (.int p4), .unset] [(.int (100 : Int32)), (.int (9 : Int32)), (.ref b300), (.ref b300)])) rfl rfl (hb hby d1_490)
              have V330 := Arv.set Ar330 q330 Sz330 Nn330 Hh330 Gg330 (fits_nar_char _) W330 9 rfl (Nat.le_of_ble_eq_true rfl)
              have N330 := Fr.snoc X330 N327 gb300
              have c331 : Goes p e below s₁ (entryFrame m #[(.int p0), (.int p1), (.int p2), (.int p3), (.int p4)] 6) T330 (mkF m 491 #[.val (.int p0), .val (.int p1), .val (.int p2), .val (.int p3), .val (.int p4), .unset] [(.ref b300)]) := fun t kk => c329 t (st330 t kk)
              have c332 : Goes p e below s₁ (entryFrame m #[(.int p0), (.int p1), (.int p2), (.int p3), (.int p4)] 6) T330 (mkF m 495 #[.val (.int p0), .val (.int p1), .val (.int p2), .val (.int p3), .val (.int p4), .unset] [(.int p2), (.int (10 : Int32)), (.ref b300), (.ref b300)]) := by
                intro t kk
                refine c331 t ?_
                show Steps p.tables e below (T330.setTop (mkF m 491 #[.val (.int p0), .val (.int p1), .val (.int p2), .val (.int p3), .val (.int p4), .unset] [(.ref b300)])) t
                refine XS.dup X330.here hx rfl (hb hby d1_491) rfl rfl ?_
                show Steps p.tables e below (T330.setTop (mkF m 492 #[.val (.int p0), .val (.int p1), .val (.int p2), .val (.int p3), .val (.int p4), .unset] [(.ref b300), (.ref b300)])) t
                refine XS.bipush X330.here hx rfl (hb hby d1_492) ?_
                show Steps p.tables e below (T330.setTop (mkF m 494 #[.val (.int p0), .val (.int p1), .val (.int p2), .val (.int p3), .val (.int p4), .unset] [(.int (10 : Int32)), (.ref b300), (.ref b300)])) t
                refine XS.iloadN X330.here hx rfl (hb hby d1_494) rfl ?_
                exact kk
              obtain ⟨cl333, Ar333, q333, Sz333, Nn333, Hh333, Gg333⟩ := id V330
              have hin333 : ¬ ((10 : Int32) < 0 ∨ cl333.slots.size ≤ ((10 : Int32)).toNatClampNeg) := inb_of Sz333 ⟨by decide, by decide⟩
              obtain ⟨T333, h333, X333, e333, W333, st333⟩ := stC X330 hx hZ e330 Ar333 (j := (10 : Int32)) hin333 (g := (mkF m 495 #[.val (.int p0), .val (.int p1), .val (.int p2), .val (.int p3), .val (.int p4), .unset] [(.int p2), (.int (10 : Int32)), (.ref b300), (.ref b300)])) rfl rfl (hb hby d1_495)
              have V333 := Arv.set Ar333 q333 Sz333 Nn333 Hh333 Gg333 (fits_nar_char _) W333 10 rfl (Nat.le_of_ble_eq_true rfl)
              have N333 := Fr.snoc X333 N330 gb300
              have c334 : Goes p e below s₁ (entryFrame m #[(.int p0), (.int p1), (.int p2), (.int p3), (.int p4)] 6) T333 (mkF m 496 #[.val (.int p0), .val (.int p1), .val (.int p2), .val (.int p3), .val (.int p4), .unset] [(.ref b300)]) := fun t kk => c332 t (st333 t kk)
              have c335 : Goes p e below s₁ (entryFrame m #[(.int p0), (.int p1), (.int p2), (.int p3), (.int p4)] 6) T333 (mkF m 498 #[.val (.int p0), .val (.int p1), .val (.int p2), .val (.int p3), .val (.int p4), .val (.ref b300)] []) := by
                intro t kk
                refine c334 t ?_
                show Steps p.tables e below (T333.setTop (mkF m 496 #[.val (.int p0), .val (.int p1), .val (.int p2), .val (.int p3), .val (.int p4), .unset] [(.ref b300)])) t
                refine XS.astore X333.here hx rfl (hb hby d1_496) rfl rfl (l' := #[.val (.int p0), .val (.int p1), .val (.int p2), .val (.int p3), .val (.int p4), .val (.ref b300)]) rfl ?_
                exact kk
              obtain ⟨T336, h336, X336, e336, E336, A336, D336, -, st336⟩ := newO X333 hx hZ hown (hw _ (List.mem_of_getElem? (i := 18) rfl)) (hw _ (List.mem_of_getElem? (i := 19) rfl)) (hw _ (List.mem_of_getElem? (i := 20) rfl)) e333 (g := (mkF m 498 #[.val (.int p0), .val (.int p1), .val (.int p2), .val (.int p3), .val (.int p4), .val (.ref b300)] [])) rfl (hb hby d1_498) (by decide) (by decide)
              obtain ⟨b336, g336⟩ : ∃ z, z = h333.size := ⟨_, rfl⟩
              rw [← g336] at A336 D336 st336
              have f337 := (Nat.le_trans (Nat.le_trans (Nat.le_trans (Nat.le_trans (Nat.le_trans (Nat.le_trans (Nat.le_trans (Nat.le_trans (Nat.le_trans (Nat.le_trans (Nat.le_trans (Nat.le_trans Z0 E300.1) (Keep.of_wr W303).1) (Keep.of_wr W306).1) (Keep.of_wr W309).1) (Keep.of_wr W312).1) (Keep.of_wr W315).1) (Keep.of_wr W318).1) (Keep.of_wr W321).1) (Keep.of_wr W324).1) (Keep.of_wr W327).1) (Keep.of_wr W330).1) (Keep.of_wr W333).1)
              have gb336 : n0 ≤ b336 := Nat.le_trans f337 (Nat.le_of_eq g336.symm)
              have neb300_336 : b300 ≠ b336 := Nat.ne_of_lt (Nat.lt_of_lt_of_le V333.lt (Nat.le_of_eq g336.symm))
              have f338 := (((((((((((((Keep.refl h0 []).ext E300).wr W303 (Or.inr szbb300_300)).wr W306 (Or.inr szbb300_300)).wr W309 (Or.inr szbb300_300)).wr W312 (Or.inr szbb300_300)).wr W315 (Or.inr szbb300_300)).wr W318 (Or.inr szbb300_300)).wr W321 (Or.inr szbb300_300)).wr W324 (Or.inr szbb300_300)).wr W327 (Or.inr szbb300_300)).wr W330 (Or.inr szbb300_300)).wr W333 (Or.inr szbb300_300))
              have szbb336_336 : h0.size ≤ b336 := Nat.le_trans f338.1 (Nat.le_of_eq g336.symm)
              have f339 := (((((((((((((Keep.refl h0 []).ext E300).wr W303 (Or.inr szb300_300)).wr W306 (Or.inr szb300_300)).wr W309 (Or.inr szb300_300)).wr W312 (Or.inr szb300_300)).wr W315 (Or.inr szb300_300)).wr W318 (Or.inr szb300_300)).wr W321 (Or.inr szb300_300)).wr W324 (Or.inr szb300_300)).wr W327 (Or.inr szb300_300)).wr W330 (Or.inr szb300_300)).wr W333 (Or.inr szb300_300))
              have szb336_336 : h0.size ≤ b336 := Nat.le_trans f339.1 (Nat.le_of_eq g336.symm)
              have F_coder_b336 : Fld Z h336 b336 "java/lang/String" "coder" "B" (.int (0 : Int32)) := D336 (Or.inr (hw _ (List.mem_of_getElem? (i := 44) rfl))) (ty := .byte) (by decide)
              have F_value_b336 : Fld Z h336 b336 "java/lang/String" "value" "[B" .null := D336 (Or.inr (hw _ (List.mem_of_getElem? (i := 46) rfl))) (ty := (.array .byte)) (by decide)
              have c340 : Goes p e below s₁ (entryFrame m #[(.int p0), (.int p1), (.int p2), (.int p3), (.int p4)] 6) T336 (mkF m 501 #[.val (.int p0), .val (.int p1), .val (.int p2), .val (.int p3), .val (.int p4), .val (.ref b300)] [(.ref b336)]) := fun t kk => c335 t (st336 t kk)
              have f341 := (((((((((((((O0.ext E300).wr W303 gb300).wr W306 gb300).wr W309 gb300).wr W312 gb300).wr W315 gb300).wr W318 gb300).wr W321 gb300).wr W324 gb300).wr W327 gb300).wr W330 gb300).wr W333 gb300).ext E336)
              have f342 := (Nat.le_trans f337 E336.1)
              have f343 := (V333.ext E336)
              have c344 : Goes p e below s₁ (entryFrame m #[(.int p0), (.int p1), (.int p2), (.int p3), (.int p4)] 6) T336 (mkF m 504 #[.val (.int p0), .val (.int p1), .val (.int p2), .val (.int p3), .val (.int p4), .val (.ref b300)] [(.ref b300), (.ref b336), (.ref b336)]) := by
                intro t kk
                refine c340 t ?_
                show Steps p.tables e below (T336.setTop (mkF m 501 #[.val (.int p0), .val (.int p1), .val (.int p2), .val (.int p3), .val (.int p4), .val (.ref b300)] [(.ref b336)])) t
                refine XS.dup X336.here hx rfl (hb hby d1_501) rfl rfl ?_
                show Steps p.tables e below (T336.setTop (mkF m 502 #[.val (.int p0), .val (.int p1), .val (.int p2), .val (.int p3), .val (.int p4), .val (.ref b300)] [(.ref b336), (.ref b336)])) t
                refine XS.aload X336.here hx rfl (hb hby d1_502) rfl rfl ?_
                exact kk
              obtain ⟨_, _, ⟨T345, L345, k345, n345⟩, -, X345, ⟨Lc345, hQ345, l345, y345, z345⟩, st345⟩ := X336.specialBack hx (y := (⟨"java/lang/String", "<init>", "([C)V"⟩ : MethodName)) rfl hown (mvT hZ (hw _ (List.mem_of_getElem? (i := 21) rfl))) (mvT hZ (hw _ (List.mem_of_getElem? (i := 22) rfl))) (mvT hZ (hw _ (List.mem_of_getElem? (i := 23) rfl))) (by decide) (StrChars.Road.backV (W := 1) hZ (own_wmk hw) (kI := 4) (hw _ (List.mem_of_getElem? (i := 19) rfl)) (cs := ([(nar .char (111 : Int32)), (nar .char (118 : Int32)), (nar .char (101 : Int32)), (nar .char (114 : Int32)), (nar .char (108 : Int32)), (nar .char (111 : Int32)), (nar .char (97 : Int32)), (nar .char (100 : Int32)), (nar .char (101 : Int32)), (nar .char (100 : Int32)), (nar .char p2)] : List Int32)) (bs := (([(nar .char (111 : Int32)), (nar .char (118 : Int32)), (nar .char (101 : Int32)), (nar .char (114 : Int32)), (nar .char (108 : Int32)), (nar .char (111 : Int32)), (nar .char (97 : Int32)), (nar .char (100 : Int32)), (nar .char (101 : Int32)), (nar .char (100 : Int32)), (nar .char p2)] : List Int32)).map StrChars.lo8) (n := 11) gb336 f342 A336 F_value_b336 F_coder_b336 f343 (S2.ext f341.2) hz rfl rfl (by decide) (by decide) (own_two (by decide) (own_two (by decide) (own_two (by decide) (own_two (by decide) (own_two (by decide) (own_two (by decide) (own_two (by decide) (own_two (by decide) (own_two (by decide) (own_two (by decide) (own_two (own_chr hp2) own_nil))))))))))) rfl (by decide) (by decide)) (g := (mkF m 504 #[.val (.int p0), .val (.int p1), .val (.int p2), .val (.int p3), .val (.int p4), .val (.ref b300)] [(.ref b300), (.ref b336), (.ref b336)])) rfl (by rw [hml]; rfl) (Steps.refl _) (a := b336) (argsL := [(.ref b300)]) (rest := [(.ref b336)]) (lenOf pd___C_V rfl) rfl (by show 2 * 0 + _ ≤ _; exact Nat.le_of_eq rfl) (hb hby d1_504) (fun _ _ => ⟨rfl, e336, (by decide : 2 + 1 ≤ _), (by decide : 15 + 11 ≤ _)⟩)
              dsimp only [Pt.U, Pt.locs, Pt.cells, Pt.slots] at X345 l345 y345 z345 st345 hQ345
              subst l345 y345 z345
              obtain ⟨rfl, Nq345, Kq345, Eq345, Cq345, t345, kb345, gt345, szt345, net345, Vq345, Aq345⟩ := hQ345
              have N345 := Fr.app N333 Nq345
              have c346 : Goes p e below s₁ (entryFrame m #[(.int p0), (.int p1), (.int p2), (.int p3), (.int p4)] 6) T345 (mkF m 507 #[.val (.int p0), .val (.int p1), .val (.int p2), .val (.int p3), .val (.int p4), .val (.ref b300)] [(.ref b336)]) := fun t kk => c344 t (st345.trans kk)
              have Str345 : own_str Z T345.heap b336 ([(nar .char (111 : Int32)), (nar .char (118 : Int32)), (nar .char (101 : Int32)), (nar .char (114 : Int32)), (nar .char (108 : Int32)), (nar .char (111 : Int32)), (nar .char (97 : Int32)), (nar .char (100 : Int32)), (nar .char (101 : Int32)), (nar .char (100 : Int32)), (nar .char p2)] : List Int32) := ⟨Eq345, Cq345, (own_two (by decide) (own_two (by decide) (own_two (by decide) (own_two (by decide) (own_two (by decide) (own_two (by decide) (own_two (by decide) (own_two (by decide) (own_two (by decide) (own_two (by decide) (own_two (own_chr hp2) own_nil))))))))))), t345, kb345, Vq345, Aq345⟩
              have f347 := ((f339.ext E336).trans Kq345 (allS (Or.inr szb336_336) all0))
              have f348 := (Nat.le_trans (Nat.le_trans (Nat.le_trans (Nat.le_trans (Nat.le_trans (Nat.le_trans (Nat.le_trans (Nat.le_trans (Nat.le_trans (Nat.le_trans (Nat.le_trans (Nat.le_trans (Nat.le_trans (Nat.le_trans (Nat.zero_le _) E300.1) (Keep.of_wr W303).1) (Keep.of_wr W306).1) (Keep.of_wr W309).1) (Keep.of_wr W312).1) (Keep.of_wr W315).1) (Keep.of_wr W318).1) (Keep.of_wr W321).1) (Keep.of_wr W324).1) (Keep.of_wr W327).1) (Keep.of_wr W330).1) (Keep.of_wr W333).1) E336.1) Kq345.1)
              obtain ⟨fs, hr, hrun, hended, hRW⟩ := X345.leaveW SW0 f348 (v := some (.ref b336)) (fun h => by rw [Bd.returns] at h; cases h)
              have f349 := ((f338.ext E336).trans Kq345 (allS (Or.inr szbb336_336) all0))
              have hCRe := (CHr.keep f349 sf0 hCH0)
              have hCRt : CHr Z consts_1 s.vm s.heap (T345.setFrames fs).vm (T345.setFrames fs).heap := by
                rw [hh]
                show CHr Z consts_1 s.vm h0 T345.vm T345.heap
                exact hCRe.trans (CHv.at X345 hZ hEL hCRe.1)
              refine ⟨_, _, c346 _ ?_, hrun, hended, _, _, rfl, ?_, hCRt, hRW.1, hRW.2.1, hRW.2.2.1, hRW.2.2.2.mono (by decide) (by decide)⟩
              · exact retOut X345 hx Bd.returns rfl (Or.inr (Or.inr (Or.inr (Or.inr ⟨rfl, rfl, rfl⟩)))) (hb hby d1_507) hr
              · show Q_mk Z p0 p1 p2 p3 p4 z h0 n0 _ T345.heap _
                exact ⟨.ref b336, rfl, N345, f347, Or.inr ⟨b336, ([(nar .char (111 : Int32)), (nar .char (118 : Int32)), (nar .char (101 : Int32)), (nar .char (114 : Int32)), (nar .char (108 : Int32)), (nar .char (111 : Int32)), (nar .char (97 : Int32)), (nar .char (100 : Int32)), (nar .char (101 : Int32)), (nar .char (100 : Int32)), (nar .char p2)] : List Int32), rfl, Str345, (by simp)⟩⟩
            · have c350 : Goes p e below s₁ (entryFrame m #[(.int p0), (.int p1), (.int p2), (.int p3), (.int p4)] 6) s₁ (mkF m 511 #[.val (.int p0), .val (.int p1), .val (.int p2), .val (.int p3), .val (.int p4), .unset] [(.int (6 : Int32)), (.int p0)]) := by
                intro t kk
                refine c297 t ?_
                show Steps p.tables e below (s₁.setTop (mkF m 430 #[.val (.int p0), .val (.int p1), .val (.int p2), .val (.int p3), .val (.int p4), .unset] [(.int (5 : Int32)), (.int p0)])) t
                refine XS.icmpYes XW0.here hx rfl (pc0 := 430) (pc' := 508) rfl (hb hby d1_430) rfl (feq hc430_298).2 (by decide) (by decide) ?_
                show Steps p.tables e below (s₁.setTop (mkF m 508 #[.val (.int p0), .val (.int p1), .val (.int p2), .val (.int p3), .val (.int p4), .unset] [])) t
                refine XS.iloadN XW0.here hx rfl (hb hby d1_508) rfl ?_
                show Steps p.tables e below (s₁.setTop (mkF m 509 #[.val (.int p0), .val (.int p1), .val (.int p2), .val (.int p3), .val (.int p4), .unset] [(.int p0)])) t
                refine XS.bipush XW0.here hx rfl (hb hby d1_509) ?_
                exact kk
              by_cases hc511_351 : p0 = (6 : Int32)
              · have c352 : Goes p e below s₁ (entryFrame m #[(.int p0), (.int p1), (.int p2), (.int p3), (.int p4)] 6) s₁ (mkF m 515 #[.val (.int p0), .val (.int p1), .val (.int p2), .val (.int p3), .val (.int p4), .unset] [(.int (2 : Int32))]) := by
                  intro t kk
                  refine c350 t ?_
                  show Steps p.tables e below (s₁.setTop (mkF m 511 #[.val (.int p0), .val (.int p1), .val (.int p2), .val (.int p3), .val (.int p4), .unset] [(.int (6 : Int32)), (.int p0)])) t
                  refine XS.icmpNo XW0.here hx rfl (hb hby d1_511) rfl (teq hc511_351).2 ?_
                  show Steps p.tables e below (s₁.setTop (mkF m 514 #[.val (.int p0), .val (.int p1), .val (.int p2), .val (.int p3), .val (.int p4), .unset] [])) t
                  refine XS.iconst XW0.here hx rfl (hb hby d1_514) ?_
                  exact kk
                obtain ⟨T353, h353, k353, X353, e353, E353, A353, st353⟩ := newP XW0 hx hZ (hw _ (List.mem_of_getElem? (i := 17) rfl)) e0 (g := (mkF m 515 #[.val (.int p0), .val (.int p1), .val (.int p2), .val (.int p3), .val (.int p4), .unset] [(.int (2 : Int32))])) rfl (hb hby d1_515) rfl (by decide) (cap := 2) (by decide) (by decide) (by decide) (by decide)
                obtain ⟨b353, g353⟩ : ∃ z, z = h0.size := ⟨_, rfl⟩
                rw [← g353] at A353 st353
                have gb353 : n0 ≤ b353 := Nat.le_trans Z0 (Nat.le_of_eq g353.symm)
                have szbb353_353 : h0.size ≤ b353 := Nat.le_trans (Keep.refl h0 []).1 (Nat.le_of_eq g353.symm)
                have szb353_353 : h0.size ≤ b353 := Nat.le_trans (Keep.refl h0 []).1 (Nat.le_of_eq g353.symm)
                have V353 : Arv Z h353 b353 k353 .char (2 : Int32) [(.int (0 : Int32)), (.int (0 : Int32))] (.int (0 : Int32)) := (Arv.new A353 (by decide)).pad (pad_rep [] (.int (0 : Int32)) 2)
                have c354 : Goes p e below s₁ (entryFrame m #[(.int p0), (.int p1), (.int p2), (.int p3), (.int p4)] 6) T353 (mkF m 517 #[.val (.int p0), .val (.int p1), .val (.int p2), .val (.int p3), .val (.int p4), .unset] [(.ref b353)]) := fun t kk => c352 t (st353 t kk)
                have c355 : Goes p e below s₁ (entryFrame m #[(.int p0), (.int p1), (.int p2), (.int p3), (.int p4)] 6) T353 (mkF m 520 #[.val (.int p0), .val (.int p1), .val (.int p2), .val (.int p3), .val (.int p4), .unset] [(.int p2), (.int (0 : Int32)), (.ref b353), (.ref b353)]) := by
                  intro t kk
                  refine c354 t ?_
                  show Steps p.tables e below (T353.setTop (mkF m 517 #[.val (.int p0), .val (.int p1), .val (.int p2), .val (.int p3), .val (.int p4), .unset] [(.ref b353)])) t
                  refine XS.dup X353.here hx rfl (hb hby d1_517) rfl rfl ?_
                  show Steps p.tables e below (T353.setTop (mkF m 518 #[.val (.int p0), .val (.int p1), .val (.int p2), .val (.int p3), .val (.int p4), .unset] [(.ref b353), (.ref b353)])) t
                  refine XS.iconst X353.here hx rfl (hb hby d1_518) ?_
                  show Steps p.tables e below (T353.setTop (mkF m 519 #[.val (.int p0), .val (.int p1), .val (.int p2), .val (.int p3), .val (.int p4), .unset] [(.int (0 : Int32)), (.ref b353), (.ref b353)])) t
                  refine XS.iloadN X353.here hx rfl (hb hby d1_519) rfl ?_
                  exact kk
                obtain ⟨cl356, Ar356, q356, Sz356, Nn356, Hh356, Gg356⟩ := id V353
                have hin356 : ¬ ((0 : Int32) < 0 ∨ cl356.slots.size ≤ ((0 : Int32)).toNatClampNeg) := inb_of Sz356 ⟨by decide, by decide⟩
                obtain ⟨T356, h356, X356, e356, W356, st356⟩ := stC X353 hx hZ e353 Ar356 (j := (0 : Int32)) hin356 (g := (mkF m 520 #[.val (.int p0), .val (.int p1), .val (.int p2), .val (.int p3), .val (.int p4), .unset] [(.int p2), (.int (0 : Int32)), (.ref b353), (.ref b353)])) rfl rfl (hb hby d1_520)
                have V356 := Arv.set Ar356 q356 Sz356 Nn356 Hh356 Gg356 (fits_nar_char _) W356 0 rfl (Nat.le_of_ble_eq_true rfl)
                have N356 := Fr.snoc X356 N0 gb353
                have c357 : Goes p e below s₁ (entryFrame m #[(.int p0), (.int p1), (.int p2), (.int p3), (.int p4)] 6) T356 (mkF m 521 #[.val (.int p0), .val (.int p1), .val (.int p2), .val (.int p3), .val (.int p4), .unset] [(.ref b353)]) := fun t kk => c355 t (st356 t kk)
                have c358 : Goes p e below s₁ (entryFrame m #[(.int p0), (.int p1), (.int p2), (.int p3), (.int p4)] 6) T356 (mkF m 524 #[.val (.int p0), .val (.int p1), .val (.int p2), .val (.int p3), .val (.int p4), .unset] [(.int p3), (.int (1 : Int32)), (.ref b353), (.ref b353)]) := by
                  intro t kk
                  refine c357 t ?_
                  show Steps p.tables e below (T356.setTop (mkF m 521 #[.val (.int p0), .val (.int p1), .val (.int p2), .val (.int p3), .val (.int p4), .unset] [(.ref b353)])) t
                  refine XS.dup X356.here hx rfl (hb hby d1_521) rfl rfl ?_
                  show Steps p.tables e below (T356.setTop (mkF m 522 #[.val (.int p0), .val (.int p1), .val (.int p2), .val (.int p3), .val (.int p4), .unset] [(.ref b353), (.ref b353)])) t
                  refine XS.iconst X356.here hx rfl (hb hby d1_522) ?_
                  show Steps p.tables e below (T356.setTop (mkF m 523 #[.val (.int p0), .val (.int p1), .val (.int p2), .val (.int p3), .val (.int p4), .unset] [(.int (1 : Int32)), (.ref b353), (.ref b353)])) t
                  refine XS.iloadN X356.here hx rfl (hb hby d1_523) rfl ?_
                  exact kk
                obtain ⟨cl359, Ar359, q359, Sz359, Nn359, Hh359, Gg359⟩ := id V356
                have hin359 : ¬ ((1 : Int32) < 0 ∨ cl359.slots.size ≤ ((1 : Int32)).toNatClampNeg) := inb_of Sz359 ⟨by decide, by decide⟩
                obtain ⟨T359, h359, X359, e359, W359, st359⟩ := stC X356 hx hZ e356 Ar359 (j := (1 : Int32)) hin359 (g := (mkF m 524 #[.val (.int p0), .val (.int p1), .val (.int p2), .val (.int p3), .val (.int p4), .unset] [(.int p3), (.int (1 : Int32)), (.ref b353), (.ref b353)])) rfl rfl (hb hby d1_524)
                have V359 := Arv.set Ar359 q359 Sz359 Nn359 Hh359 Gg359 (fits_nar_char _) W359 1 rfl (Nat.le_of_ble_eq_true rfl)
                have N359 := Fr.snoc X359 N356 gb353
                have c360 : Goes p e below s₁ (entryFrame m #[(.int p0), (.int p1), (.int p2), (.int p3), (.int p4)] 6) T359 (mkF m 525 #[.val (.int p0), .val (.int p1), .val (.int p2), .val (.int p3), .val (.int p4), .unset] [(.ref b353)]) := fun t kk => c358 t (st359 t kk)
                have c361 : Goes p e below s₁ (entryFrame m #[(.int p0), (.int p1), (.int p2), (.int p3), (.int p4)] 6) T359 (mkF m 527 #[.val (.int p0), .val (.int p1), .val (.int p2), .val (.int p3), .val (.int p4), .val (.ref b353)] []) := by
                  intro t kk
                  refine c360 t ?_
                  show Steps p.tables e below (T359.setTop (mkF m 525 #[.val (.int p0), .val (.int p1), .val (.int p2), .val (.int p3), .val (.int p4), .unset] [(.ref b353)])) t
                  refine XS.astore X359.here hx rfl (hb hby d1_525) rfl rfl (l' := #[.val (.int p0), .val (.int p1), .val (.int p2), .val (.int p3), .val (.int p4), .val (.ref b353)]) rfl ?_
                  exact kk
                obtain ⟨T362, h362, X362, e362, E362, A362, D362, -, st362⟩ := newO X359 hx hZ hown (hw _ (List.mem_of_getElem? (i := 18) rfl)) (hw _ (List.mem_of_getElem? (i := 19) rfl)) (hw _ (List.mem_of_getElem? (i := 20) rfl)) e359 (g := (mkF m 527 #[.val (.int p0), .val (.int p1), .val (.int p2), .val (.int p3), .val (.int p4), .val (.ref b353)] [])) rfl (hb hby d1_527) (by decide) (by decide)
                obtain ⟨b362, g362⟩ : ∃ z, z = h359.size := ⟨_, rfl⟩
                rw [← g362] at A362 D362 st362
                have f363 := (Nat.le_trans (Nat.le_trans (Nat.le_trans Z0 E353.1) (Keep.of_wr W356).1) (Keep.of_wr W359).1)
                have gb362 : n0 ≤ b362 := Nat.le_trans f363 (Nat.le_of_eq g362.symm)
                have neb353_362 : b353 ≠ b362 := Nat.ne_of_lt (Nat.lt_of_lt_of_le V359.lt (Nat.le_of_eq g362.symm))
                have f364 := ((((Keep.refl h0 []).ext E353).wr W356 (Or.inr szbb353_353)).wr W359 (Or.inr szbb353_353))
                have szbb362_362 : h0.size ≤ b362 := Nat.le_trans f364.1 (Nat.le_of_eq g362.symm)
                have f365 := ((((Keep.refl h0 []).ext E353).wr W356 (Or.inr szb353_353)).wr W359 (Or.inr szb353_353))
                have szb362_362 : h0.size ≤ b362 := Nat.le_trans f365.1 (Nat.le_of_eq g362.symm)
                have F_coder_b362 : Fld Z h362 b362 "java/lang/String" "coder" "B" (.int (0 : Int32)) := D362 (Or.inr (hw _ (List.mem_of_getElem? (i := 44) rfl))) (ty := .byte) (by decide)
                have F_value_b362 : Fld Z h362 b362 "java/lang/String" "value" "[B" .null := D362 (Or.inr (hw _ (List.mem_of_getElem? (i := 46) rfl))) (ty := (.array .byte)) (by decide)
                have c366 : Goes p e below s₁ (entryFrame m #[(.int p0), (.int p1), (.int p2), (.int p3), (.int p4)] 6) T362 (mkF m 530 #[.val (.int p0), .val (.int p1), .val (.int p2), .val (.int p3), .val (.int p4), .val (.ref b353)] [(.ref b362)]) := fun t kk => c361 t (st362 t kk)
                have f367 := ((((O0.ext E353).wr W356 gb353).wr W359 gb353).ext E362)
                have f368 := (Nat.le_trans f363 E362.1)
                have f369 := (V359.ext E362)
                have c370 : Goes p e below s₁ (entryFrame m #[(.int p0), (.int p1), (.int p2), (.int p3), (.int p4)] 6) T362 (mkF m 533 #[.val (.int p0), .val (.int p1), .val (.int p2), .val (.int p3), .val (.int p4), .val (.ref b353)] [(.ref b353), (.ref b362), (.ref b362)]) := by
                  intro t kk
                  refine c366 t ?_
                  show Steps p.tables e below (T362.setTop (mkF m 530 #[.val (.int p0), .val (.int p1), .val (.int p2), .val (.int p3), .val (.int p4), .val (.ref b353)] [(.ref b362)])) t
                  refine XS.dup X362.here hx rfl (hb hby d1_530) rfl rfl ?_
                  show Steps p.tables e below (T362.setTop (mkF m 531 #[.val (.int p0), .val (.int p1), .val (.int p2), .val (.int p3), .val (.int p4), .val (.ref b353)] [(.ref b362), (.ref b362)])) t
                  refine XS.aload X362.here hx rfl (hb hby d1_531) rfl rfl ?_
                  exact kk
                obtain ⟨_, _, ⟨T371, L371, k371, n371⟩, -, X371, ⟨Lc371, hQ371, l371, y371, z371⟩, st371⟩ := X362.specialBack hx (y := (⟨"java/lang/String", "<init>", "([C)V"⟩ : MethodName)) rfl hown (mvT hZ (hw _ (List.mem_of_getElem? (i := 21) rfl))) (mvT hZ (hw _ (List.mem_of_getElem? (i := 22) rfl))) (mvT hZ (hw _ (List.mem_of_getElem? (i := 23) rfl))) (by decide) (StrChars.Road.backV (W := 1) hZ (own_wmk hw) (kI := 4) (hw _ (List.mem_of_getElem? (i := 19) rfl)) (cs := ([(nar .char p2), (nar .char p3)] : List Int32)) (bs := (([(nar .char p2), (nar .char p3)] : List Int32)).map StrChars.lo8) (n := 2) gb362 f368 A362 F_value_b362 F_coder_b362 f369 (S2.ext f367.2) hz rfl rfl (by decide) (by decide) (own_two (own_chr hp2) (own_two (own_chr hp3) own_nil)) rfl (by decide) (by decide)) (g := (mkF m 533 #[.val (.int p0), .val (.int p1), .val (.int p2), .val (.int p3), .val (.int p4), .val (.ref b353)] [(.ref b353), (.ref b362), (.ref b362)])) rfl (by rw [hml]; rfl) (Steps.refl _) (a := b362) (argsL := [(.ref b353)]) (rest := [(.ref b362)]) (lenOf pd___C_V rfl) rfl (by show 2 * 0 + _ ≤ _; exact Nat.le_of_eq rfl) (hb hby d1_533) (fun _ _ => ⟨rfl, e362, (by decide : 2 + 1 ≤ _), (by decide : 6 + 2 ≤ _)⟩)
                dsimp only [Pt.U, Pt.locs, Pt.cells, Pt.slots] at X371 l371 y371 z371 st371 hQ371
                subst l371 y371 z371
                obtain ⟨rfl, Nq371, Kq371, Eq371, Cq371, t371, kb371, gt371, szt371, net371, Vq371, Aq371⟩ := hQ371
                have N371 := Fr.app N359 Nq371
                have c372 : Goes p e below s₁ (entryFrame m #[(.int p0), (.int p1), (.int p2), (.int p3), (.int p4)] 6) T371 (mkF m 536 #[.val (.int p0), .val (.int p1), .val (.int p2), .val (.int p3), .val (.int p4), .val (.ref b353)] [(.ref b362)]) := fun t kk => c370 t (st371.trans kk)
                have Str371 : own_str Z T371.heap b362 ([(nar .char p2), (nar .char p3)] : List Int32) := ⟨Eq371, Cq371, (own_two (own_chr hp2) (own_two (own_chr hp3) own_nil)), t371, kb371, Vq371, Aq371⟩
                have f373 := ((f365.ext E362).trans Kq371 (allS (Or.inr szb362_362) all0))
                have f374 := (Nat.le_trans (Nat.le_trans (Nat.le_trans (Nat.le_trans (Nat.le_trans (Nat.zero_le _) E353.1) (Keep.of_wr W356).1) (Keep.of_wr W359).1) E362.1) Kq371.1)
                obtain ⟨fs, hr, hrun, hended, hRW⟩ := X371.leaveW SW0 f374 (v := some (.ref b362)) (fun h => by rw [Bd.returns] at h; cases h)
                have f375 := ((f364.ext E362).trans Kq371 (allS (Or.inr szbb362_362) all0))
                have hCRe := (CHr.keep f375 sf0 hCH0)
                have hCRt : CHr Z consts_1 s.vm s.heap (T371.setFrames fs).vm (T371.setFrames fs).heap := by
                  rw [hh]
                  show CHr Z consts_1 s.vm h0 T371.vm T371.heap
                  exact hCRe.trans (CHv.at X371 hZ hEL hCRe.1)
                refine ⟨_, _, c372 _ ?_, hrun, hended, _, _, rfl, ?_, hCRt, hRW.1, hRW.2.1, hRW.2.2.1, hRW.2.2.2.mono (by decide) (by decide)⟩
                · exact retOut X371 hx Bd.returns rfl (Or.inr (Or.inr (Or.inr (Or.inr ⟨rfl, rfl, rfl⟩)))) (hb hby d1_536) hr
                · show Q_mk Z p0 p1 p2 p3 p4 z h0 n0 _ T371.heap _
                  exact ⟨.ref b362, rfl, N371, f373, Or.inr ⟨b362, ([(nar .char p2), (nar .char p3)] : List Int32), rfl, Str371, (by simp)⟩⟩
              · have c376 : Goes p e below s₁ (entryFrame m #[(.int p0), (.int p1), (.int p2), (.int p3), (.int p4)] 6) s₁ (mkF m 543 #[.val (.int p0), .val (.int p1), .val (.int p2), .val (.int p3), .val (.int p4), .unset] [(.int (p4 &&& (256 : Int32)))]) := by
                  intro t kk
                  refine c350 t ?_
                  show Steps p.tables e below (s₁.setTop (mkF m 511 #[.val (.int p0), .val (.int p1), .val (.int p2), .val (.int p3), .val (.int p4), .unset] [(.int (6 : Int32)), (.int p0)])) t
                  refine XS.icmpYes XW0.here hx rfl (pc0 := 511) (pc' := 537) rfl (hb hby d1_511) rfl (feq hc511_351).2 (by decide) (by decide) ?_
                  show Steps p.tables e below (s₁.setTop (mkF m 537 #[.val (.int p0), .val (.int p1), .val (.int p2), .val (.int p3), .val (.int p4), .unset] [])) t
                  refine XS.iload XW0.here hx rfl (hb hby d1_537) rfl ?_
                  show Steps p.tables e below (s₁.setTop (mkF m 539 #[.val (.int p0), .val (.int p1), .val (.int p2), .val (.int p3), .val (.int p4), .unset] [(.int p4)])) t
                  refine XS.sipush XW0.here hx rfl (hb hby d1_539) ?_
                  show Steps p.tables e below (s₁.setTop (mkF m 542 #[.val (.int p0), .val (.int p1), .val (.int p2), .val (.int p3), .val (.int p4), .unset] [(.int (256 : Int32)), (.int p4)])) t
                  refine XS.iand XW0.here hx rfl (hb hby d1_542) rfl ?_
                  exact kk
                by_cases hc543_377 : (p4 &&& (256 : Int32)) = (0 : Int32)
                · have c378 : Goes p e below s₁ (entryFrame m #[(.int p0), (.int p1), (.int p2), (.int p3), (.int p4)] 6) s₁ (mkF m 546 #[.val (.int p0), .val (.int p1), .val (.int p2), .val (.int p3), .val (.int p4), .unset] []) := by
                    intro t kk
                    refine c376 t ?_
                    show Steps p.tables e below (s₁.setTop (mkF m 543 #[.val (.int p0), .val (.int p1), .val (.int p2), .val (.int p3), .val (.int p4), .unset] [(.int (p4 &&& (256 : Int32)))])) t
                    refine XS.ifNo XW0.here hx rfl (hb hby d1_543) rfl ((if0 _ _).trans (teq hc543_377).2) ?_
                    exact kk
                  obtain ⟨T379, h379, X379, e379, E379, A379, D379, -, st379⟩ := newO XW0 hx hZ hown (hw _ (List.mem_of_getElem? (i := 18) rfl)) (hw _ (List.mem_of_getElem? (i := 19) rfl)) (hw _ (List.mem_of_getElem? (i := 20) rfl)) e0 (g := (mkF m 546 #[.val (.int p0), .val (.int p1), .val (.int p2), .val (.int p3), .val (.int p4), .unset] [])) rfl (hb hby d1_546) (by decide) (by decide)
                  obtain ⟨b379, g379⟩ : ∃ z, z = h0.size := ⟨_, rfl⟩
                  rw [← g379] at A379 D379 st379
                  have gb379 : n0 ≤ b379 := Nat.le_trans Z0 (Nat.le_of_eq g379.symm)
                  have szbb379_379 : h0.size ≤ b379 := Nat.le_trans (Keep.refl h0 []).1 (Nat.le_of_eq g379.symm)
                  have szb379_379 : h0.size ≤ b379 := Nat.le_trans (Keep.refl h0 []).1 (Nat.le_of_eq g379.symm)
                  have F_coder_b379 : Fld Z h379 b379 "java/lang/String" "coder" "B" (.int (0 : Int32)) := D379 (Or.inr (hw _ (List.mem_of_getElem? (i := 44) rfl))) (ty := .byte) (by decide)
                  have F_value_b379 : Fld Z h379 b379 "java/lang/String" "value" "[B" .null := D379 (Or.inr (hw _ (List.mem_of_getElem? (i := 46) rfl))) (ty := (.array .byte)) (by decide)
                  have c380 : Goes p e below s₁ (entryFrame m #[(.int p0), (.int p1), (.int p2), (.int p3), (.int p4)] 6) T379 (mkF m 549 #[.val (.int p0), .val (.int p1), .val (.int p2), .val (.int p3), .val (.int p4), .unset] [(.ref b379)]) := fun t kk => c378 t (st379 t kk)
                  have c381 : Goes p e below s₁ (entryFrame m #[(.int p0), (.int p1), (.int p2), (.int p3), (.int p4)] 6) T379 (mkF m 551 #[.val (.int p0), .val (.int p1), .val (.int p2), .val (.int p3), .val (.int p4), .unset] [(.int (0 : Int32)), (.ref b379), (.ref b379)]) := by
                    intro t kk
                    refine c380 t ?_
                    show Steps p.tables e below (T379.setTop (mkF m 549 #[.val (.int p0), .val (.int p1), .val (.int p2), .val (.int p3), .val (.int p4), .unset] [(.ref b379)])) t
                    refine XS.dup X379.here hx rfl (hb hby d1_549) rfl rfl ?_
                    show Steps p.tables e below (T379.setTop (mkF m 550 #[.val (.int p0), .val (.int p1), .val (.int p2), .val (.int p3), .val (.int p4), .unset] [(.ref b379), (.ref b379)])) t
                    refine XS.iconst X379.here hx rfl (hb hby d1_550) ?_
                    exact kk
                  obtain ⟨T382, h382, k382, X382, e382, E382, A382, st382⟩ := newP X379 hx hZ (hw _ (List.mem_of_getElem? (i := 17) rfl)) e379 (g := (mkF m 551 #[.val (.int p0), .val (.int p1), .val (.int p2), .val (.int p3), .val (.int p4), .unset] [(.int (0 : Int32)), (.ref b379), (.ref b379)])) rfl (hb hby d1_551) rfl (by decide) (cap := 0) (by decide) (by decide) (by decide) (by decide)
                  obtain ⟨b382, g382⟩ : ∃ z, z = h379.size := ⟨_, rfl⟩
                  rw [← g382] at A382 st382
                  have f383 := (Nat.le_trans Z0 E379.1)
                  have gb382 : n0 ≤ b382 := Nat.le_trans f383 (Nat.le_of_eq g382.symm)
                  have neb379_382 : b379 ≠ b382 := Nat.ne_of_lt (Nat.lt_of_lt_of_le A379.lt (Nat.le_of_eq g382.symm))
                  have f384 := ((Keep.refl h0 []).ext E379)
                  have szbb382_382 : h0.size ≤ b382 := Nat.le_trans f384.1 (Nat.le_of_eq g382.symm)
                  have f385 := ((Keep.refl h0 []).ext E379)
                  have szb382_382 : h0.size ≤ b382 := Nat.le_trans f385.1 (Nat.le_of_eq g382.symm)
                  have V382 : Arv Z h382 b382 k382 .char (0 : Int32) [] (.int (0 : Int32)) := (Arv.new A382 (by decide)).pad (pad_rep [] (.int (0 : Int32)) 0)
                  have c386 : Goes p e below s₁ (entryFrame m #[(.int p0), (.int p1), (.int p2), (.int p3), (.int p4)] 6) T382 (mkF m 553 #[.val (.int p0), .val (.int p1), .val (.int p2), .val (.int p3), .val (.int p4), .unset] [(.ref b382), (.ref b379), (.ref b379)]) := fun t kk => c381 t (st382 t kk)
                  have f387 := ((O0.ext E379).ext E382)
                  have f388 := (Nat.le_trans f383 E382.1)
                  have f389 := (F_value_b379.ext E382)
                  have f390 := (F_coder_b379.ext E382)
                  have f391 := (A379.ext E382)
                  have f393 := (f384.ext E382)
                  have f394 := CHv.keep f393 sf0 hCH0
                  obtain ⟨_, _, ⟨T392, L392, k392, n392⟩, -, XX392, SS392, gr392, ⟨Lc392, hQ392, l392, y392, z392, hCr392⟩, st392⟩ := X382.specialBackS hx (y := (⟨"java/lang/String", "<init>", "([C)V"⟩ : MethodName)) rfl hown (mvT hZ (hw _ (List.mem_of_getElem? (i := 21) rfl))) (mvT hZ (hw _ (List.mem_of_getElem? (i := 22) rfl))) (mvT hZ (hw _ (List.mem_of_getElem? (i := 23) rfl))) (by decide) (backOfSH (W := 1) (rm_si1 l Z a0 hw [] b379 b382 k382 h382 n0 f388 hEL f389 f390 f391 gb379 V382) hZ (hw _ (List.mem_of_getElem? (i := 23) rfl)) (hw _ (List.mem_of_getElem? (i := 20) rfl)) (by decide) (by decide) hEL f394) (g := (mkF m 553 #[.val (.int p0), .val (.int p1), .val (.int p2), .val (.int p3), .val (.int p4), .unset] [(.ref b382), (.ref b379), (.ref b379)])) rfl (by rw [hml]; rfl) (Steps.refl _) (a := b379) (argsL := [(.ref b382)]) (rest := [(.ref b379)]) (lenOf pd___C_V rfl) rfl (by show 2 * 0 + _ ≤ _; exact Nat.le_of_eq rfl) (hb hby d1_553) (fun _ _ => ⟨rfl, e382, (by decide : 2 + 2 ≤ _), (by decide : 4 + 4 ≤ _)⟩)
                  have f395 := (Nat.le_trans (Nat.le_trans (Nat.zero_le _) E379.1) E382.1)
                  obtain ⟨X392, S392, hZ392, ho392⟩ := rebS SW0 (by rw [e382]; exact f395 : _ ≤ T382.heap.size) XX392 SS392 gr392 hZ hown
                  dsimp only [Pt.U, Pt.locs, Pt.cells, Pt.slots] at S392 hZ392 ho392 hCr392 X392 l392 y392 z392 st392 hQ392
                  subst l392 y392 z392
                  obtain ⟨rfl, Nq392, Kq392, Sq392⟩ := hQ392
                  have N392 := Fr.app N0 Nq392
                  have c396 : Goes p e below s₁ (entryFrame m #[(.int p0), (.int p1), (.int p2), (.int p3), (.int p4)] 6) T392 (mkF m 556 #[.val (.int p0), .val (.int p1), .val (.int p2), .val (.int p3), .val (.int p4), .unset] [(.ref b379)]) := fun t kk => c386 t (st392.trans kk)
                  have f397 := ((f385.ext E382).trans Kq392 (allS (Or.inr szb379_379) all0))
                  obtain ⟨fs, hr, hrun, hended, hRW⟩ := X392.leaveW S392 (Nat.le_refl _) (v := some (.ref b379)) (fun h => by rw [Bd.returns] at h; cases h)
                  have hCRe := (((CHr.keep f393 sf0 hCH0).trans hCr392).trans (CHr.keep (Keep.refl _ []) sf0 hCr392.1))
                  have hCRt : CHr Z consts_1 s.vm s.heap (T392.setFrames fs).vm (T392.setFrames fs).heap := by
                    rw [hh]
                    show CHr Z consts_1 s.vm h0 T392.vm T392.heap
                    exact hCRe.trans (CHv.at X392 hZ392 hEL hCRe.1)
                  refine ⟨_, _, c396 _ ?_, hrun, hended, _, _, rfl, ?_, hCRt, hRW.1, hRW.2.1, hRW.2.2.1, hRW.2.2.2.mono (by decide) (by decide)⟩
                  · exact retOut X392 hx Bd.returns rfl (Or.inr (Or.inr (Or.inr (Or.inr ⟨rfl, rfl, rfl⟩)))) (hb hby d1_556) hr
                  · show Q_mk Z p0 p1 p2 p3 p4 z h0 n0 _ T392.heap _
                    exact ⟨.ref b379, rfl, N392, f397, Or.inr ⟨b379, [], rfl, Sq392, (by simp)⟩⟩
                · have c398 : Goes p e below s₁ (entryFrame m #[(.int p0), (.int p1), (.int p2), (.int p3), (.int p4)] 6) s₁ (mkF m 557 #[.val (.int p0), .val (.int p1), .val (.int p2), .val (.int p3), .val (.int p4), .unset] []) := by
                    intro t kk
                    refine c376 t ?_
                    show Steps p.tables e below (s₁.setTop (mkF m 543 #[.val (.int p0), .val (.int p1), .val (.int p2), .val (.int p3), .val (.int p4), .unset] [(.int (p4 &&& (256 : Int32)))])) t
                    refine XS.ifYes XW0.here hx rfl (pc0 := 543) (pc' := 557) rfl (hb hby d1_543) rfl ((if0 _ _).trans (feq hc543_377).2) (by decide) (by decide) ?_
                    exact kk
                  obtain ⟨T399, h399, X399, e399, E399, A399, D399, -, st399⟩ := newO XW0 hx hZ hown (hw _ (List.mem_of_getElem? (i := 18) rfl)) (hw _ (List.mem_of_getElem? (i := 19) rfl)) (hw _ (List.mem_of_getElem? (i := 20) rfl)) e0 (g := (mkF m 557 #[.val (.int p0), .val (.int p1), .val (.int p2), .val (.int p3), .val (.int p4), .unset] [])) rfl (hb hby d1_557) (by decide) (by decide)
                  obtain ⟨b399, g399⟩ : ∃ z, z = h0.size := ⟨_, rfl⟩
                  rw [← g399] at A399 D399 st399
                  have gb399 : n0 ≤ b399 := Nat.le_trans Z0 (Nat.le_of_eq g399.symm)
                  have szbb399_399 : h0.size ≤ b399 := Nat.le_trans (Keep.refl h0 []).1 (Nat.le_of_eq g399.symm)
                  have szb399_399 : h0.size ≤ b399 := Nat.le_trans (Keep.refl h0 []).1 (Nat.le_of_eq g399.symm)
                  have F_coder_b399 : Fld Z h399 b399 "java/lang/String" "coder" "B" (.int (0 : Int32)) := D399 (Or.inr (hw _ (List.mem_of_getElem? (i := 44) rfl))) (ty := .byte) (by decide)
                  have F_value_b399 : Fld Z h399 b399 "java/lang/String" "value" "[B" .null := D399 (Or.inr (hw _ (List.mem_of_getElem? (i := 46) rfl))) (ty := (.array .byte)) (by decide)
                  have c400 : Goes p e below s₁ (entryFrame m #[(.int p0), (.int p1), (.int p2), (.int p3), (.int p4)] 6) T399 (mkF m 560 #[.val (.int p0), .val (.int p1), .val (.int p2), .val (.int p3), .val (.int p4), .unset] [(.ref b399)]) := fun t kk => c398 t (st399 t kk)
                  have c401 : Goes p e below s₁ (entryFrame m #[(.int p0), (.int p1), (.int p2), (.int p3), (.int p4)] 6) T399 (mkF m 563 #[.val (.int p0), .val (.int p1), .val (.int p2), .val (.int p3), .val (.int p4), .unset] [(.int (18 : Int32)), (.ref b399), (.ref b399)]) := by
                    intro t kk
                    refine c400 t ?_
                    show Steps p.tables e below (T399.setTop (mkF m 560 #[.val (.int p0), .val (.int p1), .val (.int p2), .val (.int p3), .val (.int p4), .unset] [(.ref b399)])) t
                    refine XS.dup X399.here hx rfl (hb hby d1_560) rfl rfl ?_
                    show Steps p.tables e below (T399.setTop (mkF m 561 #[.val (.int p0), .val (.int p1), .val (.int p2), .val (.int p3), .val (.int p4), .unset] [(.ref b399), (.ref b399)])) t
                    refine XS.bipush X399.here hx rfl (hb hby d1_561) ?_
                    exact kk
                  obtain ⟨T402, h402, k402, X402, e402, E402, A402, st402⟩ := newP X399 hx hZ (hw _ (List.mem_of_getElem? (i := 17) rfl)) e399 (g := (mkF m 563 #[.val (.int p0), .val (.int p1), .val (.int p2), .val (.int p3), .val (.int p4), .unset] [(.int (18 : Int32)), (.ref b399), (.ref b399)])) rfl (hb hby d1_563) rfl (by decide) (cap := 18) (by decide) (by decide) (by decide) (by decide)
                  obtain ⟨b402, g402⟩ : ∃ z, z = h399.size := ⟨_, rfl⟩
                  rw [← g402] at A402 st402
                  have f403 := (Nat.le_trans Z0 E399.1)
                  have gb402 : n0 ≤ b402 := Nat.le_trans f403 (Nat.le_of_eq g402.symm)
                  have neb399_402 : b399 ≠ b402 := Nat.ne_of_lt (Nat.lt_of_lt_of_le A399.lt (Nat.le_of_eq g402.symm))
                  have f404 := ((Keep.refl h0 []).ext E399)
                  have szbb402_402 : h0.size ≤ b402 := Nat.le_trans f404.1 (Nat.le_of_eq g402.symm)
                  have f405 := ((Keep.refl h0 []).ext E399)
                  have szb402_402 : h0.size ≤ b402 := Nat.le_trans f405.1 (Nat.le_of_eq g402.symm)
                  have V402 : Arv Z h402 b402 k402 .char (18 : Int32) [(.int (0 : Int32)), (.int (0 : Int32)), (.int (0 : Int32)), (.int (0 : Int32)), (.int (0 : Int32)), (.int (0 : Int32)), (.int (0 : Int32)), (.int (0 : Int32)), (.int (0 : Int32)), (.int (0 : Int32)), (.int (0 : Int32)), (.int (0 : Int32)), (.int (0 : Int32)), (.int (0 : Int32)), (.int (0 : Int32)), (.int (0 : Int32)), (.int (0 : Int32)), (.int (0 : Int32))] (.int (0 : Int32)) := (Arv.new A402 (by decide)).pad (pad_rep [] (.int (0 : Int32)) 18)
                  have c406 : Goes p e below s₁ (entryFrame m #[(.int p0), (.int p1), (.int p2), (.int p3), (.int p4)] 6) T402 (mkF m 565 #[.val (.int p0), .val (.int p1), .val (.int p2), .val (.int p3), .val (.int p4), .unset] [(.ref b402), (.ref b399), (.ref b399)]) := fun t kk => c401 t (st402 t kk)
                  have c407 : Goes p e below s₁ (entryFrame m #[(.int p0), (.int p1), (.int p2), (.int p3), (.int p4)] 6) T402 (mkF m 569 #[.val (.int p0), .val (.int p1), .val (.int p2), .val (.int p3), .val (.int p4), .unset] [(.int (111 : Int32)), (.int (0 : Int32)), (.ref b402), (.ref b402), (.ref b399), (.ref b399)]) := by
                    intro t kk
                    refine c406 t ?_
                    show Steps p.tables e below (T402.setTop (mkF m 565 #[.val (.int p0), .val (.int p1), .val (.int p2), .val (.int p3), .val (.int p4), .unset] [(.ref b402), (.ref b399), (.ref b399)])) t
                    refine XS.dup X402.here hx rfl (hb hby d1_565) rfl rfl ?_
                    show Steps p.tables e below (T402.setTop (mkF m 566 #[.val (.int p0), .val (.int p1), .val (.int p2), .val (.int p3), .val (.int p4), .unset] [(.ref b402), (.ref b402), (.ref b399), (.ref b399)])) t
                    refine XS.iconst X402.here hx rfl (hb hby d1_566) ?_
                    show Steps p.tables e below (T402.setTop (mkF m 567 #[.val (.int p0), .val (.int p1), .val (.int p2), .val (.int p3), .val (.int p4), .unset] [(.int (0 : Int32)), (.ref b402), (.ref b402), (.ref b399), (.ref b399)])) t
                    refine XS.bipush X402.here hx rfl (hb hby d1_567) ?_
                    exact kk
                  obtain ⟨cl408, Ar408, q408, Sz408, Nn408, Hh408, Gg408⟩ := id V402
                  have hin408 : ¬ ((0 : Int32) < 0 ∨ cl408.slots.size ≤ ((0 : Int32)).toNatClampNeg) := inb_of Sz408 ⟨by decide, by decide⟩
                  obtain ⟨T408, h408, X408, e408, W408, st408⟩ := stC X402 hx hZ e402 Ar408 (j := (0 : Int32)) hin408 (g := (mkF m 569 #[.val (.int p0), .val (.int p1), .val (.int p2), .val (.int p3), .val (.int p4), .unset] [(.int (111 : Int32)), (.int (0 : Int32)), (.ref b402), (.ref b402), (.ref b399), (.ref b399)])) rfl rfl (hb hby d1_569)
                  have V408 := Arv.set Ar408 q408 Sz408 Nn408 Hh408 Gg408 (fits_nar_char _) W408 0 rfl (Nat.le_of_ble_eq_true rfl)
                  have N408 := Fr.snoc X408 N0 gb402
                  have c409 : Goes p e below s₁ (entryFrame m #[(.int p0), (.int p1), (.int p2), (.int p3), (.int p4)] 6) T408 (mkF m 570 #[.val (.int p0), .val (.int p1), .val (.int p2), .val (.int p3), .val (.int p4), .unset] [(.ref b402), (.ref b399), (.ref b399)]) := fun t kk => c407 t (st408 t kk)
                  have c410 : Goes p e below s₁ (entryFrame m #[(.int p0), (.int p1), (.int p2), (.int p3), (.int p4)] 6) T408 (mkF m 574 #[.val (.int p0), .val (.int p1), .val (.int p2), .val (.int p3), .val (.int p4), .unset] [(.int (118 : Int32)), (.int (1 : Int32)), (.ref b402), (.ref b402), (.ref b399), (.ref b399)]) := by
                    intro t kk
                    refine c409 t ?_
                    show Steps p.tables e below (T408.setTop (mkF m 570 #[.val (.int p0), .val (.int p1), .val (.int p2), .val (.int p3), .val (.int p4), .unset] [(.ref b402), (.ref b399), (.ref b399)])) t
                    refine XS.dup X408.here hx rfl (hb hby d1_570) rfl rfl ?_
                    show Steps p.tables e below (T408.setTop (mkF m 571 #[.val (.int p0), .val (.int p1), .val (.int p2), .val (.int p3), .val (.int p4), .unset] [(.ref b402), (.ref b402), (.ref b399), (.ref b399)])) t
                    refine XS.iconst X408.here hx rfl (hb hby d1_571) ?_
                    show Steps p.tables e below (T408.setTop (mkF m 572 #[.val (.int p0), .val (.int p1), .val (.int p2), .val (.int p3), .val (.int p4), .unset] [(.int (1 : Int32)), (.ref b402), (.ref b402), (.ref b399), (.ref b399)])) t
                    refine XS.bipush X408.here hx rfl (hb hby d1_572) ?_
                    exact kk
                  obtain ⟨cl411, Ar411, q411, Sz411, Nn411, Hh411, Gg411⟩ := id V408
                  have hin411 : ¬ ((1 : Int32) < 0 ∨ cl411.slots.size ≤ ((1 : Int32)).toNatClampNeg) := inb_of Sz411 ⟨by decide, by decide⟩
                  obtain ⟨T411, h411, X411, e411, W411, st411⟩ := stC X408 hx hZ e408 Ar411 (j := (1 : Int32)) hin411 (g := (mkF m 574 #[.val (.int p0), .val (.int p1), .val (.int p2), .val (.int p3), .val (.int p4), .unset] [(.int (118 : Int32)), (.int (1 : Int32)), (.ref b402), (.ref b402), (.ref b399), (.ref b399)])) rfl rfl (hb hby d1_574)
                  have V411 := Arv.set Ar411 q411 Sz411 Nn411 Hh411 Gg411 (fits_nar_char _) W411 1 rfl (Nat.le_of_ble_eq_true rfl)
                  have N411 := Fr.snoc X411 N408 gb402
                  have c412 : Goes p e below s₁ (entryFrame m #[(.int p0), (.int p1), (.int p2), (.int p3), (.int p4)] 6) T411 (mkF m 575 #[.val (.int p0), .val (.int p1), .val (.int p2), .val (.int p3), .val (.int p4), .unset] [(.ref b402), (.ref b399), (.ref b399)]) := fun t kk => c410 t (st411 t kk)
                  have c413 : Goes p e below s₁ (entryFrame m #[(.int p0), (.int p1), (.int p2), (.int p3), (.int p4)] 6) T411 (mkF m 579 #[.val (.int p0), .val (.int p1), .val (.int p2), .val (.int p3), .val (.int p4), .unset] [(.int (101 : Int32)), (.int (2 : Int32)), (.ref b402), (.ref b402), (.ref b399), (.ref b399)]) := by
                    intro t kk
                    refine c412 t ?_
                    show Steps p.tables e below (T411.setTop (mkF m 575 #[.val (.int p0), .val (.int p1), .val (.int p2), .val (.int p3), .val (.int p4), .unset] [(.ref b402), (.ref b399), (.ref b399)])) t
                    refine XS.dup X411.here hx rfl (hb hby d1_575) rfl rfl ?_
                    show Steps p.tables e below (T411.setTop (mkF m 576 #[.val (.int p0), .val (.int p1), .val (.int p2), .val (.int p3), .val (.int p4), .unset] [(.ref b402), (.ref b402), (.ref b399), (.ref b399)])) t
                    refine XS.iconst X411.here hx rfl (hb hby d1_576) ?_
                    show Steps p.tables e below (T411.setTop (mkF m 577 #[.val (.int p0), .val (.int p1), .val (.int p2), .val (.int p3), .val (.int p4), .unset] [(.int (2 : Int32)), (.ref b402), (.ref b402), (.ref b399), (.ref b399)])) t
                    refine XS.bipush X411.here hx rfl (hb hby d1_577) ?_
                    exact kk
                  obtain ⟨cl414, Ar414, q414, Sz414, Nn414, Hh414, Gg414⟩ := id V411
                  have hin414 : ¬ ((2 : Int32) < 0 ∨ cl414.slots.size ≤ ((2 : Int32)).toNatClampNeg) := inb_of Sz414 ⟨by decide, by decide⟩
                  obtain ⟨T414, h414, X414, e414, W414, st414⟩ := stC X411 hx hZ e411 Ar414 (j := (2 : Int32)) hin414 (g := (mkF m 579 #[.val (.int p0), .val (.int p1), .val (.int p2), .val (.int p3), .val (.int p4), .unset] [(.int (101 : Int32)), (.int (2 : Int32)), (.ref b402), (.ref b402), (.ref b399), (.ref b399)])) rfl rfl (hb hby d1_579)
                  have V414 := Arv.set Ar414 q414 Sz414 Nn414 Hh414 Gg414 (fits_nar_char _) W414 2 rfl (Nat.le_of_ble_eq_true rfl)
                  have N414 := Fr.snoc X414 N411 gb402
                  have c415 : Goes p e below s₁ (entryFrame m #[(.int p0), (.int p1), (.int p2), (.int p3), (.int p4)] 6) T414 (mkF m 580 #[.val (.int p0), .val (.int p1), .val (.int p2), .val (.int p3), .val (.int p4), .unset] [(.ref b402), (.ref b399), (.ref b399)]) := fun t kk => c413 t (st414 t kk)
                  have c416 : Goes p e below s₁ (entryFrame m #[(.int p0), (.int p1), (.int p2), (.int p3), (.int p4)] 6) T414 (mkF m 584 #[.val (.int p0), .val (.int p1), .val (.int p2), .val (.int p3), .val (.int p4), .unset] [(.int (114 : Int32)), (.int (3 : Int32)), (.ref b402), (.ref b402), (.ref b399), (.ref b399)]) := by
                    intro t kk
                    refine c415 t ?_
                    show Steps p.tables e below (T414.setTop (mkF m 580 #[.val (.int p0), .val (.int p1), .val (.int p2), .val (.int p3), .val (.int p4), .unset] [(.ref b402), (.ref b399), (.ref b399)])) t
                    refine XS.dup X414.here hx rfl (hb hby d1_580) rfl rfl ?_
                    show Steps p.tables e below (T414.setTop (mkF m 581 #[.val (.int p0), .val (.int p1), .val (.int p2), .val (.int p3), .val (.int p4), .unset] [(.ref b402), (.ref b402), (.ref b399), (.ref b399)])) t
                    refine XS.iconst X414.here hx rfl (hb hby d1_581) ?_
                    show Steps p.tables e below (T414.setTop (mkF m 582 #[.val (.int p0), .val (.int p1), .val (.int p2), .val (.int p3), .val (.int p4), .unset] [(.int (3 : Int32)), (.ref b402), (.ref b402), (.ref b399), (.ref b399)])) t
                    refine XS.bipush X414.here hx rfl (hb hby d1_582) ?_
                    exact kk
                  obtain ⟨cl417, Ar417, q417, Sz417, Nn417, Hh417, Gg417⟩ := id V414
                  have hin417 : ¬ ((3 : Int32) < 0 ∨ cl417.slots.size ≤ ((3 : Int32)).toNatClampNeg) := inb_of Sz417 ⟨by decide, by decide⟩
                  obtain ⟨T417, h417, X417, e417, W417, st417⟩ := stC X414 hx hZ e414 Ar417 (j := (3 : Int32)) hin417 (g := (mkF m 584 #[.val (.int p0), .val (.int p1), .val (.int p2), .val (.int p3), .val (.int p4), .unset] [(.int (114 : Int32)), (.int (3 : Int32)), (.ref b402), (.ref b402), (.ref b399), (.ref b399)])) rfl rfl (hb hby d1_584)
                  have V417 := Arv.set Ar417 q417 Sz417 Nn417 Hh417 Gg417 (fits_nar_char _) W417 3 rfl (Nat.le_of_ble_eq_true rfl)
                  have N417 := Fr.snoc X417 N414 gb402
                  have c418 : Goes p e below s₁ (entryFrame m #[(.int p0), (.int p1), (.int p2), (.int p3), (.int p4)] 6) T417 (mkF m 585 #[.val (.int p0), .val (.int p1), .val (.int p2), .val (.int p3), .val (.int p4), .unset] [(.ref b402), (.ref b399), (.ref b399)]) := fun t kk => c416 t (st417 t kk)
                  have c419 : Goes p e below s₁ (entryFrame m #[(.int p0), (.int p1), (.int p2), (.int p3), (.int p4)] 6) T417 (mkF m 589 #[.val (.int p0), .val (.int p1), .val (.int p2), .val (.int p3), .val (.int p4), .unset] [(.int (108 : Int32)), (.int (4 : Int32)), (.ref b402), (.ref b402), (.ref b399), (.ref b399)]) := by
                    intro t kk
                    refine c418 t ?_
                    show Steps p.tables e below (T417.setTop (mkF m 585 #[.val (.int p0), .val (.int p1), .val (.int p2), .val (.int p3), .val (.int p4), .unset] [(.ref b402), (.ref b399), (.ref b399)])) t
                    refine XS.dup X417.here hx rfl (hb hby d1_585) rfl rfl ?_
                    show Steps p.tables e below (T417.setTop (mkF m 586 #[.val (.int p0), .val (.int p1), .val (.int p2), .val (.int p3), .val (.int p4), .unset] [(.ref b402), (.ref b402), (.ref b399), (.ref b399)])) t
                    refine XS.iconst X417.here hx rfl (hb hby d1_586) ?_
                    show Steps p.tables e below (T417.setTop (mkF m 587 #[.val (.int p0), .val (.int p1), .val (.int p2), .val (.int p3), .val (.int p4), .unset] [(.int (4 : Int32)), (.ref b402), (.ref b402), (.ref b399), (.ref b399)])) t
                    refine XS.bipush X417.here hx rfl (hb hby d1_587) ?_
                    exact kk
                  obtain ⟨cl420, Ar420, q420, Sz420, Nn420, Hh420, Gg420⟩ := id V417
                  have hin420 : ¬ ((4 : Int32) < 0 ∨ cl420.slots.size ≤ ((4 : Int32)).toNatClampNeg) := inb_of Sz420 ⟨by decide, by decide⟩
                  obtain ⟨T420, h420, X420, e420, W420, st420⟩ := stC X417 hx hZ e417 Ar420 (j := (4 : Int32)) hin420 (g := (mkF m 589 #[.val (.int p0), .val (.int p1), .val (.int p2), .val (.int p3), .val (.int p4), .unset] [(.int (108 : Int32)), (.int (4 : Int32)), (.ref b402), (.ref b402), (.ref b399), (.ref b399)])) rfl rfl (hb hby d1_589)
                  have V420 := Arv.set Ar420 q420 Sz420 Nn420 Hh420 Gg420 (fits_nar_char _) W420 4 rfl (Nat.le_of_ble_eq_true rfl)
                  have N420 := Fr.snoc X420 N417 gb402
                  have c421 : Goes p e below s₁ (entryFrame m #[(.int p0), (.int p1), (.int p2), (.int p3), (.int p4)] 6) T420 (mkF m 590 #[.val (.int p0), .val (.int p1), .val (.int p2), .val (.int p3), .val (.int p4), .unset] [(.ref b402), (.ref b399), (.ref b399)]) := fun t kk => c419 t (st420 t kk)
                  have c422 : Goes p e below s₁ (entryFrame m #[(.int p0), (.int p1), (.int p2), (.int p3), (.int p4)] 6) T420 (mkF m 594 #[.val (.int p0), .val (.int p1), .val (.int p2), .val (.int p3), .val (.int p4), .unset] [(.int (111 : Int32)), (.int (5 : Int32)), (.ref b402), (.ref b402), (.ref b399), (.ref b399)]) := by
                    intro t kk
                    refine c421 t ?_
                    show Steps p.tables e below (T420.setTop (mkF m 590 #[.val (.int p0), .val (.int p1), .val (.int p2), .val (.int p3), .val (.int p4), .unset] [(.ref b402), (.ref b399), (.ref b399)])) t
                    refine XS.dup X420.here hx rfl (hb hby d1_590) rfl rfl ?_
                    show Steps p.tables e below (T420.setTop (mkF m 591 #[.val (.int p0), .val (.int p1), .val (.int p2), .val (.int p3), .val (.int p4), .unset] [(.ref b402), (.ref b402), (.ref b399), (.ref b399)])) t
                    refine XS.iconst X420.here hx rfl (hb hby d1_591) ?_
                    show Steps p.tables e below (T420.setTop (mkF m 592 #[.val (.int p0), .val (.int p1), .val (.int p2), .val (.int p3), .val (.int p4), .unset] [(.int (5 : Int32)), (.ref b402), (.ref b402), (.ref b399), (.ref b399)])) t
                    refine XS.bipush X420.here hx rfl (hb hby d1_592) ?_
                    exact kk
                  obtain ⟨cl423, Ar423, q423, Sz423, Nn423, Hh423, Gg423⟩ := id V420
                  have hin423 : ¬ ((5 : Int32) < 0 ∨ cl423.slots.size ≤ ((5 : Int32)).toNatClampNeg) := inb_of Sz423 ⟨by decide, by decide⟩
                  obtain ⟨T423, h423, X423, e423, W423, st423⟩ := stC X420 hx hZ e420 Ar423 (j := (5 : Int32)) hin423 (g := (mkF m 594 #[.val (.int p0), .val (.int p1), .val (.int p2), .val (.int p3), .val (.int p4), .unset] [(.int (111 : Int32)), (.int (5 : Int32)), (.ref b402), (.ref b402), (.ref b399), (.ref b399)])) rfl rfl (hb hby d1_594)
                  have V423 := Arv.set Ar423 q423 Sz423 Nn423 Hh423 Gg423 (fits_nar_char _) W423 5 rfl (Nat.le_of_ble_eq_true rfl)
                  have N423 := Fr.snoc X423 N420 gb402
                  have c424 : Goes p e below s₁ (entryFrame m #[(.int p0), (.int p1), (.int p2), (.int p3), (.int p4)] 6) T423 (mkF m 595 #[.val (.int p0), .val (.int p1), .val (.int p2), .val (.int p3), .val (.int p4), .unset] [(.ref b402), (.ref b399), (.ref b399)]) := fun t kk => c422 t (st423 t kk)
                  have c425 : Goes p e below s₁ (entryFrame m #[(.int p0), (.int p1), (.int p2), (.int p3), (.int p4)] 6) T423 (mkF m 600 #[.val (.int p0), .val (.int p1), .val (.int p2), .val (.int p3), .val (.int p4), .unset] [(.int (97 : Int32)), (.int (6 : Int32)), (.ref b402), (.ref b402), (.ref b399), (.ref b399)]) := by
                    intro t kk
                    refine c424 t ?_
                    show Steps p.tables e below (T423.setTop (mkF m 595 #[.val (.int p0), .val (.int p1), .val (.int p2), .val (.int p3), .val (.int p4), .unset] [(.ref b402), (.ref b399), (.ref b399)])) t
                    refine XS.dup X423.here hx rfl (hb hby d1_595) rfl rfl ?_
                    show Steps p.tables e below (T423.setTop (mkF m 596 #[.val (.int p0), .val (.int p1), .val (.int p2), .val (.int p3), .val (.int p4), .unset] [(.ref b402), (.ref b402), (.ref b399), (.ref b399)])) t
                    refine XS.bipush X423.here hx rfl (hb hby d1_596) ?_
                    show Steps p.tables e below (T423.setTop (mkF m 598 #[.val (.int p0), .val (.int p1), .val (.int p2), .val (.int p3), .val (.int p4), .unset] [(.int (6 : Int32)), (.ref b402), (.ref b402), (.ref b399), (.ref b399)])) t
                    refine XS.bipush X423.here hx rfl (hb hby d1_598) ?_
                    exact kk
                  obtain ⟨cl426, Ar426, q426, Sz426, Nn426, Hh426, Gg426⟩ := id V423
                  have hin426 : ¬ ((6 : Int32) < 0 ∨ cl426.slots.size ≤ ((6 : Int32)).toNatClampNeg) := inb_of Sz426 ⟨by decide, by decide⟩
                  obtain ⟨T426, h426, X426, e426, W426, st426⟩ := stC X423 hx hZ e423 Ar426 (j := (6 : Int32)) hin426 (g := (mkF m 600 #[.val (.int p0), .val (.int p1), .val (.int p2), .val (.int p3), .val (.int p4), .unset] [(.int (97 : Int32)), (.int (6 : Int32)), (.ref b402), (.ref b402), (.ref b399), (.ref b399)])) rfl rfl (hb hby d1_600)
                  have V426 := Arv.set Ar426 q426 Sz426 Nn426 Hh426 Gg426 (fits_nar_char _) W426 6 rfl (Nat.le_of_ble_eq_true rfl)
                  have N426 := Fr.snoc X426 N423 gb402
                  have c427 : Goes p e below s₁ (entryFrame m #[(.int p0), (.int p1), (.int p2), (.int p3), (.int p4)] 6) T426 (mkF m 601 #[.val (.int p0), .val (.int p1), .val (.int p2), .val (.int p3), .val (.int p4), .unset] [(.ref b402), (.ref b399), (.ref b399)]) := fun t kk => c425 t (st426 t kk)
                  have c428 : Goes p e below s₁ (entryFrame m #[(.int p0), (.int p1), (.int p2), (.int p3), (.int p4)] 6) T426 (mkF m 606 #[.val (.int p0), .val (.int p1), .val (.int p2), .val (.int p3), .val (.int p4), .unset] [(.int (100 : Int32)), (.int (7 : Int32)), (.ref b402), (.ref b402), (.ref b399), (.ref b399)]) := by
                    intro t kk
                    refine c427 t ?_
                    show Steps p.tables e below (T426.setTop (mkF m 601 #[.val (.int p0), .val (.int p1), .val (.int p2), .val (.int p3), .val (.int p4), .unset] [(.ref b402), (.ref b399), (.ref b399)])) t
                    refine XS.dup X426.here hx rfl (hb hby d1_601) rfl rfl ?_
                    show Steps p.tables e below (T426.setTop (mkF m 602 #[.val (.int p0), .val (.int p1), .val (.int p2), .val (.int p3), .val (.int p4), .unset] [(.ref b402), (.ref b402), (.ref b399), (.ref b399)])) t
                    refine XS.bipush X426.here hx rfl (hb hby d1_602) ?_
                    show Steps p.tables e below (T426.setTop (mkF m 604 #[.val (.int p0), .val (.int p1), .val (.int p2), .val (.int p3), .val (.int p4), .unset] [(.int (7 : Int32)), (.ref b402), (.ref b402), (.ref b399), (.ref b399)])) t
                    refine XS.bipush X426.here hx rfl (hb hby d1_604) ?_
                    exact kk
                  obtain ⟨cl429, Ar429, q429, Sz429, Nn429, Hh429, Gg429⟩ := id V426
                  have hin429 : ¬ ((7 : Int32) < 0 ∨ cl429.slots.size ≤ ((7 : Int32)).toNatClampNeg) := inb_of Sz429 ⟨by decide, by decide⟩
                  obtain ⟨T429, h429, X429, e429, W429, st429⟩ := stC X426 hx hZ e426 Ar429 (j := (7 : Int32)) hin429 (g := (mkF m 606 #[.val (.int p0), .val (.int p1), .val (.int p2), .val (.int p3), .val (.int p4), .unset] [(.int (100 : Int32)), (.int (7 : Int32)), (.ref b402), (.ref b402), (.ref b399), (.ref b399)])) rfl rfl (hb hby d1_606)
                  have V429 := Arv.set Ar429 q429 Sz429 Nn429 Hh429 Gg429 (fits_nar_char _) W429 7 rfl (Nat.le_of_ble_eq_true rfl)
                  have N429 := Fr.snoc X429 N426 gb402
                  have c430 : Goes p e below s₁ (entryFrame m #[(.int p0), (.int p1), (.int p2), (.int p3), (.int p4)] 6) T429 (mkF m 607 #[.val (.int p0), .val (.int p1), .val (.int p2), .val (.int p3), .val (.int p4), .unset] [(.ref b402), (.ref b399), (.ref b399)]) := fun t kk => c428 t (st429 t kk)
                  have c431 : Goes p e below s₁ (entryFrame m #[(.int p0), (.int p1), (.int p2), (.int p3), (.int p4)] 6) T429 (mkF m 612 #[.val (.int p0), .val (.int p1), .val (.int p2), .val (.int p3), .val (.int p4), .unset] [(.int (101 : Int32)), (.int (8 : Int32)), (.ref b402), (.ref b402), (.ref b399), (.ref b399)]) := by
                    intro t kk
                    refine c430 t ?_
                    show Steps p.tables e below (T429.setTop (mkF m 607 #[.val (.int p0), .val (.int p1), .val (.int p2), .val (.int p3), .val (.int p4), .unset] [(.ref b402), (.ref b399), (.ref b399)])) t
                    refine XS.dup X429.here hx rfl (hb hby d1_607) rfl rfl ?_
                    show Steps p.tables e below (T429.setTop (mkF m 608 #[.val (.int p0), .val (.int p1), .val (.int p2), .val (.int p3), .val (.int p4), .unset] [(.ref b402), (.ref b402), (.ref b399), (.ref b399)])) t
                    refine XS.bipush X429.here hx rfl (hb hby d1_608) ?_
                    show Steps p.tables e below (T429.setTop (mkF m 610 #[.val (.int p0), .val (.int p1), .val (.int p2), .val (.int p3), .val (.int p4), .unset] [(.int (8 : Int32)), (.ref b402), (.ref b402), (.ref b399), (.ref b399)])) t
                    refine XS.bipush X429.here hx rfl (hb hby d1_610) ?_
                    exact kk
                  obtain ⟨cl432, Ar432, q432, Sz432, Nn432, Hh432, Gg432⟩ := id V429
                  have hin432 : ¬ ((8 : Int32) < 0 ∨ cl432.slots.size ≤ ((8 : Int32)).toNatClampNeg) := inb_of Sz432 ⟨by decide, by decide⟩
                  obtain ⟨T432, h432, X432, e432, W432, st432⟩ := stC X429 hx hZ e429 Ar432 (j := (8 : Int32)) hin432 (g := (mkF m 612 #[.val (.int p0), .val (.int p1), .val (.int p2), .val (.int p3), .val (.int p4), .unset] [(.int (101 : Int32)), (.int (8 : Int32)), (.ref b402), (.ref b402), (.ref b399), (.ref b399)])) rfl rfl (hb hby d1_612)
                  have V432 := Arv.set Ar432 q432 Sz432 Nn432 Hh432 Gg432 (fits_nar_char _) W432 8 rfl (Nat.le_of_ble_eq_true rfl)
                  have N432 := Fr.snoc X432 N429 gb402
                  have c433 : Goes p e below s₁ (entryFrame m #[(.int p0), (.int p1), (.int p2), (.int p3), (.int p4)] 6) T432 (mkF m 613 #[.val (.int p0), .val (.int p1), .val (.int p2), .val (.int p3), .val (.int p4), .unset] [(.ref b402), (.ref b399), (.ref b399)]) := fun t kk => c431 t (st432 t kk)
                  have c434 : Goes p e below s₁ (entryFrame m #[(.int p0), (.int p1), (.int p2), (.int p3), (.int p4)] 6) T432 (mkF m 618 #[.val (.int p0), .val (.int p1), .val (.int p2), .val (.int p3), .val (.int p4), .unset] [(.int (100 : Int32)), (.int (9 : Int32)), (.ref b402), (.ref b402), (.ref b399), (.ref b399)]) := by
                    intro t kk
                    refine c433 t ?_
                    show Steps p.tables e below (T432.setTop (mkF m 613 #[.val (.int p0), .val (.int p1), .val (.int p2), .val (.int p3), .val (.int p4), .unset] [(.ref b402), (.ref b399), (.ref b399)])) t
                    refine XS.dup X432.here hx rfl (hb hby d1_613) rfl rfl ?_
                    show Steps p.tables e below (T432.setTop (mkF m 614 #[.val (.int p0), .val (.int p1), .val (.int p2), .val (.int p3), .val (.int p4), .unset] [(.ref b402), (.ref b402), (.ref b399), (.ref b399)])) t
                    refine XS.bipush X432.here hx rfl (hb hby d1_614) ?_
                    show Steps p.tables e below (T432.setTop (mkF m 616 #[.val (.int p0), .val (.int p1), .val (.int p2), .val (.int p3), .val (.int p4), .unset] [(.int (9 : Int32)), (.ref b402), (.ref b402), (.ref b399), (.ref b399)])) t
                    refine XS.bipush X432.here hx rfl (hb hby d1_616) ?_
                    exact kk
                  obtain ⟨cl435, Ar435, q435, Sz435, Nn435, Hh435, Gg435⟩ := id V432
                  have hin435 : ¬ ((9 : Int32) < 0 ∨ cl435.slots.size ≤ ((9 : Int32)).toNatClampNeg) := inb_of Sz435 ⟨by decide, by decide⟩
                  obtain ⟨T435, h435, X435, e435, W435, st435⟩ := stC X432 hx hZ e432 Ar435 (j := (9 : Int32)) hin435 (g := (mkF m 618 #[.val (.int p0), .val (.int p1), .val (.int p2), .val (.int p3), .val (.int p4), .unset] [(.int (100 : Int32)), (.int (9 : Int32)), (.ref b402), (.ref b402), (.ref b399), (.ref b399)])) rfl rfl (hb hby d1_618)
                  have V435 := Arv.set Ar435 q435 Sz435 Nn435 Hh435 Gg435 (fits_nar_char _) W435 9 rfl (Nat.le_of_ble_eq_true rfl)
                  have N435 := Fr.snoc X435 N432 gb402
                  have c436 : Goes p e below s₁ (entryFrame m #[(.int p0), (.int p1), (.int p2), (.int p3), (.int p4)] 6) T435 (mkF m 619 #[.val (.int p0), .val (.int p1), .val (.int p2), .val (.int p3), .val (.int p4), .unset] [(.ref b402), (.ref b399), (.ref b399)]) := fun t kk => c434 t (st435 t kk)
                  have c437 : Goes p e below s₁ (entryFrame m #[(.int p0), (.int p1), (.int p2), (.int p3), (.int p4)] 6) T435 (mkF m 624 #[.val (.int p0), .val (.int p1), .val (.int p2), .val (.int p3), .val (.int p4), .unset] [(.int (45 : Int32)), (.int (10 : Int32)), (.ref b402), (.ref b402), (.ref b399), (.ref b399)]) := by
                    intro t kk
                    refine c436 t ?_
                    show Steps p.tables e below (T435.setTop (mkF m 619 #[.val (.int p0), .val (.int p1), .val (.int p2), .val (.int p3), .val (.int p4), .unset] [(.ref b402), (.ref b399), (.ref b399)])) t
                    refine XS.dup X435.here hx rfl (hb hby d1_619) rfl rfl ?_
                    show Steps p.tables e below (T435.setTop (mkF m 620 #[.val (.int p0), .val (.int p1), .val (.int p2), .val (.int p3), .val (.int p4), .unset] [(.ref b402), (.ref b402), (.ref b399), (.ref b399)])) t
                    refine XS.bipush X435.here hx rfl (hb hby d1_620) ?_
                    show Steps p.tables e below (T435.setTop (mkF m 622 #[.val (.int p0), .val (.int p1), .val (.int p2), .val (.int p3), .val (.int p4), .unset] [(.int (10 : Int32)), (.ref b402), (.ref b402), (.ref b399), (.ref b399)])) t
                    refine XS.bipush X435.here hx rfl (hb hby d1_622) ?_
                    exact kk
                  obtain ⟨cl438, Ar438, q438, Sz438, Nn438, Hh438, Gg438⟩ := id V435
                  have hin438 : ¬ ((10 : Int32) < 0 ∨ cl438.slots.size ≤ ((10 : Int32)).toNatClampNeg) := inb_of Sz438 ⟨by decide, by decide⟩
                  obtain ⟨T438, h438, X438, e438, W438, st438⟩ := stC X435 hx hZ e435 Ar438 (j := (10 : Int32)) hin438 (g := (mkF m 624 #[.val (.int p0), .val (.int p1), .val (.int p2), .val (.int p3), .val (.int p4), .unset] [(.int (45 : Int32)), (.int (10 : Int32)), (.ref b402), (.ref b402), (.ref b399), (.ref b399)])) rfl rfl (hb hby d1_624)
                  have V438 := Arv.set Ar438 q438 Sz438 Nn438 Hh438 Gg438 (fits_nar_char _) W438 10 rfl (Nat.le_of_ble_eq_true rfl)
                  have N438 := Fr.snoc X438 N435 gb402
                  have c439 : Goes p e below s₁ (entryFrame m #[(.int p0), (.int p1), (.int p2), (.int p3), (.int p4)] 6) T438 (mkF m 625 #[.val (.int p0), .val (.int p1), .val (.int p2), .val (.int p3), .val (.int p4), .unset] [(.ref b402), (.ref b399), (.ref b399)]) := fun t kk => c437 t (st438 t kk)
                  have c440 : Goes p e below s₁ (entryFrame m #[(.int p0), (.int p1), (.int p2), (.int p3), (.int p4)] 6) T438 (mkF m 630 #[.val (.int p0), .val (.int p1), .val (.int p2), .val (.int p3), .val (.int p4), .unset] [(.int (110 : Int32)), (.int (11 : Int32)), (.ref b402), (.ref b402), (.ref b399), (.ref b399)]) := by
                    intro t kk
                    refine c439 t ?_
                    show Steps p.tables e below (T438.setTop (mkF m 625 #[.val (.int p0), .val (.int p1), .val (.int p2), .val (.int p3), .val (.int p4), .unset] [(.ref b402), (.ref b399), (.ref b399)])) t
                    refine XS.dup X438.here hx rfl (hb hby d1_625) rfl rfl ?_
                    show Steps p.tables e below (T438.setTop (mkF m 626 #[.val (.int p0), .val (.int p1), .val (.int p2), .val (.int p3), .val (.int p4), .unset] [(.ref b402), (.ref b402), (.ref b399), (.ref b399)])) t
                    refine XS.bipush X438.here hx rfl (hb hby d1_626) ?_
                    show Steps p.tables e below (T438.setTop (mkF m 628 #[.val (.int p0), .val (.int p1), .val (.int p2), .val (.int p3), .val (.int p4), .unset] [(.int (11 : Int32)), (.ref b402), (.ref b402), (.ref b399), (.ref b399)])) t
                    refine XS.bipush X438.here hx rfl (hb hby d1_628) ?_
                    exact kk
                  obtain ⟨cl441, Ar441, q441, Sz441, Nn441, Hh441, Gg441⟩ := id V438
                  have hin441 : ¬ ((11 : Int32) < 0 ∨ cl441.slots.size ≤ ((11 : Int32)).toNatClampNeg) := inb_of Sz441 ⟨by decide, by decide⟩
                  obtain ⟨T441, h441, X441, e441, W441, st441⟩ := stC X438 hx hZ e438 Ar441 (j := (11 : Int32)) hin441 (g := (mkF m 630 #[.val (.int p0), .val (.int p1), .val (.int p2), .val (.int p3), .val (.int p4), .unset] [(.int (110 : Int32)), (.int (11 : Int32)), (.ref b402), (.ref b402), (.ref b399), (.ref b399)])) rfl rfl (hb hby d1_630)
                  have V441 := Arv.set Ar441 q441 Sz441 Nn441 Hh441 Gg441 (fits_nar_char _) W441 11 rfl (Nat.le_of_ble_eq_true rfl)
                  have N441 := Fr.snoc X441 N438 gb402
                  have c442 : Goes p e below s₁ (entryFrame m #[(.int p0), (.int p1), (.int p2), (.int p3), (.int p4)] 6) T441 (mkF m 631 #[.val (.int p0), .val (.int p1), .val (.int p2), .val (.int p3), .val (.int p4), .unset] [(.ref b402), (.ref b399), (.ref b399)]) := fun t kk => c440 t (st441 t kk)
                  have c443 : Goes p e below s₁ (entryFrame m #[(.int p0), (.int p1), (.int p2), (.int p3), (.int p4)] 6) T441 (mkF m 636 #[.val (.int p0), .val (.int p1), .val (.int p2), .val (.int p3), .val (.int p4), .unset] [(.int (111 : Int32)), (.int (12 : Int32)), (.ref b402), (.ref b402), (.ref b399), (.ref b399)]) := by
                    intro t kk
                    refine c442 t ?_
                    show Steps p.tables e below (T441.setTop (mkF m 631 #[.val (.int p0), .val (.int p1), .val (.int p2), .val (.int p3), .val (.int p4), .unset] [(.ref b402), (.ref b399), (.ref b399)])) t
                    refine XS.dup X441.here hx rfl (hb hby d1_631) rfl rfl ?_
                    show Steps p.tables e below (T441.setTop (mkF m 632 #[.val (.int p0), .val (.int p1), .val (.int p2), .val (.int p3), .val (.int p4), .unset] [(.ref b402), (.ref b402), (.ref b399), (.ref b399)])) t
                    refine XS.bipush X441.here hx rfl (hb hby d1_632) ?_
                    show Steps p.tables e below (T441.setTop (mkF m 634 #[.val (.int p0), .val (.int p1), .val (.int p2), .val (.int p3), .val (.int p4), .unset] [(.int (12 : Int32)), (.ref b402), (.ref b402), (.ref b399), (.ref b399)])) t
                    refine XS.bipush X441.here hx rfl (hb hby d1_634) ?_
                    exact kk
                  obtain ⟨cl444, Ar444, q444, Sz444, Nn444, Hh444, Gg444⟩ := id V441
                  have hin444 : ¬ ((12 : Int32) < 0 ∨ cl444.slots.size ≤ ((12 : Int32)).toNatClampNeg) := inb_of Sz444 ⟨by decide, by decide⟩
                  obtain ⟨T444, h444, X444, e444, W444, st444⟩ := stC X441 hx hZ e441 Ar444 (j := (12 : Int32)) hin444 (g := (mkF m 636 #[.val (.int p0), .val (.int p1), .val (.int p2), .val (.int p3), .val (.int p4), .unset] [(.int (111 : Int32)), (.int (12 : Int32)), (.ref b402), (.ref b402), (.ref b399), (.ref b399)])) rfl rfl (hb hby d1_636)
                  have V444 := Arv.set Ar444 q444 Sz444 Nn444 Hh444 Gg444 (fits_nar_char _) W444 12 rfl (Nat.le_of_ble_eq_true rfl)
                  have N444 := Fr.snoc X444 N441 gb402
                  have c445 : Goes p e below s₁ (entryFrame m #[(.int p0), (.int p1), (.int p2), (.int p3), (.int p4)] 6) T444 (mkF m 637 #[.val (.int p0), .val (.int p1), .val (.int p2), .val (.int p3), .val (.int p4), .unset] [(.ref b402), (.ref b399), (.ref b399)]) := fun t kk => c443 t (st444 t kk)
                  have c446 : Goes p e below s₁ (entryFrame m #[(.int p0), (.int p1), (.int p2), (.int p3), (.int p4)] 6) T444 (mkF m 642 #[.val (.int p0), .val (.int p1), .val (.int p2), .val (.int p3), .val (.int p4), .unset] [(.int (45 : Int32)), (.int (13 : Int32)), (.ref b402), (.ref b402), (.ref b399), (.ref b399)]) := by
                    intro t kk
                    refine c445 t ?_
                    show Steps p.tables e below (T444.setTop (mkF m 637 #[.val (.int p0), .val (.int p1), .val (.int p2), .val (.int p3), .val (.int p4), .unset] [(.ref b402), (.ref b399), (.ref b399)])) t
                    refine XS.dup X444.here hx rfl (hb hby d1_637) rfl rfl ?_
                    show Steps p.tables e below (T444.setTop (mkF m 638 #[.val (.int p0), .val (.int p1), .val (.int p2), .val (.int p3), .val (.int p4), .unset] [(.ref b402), (.ref b402), (.ref b399), (.ref b399)])) t
                    refine XS.bipush X444.here hx rfl (hb hby d1_638) ?_
                    show Steps p.tables e below (T444.setTop (mkF m 640 #[.val (.int p0), .val (.int p1), .val (.int p2), .val (.int p3), .val (.int p4), .unset] [(.int (13 : Int32)), (.ref b402), (.ref b402), (.ref b399), (.ref b399)])) t
                    refine XS.bipush X444.here hx rfl (hb hby d1_640) ?_
                    exact kk
                  obtain ⟨cl447, Ar447, q447, Sz447, Nn447, Hh447, Gg447⟩ := id V444
                  have hin447 : ¬ ((13 : Int32) < 0 ∨ cl447.slots.size ≤ ((13 : Int32)).toNatClampNeg) := inb_of Sz447 ⟨by decide, by decide⟩
                  obtain ⟨T447, h447, X447, e447, W447, st447⟩ := stC X444 hx hZ e444 Ar447 (j := (13 : Int32)) hin447 (g := (mkF m 642 #[.val (.int p0), .val (.int p1), .val (.int p2), .val (.int p3), .val (.int p4), .unset] [(.int (45 : Int32)), (.int (13 : Int32)), (.ref b402), (.ref b402), (.ref b399), (.ref b399)])) rfl rfl (hb hby d1_642)
                  have V447 := Arv.set Ar447 q447 Sz447 Nn447 Hh447 Gg447 (fits_nar_char _) W447 13 rfl (Nat.le_of_ble_eq_true rfl)
                  have N447 := Fr.snoc X447 N444 gb402
                  have c448 : Goes p e below s₁ (entryFrame m #[(.int p0), (.int p1), (.int p2), (.int p3), (.int p4)] 6) T447 (mkF m 643 #[.val (.int p0), .val (.int p1), .val (.int p2), .val (.int p3), .val (.int p4), .unset] [(.ref b402), (.ref b399), (.ref b399)]) := fun t kk => c446 t (st447 t kk)
                  have c449 : Goes p e below s₁ (entryFrame m #[(.int p0), (.int p1), (.int p2), (.int p3), (.int p4)] 6) T447 (mkF m 648 #[.val (.int p0), .val (.int p1), .val (.int p2), .val (.int p3), .val (.int p4), .unset] [(.int (114 : Int32)), (.int (14 : Int32)), (.ref b402), (.ref b402), (.ref b399), (.ref b399)]) := by
                    intro t kk
                    refine c448 t ?_
                    show Steps p.tables e below (T447.setTop (mkF m 643 #[.val (.int p0), .val (.int p1), .val (.int p2), .val (.int p3), .val (.int p4), .unset] [(.ref b402), (.ref b399), (.ref b399)])) t
                    refine XS.dup X447.here hx rfl (hb hby d1_643) rfl rfl ?_
                    show Steps p.tables e below (T447.setTop (mkF m 644 #[.val (.int p0), .val (.int p1), .val (.int p2), .val (.int p3), .val (.int p4), .unset] [(.ref b402), (.ref b402), (.ref b399), (.ref b399)])) t
                    refine XS.bipush X447.here hx rfl (hb hby d1_644) ?_
                    show Steps p.tables e below (T447.setTop (mkF m 646 #[.val (.int p0), .val (.int p1), .val (.int p2), .val (.int p3), .val (.int p4), .unset] [(.int (14 : Int32)), (.ref b402), (.ref b402), (.ref b399), (.ref b399)])) t
                    refine XS.bipush X447.here hx rfl (hb hby d1_646) ?_
                    exact kk
                  obtain ⟨cl450, Ar450, q450, Sz450, Nn450, Hh450, Gg450⟩ := id V447
                  have hin450 : ¬ ((14 : Int32) < 0 ∨ cl450.slots.size ≤ ((14 : Int32)).toNatClampNeg) := inb_of Sz450 ⟨by decide, by decide⟩
                  obtain ⟨T450, h450, X450, e450, W450, st450⟩ := stC X447 hx hZ e447 Ar450 (j := (14 : Int32)) hin450 (g := (mkF m 648 #[.val (.int p0), .val (.int p1), .val (.int p2), .val (.int p3), .val (.int p4), .unset] [(.int (114 : Int32)), (.int (14 : Int32)), (.ref b402), (.ref b402), (.ref b399), (.ref b399)])) rfl rfl (hb hby d1_648)
                  have V450 := Arv.set Ar450 q450 Sz450 Nn450 Hh450 Gg450 (fits_nar_char _) W450 14 rfl (Nat.le_of_ble_eq_true rfl)
                  have N450 := Fr.snoc X450 N447 gb402
                  have c451 : Goes p e below s₁ (entryFrame m #[(.int p0), (.int p1), (.int p2), (.int p3), (.int p4)] 6) T450 (mkF m 649 #[.val (.int p0), .val (.int p1), .val (.int p2), .val (.int p3), .val (.int p4), .unset] [(.ref b402), (.ref b399), (.ref b399)]) := fun t kk => c449 t (st450 t kk)
                  have c452 : Goes p e below s₁ (entryFrame m #[(.int p0), (.int p1), (.int p2), (.int p3), (.int p4)] 6) T450 (mkF m 654 #[.val (.int p0), .val (.int p1), .val (.int p2), .val (.int p3), .val (.int p4), .unset] [(.int (101 : Int32)), (.int (15 : Int32)), (.ref b402), (.ref b402), (.ref b399), (.ref b399)]) := by
                    intro t kk
                    refine c451 t ?_
                    show Steps p.tables e below (T450.setTop (mkF m 649 #[.val (.int p0), .val (.int p1), .val (.int p2), .val (.int p3), .val (.int p4), .unset] [(.ref b402), (.ref b399), (.ref b399)])) t
                    refine XS.dup X450.here hx rfl (hb hby d1_649) rfl rfl ?_
                    show Steps p.tables e below (T450.setTop (mkF m 650 #[.val (.int p0), .val (.int p1), .val (.int p2), .val (.int p3), .val (.int p4), .unset] [(.ref b402), (.ref b402), (.ref b399), (.ref b399)])) t
                    refine XS.bipush X450.here hx rfl (hb hby d1_650) ?_
                    show Steps p.tables e below (T450.setTop (mkF m 652 #[.val (.int p0), .val (.int p1), .val (.int p2), .val (.int p3), .val (.int p4), .unset] [(.int (15 : Int32)), (.ref b402), (.ref b402), (.ref b399), (.ref b399)])) t
                    refine XS.bipush X450.here hx rfl (hb hby d1_652) ?_
                    exact kk
                  obtain ⟨cl453, Ar453, q453, Sz453, Nn453, Hh453, Gg453⟩ := id V450
                  have hin453 : ¬ ((15 : Int32) < 0 ∨ cl453.slots.size ≤ ((15 : Int32)).toNatClampNeg) := inb_of Sz453 ⟨by decide, by decide⟩
                  obtain ⟨T453, h453, X453, e453, W453, st453⟩ := stC X450 hx hZ e450 Ar453 (j := (15 : Int32)) hin453 (g := (mkF m 654 #[.val (.int p0), .val (.int p1), .val (.int p2), .val (.int p3), .val (.int p4), .unset] [(.int (101 : Int32)), (.int (15 : Int32)), (.ref b402), (.ref b402), (.ref b399), (.ref b399)])) rfl rfl (hb hby d1_654)
                  have V453 := Arv.set Ar453 q453 Sz453 Nn453 Hh453 Gg453 (fits_nar_char _) W453 15 rfl (Nat.le_of_ble_eq_true rfl)
                  have N453 := Fr.snoc X453 N450 gb402
                  have c454 : Goes p e below s₁ (entryFrame m #[(.int p0), (.int p1), (.int p2), (.int p3), (.int p4)] 6) T453 (mkF m 655 #[.val (.int p0), .val (.int p1), .val (.int p2), .val (.int p3), .val (.int p4), .unset] [(.ref b402), (.ref b399), (.ref b399)]) := fun t kk => c452 t (st453 t kk)
                  have c455 : Goes p e below s₁ (entryFrame m #[(.int p0), (.int p1), (.int p2), (.int p3), (.int p4)] 6) T453 (mkF m 660 #[.val (.int p0), .val (.int p1), .val (.int p2), .val (.int p3), .val (.int p4), .unset] [(.int (116 : Int32)), (.int (16 : Int32)), (.ref b402), (.ref b402), (.ref b399), (.ref b399)]) := by
                    intro t kk
                    refine c454 t ?_
                    show Steps p.tables e below (T453.setTop (mkF m 655 #[.val (.int p0), .val (.int p1), .val (.int p2), .val (.int p3), .val (.int p4), .unset] [(.ref b402), (.ref b399), (.ref b399)])) t
                    refine XS.dup X453.here hx rfl (hb hby d1_655) rfl rfl ?_
                    show Steps p.tables e below (T453.setTop (mkF m 656 #[.val (.int p0), .val (.int p1), .val (.int p2), .val (.int p3), .val (.int p4), .unset] [(.ref b402), (.ref b402), (.ref b399), (.ref b399)])) t
                    refine XS.bipush X453.here hx rfl (hb hby d1_656) ?_
                    show Steps p.tables e below (T453.setTop (mkF m 658 #[.val (.int p0), .val (.int p1), .val (.int p2), .val (.int p3), .val (.int p4), .unset] [(.int (16 : Int32)), (.ref b402), (.ref b402), (.ref b399), (.ref b399)])) t
                    refine XS.bipush X453.here hx rfl (hb hby d1_658) ?_
                    exact kk
                  obtain ⟨cl456, Ar456, q456, Sz456, Nn456, Hh456, Gg456⟩ := id V453
                  have hin456 : ¬ ((16 : Int32) < 0 ∨ cl456.slots.size ≤ ((16 : Int32)).toNatClampNeg) := inb_of Sz456 ⟨by decide, by decide⟩
                  obtain ⟨T456, h456, X456, e456, W456, st456⟩ := stC X453 hx hZ e453 Ar456 (j := (16 : Int32)) hin456 (g := (mkF m 660 #[.val (.int p0), .val (.int p1), .val (.int p2), .val (.int p3), .val (.int p4), .unset] [(.int (116 : Int32)), (.int (16 : Int32)), (.ref b402), (.ref b402), (.ref b399), (.ref b399)])) rfl rfl (hb hby d1_660)
                  have V456 := Arv.set Ar456 q456 Sz456 Nn456 Hh456 Gg456 (fits_nar_char _) W456 16 rfl (Nat.le_of_ble_eq_true rfl)
                  have N456 := Fr.snoc X456 N453 gb402
                  have c457 : Goes p e below s₁ (entryFrame m #[(.int p0), (.int p1), (.int p2), (.int p3), (.int p4)] 6) T456 (mkF m 661 #[.val (.int p0), .val (.int p1), .val (.int p2), .val (.int p3), .val (.int p4), .unset] [(.ref b402), (.ref b399), (.ref b399)]) := fun t kk => c455 t (st456 t kk)
                  have c458 : Goes p e below s₁ (entryFrame m #[(.int p0), (.int p1), (.int p2), (.int p3), (.int p4)] 6) T456 (mkF m 666 #[.val (.int p0), .val (.int p1), .val (.int p2), .val (.int p3), .val (.int p4), .unset] [(.int (114 : Int32)), (.int (17 : Int32)), (.ref b402), (.ref b402), (.ref b399), (.ref b399)]) := by
                    intro t kk
                    refine c457 t ?_
                    show Steps p.tables e below (T456.setTop (mkF m 661 #[.val (.int p0), .val (.int p1), .val (.int p2), .val (.int p3), .val (.int p4), .unset] [(.ref b402), (.ref b399), (.ref b399)])) t
                    refine XS.dup X456.here hx rfl (hb hby d1_661) rfl rfl ?_
                    show Steps p.tables e below (T456.setTop (mkF m 662 #[.val (.int p0), .val (.int p1), .val (.int p2), .val (.int p3), .val (.int p4), .unset] [(.ref b402), (.ref b402), (.ref b399), (.ref b399)])) t
                    refine XS.bipush X456.here hx rfl (hb hby d1_662) ?_
                    show Steps p.tables e below (T456.setTop (mkF m 664 #[.val (.int p0), .val (.int p1), .val (.int p2), .val (.int p3), .val (.int p4), .unset] [(.int (17 : Int32)), (.ref b402), (.ref b402), (.ref b399), (.ref b399)])) t
                    refine XS.bipush X456.here hx rfl (hb hby d1_664) ?_
                    exact kk
                  obtain ⟨cl459, Ar459, q459, Sz459, Nn459, Hh459, Gg459⟩ := id V456
                  have hin459 : ¬ ((17 : Int32) < 0 ∨ cl459.slots.size ≤ ((17 : Int32)).toNatClampNeg) := inb_of Sz459 ⟨by decide, by decide⟩
                  obtain ⟨T459, h459, X459, e459, W459, st459⟩ := stC X456 hx hZ e456 Ar459 (j := (17 : Int32)) hin459 (g := (mkF m 666 #[.val (.int p0), .val (.int p1), .val (.int p2), .val (.int p3), .val (.int p4), .unset] [(.int (114 : Int32)), (.int (17 : Int32)), (.ref b402), (.ref b402), (.ref b399), (.ref b399)])) rfl rfl (hb hby d1_666)
                  have V459 := Arv.set Ar459 q459 Sz459 Nn459 Hh459 Gg459 (fits_nar_char _) W459 17 rfl (Nat.le_of_ble_eq_true rfl)
                  have N459 := Fr.snoc X459 N456 gb402
                  have c460 : Goes p e below s₁ (entryFrame m #[(.int p0), (.int p1), (.int p2), (.int p3), (.int p4)] 6) T459 (mkF m 667 #[.val (.int p0), .val (.int p1), .val (.int p2), .val (.int p3), .val (.int p4), .unset] [(.ref b402), (.ref b399), (.ref b399)]) := fun t kk => c458 t (st459 t kk)
                  have f461 := ((((((((((((((((((((O0.ext E399).ext E402).wr W408 gb402).wr W411 gb402).wr W414 gb402).wr W417 gb402).wr W420 gb402).wr W423 gb402).wr W426 gb402).wr W429 gb402).wr W432 gb402).wr W435 gb402).wr W438 gb402).wr W441 gb402).wr W444 gb402).wr W447 gb402).wr W450 gb402).wr W453 gb402).wr W456 gb402).wr W459 gb402)
                  have f462 := (Nat.le_trans (Nat.le_trans (Nat.le_trans (Nat.le_trans (Nat.le_trans (Nat.le_trans (Nat.le_trans (Nat.le_trans (Nat.le_trans (Nat.le_trans (Nat.le_trans (Nat.le_trans (Nat.le_trans (Nat.le_trans (Nat.le_trans (Nat.le_trans (Nat.le_trans (Nat.le_trans (Nat.le_trans f403 E402.1) (Keep.of_wr W408).1) (Keep.of_wr W411).1) (Keep.of_wr W414).1) (Keep.of_wr W417).1) (Keep.of_wr W420).1) (Keep.of_wr W423).1) (Keep.of_wr W426).1) (Keep.of_wr W429).1) (Keep.of_wr W432).1) (Keep.of_wr W435).1) (Keep.of_wr W438).1) (Keep.of_wr W441).1) (Keep.of_wr W444).1) (Keep.of_wr W447).1) (Keep.of_wr W450).1) (Keep.of_wr W453).1) (Keep.of_wr W456).1) (Keep.of_wr W459).1)
                  have f463 := (((((((((((((((((((A399.ext E402).wr W408).wr W411).wr W414).wr W417).wr W420).wr W423).wr W426).wr W429).wr W432).wr W435).wr W438).wr W441).wr W444).wr W447).wr W450).wr W453).wr W456).wr W459)
                  have f464 := (((((((((((((((((((F_value_b399.ext E402).other W408 (Or.inl neb399_402)).other W411 (Or.inl neb399_402)).other W414 (Or.inl neb399_402)).other W417 (Or.inl neb399_402)).other W420 (Or.inl neb399_402)).other W423 (Or.inl neb399_402)).other W426 (Or.inl neb399_402)).other W429 (Or.inl neb399_402)).other W432 (Or.inl neb399_402)).other W435 (Or.inl neb399_402)).other W438 (Or.inl neb399_402)).other W441 (Or.inl neb399_402)).other W444 (Or.inl neb399_402)).other W447 (Or.inl neb399_402)).other W450 (Or.inl neb399_402)).other W453 (Or.inl neb399_402)).other W456 (Or.inl neb399_402)).other W459 (Or.inl neb399_402))
                  have f465 := (((((((((((((((((((F_coder_b399.ext E402).other W408 (Or.inl neb399_402)).other W411 (Or.inl neb399_402)).other W414 (Or.inl neb399_402)).other W417 (Or.inl neb399_402)).other W420 (Or.inl neb399_402)).other W423 (Or.inl neb399_402)).other W426 (Or.inl neb399_402)).other W429 (Or.inl neb399_402)).other W432 (Or.inl neb399_402)).other W435 (Or.inl neb399_402)).other W438 (Or.inl neb399_402)).other W441 (Or.inl neb399_402)).other W444 (Or.inl neb399_402)).other W447 (Or.inl neb399_402)).other W450 (Or.inl neb399_402)).other W453 (Or.inl neb399_402)).other W456 (Or.inl neb399_402)).other W459 (Or.inl neb399_402))
                  obtain ⟨_, _, ⟨T466, L466, k466, n466⟩, -, X466, ⟨Lc466, hQ466, l466, y466, z466⟩, st466⟩ := X459.specialBack hx (y := (⟨"java/lang/String", "<init>", "([C)V"⟩ : MethodName)) rfl hown (mvT hZ (hw _ (List.mem_of_getElem? (i := 21) rfl))) (mvT hZ (hw _ (List.mem_of_getElem? (i := 22) rfl))) (mvT hZ (hw _ (List.mem_of_getElem? (i := 23) rfl))) (by decide) (StrChars.Road.backV (W := 1) hZ (own_wmk hw) (kI := 4) (hw _ (List.mem_of_getElem? (i := 19) rfl)) (cs := ([(nar .char (111 : Int32)), (nar .char (118 : Int32)), (nar .char (101 : Int32)), (nar .char (114 : Int32)), (nar .char (108 : Int32)), (nar .char (111 : Int32)), (nar .char (97 : Int32)), (nar .char (100 : Int32)), (nar .char (101 : Int32)), (nar .char (100 : Int32)), (nar .char (45 : Int32)), (nar .char (110 : Int32)), (nar .char (111 : Int32)), (nar .char (45 : Int32)), (nar .char (114 : Int32)), (nar .char (101 : Int32)), (nar .char (116 : Int32)), (nar .char (114 : Int32))] : List Int32)) (bs := (([(nar .char (111 : Int32)), (nar .char (118 : Int32)), (nar .char (101 : Int32)), (nar .char (114 : Int32)), (nar .char (108 : Int32)), (nar .char (111 : Int32)), (nar .char (97 : Int32)), (nar .char (100 : Int32)), (nar .char (101 : Int32)), (nar .char (100 : Int32)), (nar .char (45 : Int32)), (nar .char (110 : Int32)), (nar .char (111 : Int32)), (nar .char (45 : Int32)), (nar .char (114 : Int32)), (nar .char (101 : Int32)), (nar .char (116 : Int32)), (nar .char (114 : Int32))] : List Int32)).map StrChars.lo8) (n := 18) gb399 f462 f463 f464 f465 V459 (S2.ext f461.2) hz rfl rfl (by decide) (by decide) (own_two (by decide) (own_two (by decide) (own_two (by decide) (own_two (by decide) (own_two (by decide) (own_two (by decide) (own_two (by decide) (own_two (by decide) (own_two (by decide) (own_two (by decide) (own_two (by decide) (own_two (by decide) (own_two (by decide) (own_two (by decide) (own_two (by decide) (own_two (by decide) (own_two (by decide) (own_two (by decide) own_nil)))))))))))))))))) rfl (by decide) (by decide)) (g := (mkF m 667 #[.val (.int p0), .val (.int p1), .val (.int p2), .val (.int p3), .val (.int p4), .unset] [(.ref b402), (.ref b399), (.ref b399)])) rfl (by rw [hml]; rfl) (Steps.refl _) (a := b399) (argsL := [(.ref b402)]) (rest := [(.ref b399)]) (lenOf pd___C_V rfl) rfl (by show 2 * 0 + _ ≤ _; exact Nat.le_of_eq rfl) (hb hby d1_667) (fun _ _ => ⟨rfl, e459, (by decide : 2 + 1 ≤ _), (by decide : 22 + 18 ≤ _)⟩)
                  dsimp only [Pt.U, Pt.locs, Pt.cells, Pt.slots] at X466 l466 y466 z466 st466 hQ466
                  subst l466 y466 z466
                  obtain ⟨rfl, Nq466, Kq466, Eq466, Cq466, t466, kb466, gt466, szt466, net466, Vq466, Aq466⟩ := hQ466
                  have N466 := Fr.app N459 Nq466
                  have c467 : Goes p e below s₁ (entryFrame m #[(.int p0), (.int p1), (.int p2), (.int p3), (.int p4)] 6) T466 (mkF m 670 #[.val (.int p0), .val (.int p1), .val (.int p2), .val (.int p3), .val (.int p4), .unset] [(.ref b399)]) := fun t kk => c460 t (st466.trans kk)
                  have Str466 : own_str Z T466.heap b399 ([(nar .char (111 : Int32)), (nar .char (118 : Int32)), (nar .char (101 : Int32)), (nar .char (114 : Int32)), (nar .char (108 : Int32)), (nar .char (111 : Int32)), (nar .char (97 : Int32)), (nar .char (100 : Int32)), (nar .char (101 : Int32)), (nar .char (100 : Int32)), (nar .char (45 : Int32)), (nar .char (110 : Int32)), (nar .char (111 : Int32)), (nar .char (45 : Int32)), (nar .char (114 : Int32)), (nar .char (101 : Int32)), (nar .char (116 : Int32)), (nar .char (114 : Int32))] : List Int32) := ⟨Eq466, Cq466, (own_two (by decide) (own_two (by decide) (own_two (by decide) (own_two (by decide) (own_two (by decide) (own_two (by decide) (own_two (by decide) (own_two (by decide) (own_two (by decide) (own_two (by decide) (own_two (by decide) (own_two (by decide) (own_two (by decide) (own_two (by decide) (own_two (by decide) (own_two (by decide) (own_two (by decide) (own_two (by decide) own_nil)))))))))))))))))), t466, kb466, Vq466, Aq466⟩
                  have f468 := ((((((((((((((((((((f405.ext E402).wr W408 (Or.inr szb402_402)).wr W411 (Or.inr szb402_402)).wr W414 (Or.inr szb402_402)).wr W417 (Or.inr szb402_402)).wr W420 (Or.inr szb402_402)).wr W423 (Or.inr szb402_402)).wr W426 (Or.inr szb402_402)).wr W429 (Or.inr szb402_402)).wr W432 (Or.inr szb402_402)).wr W435 (Or.inr szb402_402)).wr W438 (Or.inr szb402_402)).wr W441 (Or.inr szb402_402)).wr W444 (Or.inr szb402_402)).wr W447 (Or.inr szb402_402)).wr W450 (Or.inr szb402_402)).wr W453 (Or.inr szb402_402)).wr W456 (Or.inr szb402_402)).wr W459 (Or.inr szb402_402)).trans Kq466 (allS (Or.inr szb399_399) all0))
                  have f469 := (Nat.le_trans (Nat.le_trans (Nat.le_trans (Nat.le_trans (Nat.le_trans (Nat.le_trans (Nat.le_trans (Nat.le_trans (Nat.le_trans (Nat.le_trans (Nat.le_trans (Nat.le_trans (Nat.le_trans (Nat.le_trans (Nat.le_trans (Nat.le_trans (Nat.le_trans (Nat.le_trans (Nat.le_trans (Nat.le_trans (Nat.le_trans (Nat.zero_le _) E399.1) E402.1) (Keep.of_wr W408).1) (Keep.of_wr W411).1) (Keep.of_wr W414).1) (Keep.of_wr W417).1) (Keep.of_wr W420).1) (Keep.of_wr W423).1) (Keep.of_wr W426).1) (Keep.of_wr W429).1) (Keep.of_wr W432).1) (Keep.of_wr W435).1) (Keep.of_wr W438).1) (Keep.of_wr W441).1) (Keep.of_wr W444).1) (Keep.of_wr W447).1) (Keep.of_wr W450).1) (Keep.of_wr W453).1) (Keep.of_wr W456).1) (Keep.of_wr W459).1) Kq466.1)
                  obtain ⟨fs, hr, hrun, hended, hRW⟩ := X466.leaveW SW0 f469 (v := some (.ref b399)) (fun h => by rw [Bd.returns] at h; cases h)
                  have f470 := ((((((((((((((((((((f404.ext E402).wr W408 (Or.inr szbb402_402)).wr W411 (Or.inr szbb402_402)).wr W414 (Or.inr szbb402_402)).wr W417 (Or.inr szbb402_402)).wr W420 (Or.inr szbb402_402)).wr W423 (Or.inr szbb402_402)).wr W426 (Or.inr szbb402_402)).wr W429 (Or.inr szbb402_402)).wr W432 (Or.inr szbb402_402)).wr W435 (Or.inr szbb402_402)).wr W438 (Or.inr szbb402_402)).wr W441 (Or.inr szbb402_402)).wr W444 (Or.inr szbb402_402)).wr W447 (Or.inr szbb402_402)).wr W450 (Or.inr szbb402_402)).wr W453 (Or.inr szbb402_402)).wr W456 (Or.inr szbb402_402)).wr W459 (Or.inr szbb402_402)).trans Kq466 (allS (Or.inr szbb399_399) all0))
                  have hCRe := (CHr.keep f470 sf0 hCH0)
                  have hCRt : CHr Z consts_1 s.vm s.heap (T466.setFrames fs).vm (T466.setFrames fs).heap := by
                    rw [hh]
                    show CHr Z consts_1 s.vm h0 T466.vm T466.heap
                    exact hCRe.trans (CHv.at X466 hZ hEL hCRe.1)
                  refine ⟨_, _, c467 _ ?_, hrun, hended, _, _, rfl, ?_, hCRt, hRW.1, hRW.2.1, hRW.2.2.1, hRW.2.2.2.mono (by decide) (by decide)⟩
                  · exact retOut X466 hx Bd.returns rfl (Or.inr (Or.inr (Or.inr (Or.inr ⟨rfl, rfl, rfl⟩)))) (hb hby d1_670) hr
                  · show Q_mk Z p0 p1 p2 p3 p4 z h0 n0 _ T466.heap _
                    exact ⟨.ref b399, rfl, N466, f468, Or.inr ⟨b399, ([(nar .char (111 : Int32)), (nar .char (118 : Int32)), (nar .char (101 : Int32)), (nar .char (114 : Int32)), (nar .char (108 : Int32)), (nar .char (111 : Int32)), (nar .char (97 : Int32)), (nar .char (100 : Int32)), (nar .char (101 : Int32)), (nar .char (100 : Int32)), (nar .char (45 : Int32)), (nar .char (110 : Int32)), (nar .char (111 : Int32)), (nar .char (45 : Int32)), (nar .char (114 : Int32)), (nar .char (101 : Int32)), (nar .char (116 : Int32)), (nar .char (114 : Int32))] : List Int32), rfl, Str466, (by simp)⟩⟩
theorem d10_0 : decode jdk_42_method_66_code 0 = .ok (.aload_n 0, 1) := by decide +kernel
theorem d10_1 : decode jdk_42_method_66_code 1 = .ok (.aload_n 1, 1) := by decide +kernel
theorem d10_2 : decode jdk_42_method_66_code 2 = .ok (.if_acmp .ne 5, 3) := by decide +kernel
theorem d10_7 : decode jdk_42_method_66_code 7 = .ok (.aload_n 1, 1) := by decide +kernel
theorem d10_8 : decode jdk_42_method_66_code 8 = .ok (.instanceof 10, 3) := by decide +kernel
theorem d10_11 : decode jdk_42_method_66_code 11 = .ok (.ifCond .eq 43, 3) := by decide +kernel
theorem d10_54 : decode jdk_42_method_66_code 54 = .ok (.iconst 0, 1) := by decide +kernel
theorem d10_55 : decode jdk_42_method_66_code 55 = .ok (.ireturn, 1) := by decide +kernel
theorem ef_eqn (m : MethodId) (x0 : Addr) : entryFrame m #[(.ref x0), .null] 3 = mkF m 0 #[.val (.ref x0), .val .null, .unset] [] := by (first | (simp [entryFrame, mkF, argsToLocals, Value.category]; done) | rfl)
def Q_eqn (Z : State) (a1 : Addr) (h0 : Heap) (n0 : Nat) (v : Option Value) (h : Heap) (L : List Loc) : Prop := v = some (.int 0) ∧ Fr n0 L ∧ h = h0
set_option maxRecDepth 65536 in
set_option maxHeartbeats 40000000 in
theorem rm_eqn (l : Launch) (Z : State) (a0 : Array Value) (hw : ∀ d ∈ tables_1, d.before a0 Z = true) (ws : List Jvm.Cond) (a1 : Addr) (h0 : Heap) (n0 : Nat) (Z0 : n0 ≤ h0.size)  :
    MetFree l (⟨"java/lang/String", "equals", "(Ljava/lang/Object;)Z"⟩ : MethodName) (head1 (Jvm.Cond.code (⟨"java/lang/String", "equals", "(Ljava/lang/Object;)Z"⟩ : MethodName) jdk_42_method_66_code 3 (some .boolean) :: ws) ({ frames := 0, cells := 0, slots := 0, locals := 0 } : Room)) (fun a U => a = #[(.ref a1), .null] ∧ Z.Warmed39 U.vm ∧ U.heap = h0) (fun _ _ _ _ _ => True) (fun _ U o U' => ∃ v L, o = .returned v ∧ Q_eqn Z a1 h0 n0 v U'.heap L ∧ FrameEnd U o U' L ({ frames := 0, cells := 0, slots := 0, locals := 0 } : Room).cells ({ frames := 0, cells := 0, slots := 0, locals := 0 } : Room).slots) := by
  refine MetFree.of_bodySF (plainFor_of_name pn_5) hisR ?_
  intro p e s m args below meth c s₁ Bd hml0 hP hK
  obtain ⟨rfl, hZ, hh⟩ := hP
  have hx := Bd.exec
  have hby := Bd.bytes
  have hml : c.maxLocals = 3 := hml0
  have hown : s.vm.findClass "java/lang/String" = some m.cls := findClass_of_methodNamed Bd.named
  have hnm := (name_of_methodNamed Bd.named Bd.method).1
  have X0 : Stand p l e ({ frames := 0, cells := 0, slots := 0, locals := 0 } : Room) s m #[(.ref a1), .null] below meth c s₁ [] 0 0 := Stand.of_body Bd
  have e0 : s₁.heap = h0 := by rw [← hh, Bd.state]; rfl
  have N0 := Fr.nil n0
  have c0 : Goes p e below s₁ (entryFrame m #[(.ref a1), .null] 3) s₁ (mkF m 0 #[.val (.ref a1), .val .null, .unset] []) := fun t k => castTop (ef_eqn m a1) k
  have c471 : Goes p e below s₁ (entryFrame m #[(.ref a1), .null] 3) s₁ (mkF m 55 #[.val (.ref a1), .val .null, .unset] [(.int (0 : Int32))]) := by
    intro t kk
    refine c0 t ?_
    show Steps p.tables e below (s₁.setTop (mkF m 0 #[.val (.ref a1), .val .null, .unset] [])) t
    refine XS.aloadN X0.here hx rfl (hb hby d10_0) rfl rfl ?_
    show Steps p.tables e below (s₁.setTop (mkF m 1 #[.val (.ref a1), .val .null, .unset] [(.ref a1)])) t
    refine XS.aloadN X0.here hx rfl (hb hby d10_1) rfl rfl ?_
    show Steps p.tables e below (s₁.setTop (mkF m 2 #[.val (.ref a1), .val .null, .unset] [.null, (.ref a1)])) t
    refine Jvm.RoadKit.acmp (g := (mkF m 2 #[.val (.ref a1), .val .null, .unset] [.null, (.ref a1)])) X0 hx rfl rfl rfl (pc0 := 2) (pc' := 7) (same := false) rfl (hb hby d10_2) rfl (decide_eq_false nofun) (by decide) (by decide) ?_
    show Steps p.tables e below (s₁.setTop (mkF m 7 #[.val (.ref a1), .val .null, .unset] [])) t
    refine XS.aloadN X0.here hx rfl (hb hby d10_7) rfl rfl ?_
    show Steps p.tables e below (s₁.setTop (mkF m 8 #[.val (.ref a1), .val .null, .unset] [.null])) t
    refine X0.instanceofNull hx (g := (mkF m 8 #[.val (.ref a1), .val .null, .unset] [.null])) rfl rfl (hb hby d10_8) _ ?_
    show Steps p.tables e below (s₁.setTop (mkF m 11 #[.val (.ref a1), .val .null, .unset] [(.int (0 : Int32))])) t
    refine XS.ifYes X0.here hx rfl (pc0 := 11) (pc' := 54) rfl (hb hby d10_11) rfl ((if0 _ _).trans (teq (rfl : (0 : Int32) = (0 : Int32))).1) (by decide) (by decide) ?_
    show Steps p.tables e below (s₁.setTop (mkF m 54 #[.val (.ref a1), .val .null, .unset] [])) t
    refine XS.iconst X0.here hx rfl (hb hby d10_54) ?_
    exact kk
  obtain ⟨fs, hr, hrun, hended, hW, hsame⟩ := X0.leave (v := some (.int (0 : Int32))) (fun h => by rw [Bd.returns] at h; cases h)
  refine ⟨_, _, c471 _ ?_, hrun, hended, _, _, rfl, ?_, ⟨_, rfl⟩, hW, hsame.mono (by decide) (by decide)⟩
  · exact retN X0 hx (t := .boolean) Bd.returns (by simp) (hb hby d10_55) hr
  · show Q_eqn Z a1 h0 n0 _ s₁.heap _
    rw [e0]
    exact ⟨rfl, N0, rfl⟩
theorem d2_0 : decode method_4_code 0 = .ok (.iload_n 0, 1) := by decide +kernel
theorem d2_1 : decode method_4_code 1 = .ok (.sipush 503, 3) := by decide +kernel
theorem d2_4 : decode method_4_code 4 = .ok (.if_icmp .ne 7, 3) := by decide +kernel
theorem d2_7 : decode method_4_code 7 = .ok (.aload_n 1, 1) := by decide +kernel
theorem d2_8 : decode method_4_code 8 = .ok (.ifnonnull 5, 3) := by decide +kernel
theorem d2_11 : decode method_4_code 11 = .ok (.aconst_null, 1) := by decide +kernel
theorem d2_12 : decode method_4_code 12 = .ok (.areturn, 1) := by decide +kernel
theorem ef_rfn (m : MethodId) (x0 : Int32) : entryFrame m #[(.int x0), .null] 2 = mkF m 0 #[.val (.int x0), .val .null] [] := by (first | (simp [entryFrame, mkF, argsToLocals, Value.category]; done) | rfl)
def Q_rfn (Z : State) (p1 : Int32) (h0 : Heap) (n0 : Nat) (v : Option Value) (h : Heap) (L : List Loc) : Prop := v = some .null ∧ Fr n0 L ∧ h = h0
set_option maxRecDepth 65536 in
set_option maxHeartbeats 40000000 in
theorem rm_rfn (l : Launch) (Z : State) (a0 : Array Value) (hw : ∀ d ∈ tables_1, d.before a0 Z = true) (ws : List Jvm.Cond) (p1 : Int32) (h0 : Heap) (n0 : Nat) (Z0 : n0 ≤ h0.size) (hEL : EW Z a0 consts_1) :
    MetFree l (⟨"com/example/ventil/ventil/RejectionOfPinLaw", "reference", "(ILjava/lang/String;)Lcom/example/ventil/ventil/Rejection;"⟩ : MethodName) (head1 (Jvm.Cond.code (⟨"com/example/ventil/ventil/RejectionOfPinLaw", "reference", "(ILjava/lang/String;)Lcom/example/ventil/ventil/Rejection;"⟩ : MethodName) method_4_code 2 (some (.object "com/example/ventil/ventil/Rejection")) :: ws) ({ frames := 0, cells := 0, slots := 0, locals := 0 } : Room)) (fun a U => a = #[(.int p1), .null] ∧ Z.Warmed39 U.vm ∧ U.heap = h0 ∧ CHv Z consts_1 U.vm h0) (fun _ _ _ _ _ => True) (fun _ U o U' => ∃ v L, o = .returned v ∧ Q_rfn Z p1 h0 n0 v U'.heap L ∧ CHr Z consts_1 U.vm U.heap U'.vm U'.heap ∧ ReturnedEndW U o U' L ({ frames := 0, cells := 0, slots := 0, locals := 0 } : Room).cells ({ frames := 0, cells := 0, slots := 0, locals := 0 } : Room).slots) := by
  refine MetFree.of_bodySF (plainFor_of_name pn_1) hisR ?_
  intro p e s m args below meth c s₁ Bd hml0 hP hK
  obtain ⟨rfl, hZ, hh, hCH0⟩ := hP
  have hx := Bd.exec
  have hby := Bd.bytes
  have hml : c.maxLocals = 2 := hml0
  have hown : s.vm.findClass "com/example/ventil/ventil/RejectionOfPinLaw" = some m.cls := findClass_of_methodNamed Bd.named
  have hnm := (name_of_methodNamed Bd.named Bd.method).1
  have X0 : Stand p l e ({ frames := 0, cells := 0, slots := 0, locals := 0 } : Room) s m #[(.int p1), .null] below meth c s₁ [] 0 0 := Stand.of_body Bd
  have e0 : s₁.heap = h0 := by rw [← hh, Bd.state]; rfl
  have N0 := Fr.nil n0
  have c0 : Goes p e below s₁ (entryFrame m #[(.int p1), .null] 2) s₁ (mkF m 0 #[.val (.int p1), .val .null] []) := fun t k => castTop (ef_rfn m p1) k
  have XW0 : Stand p l e ({ frames := 0, cells := 0, slots := 0, locals := 0 } : Room) (s.setVm s.vm) m #[(.int p1), .null] below meth c s₁ [] 0 0 := X0
  have SW0 : s.Since s.vm 0 := (State.WarmedH.refl s).since 0
  have c472 : Goes p e below s₁ (entryFrame m #[(.int p1), .null] 2) s₁ (mkF m 4 #[.val (.int p1), .val .null] [(.int (503 : Int32)), (.int p1)]) := by
    intro t kk
    refine c0 t ?_
    show Steps p.tables e below (s₁.setTop (mkF m 0 #[.val (.int p1), .val .null] [])) t
    refine XS.iloadN XW0.here hx rfl (hb hby d2_0) rfl ?_
    show Steps p.tables e below (s₁.setTop (mkF m 1 #[.val (.int p1), .val .null] [(.int p1)])) t
    refine XS.sipush XW0.here hx rfl (hb hby d2_1) ?_
    exact kk
  by_cases hc4_473 : p1 = (503 : Int32)
  · have c474 : Goes p e below s₁ (entryFrame m #[(.int p1), .null] 2) s₁ (mkF m 12 #[.val (.int p1), .val .null] [.null]) := by
      intro t kk
      refine c472 t ?_
      show Steps p.tables e below (s₁.setTop (mkF m 4 #[.val (.int p1), .val .null] [(.int (503 : Int32)), (.int p1)])) t
      refine XS.icmpNo XW0.here hx rfl (hb hby d2_4) rfl (teq hc4_473).2 ?_
      show Steps p.tables e below (s₁.setTop (mkF m 7 #[.val (.int p1), .val .null] [])) t
      refine XS.aloadN XW0.here hx rfl (hb hby d2_7) rfl rfl ?_
      show Steps p.tables e below (s₁.setTop (mkF m 8 #[.val (.int p1), .val .null] [.null])) t
      refine XS.ifnonnullNo XW0.here hx rfl (hb hby d2_8) rfl ?_
      show Steps p.tables e below (s₁.setTop (mkF m 11 #[.val (.int p1), .val .null] [])) t
      refine XS.aconstNull XW0.here hx rfl (hb hby d2_11) ?_
      exact kk
    obtain ⟨fs, hr, hrun, hended, hRW⟩ := XW0.leaveW SW0 (by rw [e0]; exact (Nat.zero_le _)) (v := some .null) (fun h => by rw [Bd.returns] at h; cases h)
    have hCRe := (CHr.keep (Keep.refl h0 []) sf0 hCH0)
    have hCRt : CHr Z consts_1 s.vm s.heap (s₁.setFrames fs).vm (s₁.setFrames fs).heap := by
      rw [hh]
      show CHr Z consts_1 s.vm h0 s₁.vm s₁.heap
      rw [e0]
      exact hCRe.trans (CHv.at XW0 hZ hEL hCRe.1)
    refine ⟨_, _, c474 _ ?_, hrun, hended, _, _, rfl, ?_, hCRt, hRW.1, hRW.2.1, hRW.2.2.1, hRW.2.2.2.mono (by decide) (by decide)⟩
    · exact retOut XW0 hx Bd.returns rfl (Or.inr (Or.inr (Or.inr (Or.inr ⟨rfl, rfl, rfl⟩)))) (hb hby d2_12) hr
    · show Q_rfn Z p1 h0 n0 _ s₁.heap _
      rw [e0]
      exact ⟨rfl, N0, rfl⟩
  · have c475 : Goes p e below s₁ (entryFrame m #[(.int p1), .null] 2) s₁ (mkF m 12 #[.val (.int p1), .val .null] [.null]) := by
      intro t kk
      refine c472 t ?_
      show Steps p.tables e below (s₁.setTop (mkF m 4 #[.val (.int p1), .val .null] [(.int (503 : Int32)), (.int p1)])) t
      refine XS.icmpYes XW0.here hx rfl (pc0 := 4) (pc' := 11) rfl (hb hby d2_4) rfl (feq hc4_473).2 (by decide) (by decide) ?_
      show Steps p.tables e below (s₁.setTop (mkF m 11 #[.val (.int p1), .val .null] [])) t
      refine XS.aconstNull XW0.here hx rfl (hb hby d2_11) ?_
      exact kk
    obtain ⟨fs, hr, hrun, hended, hRW⟩ := XW0.leaveW SW0 (by rw [e0]; exact (Nat.zero_le _)) (v := some .null) (fun h => by rw [Bd.returns] at h; cases h)
    have hCRe := (CHr.keep (Keep.refl h0 []) sf0 hCH0)
    have hCRt : CHr Z consts_1 s.vm s.heap (s₁.setFrames fs).vm (s₁.setFrames fs).heap := by
      rw [hh]
      show CHr Z consts_1 s.vm h0 s₁.vm s₁.heap
      rw [e0]
      exact hCRe.trans (CHv.at XW0 hZ hEL hCRe.1)
    refine ⟨_, _, c475 _ ?_, hrun, hended, _, _, rfl, ?_, hCRt, hRW.1, hRW.2.1, hRW.2.2.1, hRW.2.2.2.mono (by decide) (by decide)⟩
    · exact retOut XW0 hx Bd.returns rfl (Or.inr (Or.inr (Or.inr (Or.inr ⟨rfl, rfl, rfl⟩)))) (hb hby d2_12) hr
    · show Q_rfn Z p1 h0 n0 _ s₁.heap _
      rw [e0]
      exact ⟨rfl, N0, rfl⟩
theorem d2_13 : decode method_4_code 13 = .ok (.aload_n 1, 1) := by decide +kernel
theorem d2_14 : decode method_4_code 14 = .ok (.ldc 28, 2) := by decide +kernel
theorem d2_16 : decode method_4_code 16 = .ok (.invokevirtual 30, 3) := by decide +kernel
theorem d2_19 : decode method_4_code 19 = .ok (.ifCond .eq 7, 3) := by decide +kernel
theorem d2_22 : decode method_4_code 22 = .ok (.getstatic 34, 3) := by decide +kernel
theorem d2_25 : decode method_4_code 25 = .ok (.areturn, 1) := by decide +kernel
theorem d2_26 : decode method_4_code 26 = .ok (.aload_n 1, 1) := by decide +kernel
theorem d2_27 : decode method_4_code 27 = .ok (.ldc 38, 2) := by decide +kernel
theorem d2_29 : decode method_4_code 29 = .ok (.invokevirtual 30, 3) := by decide +kernel
theorem d2_32 : decode method_4_code 32 = .ok (.ifCond .eq 7, 3) := by decide +kernel
theorem d2_35 : decode method_4_code 35 = .ok (.getstatic 40, 3) := by decide +kernel
theorem d2_38 : decode method_4_code 38 = .ok (.areturn, 1) := by decide +kernel
theorem d2_39 : decode method_4_code 39 = .ok (.aconst_null, 1) := by decide +kernel
theorem d2_40 : decode method_4_code 40 = .ok (.areturn, 1) := by decide +kernel
theorem pd__Ljava_lang_Object__Z : parseMethodDescriptor "(Ljava/lang/Object;)Z" = some ⟨[(.object "java/lang/Object")], some .boolean⟩ := by decide +kernel
theorem ef_rfr (m : MethodId) (x0 : Int32) (x1 : Addr) : entryFrame m #[(.int x0), (.ref x1)] 2 = mkF m 0 #[.val (.int x0), .val (.ref x1)] [] := by (first | (simp [entryFrame, mkF, argsToLocals, Value.category]; done) | rfl)
def Q_rfr (Z : State) (p1 : Int32) (a1 : Addr) (cs : List Int32) (z : Int32) (wO : Addr) (wN : Addr) (h0 : Heap) (n0 : Nat) (v : Option Value) (h : Heap) (L : List Loc) : Prop := v = some (own_rj p1 cs wO wN) ∧ Fr n0 L ∧ Keep h0 h []
set_option maxRecDepth 65536 in
set_option maxHeartbeats 40000000 in
theorem rm_rfr (l : Launch) (Z : State) (a0 : Array Value) (hw : ∀ d ∈ tables_1, d.before a0 Z = true) (ws : List Jvm.Cond) (p1 : Int32) (a1 : Addr) (cs : List Int32) (z : Int32) (wO : Addr) (wN : Addr) (h0 : Heap) (n0 : Nat) (Z0 : n0 ≤ h0.size) (hEL : EW Z a0 consts_1) (O0 : Old Z n0 h0) (S2 : Sta Z Z.heap "java/lang/String" "COMPACT_STRINGS" "Z" (.int z)) (hz : ¬ z = 0) (S_O : Sta Z Z.heap "com/example/ventil/ventil/Rejection" "OVERLOADED" "Lcom/example/ventil/ventil/Rejection;" (.ref wO)) (S_N : Sta Z Z.heap "com/example/ventil/ventil/Rejection" "OVERLOADED_NO_RETRY" "Lcom/example/ventil/ventil/Rejection;" (.ref wN)) (hs : own_str Z h0 a1 cs) (hl : cs.length ≤ 19) :
    MetFree l (⟨"com/example/ventil/ventil/RejectionOfPinLaw", "reference", "(ILjava/lang/String;)Lcom/example/ventil/ventil/Rejection;"⟩ : MethodName) (head1 (Jvm.Cond.code (⟨"com/example/ventil/ventil/RejectionOfPinLaw", "reference", "(ILjava/lang/String;)Lcom/example/ventil/ventil/Rejection;"⟩ : MethodName) method_4_code 2 (some (.object "com/example/ventil/ventil/Rejection")) :: ws) ({ frames := 2, cells := 4, slots := 124, locals := 28 } : Room)) (fun a U => a = #[(.int p1), (.ref a1)] ∧ Z.Warmed39 U.vm ∧ U.heap = h0 ∧ CHv Z consts_1 U.vm h0) (fun _ _ _ _ _ => True) (fun _ U o U' => ∃ v L, o = .returned v ∧ Q_rfr Z p1 a1 cs z wO wN h0 n0 v U'.heap L ∧ CHr Z consts_1 U.vm U.heap U'.vm U'.heap ∧ ReturnedEndW U o U' L ({ frames := 2, cells := 4, slots := 124, locals := 28 } : Room).cells ({ frames := 2, cells := 4, slots := 124, locals := 28 } : Room).slots) := by
  refine MetFree.of_bodySF (plainFor_of_name pn_1) hisR ?_
  intro p e s m args below meth c s₁ Bd hml0 hP hK
  obtain ⟨rfl, hZ, hh, hCH0⟩ := hP
  have hx := Bd.exec
  have hby := Bd.bytes
  have hml : c.maxLocals = 2 := hml0
  have hown : s.vm.findClass "com/example/ventil/ventil/RejectionOfPinLaw" = some m.cls := findClass_of_methodNamed Bd.named
  have hnm := (name_of_methodNamed Bd.named Bd.method).1
  have X0 : Stand p l e ({ frames := 2, cells := 4, slots := 124, locals := 28 } : Room) s m #[(.int p1), (.ref a1)] below meth c s₁ [] 0 0 := Stand.of_body Bd
  have e0 : s₁.heap = h0 := by rw [← hh, Bd.state]; rfl
  have N0 := Fr.nil n0
  have c0 : Goes p e below s₁ (entryFrame m #[(.int p1), (.ref a1)] 2) s₁ (mkF m 0 #[.val (.int p1), .val (.ref a1)] []) := fun t k => castTop (ef_rfr m p1 a1) k
  have XW0 : Stand p l e ({ frames := 2, cells := 4, slots := 124, locals := 28 } : Room) (s.setVm s.vm) m #[(.int p1), (.ref a1)] below meth c s₁ [] 0 0 := X0
  have SW0 : s.Since s.vm 0 := (State.WarmedH.refl s).since 0
  have hl2 : cs.length ≤ 4000 := by omega
  have c476 : Goes p e below s₁ (entryFrame m #[(.int p1), (.ref a1)] 2) s₁ (mkF m 4 #[.val (.int p1), .val (.ref a1)] [(.int (503 : Int32)), (.int p1)]) := by
    intro t kk
    refine c0 t ?_
    show Steps p.tables e below (s₁.setTop (mkF m 0 #[.val (.int p1), .val (.ref a1)] [])) t
    refine XS.iloadN XW0.here hx rfl (hb hby d2_0) rfl ?_
    show Steps p.tables e below (s₁.setTop (mkF m 1 #[.val (.int p1), .val (.ref a1)] [(.int p1)])) t
    refine XS.sipush XW0.here hx rfl (hb hby d2_1) ?_
    exact kk
  by_cases h4 : p1 = (503 : Int32)
  · have c477 : Goes p e below s₁ (entryFrame m #[(.int p1), (.ref a1)] 2) s₁ (mkF m 14 #[.val (.int p1), .val (.ref a1)] [(.ref a1)]) := by
      intro t kk
      refine c476 t ?_
      show Steps p.tables e below (s₁.setTop (mkF m 4 #[.val (.int p1), .val (.ref a1)] [(.int (503 : Int32)), (.int p1)])) t
      refine XS.icmpNo XW0.here hx rfl (hb hby d2_4) rfl (teq h4).2 ?_
      show Steps p.tables e below (s₁.setTop (mkF m 7 #[.val (.int p1), .val (.ref a1)] [])) t
      refine XS.aloadN XW0.here hx rfl (hb hby d2_7) rfl rfl ?_
      show Steps p.tables e below (s₁.setTop (mkF m 8 #[.val (.int p1), .val (.ref a1)] [(.ref a1)])) t
      refine XS.ifnonnullYes XW0.here hx rfl (pc0 := 8) (pc' := 13) rfl (hb hby d2_8) rfl (by decide) (by decide) ?_
      show Steps p.tables e below (s₁.setTop (mkF m 13 #[.val (.int p1), .val (.ref a1)] [])) t
      refine XS.aloadN XW0.here hx rfl (hb hby d2_13) rfl rfl ?_
      exact kk
    obtain ⟨a478, T478, h478, kk478, sb478, sk478, X478, e478, E478, S478, hk478, hZ478, ho478, sE478, sC478, sV478, sA478, -, -, hCr478, hLit478, -, st478⟩ := ldcCH XW0 hx hZ hown (hw _ (List.mem_of_getElem? (i := 47) rfl)) (own_wS hw) e0 SW0 (Nat.zero_le _) hEL (List.mem_of_getElem? (i := 0) rfl) hCH0 (vs := ((([111, 118, 101, 114, 108, 111, 97, 100, 101, 100] : List Int32)).map StrChars.lo8).map Value.int) (z := Int32.ofNat (([111, 118, 101, 114, 108, 111, 97, 100, 101, 100] : List Int32)).length) (by decide +kernel) (by decide) (by decide) (g := (mkF m 14 #[.val (.int p1), .val (.ref a1)] [(.ref a1)])) rfl (hb hby d2_14) (n := 40) (by decide) (by decide) (by decide) (by decide)
    have c479 : Goes p e below s₁ (entryFrame m #[(.int p1), (.ref a1)] 2) T478 (mkF m 16 #[.val (.int p1), .val (.ref a1)] [(.ref a478), (.ref a1)]) := fun t kk => c477 t (st478 t kk)
    have Lt478 : own_str Z h478 a478 ([111, 118, 101, 114, 108, 111, 97, 100, 101, 100] : List Int32) := ⟨sE478, sC478, by decide, sb478, sk478, sV478, sA478⟩
    have hs1_480 := own_sext hs E478
    have f481 := (O0.ext E478)
    obtain ⟨sE482, sC482, sp482, st482_t, kb482, sV482, sK482⟩ := id hs1_480
    obtain ⟨sE483, sC483, sp483, st483_t, kb483, sV483, sK483⟩ := id Lt478
    obtain ⟨cq485, kq485, q485a, q485b, q485c⟩ := isOf hZ478 e478 sE482
    obtain ⟨_, _, ⟨T485, L485, k485, n485⟩, -, X485, ⟨Lc485, hQ485, l485, y485, z485⟩, st485⟩ := X478.virtualBack hx (y := (⟨"java/lang/String", "equals", "(Ljava/lang/Object;)Z"⟩ : MethodName)) (z := (⟨"java/lang/String", "equals", "(Ljava/lang/Object;)Z"⟩ : MethodName)) ho478 (mvT hZ478 (hw _ (List.mem_of_getElem? (i := 50) rfl))) (mvT hZ478 (hw _ (List.mem_of_getElem? (i := 51) rfl))) (notFace_of_selects (args := #[]) (mvT hZ478 (hw _ (List.mem_of_getElem? (i := 53) rfl)))) (mvT hZ478 (hw _ (List.mem_of_getElem? (i := 53) rfl))) (mvT hZ478 (hw _ (List.mem_of_getElem? (i := 52) rfl))) (by decide) (StrChars.Road.eqW (W := 0) hZ478 (own_weq hw) (kI := 4) (hw _ (List.mem_of_getElem? (i := 19) rfl)) sE482 sV482 sC482 sK482 (StrChars.Road.codOf rfl (fun c hc => (sp482 c hc).2)) (own_up sp482) hl2 sE483 sV483 sC483 sK483 (StrChars.Road.codOf rfl (fun c hc => (sp483 c hc).2)) (own_up sp483) (by decide) (S2.ext f481.2) hz (by decide) (by decide)) q485a q485c (g := (mkF m 16 #[.val (.int p1), .val (.ref a1)] [(.ref a478), (.ref a1)])) rfl (by rw [hml]; rfl) (Steps.refl _) (argsL := [(.ref a478)]) (rest := []) (lenOf pd__Ljava_lang_Object__Z rfl) rfl (by show 2 * 0 + _ ≤ _; exact Nat.le_of_eq rfl) (hb hby d2_16) (fun _ _ => ⟨rfl, e478, (by decide : 2 + 0 ≤ _), (by decide : 44 + 0 ≤ _)⟩)
    dsimp only [Pt.U, Pt.locs, Pt.cells, Pt.slots] at X485 l485 y485 z485 st485 hQ485
    subst l485 y485 z485
    obtain ⟨hv485, hL485, eq485⟩ := hQ485
    have Nq485 := own_frnil (n0 := n0) hL485
    obtain ⟨rq484, hrq484, hor484⟩ : ∃ r : Int32, _ = some (Value.int r) ∧ ((r = 1 ∧ cs = ([111, 118, 101, 114, 108, 111, 97, 100, 101, 100] : List Int32)) ∨ (r = 0 ∧ ¬ cs = ([111, 118, 101, 114, 108, 111, 97, 100, 101, 100] : List Int32))) := hv485.elim (fun q => ⟨1, q.1, Or.inl ⟨rfl, q.2⟩⟩) (fun q => ⟨0, q.1, Or.inr ⟨rfl, q.2⟩⟩)
    subst hrq484
    have N485 := Fr.app N0 Nq485
    have c486 : Goes p e below s₁ (entryFrame m #[(.int p1), (.ref a1)] 2) T485 (mkF m 19 #[.val (.int p1), .val (.ref a1)] [(.int rq484)]) := fun t kk => c479 t (st485.trans kk)
    rcases hor484 with ⟨hr484, hd484⟩ | ⟨hr484, hd484⟩
    · have c487 : Goes p e below s₁ (entryFrame m #[(.int p1), (.ref a1)] 2) T485 (mkF m 22 #[.val (.int p1), .val (.ref a1)] []) := by
        intro t kk
        refine c486 t ?_
        show Steps p.tables e below (T485.setTop (mkF m 19 #[.val (.int p1), .val (.ref a1)] [(.int rq484)])) t
        refine XS.ifNo X485.here hx rfl (hb hby d2_19) rfl ((if0 _ _).trans (feq (by rw [hr484]; decide : ¬ rq484 = (0 : Int32))).1) ?_
        exact kk
      obtain ⟨T488, X488, e488, st488⟩ := getS2 X485 hx hZ478 ho478 (host := "") (Or.inl (hw _ (List.mem_of_getElem? (i := 65) rfl))) Via.refl eq485 (S_O.ext f481.2) (g := (mkF m 22 #[.val (.int p1), .val (.ref a1)] [])) rfl (hb hby d2_22)
      have c489 : Goes p e below s₁ (entryFrame m #[(.int p1), (.ref a1)] 2) T488 (mkF m 25 #[.val (.int p1), .val (.ref a1)] [(.ref wO)]) := fun t kk => c487 t (st488 t kk)
      have f490 := ((Keep.refl h0 []).ext E478)
      obtain ⟨fs, hr, hrun, hended, hRW⟩ := X488.leaveW S478 (by rw [e488]; exact hk478) (v := some (.ref wO)) (fun h => by rw [Bd.returns] at h; cases h)
      have hCRe := (((CHr.keep (Keep.refl h0 []) sf0 hCH0).trans hCr478).trans (CHr.keep (Keep.refl _ []) sf0 hCr478.1))
      have hCRt : CHr Z consts_1 s.vm s.heap (T488.setFrames fs).vm (T488.setFrames fs).heap := by
        rw [hh]
        show CHr Z consts_1 s.vm h0 T488.vm T488.heap
        rw [e488]
        exact hCRe.trans (CHv.at X488 hZ478 hEL hCRe.1)
      refine ⟨_, _, c489 _ ?_, hrun, hended, _, _, rfl, ?_, hCRt, hRW.1, hRW.2.1, hRW.2.2.1, hRW.2.2.2.mono (by decide) (by decide)⟩
      · exact retOut X488 hx Bd.returns rfl (Or.inr (Or.inr (Or.inr (Or.inr ⟨rfl, rfl, rfl⟩)))) (hb hby d2_25) hr
      · show Q_rfr Z p1 a1 cs z wO wN h0 n0 _ T488.heap _
        rw [e488]
        exact ⟨by simp [own_rj, own_ov, own_on, h4, hd484], N485, f490⟩
    · have c491 : Goes p e below s₁ (entryFrame m #[(.int p1), (.ref a1)] 2) T485 (mkF m 27 #[.val (.int p1), .val (.ref a1)] [(.ref a1)]) := by
        intro t kk
        refine c486 t ?_
        show Steps p.tables e below (T485.setTop (mkF m 19 #[.val (.int p1), .val (.ref a1)] [(.int rq484)])) t
        refine XS.ifYes X485.here hx rfl (pc0 := 19) (pc' := 26) rfl (hb hby d2_19) rfl ((if0 _ _).trans (teq hr484).1) (by decide) (by decide) ?_
        show Steps p.tables e below (T485.setTop (mkF m 26 #[.val (.int p1), .val (.ref a1)] [])) t
        refine XS.aloadN X485.here hx rfl (hb hby d2_26) rfl rfl ?_
        exact kk
      obtain ⟨a492, T492, h492, kk492, sb492, sk492, X492, e492, E492, S492, hk492, hZ492, ho492, sE492, sC492, sV492, sA492, -, -, hCr492, hLit492, -, st492⟩ := ldcCH X485 hx hZ478 ho478 (hw _ (List.mem_of_getElem? (i := 60) rfl)) (own_wS hw) eq485 S478 hk478 hEL (List.mem_of_getElem? (i := 1) rfl) hCr478.1 (vs := ((([111, 118, 101, 114, 108, 111, 97, 100, 101, 100, 45, 110, 111, 45, 114, 101, 116, 114, 121] : List Int32)).map StrChars.lo8).map Value.int) (z := Int32.ofNat (([111, 118, 101, 114, 108, 111, 97, 100, 101, 100, 45, 110, 111, 45, 114, 101, 116, 114, 121] : List Int32)).length) (by decide +kernel) (by decide) (by decide) (g := (mkF m 27 #[.val (.int p1), .val (.ref a1)] [(.ref a1)])) rfl (hb hby d2_27) (n := 76) (by decide) (by decide) (by decide) (by decide)
      have c493 : Goes p e below s₁ (entryFrame m #[(.int p1), (.ref a1)] 2) T492 (mkF m 29 #[.val (.int p1), .val (.ref a1)] [(.ref a492), (.ref a1)]) := fun t kk => c491 t (st492 t kk)
      have Lt492 : own_str Z h492 a492 ([111, 118, 101, 114, 108, 111, 97, 100, 101, 100, 45, 110, 111, 45, 114, 101, 116, 114, 121] : List Int32) := ⟨sE492, sC492, by decide, sb492, sk492, sV492, sA492⟩
      have hs2_494 := own_sext (own_sext hs E478) E492
      have f495 := (f481.ext E492)
      obtain ⟨sE496, sC496, sp496, st496_t, kb496, sV496, sK496⟩ := id hs2_494
      obtain ⟨sE497, sC497, sp497, st497_t, kb497, sV497, sK497⟩ := id Lt492
      obtain ⟨cq499, kq499, q499a, q499b, q499c⟩ := isOf hZ492 e492 sE496
      obtain ⟨_, _, ⟨T499, L499, k499, n499⟩, -, X499, ⟨Lc499, hQ499, l499, y499, z499⟩, st499⟩ := X492.virtualBack hx (y := (⟨"java/lang/String", "equals", "(Ljava/lang/Object;)Z"⟩ : MethodName)) (z := (⟨"java/lang/String", "equals", "(Ljava/lang/Object;)Z"⟩ : MethodName)) ho492 (mvT hZ492 (hw _ (List.mem_of_getElem? (i := 50) rfl))) (mvT hZ492 (hw _ (List.mem_of_getElem? (i := 51) rfl))) (notFace_of_selects (args := #[]) (mvT hZ492 (hw _ (List.mem_of_getElem? (i := 53) rfl)))) (mvT hZ492 (hw _ (List.mem_of_getElem? (i := 53) rfl))) (mvT hZ492 (hw _ (List.mem_of_getElem? (i := 52) rfl))) (by decide) (StrChars.Road.eqW (W := 0) hZ492 (own_weq hw) (kI := 4) (hw _ (List.mem_of_getElem? (i := 19) rfl)) sE496 sV496 sC496 sK496 (StrChars.Road.codOf rfl (fun c hc => (sp496 c hc).2)) (own_up sp496) hl2 sE497 sV497 sC497 sK497 (StrChars.Road.codOf rfl (fun c hc => (sp497 c hc).2)) (own_up sp497) (by decide) (S2.ext f495.2) hz (by decide) (by decide)) q499a q499c (g := (mkF m 29 #[.val (.int p1), .val (.ref a1)] [(.ref a492), (.ref a1)])) rfl (by rw [hml]; rfl) (Steps.refl _) (argsL := [(.ref a492)]) (rest := []) (lenOf pd__Ljava_lang_Object__Z rfl) rfl (by show 2 * 0 + _ ≤ _; exact Nat.le_of_eq rfl) (hb hby d2_29) (fun _ _ => ⟨rfl, e492, (by decide : 4 + 0 ≤ _), (by decide : 124 + 0 ≤ _)⟩)
      dsimp only [Pt.U, Pt.locs, Pt.cells, Pt.slots] at X499 l499 y499 z499 st499 hQ499
      subst l499 y499 z499
      obtain ⟨hv499, hL499, eq499⟩ := hQ499
      have Nq499 := own_frnil (n0 := n0) hL499
      obtain ⟨rq498, hrq498, hor498⟩ : ∃ r : Int32, _ = some (Value.int r) ∧ ((r = 1 ∧ cs = ([111, 118, 101, 114, 108, 111, 97, 100, 101, 100, 45, 110, 111, 45, 114, 101, 116, 114, 121] : List Int32)) ∨ (r = 0 ∧ ¬ cs = ([111, 118, 101, 114, 108, 111, 97, 100, 101, 100, 45, 110, 111, 45, 114, 101, 116, 114, 121] : List Int32))) := hv499.elim (fun q => ⟨1, q.1, Or.inl ⟨rfl, q.2⟩⟩) (fun q => ⟨0, q.1, Or.inr ⟨rfl, q.2⟩⟩)
      subst hrq498
      have N499 := Fr.app N485 Nq499
      have c500 : Goes p e below s₁ (entryFrame m #[(.int p1), (.ref a1)] 2) T499 (mkF m 32 #[.val (.int p1), .val (.ref a1)] [(.int rq498)]) := fun t kk => c493 t (st499.trans kk)
      rcases hor498 with ⟨hr498, hd498⟩ | ⟨hr498, hd498⟩
      · have c501 : Goes p e below s₁ (entryFrame m #[(.int p1), (.ref a1)] 2) T499 (mkF m 35 #[.val (.int p1), .val (.ref a1)] []) := by
          intro t kk
          refine c500 t ?_
          show Steps p.tables e below (T499.setTop (mkF m 32 #[.val (.int p1), .val (.ref a1)] [(.int rq498)])) t
          refine XS.ifNo X499.here hx rfl (hb hby d2_32) rfl ((if0 _ _).trans (feq (by rw [hr498]; decide : ¬ rq498 = (0 : Int32))).1) ?_
          exact kk
        obtain ⟨T502, X502, e502, st502⟩ := getS2 X499 hx hZ492 ho492 (host := "") (Or.inl (hw _ (List.mem_of_getElem? (i := 67) rfl))) Via.refl eq499 (S_N.ext f495.2) (g := (mkF m 35 #[.val (.int p1), .val (.ref a1)] [])) rfl (hb hby d2_35)
        have c503 : Goes p e below s₁ (entryFrame m #[(.int p1), (.ref a1)] 2) T502 (mkF m 38 #[.val (.int p1), .val (.ref a1)] [(.ref wN)]) := fun t kk => c501 t (st502 t kk)
        have f504 := (((Keep.refl h0 []).ext E478).ext E492)
        obtain ⟨fs, hr, hrun, hended, hRW⟩ := X502.leaveW S492 (by rw [e502]; exact hk492) (v := some (.ref wN)) (fun h => by rw [Bd.returns] at h; cases h)
        have hCRe := (((((CHr.keep (Keep.refl h0 []) sf0 hCH0).trans hCr478).trans (CHr.keep (Keep.refl _ []) sf0 hCr478.1)).trans hCr492).trans (CHr.keep (Keep.refl _ []) sf0 hCr492.1))
        have hCRt : CHr Z consts_1 s.vm s.heap (T502.setFrames fs).vm (T502.setFrames fs).heap := by
          rw [hh]
          show CHr Z consts_1 s.vm h0 T502.vm T502.heap
          rw [e502]
          exact hCRe.trans (CHv.at X502 hZ492 hEL hCRe.1)
        refine ⟨_, _, c503 _ ?_, hrun, hended, _, _, rfl, ?_, hCRt, hRW.1, hRW.2.1, hRW.2.2.1, hRW.2.2.2.mono (by decide) (by decide)⟩
        · exact retOut X502 hx Bd.returns rfl (Or.inr (Or.inr (Or.inr (Or.inr ⟨rfl, rfl, rfl⟩)))) (hb hby d2_38) hr
        · show Q_rfr Z p1 a1 cs z wO wN h0 n0 _ T502.heap _
          rw [e502]
          exact ⟨by simp [own_rj, own_ov, own_on, h4, hd484, hd498], N499, f504⟩
      · have f505 := (((Keep.refl h0 []).ext E478).ext E492)
        have c506 : Goes p e below s₁ (entryFrame m #[(.int p1), (.ref a1)] 2) T499 (mkF m 40 #[.val (.int p1), .val (.ref a1)] [.null]) := by
          intro t kk
          refine c500 t ?_
          show Steps p.tables e below (T499.setTop (mkF m 32 #[.val (.int p1), .val (.ref a1)] [(.int rq498)])) t
          refine XS.ifYes X499.here hx rfl (pc0 := 32) (pc' := 39) rfl (hb hby d2_32) rfl ((if0 _ _).trans (teq hr498).1) (by decide) (by decide) ?_
          show Steps p.tables e below (T499.setTop (mkF m 39 #[.val (.int p1), .val (.ref a1)] [])) t
          refine XS.aconstNull X499.here hx rfl (hb hby d2_39) ?_
          exact kk
        obtain ⟨fs, hr, hrun, hended, hRW⟩ := X499.leaveW S492 (by rw [eq499]; exact hk492) (v := some .null) (fun h => by rw [Bd.returns] at h; cases h)
        have hCRe := (((((CHr.keep (Keep.refl h0 []) sf0 hCH0).trans hCr478).trans (CHr.keep (Keep.refl _ []) sf0 hCr478.1)).trans hCr492).trans (CHr.keep (Keep.refl _ []) sf0 hCr492.1))
        have hCRt : CHr Z consts_1 s.vm s.heap (T499.setFrames fs).vm (T499.setFrames fs).heap := by
          rw [hh]
          show CHr Z consts_1 s.vm h0 T499.vm T499.heap
          rw [eq499]
          exact hCRe.trans (CHv.at X499 hZ492 hEL hCRe.1)
        refine ⟨_, _, c506 _ ?_, hrun, hended, _, _, rfl, ?_, hCRt, hRW.1, hRW.2.1, hRW.2.2.1, hRW.2.2.2.mono (by decide) (by decide)⟩
        · exact retOut X499 hx Bd.returns rfl (Or.inr (Or.inr (Or.inr (Or.inr ⟨rfl, rfl, rfl⟩)))) (hb hby d2_40) hr
        · show Q_rfr Z p1 a1 cs z wO wN h0 n0 _ T499.heap _
          rw [eq499]
          exact ⟨by simp [own_rj, own_ov, own_on, h4, hd484, hd498], N499, f505⟩
  · have c507 : Goes p e below s₁ (entryFrame m #[(.int p1), (.ref a1)] 2) s₁ (mkF m 12 #[.val (.int p1), .val (.ref a1)] [.null]) := by
      intro t kk
      refine c476 t ?_
      show Steps p.tables e below (s₁.setTop (mkF m 4 #[.val (.int p1), .val (.ref a1)] [(.int (503 : Int32)), (.int p1)])) t
      refine XS.icmpYes XW0.here hx rfl (pc0 := 4) (pc' := 11) rfl (hb hby d2_4) rfl (feq h4).2 (by decide) (by decide) ?_
      show Steps p.tables e below (s₁.setTop (mkF m 11 #[.val (.int p1), .val (.ref a1)] [])) t
      refine XS.aconstNull XW0.here hx rfl (hb hby d2_11) ?_
      exact kk
    obtain ⟨fs, hr, hrun, hended, hRW⟩ := XW0.leaveW SW0 (by rw [e0]; exact (Nat.zero_le _)) (v := some .null) (fun h => by rw [Bd.returns] at h; cases h)
    have hCRe := (CHr.keep (Keep.refl h0 []) sf0 hCH0)
    have hCRt : CHr Z consts_1 s.vm s.heap (s₁.setFrames fs).vm (s₁.setFrames fs).heap := by
      rw [hh]
      show CHr Z consts_1 s.vm h0 s₁.vm s₁.heap
      rw [e0]
      exact hCRe.trans (CHv.at XW0 hZ hEL hCRe.1)
    refine ⟨_, _, c507 _ ?_, hrun, hended, _, _, rfl, ?_, hCRt, hRW.1, hRW.2.1, hRW.2.2.1, hRW.2.2.2.mono (by decide) (by decide)⟩
    · exact retOut XW0 hx Bd.returns rfl (Or.inr (Or.inr (Or.inr (Or.inr ⟨rfl, rfl, rfl⟩)))) (hb hby d2_12) hr
    · show Q_rfr Z p1 a1 cs z wO wN h0 n0 _ s₁.heap _
      rw [e0]
      exact ⟨by simp [own_rj, own_ov, own_on, h4], N0, (Keep.refl h0 [])⟩
theorem d3_0 : decode prog_27_method_6_code 0 = .ok (.aconst_null, 1) := by decide +kernel
theorem d3_1 : decode prog_27_method_6_code 1 = .ok (.astore_n 2, 1) := by decide +kernel
theorem d3_2 : decode prog_27_method_6_code 2 = .ok (.getstatic 37, 3) := by decide +kernel
theorem d3_5 : decode prog_27_method_6_code 5 = .ok (.astore_n 3, 1) := by decide +kernel
theorem d3_6 : decode prog_27_method_6_code 6 = .ok (.aload_n 3, 1) := by decide +kernel
theorem d3_7 : decode prog_27_method_6_code 7 = .ok (.arraylength, 1) := by decide +kernel
theorem d3_8 : decode prog_27_method_6_code 8 = .ok (.istore 4, 2) := by decide +kernel
theorem d3_10 : decode prog_27_method_6_code 10 = .ok (.iconst 0, 1) := by decide +kernel
theorem d3_11 : decode prog_27_method_6_code 11 = .ok (.istore 5, 2) := by decide +kernel
theorem d3_13 : decode prog_27_method_6_code 13 = .ok (.iload 5, 2) := by decide +kernel
theorem d3_15 : decode prog_27_method_6_code 15 = .ok (.iload 4, 2) := by decide +kernel
theorem d3_17 : decode prog_27_method_6_code 17 = .ok (.if_icmp .ge 42, 3) := by decide +kernel
theorem d3_20 : decode prog_27_method_6_code 20 = .ok (.aload_n 3, 1) := by decide +kernel
theorem d3_21 : decode prog_27_method_6_code 21 = .ok (.iload 5, 2) := by decide +kernel
theorem d3_23 : decode prog_27_method_6_code 23 = .ok (.aaload, 1) := by decide +kernel
theorem d3_24 : decode prog_27_method_6_code 24 = .ok (.astore 6, 2) := by decide +kernel
theorem d3_26 : decode prog_27_method_6_code 26 = .ok (.aload 6, 2) := by decide +kernel
theorem d3_28 : decode prog_27_method_6_code 28 = .ok (.getfield 33, 3) := by decide +kernel
theorem d3_31 : decode prog_27_method_6_code 31 = .ok (.iload_n 0, 1) := by decide +kernel
theorem d3_32 : decode prog_27_method_6_code 32 = .ok (.if_icmp .ne 21, 3) := by decide +kernel
theorem d3_35 : decode prog_27_method_6_code 35 = .ok (.aload 6, 2) := by decide +kernel
theorem d3_37 : decode prog_27_method_6_code 37 = .ok (.getfield 29, 3) := by decide +kernel
theorem d3_40 : decode prog_27_method_6_code 40 = .ok (.aload_n 1, 1) := by decide +kernel
theorem d3_41 : decode prog_27_method_6_code 41 = .ok (.invokevirtual 40, 3) := by decide +kernel
theorem d3_44 : decode prog_27_method_6_code 44 = .ok (.ifCond .eq 9, 3) := by decide +kernel
theorem d3_53 : decode prog_27_method_6_code 53 = .ok (.iinc 5 1, 3) := by decide +kernel
theorem d3_56 : decode prog_27_method_6_code 56 = .ok (.goto (-43), 3) := by decide +kernel
theorem d3_59 : decode prog_27_method_6_code 59 = .ok (.aload_n 2, 1) := by decide +kernel
theorem d3_60 : decode prog_27_method_6_code 60 = .ok (.areturn, 1) := by decide +kernel
theorem pn_3 : plainName "com/example/ventil/ventil/Rejection" = true := by first | (simp [plainName, overriddenIn]; done) | decide +kernel
theorem ef_ofn (m : MethodId) (x0 : Int32) : entryFrame m #[(.int x0), .null] 7 = mkF m 0 #[.val (.int x0), .val .null, .unset, .unset, .unset, .unset, .unset] [] := by (first | (simp [entryFrame, mkF, argsToLocals, Value.category]; done) | rfl)
def Q_ofn (Z : State) (p1 : Int32) (ar : Addr) (kr : ClassId) (wO : Addr) (wN : Addr) (tO : Addr) (tN : Addr) (h0 : Heap) (n0 : Nat) (v : Option Value) (h : Heap) (L : List Loc) : Prop := v = some .null ∧ Fr n0 L ∧ h = h0
set_option maxRecDepth 65536 in
set_option maxHeartbeats 40000000 in
theorem rm_ofn (l : Launch) (Z : State) (a0 : Array Value) (hw : ∀ d ∈ tables_1, d.before a0 Z = true) (ws : List Jvm.Cond) (p1 : Int32) (ar : Addr) (kr : ClassId) (wO : Addr) (wN : Addr) (tO : Addr) (tN : Addr) (h0 : Heap) (n0 : Nat) (Z0 : n0 ≤ h0.size) (S_R : Sta Z h0 "com/example/ventil/ventil/Rejection" "REASONS" "[Lcom/example/ventil/ventil/Rejection;" (.ref ar)) (V_R : Arv Z h0 ar kr (.object "com/example/ventil/ventil/Rejection") (2 : Int32) [.ref wO, .ref wN] .null) (Fs_O : Fld Z h0 wO "com/example/ventil/ventil/Rejection" "status" "I" (.int 503)) (Fs_N : Fld Z h0 wN "com/example/ventil/ventil/Rejection" "status" "I" (.int 503)) (Fh_O : Fld Z h0 wO "com/example/ventil/ventil/Rejection" "headerValue" "Ljava/lang/String;" (.ref tO)) (Fh_N : Fld Z h0 wN "com/example/ventil/ventil/Rejection" "headerValue" "Ljava/lang/String;" (.ref tN)) (X_O : own_str Z h0 tO ([111, 118, 101, 114, 108, 111, 97, 100, 101, 100] : List Int32)) (X_N : own_str Z h0 tN ([111, 118, 101, 114, 108, 111, 97, 100, 101, 100, 45, 110, 111, 45, 114, 101, 116, 114, 121] : List Int32)) :
    MetFree l (⟨"com/example/ventil/ventil/Rejection", "of", "(ILjava/lang/String;)Lcom/example/ventil/ventil/Rejection;"⟩ : MethodName) (head1 (Jvm.Cond.code (⟨"com/example/ventil/ventil/Rejection", "of", "(ILjava/lang/String;)Lcom/example/ventil/ventil/Rejection;"⟩ : MethodName) prog_27_method_6_code 7 (some (.object "com/example/ventil/ventil/Rejection")) :: ws) ({ frames := 1, cells := 0, slots := 0, locals := 14 } : Room)) (fun a U => a = #[(.int p1), .null] ∧ Z.Warmed39 U.vm ∧ U.heap = h0) (fun _ _ _ _ _ => True) (fun _ U o U' => ∃ v L, o = .returned v ∧ Q_ofn Z p1 ar kr wO wN tO tN h0 n0 v U'.heap L ∧ FrameEnd U o U' L ({ frames := 1, cells := 0, slots := 0, locals := 14 } : Room).cells ({ frames := 1, cells := 0, slots := 0, locals := 14 } : Room).slots) := by
  refine MetFree.of_bodySF (plainFor_of_name pn_3) hisR ?_
  intro p e s m args below meth c s₁ Bd hml0 hP hK
  obtain ⟨rfl, hZ, hh⟩ := hP
  have hx := Bd.exec
  have hby := Bd.bytes
  have hml : c.maxLocals = 7 := hml0
  have hown : s.vm.findClass "com/example/ventil/ventil/Rejection" = some m.cls := findClass_of_methodNamed Bd.named
  have hnm := (name_of_methodNamed Bd.named Bd.method).1
  have X0 : Stand p l e ({ frames := 1, cells := 0, slots := 0, locals := 14 } : Room) s m #[(.int p1), .null] below meth c s₁ [] 0 0 := Stand.of_body Bd
  have e0 : s₁.heap = h0 := by rw [← hh, Bd.state]; rfl
  have N0 := Fr.nil n0
  have c0 : Goes p e below s₁ (entryFrame m #[(.int p1), .null] 7) s₁ (mkF m 0 #[.val (.int p1), .val .null, .unset, .unset, .unset, .unset, .unset] []) := fun t k => castTop (ef_ofn m p1) k
  have c508 : Goes p e below s₁ (entryFrame m #[(.int p1), .null] 7) s₁ (mkF m 2 #[.val (.int p1), .val .null, .val .null, .unset, .unset, .unset, .unset] []) := by
    intro t kk
    refine c0 t ?_
    show Steps p.tables e below (s₁.setTop (mkF m 0 #[.val (.int p1), .val .null, .unset, .unset, .unset, .unset, .unset] [])) t
    refine XS.aconstNull X0.here hx rfl (hb hby d3_0) ?_
    show Steps p.tables e below (s₁.setTop (mkF m 1 #[.val (.int p1), .val .null, .unset, .unset, .unset, .unset, .unset] [.null])) t
    refine XS.astoreN X0.here hx rfl (hb hby d3_1) rfl rfl (l' := #[.val (.int p1), .val .null, .val .null, .unset, .unset, .unset, .unset]) rfl ?_
    exact kk
  obtain ⟨T509, X509, e509, st509⟩ := getS2 X0 hx hZ hown (host := "") (Or.inl (hw _ (List.mem_of_getElem? (i := 11) rfl))) Via.refl e0 S_R (g := (mkF m 2 #[.val (.int p1), .val .null, .val .null, .unset, .unset, .unset, .unset] [])) rfl (hb hby d3_2)
  have c510 : Goes p e below s₁ (entryFrame m #[(.int p1), .null] 7) T509 (mkF m 5 #[.val (.int p1), .val .null, .val .null, .unset, .unset, .unset, .unset] [(.ref ar)]) := fun t kk => c508 t (st509 t kk)
  obtain ⟨cl511, Ar511, q511, Sz511, Nn511, Hh511, Gg511⟩ := id V_R
  obtain ⟨cl512, Ar512, q512, Sz512, Nn512, Hh512, Gg512⟩ := id V_R
  have hin512 : ¬ ((0 : Int32) < 0 ∨ cl512.slots.size ≤ ((0 : Int32)).toNatClampNeg) := inb_of Sz512 ⟨by decide, by decide⟩
  have c513 : Goes p e below s₁ (entryFrame m #[(.int p1), .null] 7) T509 (mkF m 28 #[.val (.int p1), .val .null, .val .null, .val (.ref ar), .val (.int (2 : Int32)), .val (.int (0 : Int32)), .val (.ref wO)] [(.ref wO)]) := by
    intro t kk
    refine c510 t ?_
    show Steps p.tables e below (T509.setTop (mkF m 5 #[.val (.int p1), .val .null, .val .null, .unset, .unset, .unset, .unset] [(.ref ar)])) t
    refine XS.astoreN X509.here hx rfl (hb hby d3_5) rfl rfl (l' := #[.val (.int p1), .val .null, .val .null, .val (.ref ar), .unset, .unset, .unset]) rfl ?_
    show Steps p.tables e below (T509.setTop (mkF m 6 #[.val (.int p1), .val .null, .val .null, .val (.ref ar), .unset, .unset, .unset] [])) t
    refine XS.aloadN X509.here hx rfl (hb hby d3_6) rfl rfl ?_
    show Steps p.tables e below (T509.setTop (mkF m 7 #[.val (.int p1), .val .null, .val .null, .val (.ref ar), .unset, .unset, .unset] [(.ref ar)])) t
    refine X509.arraylength hx (by rw [e509]; exact Ar511.1) (State.isArrayOf_alike hZ.alike Ar511.2.1) (g := (mkF m 7 #[.val (.int p1), .val .null, .val .null, .val (.ref ar), .unset, .unset, .unset] [(.ref ar)])) rfl rfl (hb hby d3_7) _ ?_
    rw [len_of Sz511 Nn511]
    show Steps p.tables e below (T509.setTop (mkF m 8 #[.val (.int p1), .val .null, .val .null, .val (.ref ar), .unset, .unset, .unset] [(.int (2 : Int32))])) t
    refine XS.istore X509.here hx rfl (hb hby d3_8) rfl (l' := #[.val (.int p1), .val .null, .val .null, .val (.ref ar), .val (.int (2 : Int32)), .unset, .unset]) rfl ?_
    show Steps p.tables e below (T509.setTop (mkF m 10 #[.val (.int p1), .val .null, .val .null, .val (.ref ar), .val (.int (2 : Int32)), .unset, .unset] [])) t
    refine XS.iconst X509.here hx rfl (hb hby d3_10) ?_
    show Steps p.tables e below (T509.setTop (mkF m 11 #[.val (.int p1), .val .null, .val .null, .val (.ref ar), .val (.int (2 : Int32)), .unset, .unset] [(.int (0 : Int32))])) t
    refine XS.istore X509.here hx rfl (hb hby d3_11) rfl (l' := #[.val (.int p1), .val .null, .val .null, .val (.ref ar), .val (.int (2 : Int32)), .val (.int (0 : Int32)), .unset]) rfl ?_
    show Steps p.tables e below (T509.setTop (mkF m 13 #[.val (.int p1), .val .null, .val .null, .val (.ref ar), .val (.int (2 : Int32)), .val (.int (0 : Int32)), .unset] [])) t
    refine XS.iload X509.here hx rfl (hb hby d3_13) rfl ?_
    show Steps p.tables e below (T509.setTop (mkF m 15 #[.val (.int p1), .val .null, .val .null, .val (.ref ar), .val (.int (2 : Int32)), .val (.int (0 : Int32)), .unset] [(.int (0 : Int32))])) t
    refine XS.iload X509.here hx rfl (hb hby d3_15) rfl ?_
    show Steps p.tables e below (T509.setTop (mkF m 17 #[.val (.int p1), .val .null, .val .null, .val (.ref ar), .val (.int (2 : Int32)), .val (.int (0 : Int32)), .unset] [(.int (2 : Int32)), (.int (0 : Int32))])) t
    refine XS.icmpNo X509.here hx rfl (hb hby d3_17) rfl (tlt (by decide : (0 : Int32) < (2 : Int32))).2.1 ?_
    show Steps p.tables e below (T509.setTop (mkF m 20 #[.val (.int p1), .val .null, .val .null, .val (.ref ar), .val (.int (2 : Int32)), .val (.int (0 : Int32)), .unset] [])) t
    refine XS.aloadN X509.here hx rfl (hb hby d3_20) rfl rfl ?_
    show Steps p.tables e below (T509.setTop (mkF m 21 #[.val (.int p1), .val .null, .val .null, .val (.ref ar), .val (.int (2 : Int32)), .val (.int (0 : Int32)), .unset] [(.ref ar)])) t
    refine XS.iload X509.here hx rfl (hb hby d3_21) rfl ?_
    show Steps p.tables e below (T509.setTop (mkF m 23 #[.val (.int p1), .val .null, .val .null, .val (.ref ar), .val (.int (2 : Int32)), .val (.int (0 : Int32)), .unset] [(.int (0 : Int32)), (.ref ar)])) t
    refine X509.aaload hx (j := (0 : Int32)) (v := (.ref wO)) (by rw [e509]; exact Ar512.1) (State.isArrayOf_alike hZ.alike Ar512.2.1) rfl Ar512.2.2 hin512 (Hh512.at hin512 rfl) (g := (mkF m 23 #[.val (.int p1), .val .null, .val .null, .val (.ref ar), .val (.int (2 : Int32)), .val (.int (0 : Int32)), .unset] [(.int (0 : Int32)), (.ref ar)])) rfl rfl (hb hby d3_23) _ ?_
    show Steps p.tables e below (T509.setTop (mkF m 24 #[.val (.int p1), .val .null, .val .null, .val (.ref ar), .val (.int (2 : Int32)), .val (.int (0 : Int32)), .unset] [(.ref wO)])) t
    refine XS.astore X509.here hx rfl (hb hby d3_24) rfl rfl (l' := #[.val (.int p1), .val .null, .val .null, .val (.ref ar), .val (.int (2 : Int32)), .val (.int (0 : Int32)), .val (.ref wO)]) rfl ?_
    show Steps p.tables e below (T509.setTop (mkF m 26 #[.val (.int p1), .val .null, .val .null, .val (.ref ar), .val (.int (2 : Int32)), .val (.int (0 : Int32)), .val (.ref wO)] [])) t
    refine XS.aload X509.here hx rfl (hb hby d3_26) rfl rfl ?_
    exact kk
  obtain ⟨T514, X514, e514, st514⟩ := getF X509 hx hZ hown (host := "") (Or.inl (hw _ (List.mem_of_getElem? (i := 14) rfl))) Via.refl e509 Fs_O (g := (mkF m 28 #[.val (.int p1), .val .null, .val .null, .val (.ref ar), .val (.int (2 : Int32)), .val (.int (0 : Int32)), .val (.ref wO)] [(.ref wO)])) rfl rfl (hb hby d3_28)
  have c515 : Goes p e below s₁ (entryFrame m #[(.int p1), .null] 7) T514 (mkF m 31 #[.val (.int p1), .val .null, .val .null, .val (.ref ar), .val (.int (2 : Int32)), .val (.int (0 : Int32)), .val (.ref wO)] [(.int (503 : Int32))]) := fun t kk => c513 t (st514 t kk)
  have c516 : Goes p e below s₁ (entryFrame m #[(.int p1), .null] 7) T514 (mkF m 32 #[.val (.int p1), .val .null, .val .null, .val (.ref ar), .val (.int (2 : Int32)), .val (.int (0 : Int32)), .val (.ref wO)] [(.int p1), (.int (503 : Int32))]) := by
    intro t kk
    refine c515 t ?_
    show Steps p.tables e below (T514.setTop (mkF m 31 #[.val (.int p1), .val .null, .val .null, .val (.ref ar), .val (.int (2 : Int32)), .val (.int (0 : Int32)), .val (.ref wO)] [(.int (503 : Int32))])) t
    refine XS.iloadN X514.here hx rfl (hb hby d3_31) rfl ?_
    exact kk
  by_cases hc32_517 : (503 : Int32) = p1
  · have c518 : Goes p e below s₁ (entryFrame m #[(.int p1), .null] 7) T514 (mkF m 37 #[.val (.int p1), .val .null, .val .null, .val (.ref ar), .val (.int (2 : Int32)), .val (.int (0 : Int32)), .val (.ref wO)] [(.ref wO)]) := by
      intro t kk
      refine c516 t ?_
      show Steps p.tables e below (T514.setTop (mkF m 32 #[.val (.int p1), .val .null, .val .null, .val (.ref ar), .val (.int (2 : Int32)), .val (.int (0 : Int32)), .val (.ref wO)] [(.int p1), (.int (503 : Int32))])) t
      refine XS.icmpNo X514.here hx rfl (hb hby d3_32) rfl (teq hc32_517).2 ?_
      show Steps p.tables e below (T514.setTop (mkF m 35 #[.val (.int p1), .val .null, .val .null, .val (.ref ar), .val (.int (2 : Int32)), .val (.int (0 : Int32)), .val (.ref wO)] [])) t
      refine XS.aload X514.here hx rfl (hb hby d3_35) rfl rfl ?_
      exact kk
    obtain ⟨T519, X519, e519, st519⟩ := getF X514 hx hZ hown (host := "") (Or.inl (hw _ (List.mem_of_getElem? (i := 61) rfl))) Via.refl e514 Fh_O (g := (mkF m 37 #[.val (.int p1), .val .null, .val .null, .val (.ref ar), .val (.int (2 : Int32)), .val (.int (0 : Int32)), .val (.ref wO)] [(.ref wO)])) rfl rfl (hb hby d3_37)
    have c520 : Goes p e below s₁ (entryFrame m #[(.int p1), .null] 7) T519 (mkF m 40 #[.val (.int p1), .val .null, .val .null, .val (.ref ar), .val (.int (2 : Int32)), .val (.int (0 : Int32)), .val (.ref wO)] [(.ref tO)]) := fun t kk => c518 t (st519 t kk)
    have c521 : Goes p e below s₁ (entryFrame m #[(.int p1), .null] 7) T519 (mkF m 41 #[.val (.int p1), .val .null, .val .null, .val (.ref ar), .val (.int (2 : Int32)), .val (.int (0 : Int32)), .val (.ref wO)] [.null, (.ref tO)]) := by
      intro t kk
      refine c520 t ?_
      show Steps p.tables e below (T519.setTop (mkF m 40 #[.val (.int p1), .val .null, .val .null, .val (.ref ar), .val (.int (2 : Int32)), .val (.int (0 : Int32)), .val (.ref wO)] [(.ref tO)])) t
      refine XS.aloadN X519.here hx rfl (hb hby d3_40) rfl rfl ?_
      exact kk
    obtain ⟨cq522, kq522, q522a, q522b, q522c⟩ := isOf hZ e519 X_O.1
    obtain ⟨_, _, ⟨T522, L522, k522, n522⟩, -, X522, ⟨Lc522, hQ522, l522, y522, z522⟩, st522⟩ := X519.virtualBack hx (y := (⟨"java/lang/String", "equals", "(Ljava/lang/Object;)Z"⟩ : MethodName)) (z := (⟨"java/lang/String", "equals", "(Ljava/lang/Object;)Z"⟩ : MethodName)) hown (mvT hZ (hw _ (List.mem_of_getElem? (i := 63) rfl))) (mvT hZ (hw _ (List.mem_of_getElem? (i := 51) rfl))) (notFace_of_selects (args := #[]) (mvT hZ (hw _ (List.mem_of_getElem? (i := 53) rfl)))) (mvT hZ (hw _ (List.mem_of_getElem? (i := 53) rfl))) (mvT hZ (hw _ (List.mem_of_getElem? (i := 52) rfl))) (by decide) (backOf (W := 0) (rm_eqn l Z a0 hw [] tO h0 n0 Z0) hZ (hw _ (List.mem_of_getElem? (i := 54) rfl)) (hw _ (List.mem_of_getElem? (i := 20) rfl)) (by decide) (by decide)) q522a q522c (g := (mkF m 41 #[.val (.int p1), .val .null, .val .null, .val (.ref ar), .val (.int (2 : Int32)), .val (.int (0 : Int32)), .val (.ref wO)] [.null, (.ref tO)])) rfl (by rw [hml]; rfl) (Steps.refl _) (argsL := [.null]) (rest := []) (lenOf pd__Ljava_lang_Object__Z rfl) rfl (by show 2 * 0 + _ ≤ _; exact Nat.le_of_eq rfl) (hb hby d3_41) (fun _ _ => ⟨rfl, e519, (by decide : 0 + 0 ≤ _), (by decide : 0 + 0 ≤ _)⟩)
    dsimp only [Pt.U, Pt.locs, Pt.cells, Pt.slots] at X522 l522 y522 z522 st522 hQ522
    subst l522 y522 z522
    obtain ⟨rfl, Nq522, eq522⟩ := hQ522
    have N522 := Fr.app N0 Nq522
    have c523 : Goes p e below s₁ (entryFrame m #[(.int p1), .null] 7) T522 (mkF m 44 #[.val (.int p1), .val .null, .val .null, .val (.ref ar), .val (.int (2 : Int32)), .val (.int (0 : Int32)), .val (.ref wO)] [(.int (0 : Int32))]) := fun t kk => c521 t (st522.trans kk)
    obtain ⟨cl524, Ar524, q524, Sz524, Nn524, Hh524, Gg524⟩ := id V_R
    have hin524 : ¬ ((1 : Int32) < 0 ∨ cl524.slots.size ≤ ((1 : Int32)).toNatClampNeg) := inb_of Sz524 ⟨by decide, by decide⟩
    have c525 : Goes p e below s₁ (entryFrame m #[(.int p1), .null] 7) T522 (mkF m 28 #[.val (.int p1), .val .null, .val .null, .val (.ref ar), .val (.int (2 : Int32)), .val (.int (1 : Int32)), .val (.ref wN)] [(.ref wN)]) := by
      intro t kk
      refine c523 t ?_
      show Steps p.tables e below (T522.setTop (mkF m 44 #[.val (.int p1), .val .null, .val .null, .val (.ref ar), .val (.int (2 : Int32)), .val (.int (0 : Int32)), .val (.ref wO)] [(.int (0 : Int32))])) t
      refine XS.ifYes X522.here hx rfl (pc0 := 44) (pc' := 53) rfl (hb hby d3_44) rfl ((if0 _ _).trans (teq (rfl : (0 : Int32) = (0 : Int32))).1) (by decide) (by decide) ?_
      show Steps p.tables e below (T522.setTop (mkF m 53 #[.val (.int p1), .val .null, .val .null, .val (.ref ar), .val (.int (2 : Int32)), .val (.int (0 : Int32)), .val (.ref wO)] [])) t
      refine XS.iinc X522.here hx rfl (hb hby d3_53) rfl (l' := #[.val (.int p1), .val .null, .val .null, .val (.ref ar), .val (.int (2 : Int32)), .val (.int (1 : Int32)), .val (.ref wO)]) rfl ?_
      show Steps p.tables e below (T522.setTop (mkF m 56 #[.val (.int p1), .val .null, .val .null, .val (.ref ar), .val (.int (2 : Int32)), .val (.int (1 : Int32)), .val (.ref wO)] [])) t
      refine XS.goto X522.here hx rfl (pc0 := 56) (pc' := 13) rfl (hb hby d3_56) (by decide) (by decide) ?_
      show Steps p.tables e below (T522.setTop (mkF m 13 #[.val (.int p1), .val .null, .val .null, .val (.ref ar), .val (.int (2 : Int32)), .val (.int (1 : Int32)), .val (.ref wO)] [])) t
      refine XS.iload X522.here hx rfl (hb hby d3_13) rfl ?_
      show Steps p.tables e below (T522.setTop (mkF m 15 #[.val (.int p1), .val .null, .val .null, .val (.ref ar), .val (.int (2 : Int32)), .val (.int (1 : Int32)), .val (.ref wO)] [(.int (1 : Int32))])) t
      refine XS.iload X522.here hx rfl (hb hby d3_15) rfl ?_
      show Steps p.tables e below (T522.setTop (mkF m 17 #[.val (.int p1), .val .null, .val .null, .val (.ref ar), .val (.int (2 : Int32)), .val (.int (1 : Int32)), .val (.ref wO)] [(.int (2 : Int32)), (.int (1 : Int32))])) t
      refine XS.icmpNo X522.here hx rfl (hb hby d3_17) rfl (tlt (by decide : (1 : Int32) < (2 : Int32))).2.1 ?_
      show Steps p.tables e below (T522.setTop (mkF m 20 #[.val (.int p1), .val .null, .val .null, .val (.ref ar), .val (.int (2 : Int32)), .val (.int (1 : Int32)), .val (.ref wO)] [])) t
      refine XS.aloadN X522.here hx rfl (hb hby d3_20) rfl rfl ?_
      show Steps p.tables e below (T522.setTop (mkF m 21 #[.val (.int p1), .val .null, .val .null, .val (.ref ar), .val (.int (2 : Int32)), .val (.int (1 : Int32)), .val (.ref wO)] [(.ref ar)])) t
      refine XS.iload X522.here hx rfl (hb hby d3_21) rfl ?_
      show Steps p.tables e below (T522.setTop (mkF m 23 #[.val (.int p1), .val .null, .val .null, .val (.ref ar), .val (.int (2 : Int32)), .val (.int (1 : Int32)), .val (.ref wO)] [(.int (1 : Int32)), (.ref ar)])) t
      refine X522.aaload hx (j := (1 : Int32)) (v := (.ref wN)) (by rw [eq522]; exact Ar524.1) (State.isArrayOf_alike hZ.alike Ar524.2.1) rfl Ar524.2.2 hin524 (Hh524.at hin524 rfl) (g := (mkF m 23 #[.val (.int p1), .val .null, .val .null, .val (.ref ar), .val (.int (2 : Int32)), .val (.int (1 : Int32)), .val (.ref wO)] [(.int (1 : Int32)), (.ref ar)])) rfl rfl (hb hby d3_23) _ ?_
      show Steps p.tables e below (T522.setTop (mkF m 24 #[.val (.int p1), .val .null, .val .null, .val (.ref ar), .val (.int (2 : Int32)), .val (.int (1 : Int32)), .val (.ref wO)] [(.ref wN)])) t
      refine XS.astore X522.here hx rfl (hb hby d3_24) rfl rfl (l' := #[.val (.int p1), .val .null, .val .null, .val (.ref ar), .val (.int (2 : Int32)), .val (.int (1 : Int32)), .val (.ref wN)]) rfl ?_
      show Steps p.tables e below (T522.setTop (mkF m 26 #[.val (.int p1), .val .null, .val .null, .val (.ref ar), .val (.int (2 : Int32)), .val (.int (1 : Int32)), .val (.ref wN)] [])) t
      refine XS.aload X522.here hx rfl (hb hby d3_26) rfl rfl ?_
      exact kk
    obtain ⟨T526, X526, e526, st526⟩ := getF X522 hx hZ hown (host := "") (Or.inl (hw _ (List.mem_of_getElem? (i := 14) rfl))) Via.refl eq522 Fs_N (g := (mkF m 28 #[.val (.int p1), .val .null, .val .null, .val (.ref ar), .val (.int (2 : Int32)), .val (.int (1 : Int32)), .val (.ref wN)] [(.ref wN)])) rfl rfl (hb hby d3_28)
    have c527 : Goes p e below s₁ (entryFrame m #[(.int p1), .null] 7) T526 (mkF m 31 #[.val (.int p1), .val .null, .val .null, .val (.ref ar), .val (.int (2 : Int32)), .val (.int (1 : Int32)), .val (.ref wN)] [(.int (503 : Int32))]) := fun t kk => c525 t (st526 t kk)
    have c528 : Goes p e below s₁ (entryFrame m #[(.int p1), .null] 7) T526 (mkF m 32 #[.val (.int p1), .val .null, .val .null, .val (.ref ar), .val (.int (2 : Int32)), .val (.int (1 : Int32)), .val (.ref wN)] [(.int p1), (.int (503 : Int32))]) := by
      intro t kk
      refine c527 t ?_
      show Steps p.tables e below (T526.setTop (mkF m 31 #[.val (.int p1), .val .null, .val .null, .val (.ref ar), .val (.int (2 : Int32)), .val (.int (1 : Int32)), .val (.ref wN)] [(.int (503 : Int32))])) t
      refine XS.iloadN X526.here hx rfl (hb hby d3_31) rfl ?_
      exact kk
    by_cases hc32_529 : (503 : Int32) = p1
    · have c530 : Goes p e below s₁ (entryFrame m #[(.int p1), .null] 7) T526 (mkF m 37 #[.val (.int p1), .val .null, .val .null, .val (.ref ar), .val (.int (2 : Int32)), .val (.int (1 : Int32)), .val (.ref wN)] [(.ref wN)]) := by
        intro t kk
        refine c528 t ?_
        show Steps p.tables e below (T526.setTop (mkF m 32 #[.val (.int p1), .val .null, .val .null, .val (.ref ar), .val (.int (2 : Int32)), .val (.int (1 : Int32)), .val (.ref wN)] [(.int p1), (.int (503 : Int32))])) t
        refine XS.icmpNo X526.here hx rfl (hb hby d3_32) rfl (teq hc32_529).2 ?_
        show Steps p.tables e below (T526.setTop (mkF m 35 #[.val (.int p1), .val .null, .val .null, .val (.ref ar), .val (.int (2 : Int32)), .val (.int (1 : Int32)), .val (.ref wN)] [])) t
        refine XS.aload X526.here hx rfl (hb hby d3_35) rfl rfl ?_
        exact kk
      obtain ⟨T531, X531, e531, st531⟩ := getF X526 hx hZ hown (host := "") (Or.inl (hw _ (List.mem_of_getElem? (i := 61) rfl))) Via.refl e526 Fh_N (g := (mkF m 37 #[.val (.int p1), .val .null, .val .null, .val (.ref ar), .val (.int (2 : Int32)), .val (.int (1 : Int32)), .val (.ref wN)] [(.ref wN)])) rfl rfl (hb hby d3_37)
      have c532 : Goes p e below s₁ (entryFrame m #[(.int p1), .null] 7) T531 (mkF m 40 #[.val (.int p1), .val .null, .val .null, .val (.ref ar), .val (.int (2 : Int32)), .val (.int (1 : Int32)), .val (.ref wN)] [(.ref tN)]) := fun t kk => c530 t (st531 t kk)
      have c533 : Goes p e below s₁ (entryFrame m #[(.int p1), .null] 7) T531 (mkF m 41 #[.val (.int p1), .val .null, .val .null, .val (.ref ar), .val (.int (2 : Int32)), .val (.int (1 : Int32)), .val (.ref wN)] [.null, (.ref tN)]) := by
        intro t kk
        refine c532 t ?_
        show Steps p.tables e below (T531.setTop (mkF m 40 #[.val (.int p1), .val .null, .val .null, .val (.ref ar), .val (.int (2 : Int32)), .val (.int (1 : Int32)), .val (.ref wN)] [(.ref tN)])) t
        refine XS.aloadN X531.here hx rfl (hb hby d3_40) rfl rfl ?_
        exact kk
      obtain ⟨cq534, kq534, q534a, q534b, q534c⟩ := isOf hZ e531 X_N.1
      obtain ⟨_, _, ⟨T534, L534, k534, n534⟩, -, X534, ⟨Lc534, hQ534, l534, y534, z534⟩, st534⟩ := X531.virtualBack hx (y := (⟨"java/lang/String", "equals", "(Ljava/lang/Object;)Z"⟩ : MethodName)) (z := (⟨"java/lang/String", "equals", "(Ljava/lang/Object;)Z"⟩ : MethodName)) hown (mvT hZ (hw _ (List.mem_of_getElem? (i := 63) rfl))) (mvT hZ (hw _ (List.mem_of_getElem? (i := 51) rfl))) (notFace_of_selects (args := #[]) (mvT hZ (hw _ (List.mem_of_getElem? (i := 53) rfl)))) (mvT hZ (hw _ (List.mem_of_getElem? (i := 53) rfl))) (mvT hZ (hw _ (List.mem_of_getElem? (i := 52) rfl))) (by decide) (backOf (W := 0) (rm_eqn l Z a0 hw [] tN h0 n0 Z0) hZ (hw _ (List.mem_of_getElem? (i := 54) rfl)) (hw _ (List.mem_of_getElem? (i := 20) rfl)) (by decide) (by decide)) q534a q534c (g := (mkF m 41 #[.val (.int p1), .val .null, .val .null, .val (.ref ar), .val (.int (2 : Int32)), .val (.int (1 : Int32)), .val (.ref wN)] [.null, (.ref tN)])) rfl (by rw [hml]; rfl) (Steps.refl _) (argsL := [.null]) (rest := []) (lenOf pd__Ljava_lang_Object__Z rfl) rfl (by show 2 * 0 + _ ≤ _; exact Nat.le_of_eq rfl) (hb hby d3_41) (fun _ _ => ⟨rfl, e531, (by decide : 0 + 0 ≤ _), (by decide : 0 + 0 ≤ _)⟩)
      dsimp only [Pt.U, Pt.locs, Pt.cells, Pt.slots] at X534 l534 y534 z534 st534 hQ534
      subst l534 y534 z534
      obtain ⟨rfl, Nq534, eq534⟩ := hQ534
      have N534 := Fr.app N522 Nq534
      have c535 : Goes p e below s₁ (entryFrame m #[(.int p1), .null] 7) T534 (mkF m 44 #[.val (.int p1), .val .null, .val .null, .val (.ref ar), .val (.int (2 : Int32)), .val (.int (1 : Int32)), .val (.ref wN)] [(.int (0 : Int32))]) := fun t kk => c533 t (st534.trans kk)
      have c536 : Goes p e below s₁ (entryFrame m #[(.int p1), .null] 7) T534 (mkF m 60 #[.val (.int p1), .val .null, .val .null, .val (.ref ar), .val (.int (2 : Int32)), .val (.int (2 : Int32)), .val (.ref wN)] [.null]) := by
        intro t kk
        refine c535 t ?_
        show Steps p.tables e below (T534.setTop (mkF m 44 #[.val (.int p1), .val .null, .val .null, .val (.ref ar), .val (.int (2 : Int32)), .val (.int (1 : Int32)), .val (.ref wN)] [(.int (0 : Int32))])) t
        refine XS.ifYes X534.here hx rfl (pc0 := 44) (pc' := 53) rfl (hb hby d3_44) rfl ((if0 _ _).trans (teq (rfl : (0 : Int32) = (0 : Int32))).1) (by decide) (by decide) ?_
        show Steps p.tables e below (T534.setTop (mkF m 53 #[.val (.int p1), .val .null, .val .null, .val (.ref ar), .val (.int (2 : Int32)), .val (.int (1 : Int32)), .val (.ref wN)] [])) t
        refine XS.iinc X534.here hx rfl (hb hby d3_53) rfl (l' := #[.val (.int p1), .val .null, .val .null, .val (.ref ar), .val (.int (2 : Int32)), .val (.int (2 : Int32)), .val (.ref wN)]) rfl ?_
        show Steps p.tables e below (T534.setTop (mkF m 56 #[.val (.int p1), .val .null, .val .null, .val (.ref ar), .val (.int (2 : Int32)), .val (.int (2 : Int32)), .val (.ref wN)] [])) t
        refine XS.goto X534.here hx rfl (pc0 := 56) (pc' := 13) rfl (hb hby d3_56) (by decide) (by decide) ?_
        show Steps p.tables e below (T534.setTop (mkF m 13 #[.val (.int p1), .val .null, .val .null, .val (.ref ar), .val (.int (2 : Int32)), .val (.int (2 : Int32)), .val (.ref wN)] [])) t
        refine XS.iload X534.here hx rfl (hb hby d3_13) rfl ?_
        show Steps p.tables e below (T534.setTop (mkF m 15 #[.val (.int p1), .val .null, .val .null, .val (.ref ar), .val (.int (2 : Int32)), .val (.int (2 : Int32)), .val (.ref wN)] [(.int (2 : Int32))])) t
        refine XS.iload X534.here hx rfl (hb hby d3_15) rfl ?_
        show Steps p.tables e below (T534.setTop (mkF m 17 #[.val (.int p1), .val .null, .val .null, .val (.ref ar), .val (.int (2 : Int32)), .val (.int (2 : Int32)), .val (.ref wN)] [(.int (2 : Int32)), (.int (2 : Int32))])) t
        refine XS.icmpYes X534.here hx rfl (pc0 := 17) (pc' := 59) rfl (hb hby d3_17) rfl (flt (by decide : ¬ ((2 : Int32) < (2 : Int32)))).2.1 (by decide) (by decide) ?_
        show Steps p.tables e below (T534.setTop (mkF m 59 #[.val (.int p1), .val .null, .val .null, .val (.ref ar), .val (.int (2 : Int32)), .val (.int (2 : Int32)), .val (.ref wN)] [])) t
        refine XS.aloadN X534.here hx rfl (hb hby d3_59) rfl rfl ?_
        exact kk
      obtain ⟨fs, hr, hrun, hended, hW, hsame⟩ := X534.leave (v := some .null) (fun h => by rw [Bd.returns] at h; cases h)
      refine ⟨_, _, c536 _ ?_, hrun, hended, _, _, rfl, ?_, ⟨_, rfl⟩, hW, hsame.mono (by decide) (by decide)⟩
      · exact retOut X534 hx Bd.returns rfl (Or.inr (Or.inr (Or.inr (Or.inr ⟨rfl, rfl, rfl⟩)))) (hb hby d3_60) hr
      · show Q_ofn Z p1 ar kr wO wN tO tN h0 n0 _ T534.heap _
        rw [eq534]
        exact ⟨rfl, N534, rfl⟩
    · have c537 : Goes p e below s₁ (entryFrame m #[(.int p1), .null] 7) T526 (mkF m 60 #[.val (.int p1), .val .null, .val .null, .val (.ref ar), .val (.int (2 : Int32)), .val (.int (2 : Int32)), .val (.ref wN)] [.null]) := by
        intro t kk
        refine c528 t ?_
        show Steps p.tables e below (T526.setTop (mkF m 32 #[.val (.int p1), .val .null, .val .null, .val (.ref ar), .val (.int (2 : Int32)), .val (.int (1 : Int32)), .val (.ref wN)] [(.int p1), (.int (503 : Int32))])) t
        refine XS.icmpYes X526.here hx rfl (pc0 := 32) (pc' := 53) rfl (hb hby d3_32) rfl (feq hc32_529).2 (by decide) (by decide) ?_
        show Steps p.tables e below (T526.setTop (mkF m 53 #[.val (.int p1), .val .null, .val .null, .val (.ref ar), .val (.int (2 : Int32)), .val (.int (1 : Int32)), .val (.ref wN)] [])) t
        refine XS.iinc X526.here hx rfl (hb hby d3_53) rfl (l' := #[.val (.int p1), .val .null, .val .null, .val (.ref ar), .val (.int (2 : Int32)), .val (.int (2 : Int32)), .val (.ref wN)]) rfl ?_
        show Steps p.tables e below (T526.setTop (mkF m 56 #[.val (.int p1), .val .null, .val .null, .val (.ref ar), .val (.int (2 : Int32)), .val (.int (2 : Int32)), .val (.ref wN)] [])) t
        refine XS.goto X526.here hx rfl (pc0 := 56) (pc' := 13) rfl (hb hby d3_56) (by decide) (by decide) ?_
        show Steps p.tables e below (T526.setTop (mkF m 13 #[.val (.int p1), .val .null, .val .null, .val (.ref ar), .val (.int (2 : Int32)), .val (.int (2 : Int32)), .val (.ref wN)] [])) t
        refine XS.iload X526.here hx rfl (hb hby d3_13) rfl ?_
        show Steps p.tables e below (T526.setTop (mkF m 15 #[.val (.int p1), .val .null, .val .null, .val (.ref ar), .val (.int (2 : Int32)), .val (.int (2 : Int32)), .val (.ref wN)] [(.int (2 : Int32))])) t
        refine XS.iload X526.here hx rfl (hb hby d3_15) rfl ?_
        show Steps p.tables e below (T526.setTop (mkF m 17 #[.val (.int p1), .val .null, .val .null, .val (.ref ar), .val (.int (2 : Int32)), .val (.int (2 : Int32)), .val (.ref wN)] [(.int (2 : Int32)), (.int (2 : Int32))])) t
        refine XS.icmpYes X526.here hx rfl (pc0 := 17) (pc' := 59) rfl (hb hby d3_17) rfl (flt (by decide : ¬ ((2 : Int32) < (2 : Int32)))).2.1 (by decide) (by decide) ?_
        show Steps p.tables e below (T526.setTop (mkF m 59 #[.val (.int p1), .val .null, .val .null, .val (.ref ar), .val (.int (2 : Int32)), .val (.int (2 : Int32)), .val (.ref wN)] [])) t
        refine XS.aloadN X526.here hx rfl (hb hby d3_59) rfl rfl ?_
        exact kk
      obtain ⟨fs, hr, hrun, hended, hW, hsame⟩ := X526.leave (v := some .null) (fun h => by rw [Bd.returns] at h; cases h)
      refine ⟨_, _, c537 _ ?_, hrun, hended, _, _, rfl, ?_, ⟨_, rfl⟩, hW, hsame.mono (by decide) (by decide)⟩
      · exact retOut X526 hx Bd.returns rfl (Or.inr (Or.inr (Or.inr (Or.inr ⟨rfl, rfl, rfl⟩)))) (hb hby d3_60) hr
      · show Q_ofn Z p1 ar kr wO wN tO tN h0 n0 _ T526.heap _
        rw [e526]
        exact ⟨rfl, N522, rfl⟩
  · obtain ⟨cl538, Ar538, q538, Sz538, Nn538, Hh538, Gg538⟩ := id V_R
    have hin538 : ¬ ((1 : Int32) < 0 ∨ cl538.slots.size ≤ ((1 : Int32)).toNatClampNeg) := inb_of Sz538 ⟨by decide, by decide⟩
    have c539 : Goes p e below s₁ (entryFrame m #[(.int p1), .null] 7) T514 (mkF m 28 #[.val (.int p1), .val .null, .val .null, .val (.ref ar), .val (.int (2 : Int32)), .val (.int (1 : Int32)), .val (.ref wN)] [(.ref wN)]) := by
      intro t kk
      refine c516 t ?_
      show Steps p.tables e below (T514.setTop (mkF m 32 #[.val (.int p1), .val .null, .val .null, .val (.ref ar), .val (.int (2 : Int32)), .val (.int (0 : Int32)), .val (.ref wO)] [(.int p1), (.int (503 : Int32))])) t
      refine XS.icmpYes X514.here hx rfl (pc0 := 32) (pc' := 53) rfl (hb hby d3_32) rfl (feq hc32_517).2 (by decide) (by decide) ?_
      show Steps p.tables e below (T514.setTop (mkF m 53 #[.val (.int p1), .val .null, .val .null, .val (.ref ar), .val (.int (2 : Int32)), .val (.int (0 : Int32)), .val (.ref wO)] [])) t
      refine XS.iinc X514.here hx rfl (hb hby d3_53) rfl (l' := #[.val (.int p1), .val .null, .val .null, .val (.ref ar), .val (.int (2 : Int32)), .val (.int (1 : Int32)), .val (.ref wO)]) rfl ?_
      show Steps p.tables e below (T514.setTop (mkF m 56 #[.val (.int p1), .val .null, .val .null, .val (.ref ar), .val (.int (2 : Int32)), .val (.int (1 : Int32)), .val (.ref wO)] [])) t
      refine XS.goto X514.here hx rfl (pc0 := 56) (pc' := 13) rfl (hb hby d3_56) (by decide) (by decide) ?_
      show Steps p.tables e below (T514.setTop (mkF m 13 #[.val (.int p1), .val .null, .val .null, .val (.ref ar), .val (.int (2 : Int32)), .val (.int (1 : Int32)), .val (.ref wO)] [])) t
      refine XS.iload X514.here hx rfl (hb hby d3_13) rfl ?_
      show Steps p.tables e below (T514.setTop (mkF m 15 #[.val (.int p1), .val .null, .val .null, .val (.ref ar), .val (.int (2 : Int32)), .val (.int (1 : Int32)), .val (.ref wO)] [(.int (1 : Int32))])) t
      refine XS.iload X514.here hx rfl (hb hby d3_15) rfl ?_
      show Steps p.tables e below (T514.setTop (mkF m 17 #[.val (.int p1), .val .null, .val .null, .val (.ref ar), .val (.int (2 : Int32)), .val (.int (1 : Int32)), .val (.ref wO)] [(.int (2 : Int32)), (.int (1 : Int32))])) t
      refine XS.icmpNo X514.here hx rfl (hb hby d3_17) rfl (tlt (by decide : (1 : Int32) < (2 : Int32))).2.1 ?_
      show Steps p.tables e below (T514.setTop (mkF m 20 #[.val (.int p1), .val .null, .val .null, .val (.ref ar), .val (.int (2 : Int32)), .val (.int (1 : Int32)), .val (.ref wO)] [])) t
      refine XS.aloadN X514.here hx rfl (hb hby d3_20) rfl rfl ?_
      show Steps p.tables e below (T514.setTop (mkF m 21 #[.val (.int p1), .val .null, .val .null, .val (.ref ar), .val (.int (2 : Int32)), .val (.int (1 : Int32)), .val (.ref wO)] [(.ref ar)])) t
      refine XS.iload X514.here hx rfl (hb hby d3_21) rfl ?_
      show Steps p.tables e below (T514.setTop (mkF m 23 #[.val (.int p1), .val .null, .val .null, .val (.ref ar), .val (.int (2 : Int32)), .val (.int (1 : Int32)), .val (.ref wO)] [(.int (1 : Int32)), (.ref ar)])) t
      refine X514.aaload hx (j := (1 : Int32)) (v := (.ref wN)) (by rw [e514]; exact Ar538.1) (State.isArrayOf_alike hZ.alike Ar538.2.1) rfl Ar538.2.2 hin538 (Hh538.at hin538 rfl) (g := (mkF m 23 #[.val (.int p1), .val .null, .val .null, .val (.ref ar), .val (.int (2 : Int32)), .val (.int (1 : Int32)), .val (.ref wO)] [(.int (1 : Int32)), (.ref ar)])) rfl rfl (hb hby d3_23) _ ?_
      show Steps p.tables e below (T514.setTop (mkF m 24 #[.val (.int p1), .val .null, .val .null, .val (.ref ar), .val (.int (2 : Int32)), .val (.int (1 : Int32)), .val (.ref wO)] [(.ref wN)])) t
      refine XS.astore X514.here hx rfl (hb hby d3_24) rfl rfl (l' := #[.val (.int p1), .val .null, .val .null, .val (.ref ar), .val (.int (2 : Int32)), .val (.int (1 : Int32)), .val (.ref wN)]) rfl ?_
      show Steps p.tables e below (T514.setTop (mkF m 26 #[.val (.int p1), .val .null, .val .null, .val (.ref ar), .val (.int (2 : Int32)), .val (.int (1 : Int32)), .val (.ref wN)] [])) t
      refine XS.aload X514.here hx rfl (hb hby d3_26) rfl rfl ?_
      exact kk
    obtain ⟨T540, X540, e540, st540⟩ := getF X514 hx hZ hown (host := "") (Or.inl (hw _ (List.mem_of_getElem? (i := 14) rfl))) Via.refl e514 Fs_N (g := (mkF m 28 #[.val (.int p1), .val .null, .val .null, .val (.ref ar), .val (.int (2 : Int32)), .val (.int (1 : Int32)), .val (.ref wN)] [(.ref wN)])) rfl rfl (hb hby d3_28)
    have c541 : Goes p e below s₁ (entryFrame m #[(.int p1), .null] 7) T540 (mkF m 31 #[.val (.int p1), .val .null, .val .null, .val (.ref ar), .val (.int (2 : Int32)), .val (.int (1 : Int32)), .val (.ref wN)] [(.int (503 : Int32))]) := fun t kk => c539 t (st540 t kk)
    have c542 : Goes p e below s₁ (entryFrame m #[(.int p1), .null] 7) T540 (mkF m 32 #[.val (.int p1), .val .null, .val .null, .val (.ref ar), .val (.int (2 : Int32)), .val (.int (1 : Int32)), .val (.ref wN)] [(.int p1), (.int (503 : Int32))]) := by
      intro t kk
      refine c541 t ?_
      show Steps p.tables e below (T540.setTop (mkF m 31 #[.val (.int p1), .val .null, .val .null, .val (.ref ar), .val (.int (2 : Int32)), .val (.int (1 : Int32)), .val (.ref wN)] [(.int (503 : Int32))])) t
      refine XS.iloadN X540.here hx rfl (hb hby d3_31) rfl ?_
      exact kk
    by_cases hc32_543 : (503 : Int32) = p1
    · have c544 : Goes p e below s₁ (entryFrame m #[(.int p1), .null] 7) T540 (mkF m 37 #[.val (.int p1), .val .null, .val .null, .val (.ref ar), .val (.int (2 : Int32)), .val (.int (1 : Int32)), .val (.ref wN)] [(.ref wN)]) := by
        intro t kk
        refine c542 t ?_
        show Steps p.tables e below (T540.setTop (mkF m 32 #[.val (.int p1), .val .null, .val .null, .val (.ref ar), .val (.int (2 : Int32)), .val (.int (1 : Int32)), .val (.ref wN)] [(.int p1), (.int (503 : Int32))])) t
        refine XS.icmpNo X540.here hx rfl (hb hby d3_32) rfl (teq hc32_543).2 ?_
        show Steps p.tables e below (T540.setTop (mkF m 35 #[.val (.int p1), .val .null, .val .null, .val (.ref ar), .val (.int (2 : Int32)), .val (.int (1 : Int32)), .val (.ref wN)] [])) t
        refine XS.aload X540.here hx rfl (hb hby d3_35) rfl rfl ?_
        exact kk
      obtain ⟨T545, X545, e545, st545⟩ := getF X540 hx hZ hown (host := "") (Or.inl (hw _ (List.mem_of_getElem? (i := 61) rfl))) Via.refl e540 Fh_N (g := (mkF m 37 #[.val (.int p1), .val .null, .val .null, .val (.ref ar), .val (.int (2 : Int32)), .val (.int (1 : Int32)), .val (.ref wN)] [(.ref wN)])) rfl rfl (hb hby d3_37)
      have c546 : Goes p e below s₁ (entryFrame m #[(.int p1), .null] 7) T545 (mkF m 40 #[.val (.int p1), .val .null, .val .null, .val (.ref ar), .val (.int (2 : Int32)), .val (.int (1 : Int32)), .val (.ref wN)] [(.ref tN)]) := fun t kk => c544 t (st545 t kk)
      have c547 : Goes p e below s₁ (entryFrame m #[(.int p1), .null] 7) T545 (mkF m 41 #[.val (.int p1), .val .null, .val .null, .val (.ref ar), .val (.int (2 : Int32)), .val (.int (1 : Int32)), .val (.ref wN)] [.null, (.ref tN)]) := by
        intro t kk
        refine c546 t ?_
        show Steps p.tables e below (T545.setTop (mkF m 40 #[.val (.int p1), .val .null, .val .null, .val (.ref ar), .val (.int (2 : Int32)), .val (.int (1 : Int32)), .val (.ref wN)] [(.ref tN)])) t
        refine XS.aloadN X545.here hx rfl (hb hby d3_40) rfl rfl ?_
        exact kk
      obtain ⟨cq548, kq548, q548a, q548b, q548c⟩ := isOf hZ e545 X_N.1
      obtain ⟨_, _, ⟨T548, L548, k548, n548⟩, -, X548, ⟨Lc548, hQ548, l548, y548, z548⟩, st548⟩ := X545.virtualBack hx (y := (⟨"java/lang/String", "equals", "(Ljava/lang/Object;)Z"⟩ : MethodName)) (z := (⟨"java/lang/String", "equals", "(Ljava/lang/Object;)Z"⟩ : MethodName)) hown (mvT hZ (hw _ (List.mem_of_getElem? (i := 63) rfl))) (mvT hZ (hw _ (List.mem_of_getElem? (i := 51) rfl))) (notFace_of_selects (args := #[]) (mvT hZ (hw _ (List.mem_of_getElem? (i := 53) rfl)))) (mvT hZ (hw _ (List.mem_of_getElem? (i := 53) rfl))) (mvT hZ (hw _ (List.mem_of_getElem? (i := 52) rfl))) (by decide) (backOf (W := 0) (rm_eqn l Z a0 hw [] tN h0 n0 Z0) hZ (hw _ (List.mem_of_getElem? (i := 54) rfl)) (hw _ (List.mem_of_getElem? (i := 20) rfl)) (by decide) (by decide)) q548a q548c (g := (mkF m 41 #[.val (.int p1), .val .null, .val .null, .val (.ref ar), .val (.int (2 : Int32)), .val (.int (1 : Int32)), .val (.ref wN)] [.null, (.ref tN)])) rfl (by rw [hml]; rfl) (Steps.refl _) (argsL := [.null]) (rest := []) (lenOf pd__Ljava_lang_Object__Z rfl) rfl (by show 2 * 0 + _ ≤ _; exact Nat.le_of_eq rfl) (hb hby d3_41) (fun _ _ => ⟨rfl, e545, (by decide : 0 + 0 ≤ _), (by decide : 0 + 0 ≤ _)⟩)
      dsimp only [Pt.U, Pt.locs, Pt.cells, Pt.slots] at X548 l548 y548 z548 st548 hQ548
      subst l548 y548 z548
      obtain ⟨rfl, Nq548, eq548⟩ := hQ548
      have N548 := Fr.app N0 Nq548
      have c549 : Goes p e below s₁ (entryFrame m #[(.int p1), .null] 7) T548 (mkF m 44 #[.val (.int p1), .val .null, .val .null, .val (.ref ar), .val (.int (2 : Int32)), .val (.int (1 : Int32)), .val (.ref wN)] [(.int (0 : Int32))]) := fun t kk => c547 t (st548.trans kk)
      have c550 : Goes p e below s₁ (entryFrame m #[(.int p1), .null] 7) T548 (mkF m 60 #[.val (.int p1), .val .null, .val .null, .val (.ref ar), .val (.int (2 : Int32)), .val (.int (2 : Int32)), .val (.ref wN)] [.null]) := by
        intro t kk
        refine c549 t ?_
        show Steps p.tables e below (T548.setTop (mkF m 44 #[.val (.int p1), .val .null, .val .null, .val (.ref ar), .val (.int (2 : Int32)), .val (.int (1 : Int32)), .val (.ref wN)] [(.int (0 : Int32))])) t
        refine XS.ifYes X548.here hx rfl (pc0 := 44) (pc' := 53) rfl (hb hby d3_44) rfl ((if0 _ _).trans (teq (rfl : (0 : Int32) = (0 : Int32))).1) (by decide) (by decide) ?_
        show Steps p.tables e below (T548.setTop (mkF m 53 #[.val (.int p1), .val .null, .val .null, .val (.ref ar), .val (.int (2 : Int32)), .val (.int (1 : Int32)), .val (.ref wN)] [])) t
        refine XS.iinc X548.here hx rfl (hb hby d3_53) rfl (l' := #[.val (.int p1), .val .null, .val .null, .val (.ref ar), .val (.int (2 : Int32)), .val (.int (2 : Int32)), .val (.ref wN)]) rfl ?_
        show Steps p.tables e below (T548.setTop (mkF m 56 #[.val (.int p1), .val .null, .val .null, .val (.ref ar), .val (.int (2 : Int32)), .val (.int (2 : Int32)), .val (.ref wN)] [])) t
        refine XS.goto X548.here hx rfl (pc0 := 56) (pc' := 13) rfl (hb hby d3_56) (by decide) (by decide) ?_
        show Steps p.tables e below (T548.setTop (mkF m 13 #[.val (.int p1), .val .null, .val .null, .val (.ref ar), .val (.int (2 : Int32)), .val (.int (2 : Int32)), .val (.ref wN)] [])) t
        refine XS.iload X548.here hx rfl (hb hby d3_13) rfl ?_
        show Steps p.tables e below (T548.setTop (mkF m 15 #[.val (.int p1), .val .null, .val .null, .val (.ref ar), .val (.int (2 : Int32)), .val (.int (2 : Int32)), .val (.ref wN)] [(.int (2 : Int32))])) t
        refine XS.iload X548.here hx rfl (hb hby d3_15) rfl ?_
        show Steps p.tables e below (T548.setTop (mkF m 17 #[.val (.int p1), .val .null, .val .null, .val (.ref ar), .val (.int (2 : Int32)), .val (.int (2 : Int32)), .val (.ref wN)] [(.int (2 : Int32)), (.int (2 : Int32))])) t
        refine XS.icmpYes X548.here hx rfl (pc0 := 17) (pc' := 59) rfl (hb hby d3_17) rfl (flt (by decide : ¬ ((2 : Int32) < (2 : Int32)))).2.1 (by decide) (by decide) ?_
        show Steps p.tables e below (T548.setTop (mkF m 59 #[.val (.int p1), .val .null, .val .null, .val (.ref ar), .val (.int (2 : Int32)), .val (.int (2 : Int32)), .val (.ref wN)] [])) t
        refine XS.aloadN X548.here hx rfl (hb hby d3_59) rfl rfl ?_
        exact kk
      obtain ⟨fs, hr, hrun, hended, hW, hsame⟩ := X548.leave (v := some .null) (fun h => by rw [Bd.returns] at h; cases h)
      refine ⟨_, _, c550 _ ?_, hrun, hended, _, _, rfl, ?_, ⟨_, rfl⟩, hW, hsame.mono (by decide) (by decide)⟩
      · exact retOut X548 hx Bd.returns rfl (Or.inr (Or.inr (Or.inr (Or.inr ⟨rfl, rfl, rfl⟩)))) (hb hby d3_60) hr
      · show Q_ofn Z p1 ar kr wO wN tO tN h0 n0 _ T548.heap _
        rw [eq548]
        exact ⟨rfl, N548, rfl⟩
    · have c551 : Goes p e below s₁ (entryFrame m #[(.int p1), .null] 7) T540 (mkF m 60 #[.val (.int p1), .val .null, .val .null, .val (.ref ar), .val (.int (2 : Int32)), .val (.int (2 : Int32)), .val (.ref wN)] [.null]) := by
        intro t kk
        refine c542 t ?_
        show Steps p.tables e below (T540.setTop (mkF m 32 #[.val (.int p1), .val .null, .val .null, .val (.ref ar), .val (.int (2 : Int32)), .val (.int (1 : Int32)), .val (.ref wN)] [(.int p1), (.int (503 : Int32))])) t
        refine XS.icmpYes X540.here hx rfl (pc0 := 32) (pc' := 53) rfl (hb hby d3_32) rfl (feq hc32_543).2 (by decide) (by decide) ?_
        show Steps p.tables e below (T540.setTop (mkF m 53 #[.val (.int p1), .val .null, .val .null, .val (.ref ar), .val (.int (2 : Int32)), .val (.int (1 : Int32)), .val (.ref wN)] [])) t
        refine XS.iinc X540.here hx rfl (hb hby d3_53) rfl (l' := #[.val (.int p1), .val .null, .val .null, .val (.ref ar), .val (.int (2 : Int32)), .val (.int (2 : Int32)), .val (.ref wN)]) rfl ?_
        show Steps p.tables e below (T540.setTop (mkF m 56 #[.val (.int p1), .val .null, .val .null, .val (.ref ar), .val (.int (2 : Int32)), .val (.int (2 : Int32)), .val (.ref wN)] [])) t
        refine XS.goto X540.here hx rfl (pc0 := 56) (pc' := 13) rfl (hb hby d3_56) (by decide) (by decide) ?_
        show Steps p.tables e below (T540.setTop (mkF m 13 #[.val (.int p1), .val .null, .val .null, .val (.ref ar), .val (.int (2 : Int32)), .val (.int (2 : Int32)), .val (.ref wN)] [])) t
        refine XS.iload X540.here hx rfl (hb hby d3_13) rfl ?_
        show Steps p.tables e below (T540.setTop (mkF m 15 #[.val (.int p1), .val .null, .val .null, .val (.ref ar), .val (.int (2 : Int32)), .val (.int (2 : Int32)), .val (.ref wN)] [(.int (2 : Int32))])) t
        refine XS.iload X540.here hx rfl (hb hby d3_15) rfl ?_
        show Steps p.tables e below (T540.setTop (mkF m 17 #[.val (.int p1), .val .null, .val .null, .val (.ref ar), .val (.int (2 : Int32)), .val (.int (2 : Int32)), .val (.ref wN)] [(.int (2 : Int32)), (.int (2 : Int32))])) t
        refine XS.icmpYes X540.here hx rfl (pc0 := 17) (pc' := 59) rfl (hb hby d3_17) rfl (flt (by decide : ¬ ((2 : Int32) < (2 : Int32)))).2.1 (by decide) (by decide) ?_
        show Steps p.tables e below (T540.setTop (mkF m 59 #[.val (.int p1), .val .null, .val .null, .val (.ref ar), .val (.int (2 : Int32)), .val (.int (2 : Int32)), .val (.ref wN)] [])) t
        refine XS.aloadN X540.here hx rfl (hb hby d3_59) rfl rfl ?_
        exact kk
      obtain ⟨fs, hr, hrun, hended, hW, hsame⟩ := X540.leave (v := some .null) (fun h => by rw [Bd.returns] at h; cases h)
      refine ⟨_, _, c551 _ ?_, hrun, hended, _, _, rfl, ?_, ⟨_, rfl⟩, hW, hsame.mono (by decide) (by decide)⟩
      · exact retOut X540 hx Bd.returns rfl (Or.inr (Or.inr (Or.inr (Or.inr ⟨rfl, rfl, rfl⟩)))) (hb hby d3_60) hr
      · show Q_ofn Z p1 ar kr wO wN tO tN h0 n0 _ T540.heap _
        rw [e540]
        exact ⟨rfl, N0, rfl⟩
theorem d3_47 : decode prog_27_method_6_code 47 = .ok (.aload 6, 2) := by decide +kernel
theorem d3_49 : decode prog_27_method_6_code 49 = .ok (.astore_n 2, 1) := by decide +kernel
theorem d3_50 : decode prog_27_method_6_code 50 = .ok (.goto 9, 3) := by decide +kernel
theorem ef_ofr (m : MethodId) (x0 : Int32) (x1 : Addr) : entryFrame m #[(.int x0), (.ref x1)] 7 = mkF m 0 #[.val (.int x0), .val (.ref x1), .unset, .unset, .unset, .unset, .unset] [] := by (first | (simp [entryFrame, mkF, argsToLocals, Value.category]; done) | rfl)
def Q_ofr (Z : State) (p1 : Int32) (a1 : Addr) (cs : List Int32) (z : Int32) (ar : Addr) (kr : ClassId) (wO : Addr) (wN : Addr) (tO : Addr) (tN : Addr) (h0 : Heap) (n0 : Nat) (v : Option Value) (h : Heap) (L : List Loc) : Prop := v = some (own_rj p1 cs wO wN) ∧ Fr n0 L ∧ h = h0
set_option maxRecDepth 65536 in
set_option maxHeartbeats 40000000 in
theorem rm_ofr (l : Launch) (Z : State) (a0 : Array Value) (hw : ∀ d ∈ tables_1, d.before a0 Z = true) (ws : List Jvm.Cond) (p1 : Int32) (a1 : Addr) (cs : List Int32) (z : Int32) (ar : Addr) (kr : ClassId) (wO : Addr) (wN : Addr) (tO : Addr) (tN : Addr) (h0 : Heap) (n0 : Nat) (Z0 : n0 ≤ h0.size) (S_R : Sta Z h0 "com/example/ventil/ventil/Rejection" "REASONS" "[Lcom/example/ventil/ventil/Rejection;" (.ref ar)) (V_R : Arv Z h0 ar kr (.object "com/example/ventil/ventil/Rejection") (2 : Int32) [.ref wO, .ref wN] .null) (Fs_O : Fld Z h0 wO "com/example/ventil/ventil/Rejection" "status" "I" (.int 503)) (Fs_N : Fld Z h0 wN "com/example/ventil/ventil/Rejection" "status" "I" (.int 503)) (Fh_O : Fld Z h0 wO "com/example/ventil/ventil/Rejection" "headerValue" "Ljava/lang/String;" (.ref tO)) (Fh_N : Fld Z h0 wN "com/example/ventil/ventil/Rejection" "headerValue" "Ljava/lang/String;" (.ref tN)) (X_O : own_str Z h0 tO ([111, 118, 101, 114, 108, 111, 97, 100, 101, 100] : List Int32)) (X_N : own_str Z h0 tN ([111, 118, 101, 114, 108, 111, 97, 100, 101, 100, 45, 110, 111, 45, 114, 101, 116, 114, 121] : List Int32)) (hs : own_str Z h0 a1 cs) (hl : cs.length ≤ 19) (S2 : Sta Z h0 "java/lang/String" "COMPACT_STRINGS" "Z" (.int z)) (hz : ¬ z = 0) :
    MetFree l (⟨"com/example/ventil/ventil/Rejection", "of", "(ILjava/lang/String;)Lcom/example/ventil/ventil/Rejection;"⟩ : MethodName) (head1 (Jvm.Cond.code (⟨"com/example/ventil/ventil/Rejection", "of", "(ILjava/lang/String;)Lcom/example/ventil/ventil/Rejection;"⟩ : MethodName) prog_27_method_6_code 7 (some (.object "com/example/ventil/ventil/Rejection")) :: ws) ({ frames := 2, cells := 0, slots := 0, locals := 28 } : Room)) (fun a U => a = #[(.int p1), (.ref a1)] ∧ Z.Warmed39 U.vm ∧ U.heap = h0) (fun _ _ _ _ _ => True) (fun _ U o U' => ∃ v L, o = .returned v ∧ Q_ofr Z p1 a1 cs z ar kr wO wN tO tN h0 n0 v U'.heap L ∧ FrameEnd U o U' L ({ frames := 2, cells := 0, slots := 0, locals := 28 } : Room).cells ({ frames := 2, cells := 0, slots := 0, locals := 28 } : Room).slots) := by
  refine MetFree.of_bodySF (plainFor_of_name pn_3) hisR ?_
  intro p e s m args below meth c s₁ Bd hml0 hP hK
  obtain ⟨rfl, hZ, hh⟩ := hP
  have hx := Bd.exec
  have hby := Bd.bytes
  have hml : c.maxLocals = 7 := hml0
  have hown : s.vm.findClass "com/example/ventil/ventil/Rejection" = some m.cls := findClass_of_methodNamed Bd.named
  have hnm := (name_of_methodNamed Bd.named Bd.method).1
  have X0 : Stand p l e ({ frames := 2, cells := 0, slots := 0, locals := 28 } : Room) s m #[(.int p1), (.ref a1)] below meth c s₁ [] 0 0 := Stand.of_body Bd
  have e0 : s₁.heap = h0 := by rw [← hh, Bd.state]; rfl
  have N0 := Fr.nil n0
  have c0 : Goes p e below s₁ (entryFrame m #[(.int p1), (.ref a1)] 7) s₁ (mkF m 0 #[.val (.int p1), .val (.ref a1), .unset, .unset, .unset, .unset, .unset] []) := fun t k => castTop (ef_ofr m p1 a1) k
  have hl2 : cs.length ≤ 4000 := by omega
  have c552 : Goes p e below s₁ (entryFrame m #[(.int p1), (.ref a1)] 7) s₁ (mkF m 2 #[.val (.int p1), .val (.ref a1), .val .null, .unset, .unset, .unset, .unset] []) := by
    intro t kk
    refine c0 t ?_
    show Steps p.tables e below (s₁.setTop (mkF m 0 #[.val (.int p1), .val (.ref a1), .unset, .unset, .unset, .unset, .unset] [])) t
    refine XS.aconstNull X0.here hx rfl (hb hby d3_0) ?_
    show Steps p.tables e below (s₁.setTop (mkF m 1 #[.val (.int p1), .val (.ref a1), .unset, .unset, .unset, .unset, .unset] [.null])) t
    refine XS.astoreN X0.here hx rfl (hb hby d3_1) rfl rfl (l' := #[.val (.int p1), .val (.ref a1), .val .null, .unset, .unset, .unset, .unset]) rfl ?_
    exact kk
  obtain ⟨T553, X553, e553, st553⟩ := getS2 X0 hx hZ hown (host := "") (Or.inl (hw _ (List.mem_of_getElem? (i := 11) rfl))) Via.refl e0 S_R (g := (mkF m 2 #[.val (.int p1), .val (.ref a1), .val .null, .unset, .unset, .unset, .unset] [])) rfl (hb hby d3_2)
  have c554 : Goes p e below s₁ (entryFrame m #[(.int p1), (.ref a1)] 7) T553 (mkF m 5 #[.val (.int p1), .val (.ref a1), .val .null, .unset, .unset, .unset, .unset] [(.ref ar)]) := fun t kk => c552 t (st553 t kk)
  obtain ⟨cl555, Ar555, q555, Sz555, Nn555, Hh555, Gg555⟩ := id V_R
  obtain ⟨cl556, Ar556, q556, Sz556, Nn556, Hh556, Gg556⟩ := id V_R
  have hin556 : ¬ ((0 : Int32) < 0 ∨ cl556.slots.size ≤ ((0 : Int32)).toNatClampNeg) := inb_of Sz556 ⟨by decide, by decide⟩
  have c557 : Goes p e below s₁ (entryFrame m #[(.int p1), (.ref a1)] 7) T553 (mkF m 28 #[.val (.int p1), .val (.ref a1), .val .null, .val (.ref ar), .val (.int (2 : Int32)), .val (.int (0 : Int32)), .val (.ref wO)] [(.ref wO)]) := by
    intro t kk
    refine c554 t ?_
    show Steps p.tables e below (T553.setTop (mkF m 5 #[.val (.int p1), .val (.ref a1), .val .null, .unset, .unset, .unset, .unset] [(.ref ar)])) t
    refine XS.astoreN X553.here hx rfl (hb hby d3_5) rfl rfl (l' := #[.val (.int p1), .val (.ref a1), .val .null, .val (.ref ar), .unset, .unset, .unset]) rfl ?_
    show Steps p.tables e below (T553.setTop (mkF m 6 #[.val (.int p1), .val (.ref a1), .val .null, .val (.ref ar), .unset, .unset, .unset] [])) t
    refine XS.aloadN X553.here hx rfl (hb hby d3_6) rfl rfl ?_
    show Steps p.tables e below (T553.setTop (mkF m 7 #[.val (.int p1), .val (.ref a1), .val .null, .val (.ref ar), .unset, .unset, .unset] [(.ref ar)])) t
    refine X553.arraylength hx (by rw [e553]; exact Ar555.1) (State.isArrayOf_alike hZ.alike Ar555.2.1) (g := (mkF m 7 #[.val (.int p1), .val (.ref a1), .val .null, .val (.ref ar), .unset, .unset, .unset] [(.ref ar)])) rfl rfl (hb hby d3_7) _ ?_
    rw [len_of Sz555 Nn555]
    show Steps p.tables e below (T553.setTop (mkF m 8 #[.val (.int p1), .val (.ref a1), .val .null, .val (.ref ar), .unset, .unset, .unset] [(.int (2 : Int32))])) t
    refine XS.istore X553.here hx rfl (hb hby d3_8) rfl (l' := #[.val (.int p1), .val (.ref a1), .val .null, .val (.ref ar), .val (.int (2 : Int32)), .unset, .unset]) rfl ?_
    show Steps p.tables e below (T553.setTop (mkF m 10 #[.val (.int p1), .val (.ref a1), .val .null, .val (.ref ar), .val (.int (2 : Int32)), .unset, .unset] [])) t
    refine XS.iconst X553.here hx rfl (hb hby d3_10) ?_
    show Steps p.tables e below (T553.setTop (mkF m 11 #[.val (.int p1), .val (.ref a1), .val .null, .val (.ref ar), .val (.int (2 : Int32)), .unset, .unset] [(.int (0 : Int32))])) t
    refine XS.istore X553.here hx rfl (hb hby d3_11) rfl (l' := #[.val (.int p1), .val (.ref a1), .val .null, .val (.ref ar), .val (.int (2 : Int32)), .val (.int (0 : Int32)), .unset]) rfl ?_
    show Steps p.tables e below (T553.setTop (mkF m 13 #[.val (.int p1), .val (.ref a1), .val .null, .val (.ref ar), .val (.int (2 : Int32)), .val (.int (0 : Int32)), .unset] [])) t
    refine XS.iload X553.here hx rfl (hb hby d3_13) rfl ?_
    show Steps p.tables e below (T553.setTop (mkF m 15 #[.val (.int p1), .val (.ref a1), .val .null, .val (.ref ar), .val (.int (2 : Int32)), .val (.int (0 : Int32)), .unset] [(.int (0 : Int32))])) t
    refine XS.iload X553.here hx rfl (hb hby d3_15) rfl ?_
    show Steps p.tables e below (T553.setTop (mkF m 17 #[.val (.int p1), .val (.ref a1), .val .null, .val (.ref ar), .val (.int (2 : Int32)), .val (.int (0 : Int32)), .unset] [(.int (2 : Int32)), (.int (0 : Int32))])) t
    refine XS.icmpNo X553.here hx rfl (hb hby d3_17) rfl (tlt (by decide : (0 : Int32) < (2 : Int32))).2.1 ?_
    show Steps p.tables e below (T553.setTop (mkF m 20 #[.val (.int p1), .val (.ref a1), .val .null, .val (.ref ar), .val (.int (2 : Int32)), .val (.int (0 : Int32)), .unset] [])) t
    refine XS.aloadN X553.here hx rfl (hb hby d3_20) rfl rfl ?_
    show Steps p.tables e below (T553.setTop (mkF m 21 #[.val (.int p1), .val (.ref a1), .val .null, .val (.ref ar), .val (.int (2 : Int32)), .val (.int (0 : Int32)), .unset] [(.ref ar)])) t
    refine XS.iload X553.here hx rfl (hb hby d3_21) rfl ?_
    show Steps p.tables e below (T553.setTop (mkF m 23 #[.val (.int p1), .val (.ref a1), .val .null, .val (.ref ar), .val (.int (2 : Int32)), .val (.int (0 : Int32)), .unset] [(.int (0 : Int32)), (.ref ar)])) t
    refine X553.aaload hx (j := (0 : Int32)) (v := (.ref wO)) (by rw [e553]; exact Ar556.1) (State.isArrayOf_alike hZ.alike Ar556.2.1) rfl Ar556.2.2 hin556 (Hh556.at hin556 rfl) (g := (mkF m 23 #[.val (.int p1), .val (.ref a1), .val .null, .val (.ref ar), .val (.int (2 : Int32)), .val (.int (0 : Int32)), .unset] [(.int (0 : Int32)), (.ref ar)])) rfl rfl (hb hby d3_23) _ ?_
    show Steps p.tables e below (T553.setTop (mkF m 24 #[.val (.int p1), .val (.ref a1), .val .null, .val (.ref ar), .val (.int (2 : Int32)), .val (.int (0 : Int32)), .unset] [(.ref wO)])) t
    refine XS.astore X553.here hx rfl (hb hby d3_24) rfl rfl (l' := #[.val (.int p1), .val (.ref a1), .val .null, .val (.ref ar), .val (.int (2 : Int32)), .val (.int (0 : Int32)), .val (.ref wO)]) rfl ?_
    show Steps p.tables e below (T553.setTop (mkF m 26 #[.val (.int p1), .val (.ref a1), .val .null, .val (.ref ar), .val (.int (2 : Int32)), .val (.int (0 : Int32)), .val (.ref wO)] [])) t
    refine XS.aload X553.here hx rfl (hb hby d3_26) rfl rfl ?_
    exact kk
  obtain ⟨T558, X558, e558, st558⟩ := getF X553 hx hZ hown (host := "") (Or.inl (hw _ (List.mem_of_getElem? (i := 14) rfl))) Via.refl e553 Fs_O (g := (mkF m 28 #[.val (.int p1), .val (.ref a1), .val .null, .val (.ref ar), .val (.int (2 : Int32)), .val (.int (0 : Int32)), .val (.ref wO)] [(.ref wO)])) rfl rfl (hb hby d3_28)
  have c559 : Goes p e below s₁ (entryFrame m #[(.int p1), (.ref a1)] 7) T558 (mkF m 31 #[.val (.int p1), .val (.ref a1), .val .null, .val (.ref ar), .val (.int (2 : Int32)), .val (.int (0 : Int32)), .val (.ref wO)] [(.int (503 : Int32))]) := fun t kk => c557 t (st558 t kk)
  have c560 : Goes p e below s₁ (entryFrame m #[(.int p1), (.ref a1)] 7) T558 (mkF m 32 #[.val (.int p1), .val (.ref a1), .val .null, .val (.ref ar), .val (.int (2 : Int32)), .val (.int (0 : Int32)), .val (.ref wO)] [(.int p1), (.int (503 : Int32))]) := by
    intro t kk
    refine c559 t ?_
    show Steps p.tables e below (T558.setTop (mkF m 31 #[.val (.int p1), .val (.ref a1), .val .null, .val (.ref ar), .val (.int (2 : Int32)), .val (.int (0 : Int32)), .val (.ref wO)] [(.int (503 : Int32))])) t
    refine XS.iloadN X558.here hx rfl (hb hby d3_31) rfl ?_
    exact kk
  by_cases h32 : (503 : Int32) = p1
  · have c561 : Goes p e below s₁ (entryFrame m #[(.int p1), (.ref a1)] 7) T558 (mkF m 37 #[.val (.int p1), .val (.ref a1), .val .null, .val (.ref ar), .val (.int (2 : Int32)), .val (.int (0 : Int32)), .val (.ref wO)] [(.ref wO)]) := by
      intro t kk
      refine c560 t ?_
      show Steps p.tables e below (T558.setTop (mkF m 32 #[.val (.int p1), .val (.ref a1), .val .null, .val (.ref ar), .val (.int (2 : Int32)), .val (.int (0 : Int32)), .val (.ref wO)] [(.int p1), (.int (503 : Int32))])) t
      refine XS.icmpNo X558.here hx rfl (hb hby d3_32) rfl (teq h32).2 ?_
      show Steps p.tables e below (T558.setTop (mkF m 35 #[.val (.int p1), .val (.ref a1), .val .null, .val (.ref ar), .val (.int (2 : Int32)), .val (.int (0 : Int32)), .val (.ref wO)] [])) t
      refine XS.aload X558.here hx rfl (hb hby d3_35) rfl rfl ?_
      exact kk
    obtain ⟨T562, X562, e562, st562⟩ := getF X558 hx hZ hown (host := "") (Or.inl (hw _ (List.mem_of_getElem? (i := 61) rfl))) Via.refl e558 Fh_O (g := (mkF m 37 #[.val (.int p1), .val (.ref a1), .val .null, .val (.ref ar), .val (.int (2 : Int32)), .val (.int (0 : Int32)), .val (.ref wO)] [(.ref wO)])) rfl rfl (hb hby d3_37)
    have c563 : Goes p e below s₁ (entryFrame m #[(.int p1), (.ref a1)] 7) T562 (mkF m 40 #[.val (.int p1), .val (.ref a1), .val .null, .val (.ref ar), .val (.int (2 : Int32)), .val (.int (0 : Int32)), .val (.ref wO)] [(.ref tO)]) := fun t kk => c561 t (st562 t kk)
    obtain ⟨sE564, sC564, sp564, st564_t, kb564, sV564, sK564⟩ := id X_O
    obtain ⟨sE565, sC565, sp565, st565_t, kb565, sV565, sK565⟩ := id hs
    have c567 : Goes p e below s₁ (entryFrame m #[(.int p1), (.ref a1)] 7) T562 (mkF m 41 #[.val (.int p1), .val (.ref a1), .val .null, .val (.ref ar), .val (.int (2 : Int32)), .val (.int (0 : Int32)), .val (.ref wO)] [(.ref a1), (.ref tO)]) := by
      intro t kk
      refine c563 t ?_
      show Steps p.tables e below (T562.setTop (mkF m 40 #[.val (.int p1), .val (.ref a1), .val .null, .val (.ref ar), .val (.int (2 : Int32)), .val (.int (0 : Int32)), .val (.ref wO)] [(.ref tO)])) t
      refine XS.aloadN X562.here hx rfl (hb hby d3_40) rfl rfl ?_
      exact kk
    obtain ⟨cq568, kq568, q568a, q568b, q568c⟩ := isOf hZ e562 sE564
    obtain ⟨_, _, ⟨T568, L568, k568, n568⟩, -, X568, ⟨Lc568, hQ568, l568, y568, z568⟩, st568⟩ := X562.virtualBack hx (y := (⟨"java/lang/String", "equals", "(Ljava/lang/Object;)Z"⟩ : MethodName)) (z := (⟨"java/lang/String", "equals", "(Ljava/lang/Object;)Z"⟩ : MethodName)) hown (mvT hZ (hw _ (List.mem_of_getElem? (i := 63) rfl))) (mvT hZ (hw _ (List.mem_of_getElem? (i := 51) rfl))) (notFace_of_selects (args := #[]) (mvT hZ (hw _ (List.mem_of_getElem? (i := 53) rfl)))) (mvT hZ (hw _ (List.mem_of_getElem? (i := 53) rfl))) (mvT hZ (hw _ (List.mem_of_getElem? (i := 52) rfl))) (by decide) (StrChars.Road.eqW (W := 0) hZ (own_weq hw) (kI := 4) (hw _ (List.mem_of_getElem? (i := 19) rfl)) sE564 sV564 sC564 sK564 (StrChars.Road.codOf rfl (fun c hc => (sp564 c hc).2)) (own_up sp564) (by decide) sE565 sV565 sC565 sK565 (StrChars.Road.codOf rfl (fun c hc => (sp565 c hc).2)) (own_up sp565) hl2 S2 hz (by decide) (by decide)) q568a q568c (g := (mkF m 41 #[.val (.int p1), .val (.ref a1), .val .null, .val (.ref ar), .val (.int (2 : Int32)), .val (.int (0 : Int32)), .val (.ref wO)] [(.ref a1), (.ref tO)])) rfl (by rw [hml]; rfl) (Steps.refl _) (argsL := [(.ref a1)]) (rest := []) (lenOf pd__Ljava_lang_Object__Z rfl) rfl (by show 2 * 0 + _ ≤ _; exact Nat.le_of_eq rfl) (hb hby d3_41) (fun _ _ => ⟨rfl, e562, (by decide : 0 + 0 ≤ _), (by decide : 0 + 0 ≤ _)⟩)
    dsimp only [Pt.U, Pt.locs, Pt.cells, Pt.slots] at X568 l568 y568 z568 st568 hQ568
    subst l568 y568 z568
    obtain ⟨hv568, hL568, eq568⟩ := hQ568
    have Nq568 := own_frnil (n0 := n0) hL568
    obtain ⟨rq566, hrq566, hor566⟩ : ∃ r : Int32, _ = some (Value.int r) ∧ ((r = 1 ∧ ([111, 118, 101, 114, 108, 111, 97, 100, 101, 100] : List Int32) = cs) ∨ (r = 0 ∧ ¬ ([111, 118, 101, 114, 108, 111, 97, 100, 101, 100] : List Int32) = cs)) := hv568.elim (fun q => ⟨1, q.1, Or.inl ⟨rfl, q.2⟩⟩) (fun q => ⟨0, q.1, Or.inr ⟨rfl, q.2⟩⟩)
    subst hrq566
    have N568 := Fr.app N0 Nq568
    have c569 : Goes p e below s₁ (entryFrame m #[(.int p1), (.ref a1)] 7) T568 (mkF m 44 #[.val (.int p1), .val (.ref a1), .val .null, .val (.ref ar), .val (.int (2 : Int32)), .val (.int (0 : Int32)), .val (.ref wO)] [(.int rq566)]) := fun t kk => c567 t (st568.trans kk)
    rcases hor566 with ⟨hr566, hd566⟩ | ⟨hr566, hd566⟩
    · have c570 : Goes p e below s₁ (entryFrame m #[(.int p1), (.ref a1)] 7) T568 (mkF m 60 #[.val (.int p1), .val (.ref a1), .val (.ref wO), .val (.ref ar), .val (.int (2 : Int32)), .val (.int (0 : Int32)), .val (.ref wO)] [(.ref wO)]) := by
        intro t kk
        refine c569 t ?_
        show Steps p.tables e below (T568.setTop (mkF m 44 #[.val (.int p1), .val (.ref a1), .val .null, .val (.ref ar), .val (.int (2 : Int32)), .val (.int (0 : Int32)), .val (.ref wO)] [(.int rq566)])) t
        refine XS.ifNo X568.here hx rfl (hb hby d3_44) rfl ((if0 _ _).trans (feq (by rw [hr566]; decide : ¬ rq566 = (0 : Int32))).1) ?_
        show Steps p.tables e below (T568.setTop (mkF m 47 #[.val (.int p1), .val (.ref a1), .val .null, .val (.ref ar), .val (.int (2 : Int32)), .val (.int (0 : Int32)), .val (.ref wO)] [])) t
        refine XS.aload X568.here hx rfl (hb hby d3_47) rfl rfl ?_
        show Steps p.tables e below (T568.setTop (mkF m 49 #[.val (.int p1), .val (.ref a1), .val .null, .val (.ref ar), .val (.int (2 : Int32)), .val (.int (0 : Int32)), .val (.ref wO)] [(.ref wO)])) t
        refine XS.astoreN X568.here hx rfl (hb hby d3_49) rfl rfl (l' := #[.val (.int p1), .val (.ref a1), .val (.ref wO), .val (.ref ar), .val (.int (2 : Int32)), .val (.int (0 : Int32)), .val (.ref wO)]) rfl ?_
        show Steps p.tables e below (T568.setTop (mkF m 50 #[.val (.int p1), .val (.ref a1), .val (.ref wO), .val (.ref ar), .val (.int (2 : Int32)), .val (.int (0 : Int32)), .val (.ref wO)] [])) t
        refine XS.goto X568.here hx rfl (pc0 := 50) (pc' := 59) rfl (hb hby d3_50) (by decide) (by decide) ?_
        show Steps p.tables e below (T568.setTop (mkF m 59 #[.val (.int p1), .val (.ref a1), .val (.ref wO), .val (.ref ar), .val (.int (2 : Int32)), .val (.int (0 : Int32)), .val (.ref wO)] [])) t
        refine XS.aloadN X568.here hx rfl (hb hby d3_59) rfl rfl ?_
        exact kk
      obtain ⟨fs, hr, hrun, hended, hW, hsame⟩ := X568.leave (v := some (.ref wO)) (fun h => by rw [Bd.returns] at h; cases h)
      refine ⟨_, _, c570 _ ?_, hrun, hended, _, _, rfl, ?_, ⟨_, rfl⟩, hW, hsame.mono (by decide) (by decide)⟩
      · exact retOut X568 hx Bd.returns rfl (Or.inr (Or.inr (Or.inr (Or.inr ⟨rfl, rfl, rfl⟩)))) (hb hby d3_60) hr
      · show Q_ofr Z p1 a1 cs z ar kr wO wN tO tN h0 n0 _ T568.heap _
        rw [eq568]
        exact ⟨congrArg some (own_rjO wO wN h32 hd566), N568, rfl⟩
    · obtain ⟨cl571, Ar571, q571, Sz571, Nn571, Hh571, Gg571⟩ := id V_R
      have hin571 : ¬ ((1 : Int32) < 0 ∨ cl571.slots.size ≤ ((1 : Int32)).toNatClampNeg) := inb_of Sz571 ⟨by decide, by decide⟩
      have c572 : Goes p e below s₁ (entryFrame m #[(.int p1), (.ref a1)] 7) T568 (mkF m 28 #[.val (.int p1), .val (.ref a1), .val .null, .val (.ref ar), .val (.int (2 : Int32)), .val (.int (1 : Int32)), .val (.ref wN)] [(.ref wN)]) := by
        intro t kk
        refine c569 t ?_
        show Steps p.tables e below (T568.setTop (mkF m 44 #[.val (.int p1), .val (.ref a1), .val .null, .val (.ref ar), .val (.int (2 : Int32)), .val (.int (0 : Int32)), .val (.ref wO)] [(.int rq566)])) t
        refine XS.ifYes X568.here hx rfl (pc0 := 44) (pc' := 53) rfl (hb hby d3_44) rfl ((if0 _ _).trans (teq hr566).1) (by decide) (by decide) ?_
        show Steps p.tables e below (T568.setTop (mkF m 53 #[.val (.int p1), .val (.ref a1), .val .null, .val (.ref ar), .val (.int (2 : Int32)), .val (.int (0 : Int32)), .val (.ref wO)] [])) t
        refine XS.iinc X568.here hx rfl (hb hby d3_53) rfl (l' := #[.val (.int p1), .val (.ref a1), .val .null, .val (.ref ar), .val (.int (2 : Int32)), .val (.int (1 : Int32)), .val (.ref wO)]) rfl ?_
        show Steps p.tables e below (T568.setTop (mkF m 56 #[.val (.int p1), .val (.ref a1), .val .null, .val (.ref ar), .val (.int (2 : Int32)), .val (.int (1 : Int32)), .val (.ref wO)] [])) t
        refine XS.goto X568.here hx rfl (pc0 := 56) (pc' := 13) rfl (hb hby d3_56) (by decide) (by decide) ?_
        show Steps p.tables e below (T568.setTop (mkF m 13 #[.val (.int p1), .val (.ref a1), .val .null, .val (.ref ar), .val (.int (2 : Int32)), .val (.int (1 : Int32)), .val (.ref wO)] [])) t
        refine XS.iload X568.here hx rfl (hb hby d3_13) rfl ?_
        show Steps p.tables e below (T568.setTop (mkF m 15 #[.val (.int p1), .val (.ref a1), .val .null, .val (.ref ar), .val (.int (2 : Int32)), .val (.int (1 : Int32)), .val (.ref wO)] [(.int (1 : Int32))])) t
        refine XS.iload X568.here hx rfl (hb hby d3_15) rfl ?_
        show Steps p.tables e below (T568.setTop (mkF m 17 #[.val (.int p1), .val (.ref a1), .val .null, .val (.ref ar), .val (.int (2 : Int32)), .val (.int (1 : Int32)), .val (.ref wO)] [(.int (2 : Int32)), (.int (1 : Int32))])) t
        refine XS.icmpNo X568.here hx rfl (hb hby d3_17) rfl (tlt (by decide : (1 : Int32) < (2 : Int32))).2.1 ?_
        show Steps p.tables e below (T568.setTop (mkF m 20 #[.val (.int p1), .val (.ref a1), .val .null, .val (.ref ar), .val (.int (2 : Int32)), .val (.int (1 : Int32)), .val (.ref wO)] [])) t
        refine XS.aloadN X568.here hx rfl (hb hby d3_20) rfl rfl ?_
        show Steps p.tables e below (T568.setTop (mkF m 21 #[.val (.int p1), .val (.ref a1), .val .null, .val (.ref ar), .val (.int (2 : Int32)), .val (.int (1 : Int32)), .val (.ref wO)] [(.ref ar)])) t
        refine XS.iload X568.here hx rfl (hb hby d3_21) rfl ?_
        show Steps p.tables e below (T568.setTop (mkF m 23 #[.val (.int p1), .val (.ref a1), .val .null, .val (.ref ar), .val (.int (2 : Int32)), .val (.int (1 : Int32)), .val (.ref wO)] [(.int (1 : Int32)), (.ref ar)])) t
        refine X568.aaload hx (j := (1 : Int32)) (v := (.ref wN)) (by rw [eq568]; exact Ar571.1) (State.isArrayOf_alike hZ.alike Ar571.2.1) rfl Ar571.2.2 hin571 (Hh571.at hin571 rfl) (g := (mkF m 23 #[.val (.int p1), .val (.ref a1), .val .null, .val (.ref ar), .val (.int (2 : Int32)), .val (.int (1 : Int32)), .val (.ref wO)] [(.int (1 : Int32)), (.ref ar)])) rfl rfl (hb hby d3_23) _ ?_
        show Steps p.tables e below (T568.setTop (mkF m 24 #[.val (.int p1), .val (.ref a1), .val .null, .val (.ref ar), .val (.int (2 : Int32)), .val (.int (1 : Int32)), .val (.ref wO)] [(.ref wN)])) t
        refine XS.astore X568.here hx rfl (hb hby d3_24) rfl rfl (l' := #[.val (.int p1), .val (.ref a1), .val .null, .val (.ref ar), .val (.int (2 : Int32)), .val (.int (1 : Int32)), .val (.ref wN)]) rfl ?_
        show Steps p.tables e below (T568.setTop (mkF m 26 #[.val (.int p1), .val (.ref a1), .val .null, .val (.ref ar), .val (.int (2 : Int32)), .val (.int (1 : Int32)), .val (.ref wN)] [])) t
        refine XS.aload X568.here hx rfl (hb hby d3_26) rfl rfl ?_
        exact kk
      obtain ⟨T573, X573, e573, st573⟩ := getF X568 hx hZ hown (host := "") (Or.inl (hw _ (List.mem_of_getElem? (i := 14) rfl))) Via.refl eq568 Fs_N (g := (mkF m 28 #[.val (.int p1), .val (.ref a1), .val .null, .val (.ref ar), .val (.int (2 : Int32)), .val (.int (1 : Int32)), .val (.ref wN)] [(.ref wN)])) rfl rfl (hb hby d3_28)
      have c574 : Goes p e below s₁ (entryFrame m #[(.int p1), (.ref a1)] 7) T573 (mkF m 31 #[.val (.int p1), .val (.ref a1), .val .null, .val (.ref ar), .val (.int (2 : Int32)), .val (.int (1 : Int32)), .val (.ref wN)] [(.int (503 : Int32))]) := fun t kk => c572 t (st573 t kk)
      have c575 : Goes p e below s₁ (entryFrame m #[(.int p1), (.ref a1)] 7) T573 (mkF m 37 #[.val (.int p1), .val (.ref a1), .val .null, .val (.ref ar), .val (.int (2 : Int32)), .val (.int (1 : Int32)), .val (.ref wN)] [(.ref wN)]) := by
        intro t kk
        refine c574 t ?_
        show Steps p.tables e below (T573.setTop (mkF m 31 #[.val (.int p1), .val (.ref a1), .val .null, .val (.ref ar), .val (.int (2 : Int32)), .val (.int (1 : Int32)), .val (.ref wN)] [(.int (503 : Int32))])) t
        refine XS.iloadN X573.here hx rfl (hb hby d3_31) rfl ?_
        show Steps p.tables e below (T573.setTop (mkF m 32 #[.val (.int p1), .val (.ref a1), .val .null, .val (.ref ar), .val (.int (2 : Int32)), .val (.int (1 : Int32)), .val (.ref wN)] [(.int p1), (.int (503 : Int32))])) t
        refine XS.icmpNo X573.here hx rfl (hb hby d3_32) rfl (teq h32).2 ?_
        show Steps p.tables e below (T573.setTop (mkF m 35 #[.val (.int p1), .val (.ref a1), .val .null, .val (.ref ar), .val (.int (2 : Int32)), .val (.int (1 : Int32)), .val (.ref wN)] [])) t
        refine XS.aload X573.here hx rfl (hb hby d3_35) rfl rfl ?_
        exact kk
      obtain ⟨T576, X576, e576, st576⟩ := getF X573 hx hZ hown (host := "") (Or.inl (hw _ (List.mem_of_getElem? (i := 61) rfl))) Via.refl e573 Fh_N (g := (mkF m 37 #[.val (.int p1), .val (.ref a1), .val .null, .val (.ref ar), .val (.int (2 : Int32)), .val (.int (1 : Int32)), .val (.ref wN)] [(.ref wN)])) rfl rfl (hb hby d3_37)
      have c577 : Goes p e below s₁ (entryFrame m #[(.int p1), (.ref a1)] 7) T576 (mkF m 40 #[.val (.int p1), .val (.ref a1), .val .null, .val (.ref ar), .val (.int (2 : Int32)), .val (.int (1 : Int32)), .val (.ref wN)] [(.ref tN)]) := fun t kk => c575 t (st576 t kk)
      obtain ⟨sE578, sC578, sp578, st578_t, kb578, sV578, sK578⟩ := id X_N
      obtain ⟨sE579, sC579, sp579, st579_t, kb579, sV579, sK579⟩ := id hs
      have c581 : Goes p e below s₁ (entryFrame m #[(.int p1), (.ref a1)] 7) T576 (mkF m 41 #[.val (.int p1), .val (.ref a1), .val .null, .val (.ref ar), .val (.int (2 : Int32)), .val (.int (1 : Int32)), .val (.ref wN)] [(.ref a1), (.ref tN)]) := by
        intro t kk
        refine c577 t ?_
        show Steps p.tables e below (T576.setTop (mkF m 40 #[.val (.int p1), .val (.ref a1), .val .null, .val (.ref ar), .val (.int (2 : Int32)), .val (.int (1 : Int32)), .val (.ref wN)] [(.ref tN)])) t
        refine XS.aloadN X576.here hx rfl (hb hby d3_40) rfl rfl ?_
        exact kk
      obtain ⟨cq582, kq582, q582a, q582b, q582c⟩ := isOf hZ e576 sE578
      obtain ⟨_, _, ⟨T582, L582, k582, n582⟩, -, X582, ⟨Lc582, hQ582, l582, y582, z582⟩, st582⟩ := X576.virtualBack hx (y := (⟨"java/lang/String", "equals", "(Ljava/lang/Object;)Z"⟩ : MethodName)) (z := (⟨"java/lang/String", "equals", "(Ljava/lang/Object;)Z"⟩ : MethodName)) hown (mvT hZ (hw _ (List.mem_of_getElem? (i := 63) rfl))) (mvT hZ (hw _ (List.mem_of_getElem? (i := 51) rfl))) (notFace_of_selects (args := #[]) (mvT hZ (hw _ (List.mem_of_getElem? (i := 53) rfl)))) (mvT hZ (hw _ (List.mem_of_getElem? (i := 53) rfl))) (mvT hZ (hw _ (List.mem_of_getElem? (i := 52) rfl))) (by decide) (StrChars.Road.eqW (W := 0) hZ (own_weq hw) (kI := 4) (hw _ (List.mem_of_getElem? (i := 19) rfl)) sE578 sV578 sC578 sK578 (StrChars.Road.codOf rfl (fun c hc => (sp578 c hc).2)) (own_up sp578) (by decide) sE579 sV579 sC579 sK579 (StrChars.Road.codOf rfl (fun c hc => (sp579 c hc).2)) (own_up sp579) hl2 S2 hz (by decide) (by decide)) q582a q582c (g := (mkF m 41 #[.val (.int p1), .val (.ref a1), .val .null, .val (.ref ar), .val (.int (2 : Int32)), .val (.int (1 : Int32)), .val (.ref wN)] [(.ref a1), (.ref tN)])) rfl (by rw [hml]; rfl) (Steps.refl _) (argsL := [(.ref a1)]) (rest := []) (lenOf pd__Ljava_lang_Object__Z rfl) rfl (by show 2 * 0 + _ ≤ _; exact Nat.le_of_eq rfl) (hb hby d3_41) (fun _ _ => ⟨rfl, e576, (by decide : 0 + 0 ≤ _), (by decide : 0 + 0 ≤ _)⟩)
      dsimp only [Pt.U, Pt.locs, Pt.cells, Pt.slots] at X582 l582 y582 z582 st582 hQ582
      subst l582 y582 z582
      obtain ⟨hv582, hL582, eq582⟩ := hQ582
      have Nq582 := own_frnil (n0 := n0) hL582
      obtain ⟨rq580, hrq580, hor580⟩ : ∃ r : Int32, _ = some (Value.int r) ∧ ((r = 1 ∧ ([111, 118, 101, 114, 108, 111, 97, 100, 101, 100, 45, 110, 111, 45, 114, 101, 116, 114, 121] : List Int32) = cs) ∨ (r = 0 ∧ ¬ ([111, 118, 101, 114, 108, 111, 97, 100, 101, 100, 45, 110, 111, 45, 114, 101, 116, 114, 121] : List Int32) = cs)) := hv582.elim (fun q => ⟨1, q.1, Or.inl ⟨rfl, q.2⟩⟩) (fun q => ⟨0, q.1, Or.inr ⟨rfl, q.2⟩⟩)
      subst hrq580
      have N582 := Fr.app N568 Nq582
      have c583 : Goes p e below s₁ (entryFrame m #[(.int p1), (.ref a1)] 7) T582 (mkF m 44 #[.val (.int p1), .val (.ref a1), .val .null, .val (.ref ar), .val (.int (2 : Int32)), .val (.int (1 : Int32)), .val (.ref wN)] [(.int rq580)]) := fun t kk => c581 t (st582.trans kk)
      rcases hor580 with ⟨hr580, hd580⟩ | ⟨hr580, hd580⟩
      · have c584 : Goes p e below s₁ (entryFrame m #[(.int p1), (.ref a1)] 7) T582 (mkF m 60 #[.val (.int p1), .val (.ref a1), .val (.ref wN), .val (.ref ar), .val (.int (2 : Int32)), .val (.int (1 : Int32)), .val (.ref wN)] [(.ref wN)]) := by
          intro t kk
          refine c583 t ?_
          show Steps p.tables e below (T582.setTop (mkF m 44 #[.val (.int p1), .val (.ref a1), .val .null, .val (.ref ar), .val (.int (2 : Int32)), .val (.int (1 : Int32)), .val (.ref wN)] [(.int rq580)])) t
          refine XS.ifNo X582.here hx rfl (hb hby d3_44) rfl ((if0 _ _).trans (feq (by rw [hr580]; decide : ¬ rq580 = (0 : Int32))).1) ?_
          show Steps p.tables e below (T582.setTop (mkF m 47 #[.val (.int p1), .val (.ref a1), .val .null, .val (.ref ar), .val (.int (2 : Int32)), .val (.int (1 : Int32)), .val (.ref wN)] [])) t
          refine XS.aload X582.here hx rfl (hb hby d3_47) rfl rfl ?_
          show Steps p.tables e below (T582.setTop (mkF m 49 #[.val (.int p1), .val (.ref a1), .val .null, .val (.ref ar), .val (.int (2 : Int32)), .val (.int (1 : Int32)), .val (.ref wN)] [(.ref wN)])) t
          refine XS.astoreN X582.here hx rfl (hb hby d3_49) rfl rfl (l' := #[.val (.int p1), .val (.ref a1), .val (.ref wN), .val (.ref ar), .val (.int (2 : Int32)), .val (.int (1 : Int32)), .val (.ref wN)]) rfl ?_
          show Steps p.tables e below (T582.setTop (mkF m 50 #[.val (.int p1), .val (.ref a1), .val (.ref wN), .val (.ref ar), .val (.int (2 : Int32)), .val (.int (1 : Int32)), .val (.ref wN)] [])) t
          refine XS.goto X582.here hx rfl (pc0 := 50) (pc' := 59) rfl (hb hby d3_50) (by decide) (by decide) ?_
          show Steps p.tables e below (T582.setTop (mkF m 59 #[.val (.int p1), .val (.ref a1), .val (.ref wN), .val (.ref ar), .val (.int (2 : Int32)), .val (.int (1 : Int32)), .val (.ref wN)] [])) t
          refine XS.aloadN X582.here hx rfl (hb hby d3_59) rfl rfl ?_
          exact kk
        obtain ⟨fs, hr, hrun, hended, hW, hsame⟩ := X582.leave (v := some (.ref wN)) (fun h => by rw [Bd.returns] at h; cases h)
        refine ⟨_, _, c584 _ ?_, hrun, hended, _, _, rfl, ?_, ⟨_, rfl⟩, hW, hsame.mono (by decide) (by decide)⟩
        · exact retOut X582 hx Bd.returns rfl (Or.inr (Or.inr (Or.inr (Or.inr ⟨rfl, rfl, rfl⟩)))) (hb hby d3_60) hr
        · show Q_ofr Z p1 a1 cs z ar kr wO wN tO tN h0 n0 _ T582.heap _
          rw [eq582]
          exact ⟨congrArg some (own_rjN wO wN h32 hd566 hd580), N582, rfl⟩
      · have c585 : Goes p e below s₁ (entryFrame m #[(.int p1), (.ref a1)] 7) T582 (mkF m 60 #[.val (.int p1), .val (.ref a1), .val .null, .val (.ref ar), .val (.int (2 : Int32)), .val (.int (2 : Int32)), .val (.ref wN)] [.null]) := by
          intro t kk
          refine c583 t ?_
          show Steps p.tables e below (T582.setTop (mkF m 44 #[.val (.int p1), .val (.ref a1), .val .null, .val (.ref ar), .val (.int (2 : Int32)), .val (.int (1 : Int32)), .val (.ref wN)] [(.int rq580)])) t
          refine XS.ifYes X582.here hx rfl (pc0 := 44) (pc' := 53) rfl (hb hby d3_44) rfl ((if0 _ _).trans (teq hr580).1) (by decide) (by decide) ?_
          show Steps p.tables e below (T582.setTop (mkF m 53 #[.val (.int p1), .val (.ref a1), .val .null, .val (.ref ar), .val (.int (2 : Int32)), .val (.int (1 : Int32)), .val (.ref wN)] [])) t
          refine XS.iinc X582.here hx rfl (hb hby d3_53) rfl (l' := #[.val (.int p1), .val (.ref a1), .val .null, .val (.ref ar), .val (.int (2 : Int32)), .val (.int (2 : Int32)), .val (.ref wN)]) rfl ?_
          show Steps p.tables e below (T582.setTop (mkF m 56 #[.val (.int p1), .val (.ref a1), .val .null, .val (.ref ar), .val (.int (2 : Int32)), .val (.int (2 : Int32)), .val (.ref wN)] [])) t
          refine XS.goto X582.here hx rfl (pc0 := 56) (pc' := 13) rfl (hb hby d3_56) (by decide) (by decide) ?_
          show Steps p.tables e below (T582.setTop (mkF m 13 #[.val (.int p1), .val (.ref a1), .val .null, .val (.ref ar), .val (.int (2 : Int32)), .val (.int (2 : Int32)), .val (.ref wN)] [])) t
          refine XS.iload X582.here hx rfl (hb hby d3_13) rfl ?_
          show Steps p.tables e below (T582.setTop (mkF m 15 #[.val (.int p1), .val (.ref a1), .val .null, .val (.ref ar), .val (.int (2 : Int32)), .val (.int (2 : Int32)), .val (.ref wN)] [(.int (2 : Int32))])) t
          refine XS.iload X582.here hx rfl (hb hby d3_15) rfl ?_
          show Steps p.tables e below (T582.setTop (mkF m 17 #[.val (.int p1), .val (.ref a1), .val .null, .val (.ref ar), .val (.int (2 : Int32)), .val (.int (2 : Int32)), .val (.ref wN)] [(.int (2 : Int32)), (.int (2 : Int32))])) t
          refine XS.icmpYes X582.here hx rfl (pc0 := 17) (pc' := 59) rfl (hb hby d3_17) rfl (flt (by decide : ¬ ((2 : Int32) < (2 : Int32)))).2.1 (by decide) (by decide) ?_
          show Steps p.tables e below (T582.setTop (mkF m 59 #[.val (.int p1), .val (.ref a1), .val .null, .val (.ref ar), .val (.int (2 : Int32)), .val (.int (2 : Int32)), .val (.ref wN)] [])) t
          refine XS.aloadN X582.here hx rfl (hb hby d3_59) rfl rfl ?_
          exact kk
        obtain ⟨fs, hr, hrun, hended, hW, hsame⟩ := X582.leave (v := some .null) (fun h => by rw [Bd.returns] at h; cases h)
        refine ⟨_, _, c585 _ ?_, hrun, hended, _, _, rfl, ?_, ⟨_, rfl⟩, hW, hsame.mono (by decide) (by decide)⟩
        · exact retOut X582 hx Bd.returns rfl (Or.inr (Or.inr (Or.inr (Or.inr ⟨rfl, rfl, rfl⟩)))) (hb hby d3_60) hr
        · show Q_ofr Z p1 a1 cs z ar kr wO wN tO tN h0 n0 _ T582.heap _
          rw [eq582]
          exact ⟨congrArg some (own_rjX wO wN h32 hd566 hd580), N582, rfl⟩
  · obtain ⟨cl586, Ar586, q586, Sz586, Nn586, Hh586, Gg586⟩ := id V_R
    have hin586 : ¬ ((1 : Int32) < 0 ∨ cl586.slots.size ≤ ((1 : Int32)).toNatClampNeg) := inb_of Sz586 ⟨by decide, by decide⟩
    have c587 : Goes p e below s₁ (entryFrame m #[(.int p1), (.ref a1)] 7) T558 (mkF m 28 #[.val (.int p1), .val (.ref a1), .val .null, .val (.ref ar), .val (.int (2 : Int32)), .val (.int (1 : Int32)), .val (.ref wN)] [(.ref wN)]) := by
      intro t kk
      refine c560 t ?_
      show Steps p.tables e below (T558.setTop (mkF m 32 #[.val (.int p1), .val (.ref a1), .val .null, .val (.ref ar), .val (.int (2 : Int32)), .val (.int (0 : Int32)), .val (.ref wO)] [(.int p1), (.int (503 : Int32))])) t
      refine XS.icmpYes X558.here hx rfl (pc0 := 32) (pc' := 53) rfl (hb hby d3_32) rfl (feq h32).2 (by decide) (by decide) ?_
      show Steps p.tables e below (T558.setTop (mkF m 53 #[.val (.int p1), .val (.ref a1), .val .null, .val (.ref ar), .val (.int (2 : Int32)), .val (.int (0 : Int32)), .val (.ref wO)] [])) t
      refine XS.iinc X558.here hx rfl (hb hby d3_53) rfl (l' := #[.val (.int p1), .val (.ref a1), .val .null, .val (.ref ar), .val (.int (2 : Int32)), .val (.int (1 : Int32)), .val (.ref wO)]) rfl ?_
      show Steps p.tables e below (T558.setTop (mkF m 56 #[.val (.int p1), .val (.ref a1), .val .null, .val (.ref ar), .val (.int (2 : Int32)), .val (.int (1 : Int32)), .val (.ref wO)] [])) t
      refine XS.goto X558.here hx rfl (pc0 := 56) (pc' := 13) rfl (hb hby d3_56) (by decide) (by decide) ?_
      show Steps p.tables e below (T558.setTop (mkF m 13 #[.val (.int p1), .val (.ref a1), .val .null, .val (.ref ar), .val (.int (2 : Int32)), .val (.int (1 : Int32)), .val (.ref wO)] [])) t
      refine XS.iload X558.here hx rfl (hb hby d3_13) rfl ?_
      show Steps p.tables e below (T558.setTop (mkF m 15 #[.val (.int p1), .val (.ref a1), .val .null, .val (.ref ar), .val (.int (2 : Int32)), .val (.int (1 : Int32)), .val (.ref wO)] [(.int (1 : Int32))])) t
      refine XS.iload X558.here hx rfl (hb hby d3_15) rfl ?_
      show Steps p.tables e below (T558.setTop (mkF m 17 #[.val (.int p1), .val (.ref a1), .val .null, .val (.ref ar), .val (.int (2 : Int32)), .val (.int (1 : Int32)), .val (.ref wO)] [(.int (2 : Int32)), (.int (1 : Int32))])) t
      refine XS.icmpNo X558.here hx rfl (hb hby d3_17) rfl (tlt (by decide : (1 : Int32) < (2 : Int32))).2.1 ?_
      show Steps p.tables e below (T558.setTop (mkF m 20 #[.val (.int p1), .val (.ref a1), .val .null, .val (.ref ar), .val (.int (2 : Int32)), .val (.int (1 : Int32)), .val (.ref wO)] [])) t
      refine XS.aloadN X558.here hx rfl (hb hby d3_20) rfl rfl ?_
      show Steps p.tables e below (T558.setTop (mkF m 21 #[.val (.int p1), .val (.ref a1), .val .null, .val (.ref ar), .val (.int (2 : Int32)), .val (.int (1 : Int32)), .val (.ref wO)] [(.ref ar)])) t
      refine XS.iload X558.here hx rfl (hb hby d3_21) rfl ?_
      show Steps p.tables e below (T558.setTop (mkF m 23 #[.val (.int p1), .val (.ref a1), .val .null, .val (.ref ar), .val (.int (2 : Int32)), .val (.int (1 : Int32)), .val (.ref wO)] [(.int (1 : Int32)), (.ref ar)])) t
      refine X558.aaload hx (j := (1 : Int32)) (v := (.ref wN)) (by rw [e558]; exact Ar586.1) (State.isArrayOf_alike hZ.alike Ar586.2.1) rfl Ar586.2.2 hin586 (Hh586.at hin586 rfl) (g := (mkF m 23 #[.val (.int p1), .val (.ref a1), .val .null, .val (.ref ar), .val (.int (2 : Int32)), .val (.int (1 : Int32)), .val (.ref wO)] [(.int (1 : Int32)), (.ref ar)])) rfl rfl (hb hby d3_23) _ ?_
      show Steps p.tables e below (T558.setTop (mkF m 24 #[.val (.int p1), .val (.ref a1), .val .null, .val (.ref ar), .val (.int (2 : Int32)), .val (.int (1 : Int32)), .val (.ref wO)] [(.ref wN)])) t
      refine XS.astore X558.here hx rfl (hb hby d3_24) rfl rfl (l' := #[.val (.int p1), .val (.ref a1), .val .null, .val (.ref ar), .val (.int (2 : Int32)), .val (.int (1 : Int32)), .val (.ref wN)]) rfl ?_
      show Steps p.tables e below (T558.setTop (mkF m 26 #[.val (.int p1), .val (.ref a1), .val .null, .val (.ref ar), .val (.int (2 : Int32)), .val (.int (1 : Int32)), .val (.ref wN)] [])) t
      refine XS.aload X558.here hx rfl (hb hby d3_26) rfl rfl ?_
      exact kk
    obtain ⟨T588, X588, e588, st588⟩ := getF X558 hx hZ hown (host := "") (Or.inl (hw _ (List.mem_of_getElem? (i := 14) rfl))) Via.refl e558 Fs_N (g := (mkF m 28 #[.val (.int p1), .val (.ref a1), .val .null, .val (.ref ar), .val (.int (2 : Int32)), .val (.int (1 : Int32)), .val (.ref wN)] [(.ref wN)])) rfl rfl (hb hby d3_28)
    have c589 : Goes p e below s₁ (entryFrame m #[(.int p1), (.ref a1)] 7) T588 (mkF m 31 #[.val (.int p1), .val (.ref a1), .val .null, .val (.ref ar), .val (.int (2 : Int32)), .val (.int (1 : Int32)), .val (.ref wN)] [(.int (503 : Int32))]) := fun t kk => c587 t (st588 t kk)
    have c590 : Goes p e below s₁ (entryFrame m #[(.int p1), (.ref a1)] 7) T588 (mkF m 60 #[.val (.int p1), .val (.ref a1), .val .null, .val (.ref ar), .val (.int (2 : Int32)), .val (.int (2 : Int32)), .val (.ref wN)] [.null]) := by
      intro t kk
      refine c589 t ?_
      show Steps p.tables e below (T588.setTop (mkF m 31 #[.val (.int p1), .val (.ref a1), .val .null, .val (.ref ar), .val (.int (2 : Int32)), .val (.int (1 : Int32)), .val (.ref wN)] [(.int (503 : Int32))])) t
      refine XS.iloadN X588.here hx rfl (hb hby d3_31) rfl ?_
      show Steps p.tables e below (T588.setTop (mkF m 32 #[.val (.int p1), .val (.ref a1), .val .null, .val (.ref ar), .val (.int (2 : Int32)), .val (.int (1 : Int32)), .val (.ref wN)] [(.int p1), (.int (503 : Int32))])) t
      refine XS.icmpYes X588.here hx rfl (pc0 := 32) (pc' := 53) rfl (hb hby d3_32) rfl (feq h32).2 (by decide) (by decide) ?_
      show Steps p.tables e below (T588.setTop (mkF m 53 #[.val (.int p1), .val (.ref a1), .val .null, .val (.ref ar), .val (.int (2 : Int32)), .val (.int (1 : Int32)), .val (.ref wN)] [])) t
      refine XS.iinc X588.here hx rfl (hb hby d3_53) rfl (l' := #[.val (.int p1), .val (.ref a1), .val .null, .val (.ref ar), .val (.int (2 : Int32)), .val (.int (2 : Int32)), .val (.ref wN)]) rfl ?_
      show Steps p.tables e below (T588.setTop (mkF m 56 #[.val (.int p1), .val (.ref a1), .val .null, .val (.ref ar), .val (.int (2 : Int32)), .val (.int (2 : Int32)), .val (.ref wN)] [])) t
      refine XS.goto X588.here hx rfl (pc0 := 56) (pc' := 13) rfl (hb hby d3_56) (by decide) (by decide) ?_
      show Steps p.tables e below (T588.setTop (mkF m 13 #[.val (.int p1), .val (.ref a1), .val .null, .val (.ref ar), .val (.int (2 : Int32)), .val (.int (2 : Int32)), .val (.ref wN)] [])) t
      refine XS.iload X588.here hx rfl (hb hby d3_13) rfl ?_
      show Steps p.tables e below (T588.setTop (mkF m 15 #[.val (.int p1), .val (.ref a1), .val .null, .val (.ref ar), .val (.int (2 : Int32)), .val (.int (2 : Int32)), .val (.ref wN)] [(.int (2 : Int32))])) t
      refine XS.iload X588.here hx rfl (hb hby d3_15) rfl ?_
      show Steps p.tables e below (T588.setTop (mkF m 17 #[.val (.int p1), .val (.ref a1), .val .null, .val (.ref ar), .val (.int (2 : Int32)), .val (.int (2 : Int32)), .val (.ref wN)] [(.int (2 : Int32)), (.int (2 : Int32))])) t
      refine XS.icmpYes X588.here hx rfl (pc0 := 17) (pc' := 59) rfl (hb hby d3_17) rfl (flt (by decide : ¬ ((2 : Int32) < (2 : Int32)))).2.1 (by decide) (by decide) ?_
      show Steps p.tables e below (T588.setTop (mkF m 59 #[.val (.int p1), .val (.ref a1), .val .null, .val (.ref ar), .val (.int (2 : Int32)), .val (.int (2 : Int32)), .val (.ref wN)] [])) t
      refine XS.aloadN X588.here hx rfl (hb hby d3_59) rfl rfl ?_
      exact kk
    obtain ⟨fs, hr, hrun, hended, hW, hsame⟩ := X588.leave (v := some .null) (fun h => by rw [Bd.returns] at h; cases h)
    refine ⟨_, _, c590 _ ?_, hrun, hended, _, _, rfl, ?_, ⟨_, rfl⟩, hW, hsame.mono (by decide) (by decide)⟩
    · exact retOut X588 hx Bd.returns rfl (Or.inr (Or.inr (Or.inr (Or.inr ⟨rfl, rfl, rfl⟩)))) (hb hby d3_60) hr
    · show Q_ofr Z p1 a1 cs z ar kr wO wN tO tN h0 n0 _ T588.heap _
      rw [e588]
      exact ⟨congrArg some (own_rj0 cs wO wN h32), N0, rfl⟩
theorem pd__IICCI_Ljava_lang_String_ : parseMethodDescriptor "(IICCI)Ljava/lang/String;" = some ⟨[.int, .int, .char, .char, .int], some (.object "java/lang/String")⟩ := by decide +kernel
theorem pd__ILjava_lang_String__Lcom_example_ventil_ventil_Rejection_ : parseMethodDescriptor "(ILjava/lang/String;)Lcom/example/ventil/ventil/Rejection;" = some ⟨[.int, (.object "java/lang/String")], some (.object "com/example/ventil/ventil/Rejection")⟩ := by decide +kernel
theorem ef_law (m : MethodId) (x0 : Int32) (x1 : Int32) (x2 : Int32) (x3 : Int32) (x4 : Int32) : entryFrame m #[(.int x0), (.int x1), (.int x2), (.int x3), (.int x4)] maxLocals = mkF m 0 #[.val (.int x0), .val (.int x1), .val (.int x2), .val (.int x3), .val (.int x4), .unset, .unset, .unset, .unset, .unset, .unset, .unset, .unset] [] := by (first | (simp [entryFrame, mkF, argsToLocals, Value.category, maxLocals]; done) | rfl)
def Q_law (Z : State) (p0 : Int32) (p1 : Int32) (p2 : Int32) (p3 : Int32) (p4 : Int32) (z : Int32) (ar : Addr) (kr : ClassId) (wO : Addr) (wN : Addr) (tO : Addr) (tN : Addr) (h0 : Heap) (n0 : Nat) (v : Option Value) (h : Heap) (L : List Loc) : Prop := v = some (.int 1) ∧ Fr n0 L
set_option maxRecDepth 65536 in
set_option maxHeartbeats 40000000 in
theorem rm_law (l : Launch) (Z : State) (a0 : Array Value) (hw : ∀ d ∈ tables_1, d.before a0 Z = true) (ws : List Jvm.Cond) (p0 : Int32) (p1 : Int32) (p2 : Int32) (p3 : Int32) (p4 : Int32) (z : Int32) (ar : Addr) (kr : ClassId) (wO : Addr) (wN : Addr) (tO : Addr) (tN : Addr) (h0 : Heap) (n0 : Nat) (Z0 : n0 ≤ h0.size) (hEL : EW Z a0 consts_1) (O0 : Old Z n0 h0) (S2 : Sta Z Z.heap "java/lang/String" "COMPACT_STRINGS" "Z" (.int z)) (hz : ¬ z = 0) (S_O : Sta Z Z.heap "com/example/ventil/ventil/Rejection" "OVERLOADED" "Lcom/example/ventil/ventil/Rejection;" (.ref wO)) (S_N : Sta Z Z.heap "com/example/ventil/ventil/Rejection" "OVERLOADED_NO_RETRY" "Lcom/example/ventil/ventil/Rejection;" (.ref wN)) (S_R : Sta Z Z.heap "com/example/ventil/ventil/Rejection" "REASONS" "[Lcom/example/ventil/ventil/Rejection;" (.ref ar)) (V_R : Arv Z Z.heap ar kr (.object "com/example/ventil/ventil/Rejection") (2 : Int32) [.ref wO, .ref wN] .null) (Fs_O : Fld Z Z.heap wO "com/example/ventil/ventil/Rejection" "status" "I" (.int 503)) (Fs_N : Fld Z Z.heap wN "com/example/ventil/ventil/Rejection" "status" "I" (.int 503)) (Fh_O : Fld Z Z.heap wO "com/example/ventil/ventil/Rejection" "headerValue" "Ljava/lang/String;" (.ref tO)) (Fh_N : Fld Z Z.heap wN "com/example/ventil/ventil/Rejection" "headerValue" "Ljava/lang/String;" (.ref tN)) (X_O : own_str Z Z.heap tO ([111, 118, 101, 114, 108, 111, 97, 100, 101, 100] : List Int32)) (X_N : own_str Z Z.heap tN ([111, 118, 101, 114, 108, 111, 97, 100, 101, 100, 45, 110, 111, 45, 114, 101, 116, 114, 121] : List Int32)) :
    MetFree l x (head1 (Jvm.Cond.code x code maxLocals ret :: ws) room_1) (fun a U => a = #[(.int p0), (.int p1), (.int p2), (.int p3), (.int p4)] ∧ Z.Warmed39 U.vm ∧ U.heap = h0 ∧ CHv Z consts_1 U.vm h0) (fun _ _ _ _ _ => True) (fun _ U o U' => ∃ v L, o = .returned v ∧ Q_law Z p0 p1 p2 p3 p4 z ar kr wO wN tO tN h0 n0 v U'.heap L ∧ ReturnedEndW U o U' L 8 166) := by
  refine MetFree.of_bodySF (plainFor_of_name pn_1) hisR ?_
  intro p e s m args below meth c s₁ Bd hml0 hP hK
  obtain ⟨rfl, hZ, hh, hCH0⟩ := hP
  have hx := Bd.exec
  have hby := Bd.bytes
  have hml : c.maxLocals = 13 := hml0
  have hown : s.vm.findClass "com/example/ventil/ventil/RejectionOfPinLaw" = some m.cls := findClass_of_methodNamed Bd.named
  have hnm := (name_of_methodNamed Bd.named Bd.method).1
  have X0 : Stand p l e room_1 s m #[(.int p0), (.int p1), (.int p2), (.int p3), (.int p4)] below meth c s₁ [] 0 0 := Stand.of_body Bd
  have e0 : s₁.heap = h0 := by rw [← hh, Bd.state]; rfl
  have N0 := Fr.nil n0
  have c0 : Goes p e below s₁ (entryFrame m #[(.int p0), (.int p1), (.int p2), (.int p3), (.int p4)] maxLocals) s₁ (mkF m 0 #[.val (.int p0), .val (.int p1), .val (.int p2), .val (.int p3), .val (.int p4), .unset, .unset, .unset, .unset, .unset, .unset, .unset, .unset] []) := fun t k => castTop (ef_law m p0 p1 p2 p3 p4) k
  have XW0 : Stand p l e room_1 (s.setVm s.vm) m #[(.int p0), (.int p1), (.int p2), (.int p3), (.int p4)] below meth c s₁ [] 0 0 := X0
  have SW0 : s.Since s.vm 0 := (State.WarmedH.refl s).since 0
  have c591 : Goes p e below s₁ (entryFrame m #[(.int p0), (.int p1), (.int p2), (.int p3), (.int p4)] maxLocals) s₁ (mkF m 4 #[.val (.int p0), .val (.int p1), .val (.int p2), .val (.int p3), .val (.int p4), .unset, .unset, .unset, .unset, .unset, .unset, .unset, .unset] [(.int (p1 &&& (8 : Int32)))]) := by
    intro t kk
    refine c0 t ?_
    show Steps p.tables e below (s₁.setTop (mkF m 0 #[.val (.int p0), .val (.int p1), .val (.int p2), .val (.int p3), .val (.int p4), .unset, .unset, .unset, .unset, .unset, .unset, .unset, .unset] [])) t
    refine XS.iloadN XW0.here hx rfl (hb hby at_0) rfl ?_
    show Steps p.tables e below (s₁.setTop (mkF m 1 #[.val (.int p0), .val (.int p1), .val (.int p2), .val (.int p3), .val (.int p4), .unset, .unset, .unset, .unset, .unset, .unset, .unset, .unset] [(.int p1)])) t
    refine XS.bipush XW0.here hx rfl (hb hby at_1) ?_
    show Steps p.tables e below (s₁.setTop (mkF m 3 #[.val (.int p0), .val (.int p1), .val (.int p2), .val (.int p3), .val (.int p4), .unset, .unset, .unset, .unset, .unset, .unset, .unset, .unset] [(.int (8 : Int32)), (.int p1)])) t
    refine XS.iand XW0.here hx rfl (hb hby at_3) rfl ?_
    exact kk
  obtain ⟨b5, hm592, c592⟩ : ∃ b5 : Int32, (True) ∧ Goes p e below s₁ (entryFrame m #[(.int p0), (.int p1), (.int p2), (.int p3), (.int p4)] maxLocals) s₁ (mkF m 12 #[.val (.int p0), .val (.int p1), .val (.int p2), .val (.int p3), .val (.int p4), .unset, .unset, .unset, .unset, .unset, .unset, .unset, .unset] [(.int b5)]) := by
    by_cases hc4_593 : (p1 &&& (8 : Int32)) = (0 : Int32)
    · have c594 : Goes p e below s₁ (entryFrame m #[(.int p0), (.int p1), (.int p2), (.int p3), (.int p4)] maxLocals) s₁ (mkF m 12 #[.val (.int p0), .val (.int p1), .val (.int p2), .val (.int p3), .val (.int p4), .unset, .unset, .unset, .unset, .unset, .unset, .unset, .unset] [(.int (0 : Int32))]) := by
        intro t kk
        refine c591 t ?_
        show Steps p.tables e below (s₁.setTop (mkF m 4 #[.val (.int p0), .val (.int p1), .val (.int p2), .val (.int p3), .val (.int p4), .unset, .unset, .unset, .unset, .unset, .unset, .unset, .unset] [(.int (p1 &&& (8 : Int32)))])) t
        refine XS.ifYes XW0.here hx rfl (pc0 := 4) (pc' := 11) rfl (hb hby at_4) rfl ((if0 _ _).trans (teq hc4_593).1) (by decide) (by decide) ?_
        show Steps p.tables e below (s₁.setTop (mkF m 11 #[.val (.int p0), .val (.int p1), .val (.int p2), .val (.int p3), .val (.int p4), .unset, .unset, .unset, .unset, .unset, .unset, .unset, .unset] [])) t
        refine XS.iconst XW0.here hx rfl (hb hby at_11) ?_
        exact kk
      exact ⟨(0 : Int32), trivial, c594⟩
    · have c595 : Goes p e below s₁ (entryFrame m #[(.int p0), (.int p1), (.int p2), (.int p3), (.int p4)] maxLocals) s₁ (mkF m 12 #[.val (.int p0), .val (.int p1), .val (.int p2), .val (.int p3), .val (.int p4), .unset, .unset, .unset, .unset, .unset, .unset, .unset, .unset] [(.int (1 : Int32))]) := by
        intro t kk
        refine c591 t ?_
        show Steps p.tables e below (s₁.setTop (mkF m 4 #[.val (.int p0), .val (.int p1), .val (.int p2), .val (.int p3), .val (.int p4), .unset, .unset, .unset, .unset, .unset, .unset, .unset, .unset] [(.int (p1 &&& (8 : Int32)))])) t
        refine XS.ifNo XW0.here hx rfl (hb hby at_4) rfl ((if0 _ _).trans (feq hc4_593).1) ?_
        show Steps p.tables e below (s₁.setTop (mkF m 7 #[.val (.int p0), .val (.int p1), .val (.int p2), .val (.int p3), .val (.int p4), .unset, .unset, .unset, .unset, .unset, .unset, .unset, .unset] [])) t
        refine XS.iconst XW0.here hx rfl (hb hby at_7) ?_
        show Steps p.tables e below (s₁.setTop (mkF m 8 #[.val (.int p0), .val (.int p1), .val (.int p2), .val (.int p3), .val (.int p4), .unset, .unset, .unset, .unset, .unset, .unset, .unset, .unset] [(.int (1 : Int32))])) t
        refine XS.goto XW0.here hx rfl (pc0 := 8) (pc' := 12) rfl (hb hby at_8) (by decide) (by decide) ?_
        exact kk
      exact ⟨(1 : Int32), trivial, c595⟩
  have c596 : Goes p e below s₁ (entryFrame m #[(.int p0), (.int p1), (.int p2), (.int p3), (.int p4)] maxLocals) s₁ (mkF m 16 #[.val (.int p0), .val (.int p1), .val (.int p2), .val (.int p3), .val (.int p4), .val (.int b5), .unset, .unset, .unset, .unset, .unset, .unset, .unset] [(.int b5)]) := by
    intro t kk
    refine c592 t ?_
    show Steps p.tables e below (s₁.setTop (mkF m 12 #[.val (.int p0), .val (.int p1), .val (.int p2), .val (.int p3), .val (.int p4), .unset, .unset, .unset, .unset, .unset, .unset, .unset, .unset] [(.int b5)])) t
    refine XS.istore XW0.here hx rfl (hb hby at_12) rfl (l' := #[.val (.int p0), .val (.int p1), .val (.int p2), .val (.int p3), .val (.int p4), .val (.int b5), .unset, .unset, .unset, .unset, .unset, .unset, .unset]) rfl ?_
    show Steps p.tables e below (s₁.setTop (mkF m 14 #[.val (.int p0), .val (.int p1), .val (.int p2), .val (.int p3), .val (.int p4), .val (.int b5), .unset, .unset, .unset, .unset, .unset, .unset, .unset] [])) t
    refine XS.iload XW0.here hx rfl (hb hby at_14) rfl ?_
    exact kk
  obtain ⟨sx, hm597, c597⟩ : ∃ sx : Int32, (True) ∧ Goes p e below s₁ (entryFrame m #[(.int p0), (.int p1), (.int p2), (.int p3), (.int p4)] maxLocals) s₁ (mkF m 26 #[.val (.int p0), .val (.int p1), .val (.int p2), .val (.int p3), .val (.int p4), .val (.int b5), .unset, .unset, .unset, .unset, .unset, .unset, .unset] [(.int sx)]) := by
    by_cases hc16_598 : b5 = (0 : Int32)
    · have c599 : Goes p e below s₁ (entryFrame m #[(.int p0), (.int p1), (.int p2), (.int p3), (.int p4)] maxLocals) s₁ (mkF m 26 #[.val (.int p0), .val (.int p1), .val (.int p2), .val (.int p3), .val (.int p4), .val (.int b5), .unset, .unset, .unset, .unset, .unset, .unset, .unset] [(.int p0)]) := by
        intro t kk
        refine c596 t ?_
        show Steps p.tables e below (s₁.setTop (mkF m 16 #[.val (.int p0), .val (.int p1), .val (.int p2), .val (.int p3), .val (.int p4), .val (.int b5), .unset, .unset, .unset, .unset, .unset, .unset, .unset] [(.int b5)])) t
        refine XS.ifYes XW0.here hx rfl (pc0 := 16) (pc' := 25) rfl (hb hby at_16) rfl ((if0 _ _).trans (teq hc16_598).1) (by decide) (by decide) ?_
        show Steps p.tables e below (s₁.setTop (mkF m 25 #[.val (.int p0), .val (.int p1), .val (.int p2), .val (.int p3), .val (.int p4), .val (.int b5), .unset, .unset, .unset, .unset, .unset, .unset, .unset] [])) t
        refine XS.iloadN XW0.here hx rfl (hb hby at_25) rfl ?_
        exact kk
      exact ⟨p0, trivial, c599⟩
    · have c600 : Goes p e below s₁ (entryFrame m #[(.int p0), (.int p1), (.int p2), (.int p3), (.int p4)] maxLocals) s₁ (mkF m 26 #[.val (.int p0), .val (.int p1), .val (.int p2), .val (.int p3), .val (.int p4), .val (.int b5), .unset, .unset, .unset, .unset, .unset, .unset, .unset] [(.int (503 : Int32))]) := by
        intro t kk
        refine c596 t ?_
        show Steps p.tables e below (s₁.setTop (mkF m 16 #[.val (.int p0), .val (.int p1), .val (.int p2), .val (.int p3), .val (.int p4), .val (.int b5), .unset, .unset, .unset, .unset, .unset, .unset, .unset] [(.int b5)])) t
        refine XS.ifNo XW0.here hx rfl (hb hby at_16) rfl ((if0 _ _).trans (feq hc16_598).1) ?_
        show Steps p.tables e below (s₁.setTop (mkF m 19 #[.val (.int p0), .val (.int p1), .val (.int p2), .val (.int p3), .val (.int p4), .val (.int b5), .unset, .unset, .unset, .unset, .unset, .unset, .unset] [])) t
        refine XS.sipush XW0.here hx rfl (hb hby at_19) ?_
        show Steps p.tables e below (s₁.setTop (mkF m 22 #[.val (.int p0), .val (.int p1), .val (.int p2), .val (.int p3), .val (.int p4), .val (.int b5), .unset, .unset, .unset, .unset, .unset, .unset, .unset] [(.int (503 : Int32))])) t
        refine XS.goto XW0.here hx rfl (pc0 := 22) (pc' := 26) rfl (hb hby at_22) (by decide) (by decide) ?_
        exact kk
      exact ⟨(503 : Int32), trivial, c600⟩
  have c601 : Goes p e below s₁ (entryFrame m #[(.int p0), (.int p1), (.int p2), (.int p3), (.int p4)] maxLocals) s₁ (mkF m 62 #[.val (.int p0), .val (.int p1), .val (.int p2), .val (.int p3), .val (.int p4), .val (.int b5), .val (.int sx), .val (.int (((p1.toUInt32 >>> ((4 : Int32) &&& 31).toUInt32).toInt32) &&& (7 : Int32))), .val (.int ((p3 &&& (255 : Int32)).toUInt32.toUInt16.toUInt32.toInt32)), .val (.int ((p4 &&& (255 : Int32)).toUInt32.toUInt16.toUInt32.toInt32)), .unset, .unset, .unset] [(.int p4), (.int ((p4 &&& (255 : Int32)).toUInt32.toUInt16.toUInt32.toInt32)), (.int ((p3 &&& (255 : Int32)).toUInt32.toUInt16.toUInt32.toInt32)), (.int p2), (.int (((p1.toUInt32 >>> ((4 : Int32) &&& 31).toUInt32).toInt32) &&& (7 : Int32)))]) := by
    intro t kk
    refine c597 t ?_
    show Steps p.tables e below (s₁.setTop (mkF m 26 #[.val (.int p0), .val (.int p1), .val (.int p2), .val (.int p3), .val (.int p4), .val (.int b5), .unset, .unset, .unset, .unset, .unset, .unset, .unset] [(.int sx)])) t
    refine XS.istore XW0.here hx rfl (hb hby at_26) rfl (l' := #[.val (.int p0), .val (.int p1), .val (.int p2), .val (.int p3), .val (.int p4), .val (.int b5), .val (.int sx), .unset, .unset, .unset, .unset, .unset, .unset]) rfl ?_
    show Steps p.tables e below (s₁.setTop (mkF m 28 #[.val (.int p0), .val (.int p1), .val (.int p2), .val (.int p3), .val (.int p4), .val (.int b5), .val (.int sx), .unset, .unset, .unset, .unset, .unset, .unset] [])) t
    refine XS.iloadN XW0.here hx rfl (hb hby at_28) rfl ?_
    show Steps p.tables e below (s₁.setTop (mkF m 29 #[.val (.int p0), .val (.int p1), .val (.int p2), .val (.int p3), .val (.int p4), .val (.int b5), .val (.int sx), .unset, .unset, .unset, .unset, .unset, .unset] [(.int p1)])) t
    refine XS.iconst XW0.here hx rfl (hb hby at_29) ?_
    show Steps p.tables e below (s₁.setTop (mkF m 30 #[.val (.int p0), .val (.int p1), .val (.int p2), .val (.int p3), .val (.int p4), .val (.int b5), .val (.int sx), .unset, .unset, .unset, .unset, .unset, .unset] [(.int (4 : Int32)), (.int p1)])) t
    refine XS.iushr XW0.here hx rfl (hb hby at_30) rfl ?_
    show Steps p.tables e below (s₁.setTop (mkF m 31 #[.val (.int p0), .val (.int p1), .val (.int p2), .val (.int p3), .val (.int p4), .val (.int b5), .val (.int sx), .unset, .unset, .unset, .unset, .unset, .unset] [(.int ((p1.toUInt32 >>> ((4 : Int32) &&& 31).toUInt32).toInt32))])) t
    refine XS.bipush XW0.here hx rfl (hb hby at_31) ?_
    show Steps p.tables e below (s₁.setTop (mkF m 33 #[.val (.int p0), .val (.int p1), .val (.int p2), .val (.int p3), .val (.int p4), .val (.int b5), .val (.int sx), .unset, .unset, .unset, .unset, .unset, .unset] [(.int (7 : Int32)), (.int ((p1.toUInt32 >>> ((4 : Int32) &&& 31).toUInt32).toInt32))])) t
    refine XS.iand XW0.here hx rfl (hb hby at_33) rfl ?_
    show Steps p.tables e below (s₁.setTop (mkF m 34 #[.val (.int p0), .val (.int p1), .val (.int p2), .val (.int p3), .val (.int p4), .val (.int b5), .val (.int sx), .unset, .unset, .unset, .unset, .unset, .unset] [(.int (((p1.toUInt32 >>> ((4 : Int32) &&& 31).toUInt32).toInt32) &&& (7 : Int32)))])) t
    refine XS.istore XW0.here hx rfl (hb hby at_34) rfl (l' := #[.val (.int p0), .val (.int p1), .val (.int p2), .val (.int p3), .val (.int p4), .val (.int b5), .val (.int sx), .val (.int (((p1.toUInt32 >>> ((4 : Int32) &&& 31).toUInt32).toInt32) &&& (7 : Int32))), .unset, .unset, .unset, .unset, .unset]) rfl ?_
    show Steps p.tables e below (s₁.setTop (mkF m 36 #[.val (.int p0), .val (.int p1), .val (.int p2), .val (.int p3), .val (.int p4), .val (.int b5), .val (.int sx), .val (.int (((p1.toUInt32 >>> ((4 : Int32) &&& 31).toUInt32).toInt32) &&& (7 : Int32))), .unset, .unset, .unset, .unset, .unset] [])) t
    refine XS.iloadN XW0.here hx rfl (hb hby at_36) rfl ?_
    show Steps p.tables e below (s₁.setTop (mkF m 37 #[.val (.int p0), .val (.int p1), .val (.int p2), .val (.int p3), .val (.int p4), .val (.int b5), .val (.int sx), .val (.int (((p1.toUInt32 >>> ((4 : Int32) &&& 31).toUInt32).toInt32) &&& (7 : Int32))), .unset, .unset, .unset, .unset, .unset] [(.int p3)])) t
    refine XS.sipush XW0.here hx rfl (hb hby at_37) ?_
    show Steps p.tables e below (s₁.setTop (mkF m 40 #[.val (.int p0), .val (.int p1), .val (.int p2), .val (.int p3), .val (.int p4), .val (.int b5), .val (.int sx), .val (.int (((p1.toUInt32 >>> ((4 : Int32) &&& 31).toUInt32).toInt32) &&& (7 : Int32))), .unset, .unset, .unset, .unset, .unset] [(.int (255 : Int32)), (.int p3)])) t
    refine XS.iand XW0.here hx rfl (hb hby at_40) rfl ?_
    show Steps p.tables e below (s₁.setTop (mkF m 41 #[.val (.int p0), .val (.int p1), .val (.int p2), .val (.int p3), .val (.int p4), .val (.int b5), .val (.int sx), .val (.int (((p1.toUInt32 >>> ((4 : Int32) &&& 31).toUInt32).toInt32) &&& (7 : Int32))), .unset, .unset, .unset, .unset, .unset] [(.int (p3 &&& (255 : Int32)))])) t
    refine XS.i2c XW0.here hx rfl (hb hby at_41) rfl ?_
    show Steps p.tables e below (s₁.setTop (mkF m 42 #[.val (.int p0), .val (.int p1), .val (.int p2), .val (.int p3), .val (.int p4), .val (.int b5), .val (.int sx), .val (.int (((p1.toUInt32 >>> ((4 : Int32) &&& 31).toUInt32).toInt32) &&& (7 : Int32))), .unset, .unset, .unset, .unset, .unset] [(.int ((p3 &&& (255 : Int32)).toUInt32.toUInt16.toUInt32.toInt32))])) t
    refine XS.istore XW0.here hx rfl (hb hby at_42) rfl (l' := #[.val (.int p0), .val (.int p1), .val (.int p2), .val (.int p3), .val (.int p4), .val (.int b5), .val (.int sx), .val (.int (((p1.toUInt32 >>> ((4 : Int32) &&& 31).toUInt32).toInt32) &&& (7 : Int32))), .val (.int ((p3 &&& (255 : Int32)).toUInt32.toUInt16.toUInt32.toInt32)), .unset, .unset, .unset, .unset]) rfl ?_
    show Steps p.tables e below (s₁.setTop (mkF m 44 #[.val (.int p0), .val (.int p1), .val (.int p2), .val (.int p3), .val (.int p4), .val (.int b5), .val (.int sx), .val (.int (((p1.toUInt32 >>> ((4 : Int32) &&& 31).toUInt32).toInt32) &&& (7 : Int32))), .val (.int ((p3 &&& (255 : Int32)).toUInt32.toUInt16.toUInt32.toInt32)), .unset, .unset, .unset, .unset] [])) t
    refine XS.iload XW0.here hx rfl (hb hby at_44) rfl ?_
    show Steps p.tables e below (s₁.setTop (mkF m 46 #[.val (.int p0), .val (.int p1), .val (.int p2), .val (.int p3), .val (.int p4), .val (.int b5), .val (.int sx), .val (.int (((p1.toUInt32 >>> ((4 : Int32) &&& 31).toUInt32).toInt32) &&& (7 : Int32))), .val (.int ((p3 &&& (255 : Int32)).toUInt32.toUInt16.toUInt32.toInt32)), .unset, .unset, .unset, .unset] [(.int p4)])) t
    refine XS.sipush XW0.here hx rfl (hb hby at_46) ?_
    show Steps p.tables e below (s₁.setTop (mkF m 49 #[.val (.int p0), .val (.int p1), .val (.int p2), .val (.int p3), .val (.int p4), .val (.int b5), .val (.int sx), .val (.int (((p1.toUInt32 >>> ((4 : Int32) &&& 31).toUInt32).toInt32) &&& (7 : Int32))), .val (.int ((p3 &&& (255 : Int32)).toUInt32.toUInt16.toUInt32.toInt32)), .unset, .unset, .unset, .unset] [(.int (255 : Int32)), (.int p4)])) t
    refine XS.iand XW0.here hx rfl (hb hby at_49) rfl ?_
    show Steps p.tables e below (s₁.setTop (mkF m 50 #[.val (.int p0), .val (.int p1), .val (.int p2), .val (.int p3), .val (.int p4), .val (.int b5), .val (.int sx), .val (.int (((p1.toUInt32 >>> ((4 : Int32) &&& 31).toUInt32).toInt32) &&& (7 : Int32))), .val (.int ((p3 &&& (255 : Int32)).toUInt32.toUInt16.toUInt32.toInt32)), .unset, .unset, .unset, .unset] [(.int (p4 &&& (255 : Int32)))])) t
    refine XS.i2c XW0.here hx rfl (hb hby at_50) rfl ?_
    show Steps p.tables e below (s₁.setTop (mkF m 51 #[.val (.int p0), .val (.int p1), .val (.int p2), .val (.int p3), .val (.int p4), .val (.int b5), .val (.int sx), .val (.int (((p1.toUInt32 >>> ((4 : Int32) &&& 31).toUInt32).toInt32) &&& (7 : Int32))), .val (.int ((p3 &&& (255 : Int32)).toUInt32.toUInt16.toUInt32.toInt32)), .unset, .unset, .unset, .unset] [(.int ((p4 &&& (255 : Int32)).toUInt32.toUInt16.toUInt32.toInt32))])) t
    refine XS.istore XW0.here hx rfl (hb hby at_51) rfl (l' := #[.val (.int p0), .val (.int p1), .val (.int p2), .val (.int p3), .val (.int p4), .val (.int b5), .val (.int sx), .val (.int (((p1.toUInt32 >>> ((4 : Int32) &&& 31).toUInt32).toInt32) &&& (7 : Int32))), .val (.int ((p3 &&& (255 : Int32)).toUInt32.toUInt16.toUInt32.toInt32)), .val (.int ((p4 &&& (255 : Int32)).toUInt32.toUInt16.toUInt32.toInt32)), .unset, .unset, .unset]) rfl ?_
    show Steps p.tables e below (s₁.setTop (mkF m 53 #[.val (.int p0), .val (.int p1), .val (.int p2), .val (.int p3), .val (.int p4), .val (.int b5), .val (.int sx), .val (.int (((p1.toUInt32 >>> ((4 : Int32) &&& 31).toUInt32).toInt32) &&& (7 : Int32))), .val (.int ((p3 &&& (255 : Int32)).toUInt32.toUInt16.toUInt32.toInt32)), .val (.int ((p4 &&& (255 : Int32)).toUInt32.toUInt16.toUInt32.toInt32)), .unset, .unset, .unset] [])) t
    refine XS.iload XW0.here hx rfl (hb hby at_53) rfl ?_
    show Steps p.tables e below (s₁.setTop (mkF m 55 #[.val (.int p0), .val (.int p1), .val (.int p2), .val (.int p3), .val (.int p4), .val (.int b5), .val (.int sx), .val (.int (((p1.toUInt32 >>> ((4 : Int32) &&& 31).toUInt32).toInt32) &&& (7 : Int32))), .val (.int ((p3 &&& (255 : Int32)).toUInt32.toUInt16.toUInt32.toInt32)), .val (.int ((p4 &&& (255 : Int32)).toUInt32.toUInt16.toUInt32.toInt32)), .unset, .unset, .unset] [(.int (((p1.toUInt32 >>> ((4 : Int32) &&& 31).toUInt32).toInt32) &&& (7 : Int32)))])) t
    refine XS.iloadN XW0.here hx rfl (hb hby at_55) rfl ?_
    show Steps p.tables e below (s₁.setTop (mkF m 56 #[.val (.int p0), .val (.int p1), .val (.int p2), .val (.int p3), .val (.int p4), .val (.int b5), .val (.int sx), .val (.int (((p1.toUInt32 >>> ((4 : Int32) &&& 31).toUInt32).toInt32) &&& (7 : Int32))), .val (.int ((p3 &&& (255 : Int32)).toUInt32.toUInt16.toUInt32.toInt32)), .val (.int ((p4 &&& (255 : Int32)).toUInt32.toUInt16.toUInt32.toInt32)), .unset, .unset, .unset] [(.int p2), (.int (((p1.toUInt32 >>> ((4 : Int32) &&& 31).toUInt32).toInt32) &&& (7 : Int32)))])) t
    refine XS.iload XW0.here hx rfl (hb hby at_56) rfl ?_
    show Steps p.tables e below (s₁.setTop (mkF m 58 #[.val (.int p0), .val (.int p1), .val (.int p2), .val (.int p3), .val (.int p4), .val (.int b5), .val (.int sx), .val (.int (((p1.toUInt32 >>> ((4 : Int32) &&& 31).toUInt32).toInt32) &&& (7 : Int32))), .val (.int ((p3 &&& (255 : Int32)).toUInt32.toUInt16.toUInt32.toInt32)), .val (.int ((p4 &&& (255 : Int32)).toUInt32.toUInt16.toUInt32.toInt32)), .unset, .unset, .unset] [(.int ((p3 &&& (255 : Int32)).toUInt32.toUInt16.toUInt32.toInt32)), (.int p2), (.int (((p1.toUInt32 >>> ((4 : Int32) &&& 31).toUInt32).toInt32) &&& (7 : Int32)))])) t
    refine XS.iload XW0.here hx rfl (hb hby at_58) rfl ?_
    show Steps p.tables e below (s₁.setTop (mkF m 60 #[.val (.int p0), .val (.int p1), .val (.int p2), .val (.int p3), .val (.int p4), .val (.int b5), .val (.int sx), .val (.int (((p1.toUInt32 >>> ((4 : Int32) &&& 31).toUInt32).toInt32) &&& (7 : Int32))), .val (.int ((p3 &&& (255 : Int32)).toUInt32.toUInt16.toUInt32.toInt32)), .val (.int ((p4 &&& (255 : Int32)).toUInt32.toUInt16.toUInt32.toInt32)), .unset, .unset, .unset] [(.int ((p4 &&& (255 : Int32)).toUInt32.toUInt16.toUInt32.toInt32)), (.int ((p3 &&& (255 : Int32)).toUInt32.toUInt16.toUInt32.toInt32)), (.int p2), (.int (((p1.toUInt32 >>> ((4 : Int32) &&& 31).toUInt32).toInt32) &&& (7 : Int32)))])) t
    refine XS.iload XW0.here hx rfl (hb hby at_60) rfl ?_
    exact kk
  obtain ⟨_, _, ⟨T602, L602, k602, n602⟩, -, XX602, SS602, gr602, ⟨Lc602, hQ602, l602, y602, z602, hCr602⟩, st602⟩ := callSS XW0 hx (y := (⟨"com/example/ventil/ventil/RejectionOfPinLaw", "makeHeader", "(IICCI)Ljava/lang/String;"⟩ : MethodName)) hown (mvT hZ (hw _ (List.mem_of_getElem? (i := 0) rfl))) (mvT hZ (hw _ (List.mem_of_getElem? (i := 1) rfl))) (mvT hZ (hw _ (List.mem_of_getElem? (i := 2) rfl))) (mvT hZ (hw _ (List.mem_of_getElem? (i := 3) rfl))) (by decide) (backOfSH (W := 0) (rm_mk l Z a0 hw [] (((p1.toUInt32 >>> ((4 : Int32) &&& 31).toUInt32).toInt32) &&& (7 : Int32)) p2 ((p3 &&& (255 : Int32)).toUInt32.toUInt16.toUInt32.toInt32) ((p4 &&& (255 : Int32)).toUInt32.toUInt16.toUInt32.toInt32) p4 z h0 n0 Z0 hEL O0 S2 hz (own_ff p3) (own_ff p4)) hZ (hw _ (List.mem_of_getElem? (i := 3) rfl)) (hw _ (List.mem_of_getElem? (i := 2) rfl)) (by decide) (by decide) hEL hCH0) (g := (mkF m 62 #[.val (.int p0), .val (.int p1), .val (.int p2), .val (.int p3), .val (.int p4), .val (.int b5), .val (.int sx), .val (.int (((p1.toUInt32 >>> ((4 : Int32) &&& 31).toUInt32).toInt32) &&& (7 : Int32))), .val (.int ((p3 &&& (255 : Int32)).toUInt32.toUInt16.toUInt32.toInt32)), .val (.int ((p4 &&& (255 : Int32)).toUInt32.toUInt16.toUInt32.toInt32)), .unset, .unset, .unset] [(.int p4), (.int ((p4 &&& (255 : Int32)).toUInt32.toUInt16.toUInt32.toInt32)), (.int ((p3 &&& (255 : Int32)).toUInt32.toUInt16.toUInt32.toInt32)), (.int p2), (.int (((p1.toUInt32 >>> ((4 : Int32) &&& 31).toUInt32).toInt32) &&& (7 : Int32)))])) rfl (by rw [hml]; rfl) (argsL := [(.int (((p1.toUInt32 >>> ((4 : Int32) &&& 31).toUInt32).toInt32) &&& (7 : Int32))), (.int p2), (.int ((p3 &&& (255 : Int32)).toUInt32.toUInt16.toUInt32.toInt32)), (.int ((p4 &&& (255 : Int32)).toUInt32.toUInt16.toUInt32.toInt32)), (.int p4)]) (rest := []) (lenOf pd__IICCI_Ljava_lang_String_ rfl) rfl (by show 2 * 0 + _ ≤ _; exact Nat.le_of_eq rfl) (hb hby at_62) (fun _ _ => ⟨rfl, e0, (by decide : 0 + 4 ≤ _), (by decide : 0 + 42 ≤ _)⟩)
  obtain ⟨X602, S602, hZ602, ho602⟩ := rebS SW0 (by rw [e0]; exact (Nat.zero_le _) : _ ≤ s₁.heap.size) XX602 SS602 gr602 hZ hown
  dsimp only [Pt.U, Pt.locs, Pt.cells, Pt.slots] at S602 hZ602 ho602 hCr602 X602 l602 y602 z602 st602 hQ602
  subst l602 y602 z602
  obtain ⟨x602, rfl, Nq602, Kq602, Hd602⟩ := hQ602
  have N602 := Fr.app N0 Nq602
  have c603 : Goes p e below s₁ (entryFrame m #[(.int p0), (.int p1), (.int p2), (.int p3), (.int p4)] maxLocals) T602 (mkF m 65 #[.val (.int p0), .val (.int p1), .val (.int p2), .val (.int p3), .val (.int p4), .val (.int b5), .val (.int sx), .val (.int (((p1.toUInt32 >>> ((4 : Int32) &&& 31).toUInt32).toInt32) &&& (7 : Int32))), .val (.int ((p3 &&& (255 : Int32)).toUInt32.toUInt16.toUInt32.toInt32)), .val (.int ((p4 &&& (255 : Int32)).toUInt32.toUInt16.toUInt32.toInt32)), .unset, .unset, .unset] [x602]) := fun t kk => c601 t (st602.trans kk)
  rcases Hd602 with rfl | ⟨ha, cs, rfl, Hs, Hl⟩
  · have f604 := (Nat.le_trans Z0 Kq602.1)
    have c605 : Goes p e below s₁ (entryFrame m #[(.int p0), (.int p1), (.int p2), (.int p3), (.int p4)] maxLocals) T602 (mkF m 71 #[.val (.int p0), .val (.int p1), .val (.int p2), .val (.int p3), .val (.int p4), .val (.int b5), .val (.int sx), .val (.int (((p1.toUInt32 >>> ((4 : Int32) &&& 31).toUInt32).toInt32) &&& (7 : Int32))), .val (.int ((p3 &&& (255 : Int32)).toUInt32.toUInt16.toUInt32.toInt32)), .val (.int ((p4 &&& (255 : Int32)).toUInt32.toUInt16.toUInt32.toInt32)), .val .null, .unset, .unset] [.null, (.int sx)]) := by
      intro t kk
      refine c603 t ?_
      show Steps p.tables e below (T602.setTop (mkF m 65 #[.val (.int p0), .val (.int p1), .val (.int p2), .val (.int p3), .val (.int p4), .val (.int b5), .val (.int sx), .val (.int (((p1.toUInt32 >>> ((4 : Int32) &&& 31).toUInt32).toInt32) &&& (7 : Int32))), .val (.int ((p3 &&& (255 : Int32)).toUInt32.toUInt16.toUInt32.toInt32)), .val (.int ((p4 &&& (255 : Int32)).toUInt32.toUInt16.toUInt32.toInt32)), .unset, .unset, .unset] [.null])) t
      refine XS.astore X602.here hx rfl (hb hby at_65) rfl rfl (l' := #[.val (.int p0), .val (.int p1), .val (.int p2), .val (.int p3), .val (.int p4), .val (.int b5), .val (.int sx), .val (.int (((p1.toUInt32 >>> ((4 : Int32) &&& 31).toUInt32).toInt32) &&& (7 : Int32))), .val (.int ((p3 &&& (255 : Int32)).toUInt32.toUInt16.toUInt32.toInt32)), .val (.int ((p4 &&& (255 : Int32)).toUInt32.toUInt16.toUInt32.toInt32)), .val .null, .unset, .unset]) rfl ?_
      show Steps p.tables e below (T602.setTop (mkF m 67 #[.val (.int p0), .val (.int p1), .val (.int p2), .val (.int p3), .val (.int p4), .val (.int b5), .val (.int sx), .val (.int (((p1.toUInt32 >>> ((4 : Int32) &&& 31).toUInt32).toInt32) &&& (7 : Int32))), .val (.int ((p3 &&& (255 : Int32)).toUInt32.toUInt16.toUInt32.toInt32)), .val (.int ((p4 &&& (255 : Int32)).toUInt32.toUInt16.toUInt32.toInt32)), .val .null, .unset, .unset] [])) t
      refine XS.iload X602.here hx rfl (hb hby at_67) rfl ?_
      show Steps p.tables e below (T602.setTop (mkF m 69 #[.val (.int p0), .val (.int p1), .val (.int p2), .val (.int p3), .val (.int p4), .val (.int b5), .val (.int sx), .val (.int (((p1.toUInt32 >>> ((4 : Int32) &&& 31).toUInt32).toInt32) &&& (7 : Int32))), .val (.int ((p3 &&& (255 : Int32)).toUInt32.toUInt16.toUInt32.toInt32)), .val (.int ((p4 &&& (255 : Int32)).toUInt32.toUInt16.toUInt32.toInt32)), .val .null, .unset, .unset] [(.int sx)])) t
      refine XS.aload X602.here hx rfl (hb hby at_69) rfl rfl ?_
      exact kk
    obtain ⟨_, _, ⟨T606, L606, k606, n606⟩, -, XX606, SS606, gr606, ⟨Lc606, hQ606, l606, y606, z606, hCr606⟩, st606⟩ := callSS X602 hx (y := (⟨"com/example/ventil/ventil/RejectionOfPinLaw", "reference", "(ILjava/lang/String;)Lcom/example/ventil/ventil/Rejection;"⟩ : MethodName)) ho602 (mvT hZ602 (hw _ (List.mem_of_getElem? (i := 4) rfl))) (mvT hZ602 (hw _ (List.mem_of_getElem? (i := 5) rfl))) (mvT hZ602 (hw _ (List.mem_of_getElem? (i := 2) rfl))) (mvT hZ602 (hw _ (List.mem_of_getElem? (i := 6) rfl))) (by decide) (backOfSH (W := 0) (rm_rfn l Z a0 hw [] sx T602.heap n0 f604 hEL) hZ602 (hw _ (List.mem_of_getElem? (i := 6) rfl)) (hw _ (List.mem_of_getElem? (i := 2) rfl)) (by decide) (by decide) hEL hCr602.1) (g := (mkF m 71 #[.val (.int p0), .val (.int p1), .val (.int p2), .val (.int p3), .val (.int p4), .val (.int b5), .val (.int sx), .val (.int (((p1.toUInt32 >>> ((4 : Int32) &&& 31).toUInt32).toInt32) &&& (7 : Int32))), .val (.int ((p3 &&& (255 : Int32)).toUInt32.toUInt16.toUInt32.toInt32)), .val (.int ((p4 &&& (255 : Int32)).toUInt32.toUInt16.toUInt32.toInt32)), .val .null, .unset, .unset] [.null, (.int sx)])) rfl (by rw [hml]; rfl) (argsL := [(.int sx), .null]) (rest := []) (lenOf pd__ILjava_lang_String__Lcom_example_ventil_ventil_Rejection_ rfl) rfl (by show 2 * 0 + _ ≤ _; exact Nat.le_of_eq rfl) (hb hby at_71) (fun _ _ => ⟨rfl, rfl, (by decide : 4 + 0 ≤ _), (by decide : 42 + 0 ≤ _)⟩)
    obtain ⟨X606, S606, hZ606, ho606⟩ := rebS S602 (Nat.le_refl _) XX606 SS606 gr606 hZ602 ho602
    dsimp only [Pt.U, Pt.locs, Pt.cells, Pt.slots] at S606 hZ606 ho606 hCr606 X606 l606 y606 z606 st606 hQ606
    subst l606 y606 z606
    obtain ⟨rfl, Nq606, eq606⟩ := hQ606
    have N606 := Fr.app N602 Nq606
    have c607 : Goes p e below s₁ (entryFrame m #[(.int p0), (.int p1), (.int p2), (.int p3), (.int p4)] maxLocals) T606 (mkF m 74 #[.val (.int p0), .val (.int p1), .val (.int p2), .val (.int p3), .val (.int p4), .val (.int b5), .val (.int sx), .val (.int (((p1.toUInt32 >>> ((4 : Int32) &&& 31).toUInt32).toInt32) &&& (7 : Int32))), .val (.int ((p3 &&& (255 : Int32)).toUInt32.toUInt16.toUInt32.toInt32)), .val (.int ((p4 &&& (255 : Int32)).toUInt32.toUInt16.toUInt32.toInt32)), .val .null, .unset, .unset] [.null]) := fun t kk => c605 t (st606.trans kk)
    have f608 := (O0.keep Kq602 all0)
    have c609 : Goes p e below s₁ (entryFrame m #[(.int p0), (.int p1), (.int p2), (.int p3), (.int p4)] maxLocals) T606 (mkF m 80 #[.val (.int p0), .val (.int p1), .val (.int p2), .val (.int p3), .val (.int p4), .val (.int b5), .val (.int sx), .val (.int (((p1.toUInt32 >>> ((4 : Int32) &&& 31).toUInt32).toInt32) &&& (7 : Int32))), .val (.int ((p3 &&& (255 : Int32)).toUInt32.toUInt16.toUInt32.toInt32)), .val (.int ((p4 &&& (255 : Int32)).toUInt32.toUInt16.toUInt32.toInt32)), .val .null, .val .null, .unset] [.null, (.int sx)]) := by
      intro t kk
      refine c607 t ?_
      show Steps p.tables e below (T606.setTop (mkF m 74 #[.val (.int p0), .val (.int p1), .val (.int p2), .val (.int p3), .val (.int p4), .val (.int b5), .val (.int sx), .val (.int (((p1.toUInt32 >>> ((4 : Int32) &&& 31).toUInt32).toInt32) &&& (7 : Int32))), .val (.int ((p3 &&& (255 : Int32)).toUInt32.toUInt16.toUInt32.toInt32)), .val (.int ((p4 &&& (255 : Int32)).toUInt32.toUInt16.toUInt32.toInt32)), .val .null, .unset, .unset] [.null])) t
      refine XS.astore X606.here hx rfl (hb hby at_74) rfl rfl (l' := #[.val (.int p0), .val (.int p1), .val (.int p2), .val (.int p3), .val (.int p4), .val (.int b5), .val (.int sx), .val (.int (((p1.toUInt32 >>> ((4 : Int32) &&& 31).toUInt32).toInt32) &&& (7 : Int32))), .val (.int ((p3 &&& (255 : Int32)).toUInt32.toUInt16.toUInt32.toInt32)), .val (.int ((p4 &&& (255 : Int32)).toUInt32.toUInt16.toUInt32.toInt32)), .val .null, .val .null, .unset]) rfl ?_
      show Steps p.tables e below (T606.setTop (mkF m 76 #[.val (.int p0), .val (.int p1), .val (.int p2), .val (.int p3), .val (.int p4), .val (.int b5), .val (.int sx), .val (.int (((p1.toUInt32 >>> ((4 : Int32) &&& 31).toUInt32).toInt32) &&& (7 : Int32))), .val (.int ((p3 &&& (255 : Int32)).toUInt32.toUInt16.toUInt32.toInt32)), .val (.int ((p4 &&& (255 : Int32)).toUInt32.toUInt16.toUInt32.toInt32)), .val .null, .val .null, .unset] [])) t
      refine XS.iload X606.here hx rfl (hb hby at_76) rfl ?_
      show Steps p.tables e below (T606.setTop (mkF m 78 #[.val (.int p0), .val (.int p1), .val (.int p2), .val (.int p3), .val (.int p4), .val (.int b5), .val (.int sx), .val (.int (((p1.toUInt32 >>> ((4 : Int32) &&& 31).toUInt32).toInt32) &&& (7 : Int32))), .val (.int ((p3 &&& (255 : Int32)).toUInt32.toUInt16.toUInt32.toInt32)), .val (.int ((p4 &&& (255 : Int32)).toUInt32.toUInt16.toUInt32.toInt32)), .val .null, .val .null, .unset] [(.int sx)])) t
      refine XS.aload X606.here hx rfl (hb hby at_78) rfl rfl ?_
      exact kk
    obtain ⟨_, _, ⟨T610, L610, k610, n610⟩, -, X610, ⟨Lc610, hQ610, l610, y610, z610⟩, st610⟩ := Jvm.LawKit.callS X606 hx (y := (⟨"com/example/ventil/ventil/Rejection", "of", "(ILjava/lang/String;)Lcom/example/ventil/ventil/Rejection;"⟩ : MethodName)) ho606 (mvT hZ606 (hw _ (List.mem_of_getElem? (i := 7) rfl))) (mvT hZ606 (hw _ (List.mem_of_getElem? (i := 8) rfl))) (mvT hZ606 (hw _ (List.mem_of_getElem? (i := 9) rfl))) (mvT hZ606 (hw _ (List.mem_of_getElem? (i := 10) rfl))) (by decide) (backOf (W := 0) (rm_ofn l Z a0 hw [] sx ar kr wO wN tO tN T602.heap n0 f604 (S_R.ext f608.2) (V_R.ext f608.2) (Fs_O.ext f608.2) (Fs_N.ext f608.2) (Fh_O.ext f608.2) (Fh_N.ext f608.2) (own_sext X_O f608.2) (own_sext X_N f608.2)) hZ606 (hw _ (List.mem_of_getElem? (i := 10) rfl)) (hw _ (List.mem_of_getElem? (i := 9) rfl)) (by decide) (by decide)) (g := (mkF m 80 #[.val (.int p0), .val (.int p1), .val (.int p2), .val (.int p3), .val (.int p4), .val (.int b5), .val (.int sx), .val (.int (((p1.toUInt32 >>> ((4 : Int32) &&& 31).toUInt32).toInt32) &&& (7 : Int32))), .val (.int ((p3 &&& (255 : Int32)).toUInt32.toUInt16.toUInt32.toInt32)), .val (.int ((p4 &&& (255 : Int32)).toUInt32.toUInt16.toUInt32.toInt32)), .val .null, .val .null, .unset] [.null, (.int sx)])) rfl (by rw [hml]; rfl) (argsL := [(.int sx), .null]) (rest := []) (lenOf pd__ILjava_lang_String__Lcom_example_ventil_ventil_Rejection_ rfl) rfl (by show 2 * 0 + _ ≤ _; exact Nat.le_of_eq rfl) (hb hby at_80) (fun _ _ => ⟨rfl, eq606, (by decide : 4 + 0 ≤ _), (by decide : 42 + 0 ≤ _)⟩)
    dsimp only [Pt.U, Pt.locs, Pt.cells, Pt.slots] at X610 l610 y610 z610 st610 hQ610
    subst l610 y610 z610
    obtain ⟨rfl, Nq610, eq610⟩ := hQ610
    have N610 := Fr.app N606 Nq610
    have c611 : Goes p e below s₁ (entryFrame m #[(.int p0), (.int p1), (.int p2), (.int p3), (.int p4)] maxLocals) T610 (mkF m 83 #[.val (.int p0), .val (.int p1), .val (.int p2), .val (.int p3), .val (.int p4), .val (.int b5), .val (.int sx), .val (.int (((p1.toUInt32 >>> ((4 : Int32) &&& 31).toUInt32).toInt32) &&& (7 : Int32))), .val (.int ((p3 &&& (255 : Int32)).toUInt32.toUInt16.toUInt32.toInt32)), .val (.int ((p4 &&& (255 : Int32)).toUInt32.toUInt16.toUInt32.toInt32)), .val .null, .val .null, .unset] [.null]) := fun t kk => c609 t (st610 t kk)
    have c612 : Goes p e below s₁ (entryFrame m #[(.int p0), (.int p1), (.int p2), (.int p3), (.int p4)] maxLocals) T610 (mkF m 97 #[.val (.int p0), .val (.int p1), .val (.int p2), .val (.int p3), .val (.int p4), .val (.int b5), .val (.int sx), .val (.int (((p1.toUInt32 >>> ((4 : Int32) &&& 31).toUInt32).toInt32) &&& (7 : Int32))), .val (.int ((p3 &&& (255 : Int32)).toUInt32.toUInt16.toUInt32.toInt32)), .val (.int ((p4 &&& (255 : Int32)).toUInt32.toUInt16.toUInt32.toInt32)), .val .null, .val .null, .val .null] [(.int (1 : Int32))]) := by
      intro t kk
      refine c611 t ?_
      show Steps p.tables e below (T610.setTop (mkF m 83 #[.val (.int p0), .val (.int p1), .val (.int p2), .val (.int p3), .val (.int p4), .val (.int b5), .val (.int sx), .val (.int (((p1.toUInt32 >>> ((4 : Int32) &&& 31).toUInt32).toInt32) &&& (7 : Int32))), .val (.int ((p3 &&& (255 : Int32)).toUInt32.toUInt16.toUInt32.toInt32)), .val (.int ((p4 &&& (255 : Int32)).toUInt32.toUInt16.toUInt32.toInt32)), .val .null, .val .null, .unset] [.null])) t
      refine XS.astore X610.here hx rfl (hb hby at_83) rfl rfl (l' := #[.val (.int p0), .val (.int p1), .val (.int p2), .val (.int p3), .val (.int p4), .val (.int b5), .val (.int sx), .val (.int (((p1.toUInt32 >>> ((4 : Int32) &&& 31).toUInt32).toInt32) &&& (7 : Int32))), .val (.int ((p3 &&& (255 : Int32)).toUInt32.toUInt16.toUInt32.toInt32)), .val (.int ((p4 &&& (255 : Int32)).toUInt32.toUInt16.toUInt32.toInt32)), .val .null, .val .null, .val .null]) rfl ?_
      show Steps p.tables e below (T610.setTop (mkF m 85 #[.val (.int p0), .val (.int p1), .val (.int p2), .val (.int p3), .val (.int p4), .val (.int b5), .val (.int sx), .val (.int (((p1.toUInt32 >>> ((4 : Int32) &&& 31).toUInt32).toInt32) &&& (7 : Int32))), .val (.int ((p3 &&& (255 : Int32)).toUInt32.toUInt16.toUInt32.toInt32)), .val (.int ((p4 &&& (255 : Int32)).toUInt32.toUInt16.toUInt32.toInt32)), .val .null, .val .null, .val .null] [])) t
      refine XS.aload X610.here hx rfl (hb hby at_85) rfl rfl ?_
      show Steps p.tables e below (T610.setTop (mkF m 87 #[.val (.int p0), .val (.int p1), .val (.int p2), .val (.int p3), .val (.int p4), .val (.int b5), .val (.int sx), .val (.int (((p1.toUInt32 >>> ((4 : Int32) &&& 31).toUInt32).toInt32) &&& (7 : Int32))), .val (.int ((p3 &&& (255 : Int32)).toUInt32.toUInt16.toUInt32.toInt32)), .val (.int ((p4 &&& (255 : Int32)).toUInt32.toUInt16.toUInt32.toInt32)), .val .null, .val .null, .val .null] [.null])) t
      refine XS.aload X610.here hx rfl (hb hby at_87) rfl rfl ?_
      show Steps p.tables e below (T610.setTop (mkF m 89 #[.val (.int p0), .val (.int p1), .val (.int p2), .val (.int p3), .val (.int p4), .val (.int b5), .val (.int sx), .val (.int (((p1.toUInt32 >>> ((4 : Int32) &&& 31).toUInt32).toInt32) &&& (7 : Int32))), .val (.int ((p3 &&& (255 : Int32)).toUInt32.toUInt16.toUInt32.toInt32)), .val (.int ((p4 &&& (255 : Int32)).toUInt32.toUInt16.toUInt32.toInt32)), .val .null, .val .null, .val .null] [.null, .null])) t
      refine Jvm.RoadKit.acmp (g := (mkF m 89 #[.val (.int p0), .val (.int p1), .val (.int p2), .val (.int p3), .val (.int p4), .val (.int b5), .val (.int sx), .val (.int (((p1.toUInt32 >>> ((4 : Int32) &&& 31).toUInt32).toInt32) &&& (7 : Int32))), .val (.int ((p3 &&& (255 : Int32)).toUInt32.toUInt16.toUInt32.toInt32)), .val (.int ((p4 &&& (255 : Int32)).toUInt32.toUInt16.toUInt32.toInt32)), .val .null, .val .null, .val .null] [.null, .null])) X610 hx rfl rfl rfl (pc0 := 89) (pc' := 92) (same := true) rfl (hb hby at_89) rfl (decide_eq_true rfl) (by decide) (by decide) ?_
      show Steps p.tables e below (T610.setTop (mkF m 92 #[.val (.int p0), .val (.int p1), .val (.int p2), .val (.int p3), .val (.int p4), .val (.int b5), .val (.int sx), .val (.int (((p1.toUInt32 >>> ((4 : Int32) &&& 31).toUInt32).toInt32) &&& (7 : Int32))), .val (.int ((p3 &&& (255 : Int32)).toUInt32.toUInt16.toUInt32.toInt32)), .val (.int ((p4 &&& (255 : Int32)).toUInt32.toUInt16.toUInt32.toInt32)), .val .null, .val .null, .val .null] [])) t
      refine XS.iconst X610.here hx rfl (hb hby at_92) ?_
      show Steps p.tables e below (T610.setTop (mkF m 93 #[.val (.int p0), .val (.int p1), .val (.int p2), .val (.int p3), .val (.int p4), .val (.int b5), .val (.int sx), .val (.int (((p1.toUInt32 >>> ((4 : Int32) &&& 31).toUInt32).toInt32) &&& (7 : Int32))), .val (.int ((p3 &&& (255 : Int32)).toUInt32.toUInt16.toUInt32.toInt32)), .val (.int ((p4 &&& (255 : Int32)).toUInt32.toUInt16.toUInt32.toInt32)), .val .null, .val .null, .val .null] [(.int (1 : Int32))])) t
      refine XS.goto X610.here hx rfl (pc0 := 93) (pc' := 97) rfl (hb hby at_93) (by decide) (by decide) ?_
      exact kk
    obtain ⟨fs, hr, hrun, hended, hRW⟩ := X610.leaveW S606 (by rw [eq610]; exact (Nat.le_of_eq (congrArg Array.size eq606))) (v := some (.int (1 : Int32))) (fun h => by rw [Bd.returns] at h; cases h)
    refine ⟨_, _, c612 _ ?_, hrun, hended, _, _, rfl, ?_, hRW.1, hRW.2.1, hRW.2.2.1, hRW.2.2.2.mono (by decide) (by decide)⟩
    · exact retN X610 hx (t := .boolean) Bd.returns (by simp) (hb hby at_97) hr
    · show Q_law Z p0 p1 p2 p3 p4 z ar kr wO wN tO tN h0 n0 _ T610.heap _
      rw [eq610]
      exact ⟨rfl, N610⟩
  · have f613 := (Nat.le_trans Z0 Kq602.1)
    have f614 := (O0.keep Kq602 all0)
    have c615 : Goes p e below s₁ (entryFrame m #[(.int p0), (.int p1), (.int p2), (.int p3), (.int p4)] maxLocals) T602 (mkF m 71 #[.val (.int p0), .val (.int p1), .val (.int p2), .val (.int p3), .val (.int p4), .val (.int b5), .val (.int sx), .val (.int (((p1.toUInt32 >>> ((4 : Int32) &&& 31).toUInt32).toInt32) &&& (7 : Int32))), .val (.int ((p3 &&& (255 : Int32)).toUInt32.toUInt16.toUInt32.toInt32)), .val (.int ((p4 &&& (255 : Int32)).toUInt32.toUInt16.toUInt32.toInt32)), .val (.ref ha), .unset, .unset] [(.ref ha), (.int sx)]) := by
      intro t kk
      refine c603 t ?_
      show Steps p.tables e below (T602.setTop (mkF m 65 #[.val (.int p0), .val (.int p1), .val (.int p2), .val (.int p3), .val (.int p4), .val (.int b5), .val (.int sx), .val (.int (((p1.toUInt32 >>> ((4 : Int32) &&& 31).toUInt32).toInt32) &&& (7 : Int32))), .val (.int ((p3 &&& (255 : Int32)).toUInt32.toUInt16.toUInt32.toInt32)), .val (.int ((p4 &&& (255 : Int32)).toUInt32.toUInt16.toUInt32.toInt32)), .unset, .unset, .unset] [(.ref ha)])) t
      refine XS.astore X602.here hx rfl (hb hby at_65) rfl rfl (l' := #[.val (.int p0), .val (.int p1), .val (.int p2), .val (.int p3), .val (.int p4), .val (.int b5), .val (.int sx), .val (.int (((p1.toUInt32 >>> ((4 : Int32) &&& 31).toUInt32).toInt32) &&& (7 : Int32))), .val (.int ((p3 &&& (255 : Int32)).toUInt32.toUInt16.toUInt32.toInt32)), .val (.int ((p4 &&& (255 : Int32)).toUInt32.toUInt16.toUInt32.toInt32)), .val (.ref ha), .unset, .unset]) rfl ?_
      show Steps p.tables e below (T602.setTop (mkF m 67 #[.val (.int p0), .val (.int p1), .val (.int p2), .val (.int p3), .val (.int p4), .val (.int b5), .val (.int sx), .val (.int (((p1.toUInt32 >>> ((4 : Int32) &&& 31).toUInt32).toInt32) &&& (7 : Int32))), .val (.int ((p3 &&& (255 : Int32)).toUInt32.toUInt16.toUInt32.toInt32)), .val (.int ((p4 &&& (255 : Int32)).toUInt32.toUInt16.toUInt32.toInt32)), .val (.ref ha), .unset, .unset] [])) t
      refine XS.iload X602.here hx rfl (hb hby at_67) rfl ?_
      show Steps p.tables e below (T602.setTop (mkF m 69 #[.val (.int p0), .val (.int p1), .val (.int p2), .val (.int p3), .val (.int p4), .val (.int b5), .val (.int sx), .val (.int (((p1.toUInt32 >>> ((4 : Int32) &&& 31).toUInt32).toInt32) &&& (7 : Int32))), .val (.int ((p3 &&& (255 : Int32)).toUInt32.toUInt16.toUInt32.toInt32)), .val (.int ((p4 &&& (255 : Int32)).toUInt32.toUInt16.toUInt32.toInt32)), .val (.ref ha), .unset, .unset] [(.int sx)])) t
      refine XS.aload X602.here hx rfl (hb hby at_69) rfl rfl ?_
      exact kk
    obtain ⟨_, _, ⟨T616, L616, k616, n616⟩, -, XX616, SS616, gr616, ⟨Lc616, hQ616, l616, y616, z616, hCr616⟩, st616⟩ := callSS X602 hx (y := (⟨"com/example/ventil/ventil/RejectionOfPinLaw", "reference", "(ILjava/lang/String;)Lcom/example/ventil/ventil/Rejection;"⟩ : MethodName)) ho602 (mvT hZ602 (hw _ (List.mem_of_getElem? (i := 4) rfl))) (mvT hZ602 (hw _ (List.mem_of_getElem? (i := 5) rfl))) (mvT hZ602 (hw _ (List.mem_of_getElem? (i := 2) rfl))) (mvT hZ602 (hw _ (List.mem_of_getElem? (i := 6) rfl))) (by decide) (backOfSH (W := 0) (rm_rfr l Z a0 hw [] sx ha cs z wO wN T602.heap n0 f613 hEL f614 S2 hz S_O S_N Hs Hl) hZ602 (hw _ (List.mem_of_getElem? (i := 6) rfl)) (hw _ (List.mem_of_getElem? (i := 2) rfl)) (by decide) (by decide) hEL hCr602.1) (g := (mkF m 71 #[.val (.int p0), .val (.int p1), .val (.int p2), .val (.int p3), .val (.int p4), .val (.int b5), .val (.int sx), .val (.int (((p1.toUInt32 >>> ((4 : Int32) &&& 31).toUInt32).toInt32) &&& (7 : Int32))), .val (.int ((p3 &&& (255 : Int32)).toUInt32.toUInt16.toUInt32.toInt32)), .val (.int ((p4 &&& (255 : Int32)).toUInt32.toUInt16.toUInt32.toInt32)), .val (.ref ha), .unset, .unset] [(.ref ha), (.int sx)])) rfl (by rw [hml]; rfl) (argsL := [(.int sx), (.ref ha)]) (rest := []) (lenOf pd__ILjava_lang_String__Lcom_example_ventil_ventil_Rejection_ rfl) rfl (by show 2 * 0 + _ ≤ _; exact Nat.le_of_eq rfl) (hb hby at_71) (fun _ _ => ⟨rfl, rfl, (by decide : 4 + 4 ≤ _), (by decide : 42 + 124 ≤ _)⟩)
    obtain ⟨X616, S616, hZ616, ho616⟩ := rebS S602 (Nat.le_refl _) XX616 SS616 gr616 hZ602 ho602
    dsimp only [Pt.U, Pt.locs, Pt.cells, Pt.slots] at S616 hZ616 ho616 hCr616 X616 l616 y616 z616 st616 hQ616
    subst l616 y616 z616
    obtain ⟨rfl, Nq616, Kq616⟩ := hQ616
    have N616 := Fr.app N602 Nq616
    have c617 : Goes p e below s₁ (entryFrame m #[(.int p0), (.int p1), (.int p2), (.int p3), (.int p4)] maxLocals) T616 (mkF m 74 #[.val (.int p0), .val (.int p1), .val (.int p2), .val (.int p3), .val (.int p4), .val (.int b5), .val (.int sx), .val (.int (((p1.toUInt32 >>> ((4 : Int32) &&& 31).toUInt32).toInt32) &&& (7 : Int32))), .val (.int ((p3 &&& (255 : Int32)).toUInt32.toUInt16.toUInt32.toInt32)), .val (.int ((p4 &&& (255 : Int32)).toUInt32.toUInt16.toUInt32.toInt32)), .val (.ref ha), .unset, .unset] [(own_rj sx cs wO wN)]) := fun t kk => c615 t (st616.trans kk)
    have f618 := (Nat.le_trans f613 Kq616.1)
    have f619 := (f614.keep Kq616 all0)
    have c620 : Goes p e below s₁ (entryFrame m #[(.int p0), (.int p1), (.int p2), (.int p3), (.int p4)] maxLocals) T616 (mkF m 80 #[.val (.int p0), .val (.int p1), .val (.int p2), .val (.int p3), .val (.int p4), .val (.int b5), .val (.int sx), .val (.int (((p1.toUInt32 >>> ((4 : Int32) &&& 31).toUInt32).toInt32) &&& (7 : Int32))), .val (.int ((p3 &&& (255 : Int32)).toUInt32.toUInt16.toUInt32.toInt32)), .val (.int ((p4 &&& (255 : Int32)).toUInt32.toUInt16.toUInt32.toInt32)), .val (.ref ha), .val (own_rj sx cs wO wN), .unset] [(.ref ha), (.int sx)]) := by
      intro t kk
      refine c617 t ?_
      show Steps p.tables e below (T616.setTop (mkF m 74 #[.val (.int p0), .val (.int p1), .val (.int p2), .val (.int p3), .val (.int p4), .val (.int b5), .val (.int sx), .val (.int (((p1.toUInt32 >>> ((4 : Int32) &&& 31).toUInt32).toInt32) &&& (7 : Int32))), .val (.int ((p3 &&& (255 : Int32)).toUInt32.toUInt16.toUInt32.toInt32)), .val (.int ((p4 &&& (255 : Int32)).toUInt32.toUInt16.toUInt32.toInt32)), .val (.ref ha), .unset, .unset] [(own_rj sx cs wO wN)])) t
      refine XS.astore X616.here hx rfl (hb hby at_74) rfl (own_rjr _ _ _ _) (l' := #[.val (.int p0), .val (.int p1), .val (.int p2), .val (.int p3), .val (.int p4), .val (.int b5), .val (.int sx), .val (.int (((p1.toUInt32 >>> ((4 : Int32) &&& 31).toUInt32).toInt32) &&& (7 : Int32))), .val (.int ((p3 &&& (255 : Int32)).toUInt32.toUInt16.toUInt32.toInt32)), .val (.int ((p4 &&& (255 : Int32)).toUInt32.toUInt16.toUInt32.toInt32)), .val (.ref ha), .val (own_rj sx cs wO wN), .unset]) (XS.store1 rfl (Or.inl rfl) (own_cat (own_rjr _ _ _ _))) ?_
      show Steps p.tables e below (T616.setTop (mkF m 76 #[.val (.int p0), .val (.int p1), .val (.int p2), .val (.int p3), .val (.int p4), .val (.int b5), .val (.int sx), .val (.int (((p1.toUInt32 >>> ((4 : Int32) &&& 31).toUInt32).toInt32) &&& (7 : Int32))), .val (.int ((p3 &&& (255 : Int32)).toUInt32.toUInt16.toUInt32.toInt32)), .val (.int ((p4 &&& (255 : Int32)).toUInt32.toUInt16.toUInt32.toInt32)), .val (.ref ha), .val (own_rj sx cs wO wN), .unset] [])) t
      refine XS.iload X616.here hx rfl (hb hby at_76) rfl ?_
      show Steps p.tables e below (T616.setTop (mkF m 78 #[.val (.int p0), .val (.int p1), .val (.int p2), .val (.int p3), .val (.int p4), .val (.int b5), .val (.int sx), .val (.int (((p1.toUInt32 >>> ((4 : Int32) &&& 31).toUInt32).toInt32) &&& (7 : Int32))), .val (.int ((p3 &&& (255 : Int32)).toUInt32.toUInt16.toUInt32.toInt32)), .val (.int ((p4 &&& (255 : Int32)).toUInt32.toUInt16.toUInt32.toInt32)), .val (.ref ha), .val (own_rj sx cs wO wN), .unset] [(.int sx)])) t
      refine XS.aload X616.here hx rfl (hb hby at_78) rfl rfl ?_
      exact kk
    obtain ⟨_, _, ⟨T621, L621, k621, n621⟩, -, X621, ⟨Lc621, hQ621, l621, y621, z621⟩, st621⟩ := Jvm.LawKit.callS X616 hx (y := (⟨"com/example/ventil/ventil/Rejection", "of", "(ILjava/lang/String;)Lcom/example/ventil/ventil/Rejection;"⟩ : MethodName)) ho616 (mvT hZ616 (hw _ (List.mem_of_getElem? (i := 7) rfl))) (mvT hZ616 (hw _ (List.mem_of_getElem? (i := 8) rfl))) (mvT hZ616 (hw _ (List.mem_of_getElem? (i := 9) rfl))) (mvT hZ616 (hw _ (List.mem_of_getElem? (i := 10) rfl))) (by decide) (backOf (W := 0) (rm_ofr l Z a0 hw [] sx ha cs z ar kr wO wN tO tN T616.heap n0 f618 (S_R.ext f619.2) (V_R.ext f619.2) (Fs_O.ext f619.2) (Fs_N.ext f619.2) (Fh_O.ext f619.2) (Fh_N.ext f619.2) (own_sext X_O f619.2) (own_sext X_N f619.2) (own_skeep Hs Kq616) Hl (S2.ext f619.2) hz) hZ616 (hw _ (List.mem_of_getElem? (i := 10) rfl)) (hw _ (List.mem_of_getElem? (i := 9) rfl)) (by decide) (by decide)) (g := (mkF m 80 #[.val (.int p0), .val (.int p1), .val (.int p2), .val (.int p3), .val (.int p4), .val (.int b5), .val (.int sx), .val (.int (((p1.toUInt32 >>> ((4 : Int32) &&& 31).toUInt32).toInt32) &&& (7 : Int32))), .val (.int ((p3 &&& (255 : Int32)).toUInt32.toUInt16.toUInt32.toInt32)), .val (.int ((p4 &&& (255 : Int32)).toUInt32.toUInt16.toUInt32.toInt32)), .val (.ref ha), .val (own_rj sx cs wO wN), .unset] [(.ref ha), (.int sx)])) rfl (by rw [hml]; rfl) (argsL := [(.int sx), (.ref ha)]) (rest := []) (lenOf pd__ILjava_lang_String__Lcom_example_ventil_ventil_Rejection_ rfl) rfl (by show 2 * 0 + _ ≤ _; exact Nat.le_of_eq rfl) (hb hby at_80) (fun _ _ => ⟨rfl, rfl, (by decide : 8 + 0 ≤ _), (by decide : 166 + 0 ≤ _)⟩)
    dsimp only [Pt.U, Pt.locs, Pt.cells, Pt.slots] at X621 l621 y621 z621 st621 hQ621
    subst l621 y621 z621
    obtain ⟨rfl, Nq621, eq621⟩ := hQ621
    have N621 := Fr.app N616 Nq621
    have c622 : Goes p e below s₁ (entryFrame m #[(.int p0), (.int p1), (.int p2), (.int p3), (.int p4)] maxLocals) T621 (mkF m 83 #[.val (.int p0), .val (.int p1), .val (.int p2), .val (.int p3), .val (.int p4), .val (.int b5), .val (.int sx), .val (.int (((p1.toUInt32 >>> ((4 : Int32) &&& 31).toUInt32).toInt32) &&& (7 : Int32))), .val (.int ((p3 &&& (255 : Int32)).toUInt32.toUInt16.toUInt32.toInt32)), .val (.int ((p4 &&& (255 : Int32)).toUInt32.toUInt16.toUInt32.toInt32)), .val (.ref ha), .val (own_rj sx cs wO wN), .unset] [(own_rj sx cs wO wN)]) := fun t kk => c620 t (st621 t kk)
    have c623 : Goes p e below s₁ (entryFrame m #[(.int p0), (.int p1), (.int p2), (.int p3), (.int p4)] maxLocals) T621 (mkF m 97 #[.val (.int p0), .val (.int p1), .val (.int p2), .val (.int p3), .val (.int p4), .val (.int b5), .val (.int sx), .val (.int (((p1.toUInt32 >>> ((4 : Int32) &&& 31).toUInt32).toInt32) &&& (7 : Int32))), .val (.int ((p3 &&& (255 : Int32)).toUInt32.toUInt16.toUInt32.toInt32)), .val (.int ((p4 &&& (255 : Int32)).toUInt32.toUInt16.toUInt32.toInt32)), .val (.ref ha), .val (own_rj sx cs wO wN), .val (own_rj sx cs wO wN)] [(.int (1 : Int32))]) := by
      intro t kk
      refine c622 t ?_
      show Steps p.tables e below (T621.setTop (mkF m 83 #[.val (.int p0), .val (.int p1), .val (.int p2), .val (.int p3), .val (.int p4), .val (.int b5), .val (.int sx), .val (.int (((p1.toUInt32 >>> ((4 : Int32) &&& 31).toUInt32).toInt32) &&& (7 : Int32))), .val (.int ((p3 &&& (255 : Int32)).toUInt32.toUInt16.toUInt32.toInt32)), .val (.int ((p4 &&& (255 : Int32)).toUInt32.toUInt16.toUInt32.toInt32)), .val (.ref ha), .val (own_rj sx cs wO wN), .unset] [(own_rj sx cs wO wN)])) t
      refine XS.astore X621.here hx rfl (hb hby at_83) rfl (own_rjr _ _ _ _) (l' := #[.val (.int p0), .val (.int p1), .val (.int p2), .val (.int p3), .val (.int p4), .val (.int b5), .val (.int sx), .val (.int (((p1.toUInt32 >>> ((4 : Int32) &&& 31).toUInt32).toInt32) &&& (7 : Int32))), .val (.int ((p3 &&& (255 : Int32)).toUInt32.toUInt16.toUInt32.toInt32)), .val (.int ((p4 &&& (255 : Int32)).toUInt32.toUInt16.toUInt32.toInt32)), .val (.ref ha), .val (own_rj sx cs wO wN), .val (own_rj sx cs wO wN)]) (XS.store1 rfl (Or.inl rfl) (own_cat (own_rjr _ _ _ _))) ?_
      show Steps p.tables e below (T621.setTop (mkF m 85 #[.val (.int p0), .val (.int p1), .val (.int p2), .val (.int p3), .val (.int p4), .val (.int b5), .val (.int sx), .val (.int (((p1.toUInt32 >>> ((4 : Int32) &&& 31).toUInt32).toInt32) &&& (7 : Int32))), .val (.int ((p3 &&& (255 : Int32)).toUInt32.toUInt16.toUInt32.toInt32)), .val (.int ((p4 &&& (255 : Int32)).toUInt32.toUInt16.toUInt32.toInt32)), .val (.ref ha), .val (own_rj sx cs wO wN), .val (own_rj sx cs wO wN)] [])) t
      refine XS.aload X621.here hx rfl (hb hby at_85) rfl (own_rjr _ _ _ _) ?_
      show Steps p.tables e below (T621.setTop (mkF m 87 #[.val (.int p0), .val (.int p1), .val (.int p2), .val (.int p3), .val (.int p4), .val (.int b5), .val (.int sx), .val (.int (((p1.toUInt32 >>> ((4 : Int32) &&& 31).toUInt32).toInt32) &&& (7 : Int32))), .val (.int ((p3 &&& (255 : Int32)).toUInt32.toUInt16.toUInt32.toInt32)), .val (.int ((p4 &&& (255 : Int32)).toUInt32.toUInt16.toUInt32.toInt32)), .val (.ref ha), .val (own_rj sx cs wO wN), .val (own_rj sx cs wO wN)] [(own_rj sx cs wO wN)])) t
      refine XS.aload X621.here hx rfl (hb hby at_87) rfl (own_rjr _ _ _ _) ?_
      show Steps p.tables e below (T621.setTop (mkF m 89 #[.val (.int p0), .val (.int p1), .val (.int p2), .val (.int p3), .val (.int p4), .val (.int b5), .val (.int sx), .val (.int (((p1.toUInt32 >>> ((4 : Int32) &&& 31).toUInt32).toInt32) &&& (7 : Int32))), .val (.int ((p3 &&& (255 : Int32)).toUInt32.toUInt16.toUInt32.toInt32)), .val (.int ((p4 &&& (255 : Int32)).toUInt32.toUInt16.toUInt32.toInt32)), .val (.ref ha), .val (own_rj sx cs wO wN), .val (own_rj sx cs wO wN)] [(own_rj sx cs wO wN), (own_rj sx cs wO wN)])) t
      refine Jvm.RoadKit.acmp (g := (mkF m 89 #[.val (.int p0), .val (.int p1), .val (.int p2), .val (.int p3), .val (.int p4), .val (.int b5), .val (.int sx), .val (.int (((p1.toUInt32 >>> ((4 : Int32) &&& 31).toUInt32).toInt32) &&& (7 : Int32))), .val (.int ((p3 &&& (255 : Int32)).toUInt32.toUInt16.toUInt32.toInt32)), .val (.int ((p4 &&& (255 : Int32)).toUInt32.toUInt16.toUInt32.toInt32)), .val (.ref ha), .val (own_rj sx cs wO wN), .val (own_rj sx cs wO wN)] [(own_rj sx cs wO wN), (own_rj sx cs wO wN)])) X621 hx rfl (own_rjr _ _ _ _) (own_rjr _ _ _ _) (pc0 := 89) (pc' := 92) (same := true) rfl (hb hby at_89) rfl (decide_eq_true rfl) (by decide) (by decide) ?_
      show Steps p.tables e below (T621.setTop (mkF m 92 #[.val (.int p0), .val (.int p1), .val (.int p2), .val (.int p3), .val (.int p4), .val (.int b5), .val (.int sx), .val (.int (((p1.toUInt32 >>> ((4 : Int32) &&& 31).toUInt32).toInt32) &&& (7 : Int32))), .val (.int ((p3 &&& (255 : Int32)).toUInt32.toUInt16.toUInt32.toInt32)), .val (.int ((p4 &&& (255 : Int32)).toUInt32.toUInt16.toUInt32.toInt32)), .val (.ref ha), .val (own_rj sx cs wO wN), .val (own_rj sx cs wO wN)] [])) t
      refine XS.iconst X621.here hx rfl (hb hby at_92) ?_
      show Steps p.tables e below (T621.setTop (mkF m 93 #[.val (.int p0), .val (.int p1), .val (.int p2), .val (.int p3), .val (.int p4), .val (.int b5), .val (.int sx), .val (.int (((p1.toUInt32 >>> ((4 : Int32) &&& 31).toUInt32).toInt32) &&& (7 : Int32))), .val (.int ((p3 &&& (255 : Int32)).toUInt32.toUInt16.toUInt32.toInt32)), .val (.int ((p4 &&& (255 : Int32)).toUInt32.toUInt16.toUInt32.toInt32)), .val (.ref ha), .val (own_rj sx cs wO wN), .val (own_rj sx cs wO wN)] [(.int (1 : Int32))])) t
      refine XS.goto X621.here hx rfl (pc0 := 93) (pc' := 97) rfl (hb hby at_93) (by decide) (by decide) ?_
      exact kk
    obtain ⟨fs, hr, hrun, hended, hRW⟩ := X621.leaveW S616 (by rw [eq621]; exact (Nat.le_refl _)) (v := some (.int (1 : Int32))) (fun h => by rw [Bd.returns] at h; cases h)
    refine ⟨_, _, c623 _ ?_, hrun, hended, _, _, rfl, ?_, hRW.1, hRW.2.1, hRW.2.2.1, hRW.2.2.2.mono (by decide) (by decide)⟩
    · exact retN X621 hx (t := .boolean) Bd.returns (by simp) (hb hby at_97) hr
    · show Q_law Z p0 p1 p2 p3 p4 z ar kr wO wN tO tN h0 n0 _ T621.heap _
      rw [eq621]
      exact ⟨rfl, N621⟩

theorem own_refE {s : State} {args : Array Value} {t u : Term} {b : Addr} (hu : u.eval args s none [] s = some (.ref b)) (h : (Cond.eq t u).value args s none s [] = some true) : t.eval args s none [] s = some (.ref b) := by
  obtain ⟨x, y, h1, h2, k1, k2⟩ := cmp_v (Or.inl h)
  obtain rfl := Option.some.inj (hu.symm.trans h2)
  have hx : x.isRef = true := k2.2
  have e := gotT (eq_R h1 hu hx rfl) h
  subst e
  exact h1

set_option maxRecDepth 65536 in
set_option maxHeartbeats 40000000 in
theorem comes_1 {Post : Tables → Env → Array Value → State → Outcome → State → Prop} (hpost : ∀ tb e args s v u, (limb_1_1.after args s (.returned v) u = true ∧ limb_1_2.after args s (.returned v) u = true ∧ True) → ReturnedEndW s (.returned v) u (Jvm.fieldLocs frame_1_writes args s ++ Jvm.arrayLocs frame_1_arrays args s ++ Jvm.staticLocs frame_1_statics s) 24 3264 → Post tb e args s (.returned v) u) :
    ArmFor flags0 classFile x code maxLocals ret World_1 tables_1 room_1 Calls_1 rest_1 Pre_1 Post := by
  intro l hfl _ _ p e ha hc hk s m args below hf hA hF happ hP
  obtain ⟨hcalls, hrest, hpre⟩ := hP
  obtain ⟨-, -, -, hnamed, -, -, -, hat⟩ := (Spec.applies_iff hf).mp happ
  obtain ⟨hg, hn⟩ := and_e (Cond.before_iff.mp (show (Jvm.Cond.and given_1 narrow_1).before args s = true from hpre))
  obtain ⟨gg1, gg2⟩ := and_e hg
  obtain ⟨gg3, gg4⟩ := and_e gg2
  obtain ⟨gg5, gg6⟩ := and_e gg4
  obtain ⟨gg7, gg8⟩ := and_e gg6
  obtain ⟨gg9, gg10⟩ := and_e gg8
  obtain ⟨w0, w1, w2, w3, w4, rfl⟩ : ∃ w0 w1 w2 w3 w4 : Value, args = #[w0, w1, w2, w3, w4] := by
    have hs : args.size = 5 := by simpa [Cond.value, given_1] using gg1
    obtain ⟨L⟩ := args
    match L, hs with
    | [w0, w1, w2, w3, w4], _ => exact ⟨w0, w1, w2, w3, w4, rfl⟩
  have hw := fun d (hd : d ∈ tables_1) => atoms_spec (ws := Jvm.Cond.code x code maxLocals ret :: tables_1) hat d (List.mem_cons_of_mem _ hd)
  have hfit : Fit s := fun {y c} hc i hi => by
    obtain ⟨ha, rfl⟩ := Array.getElem?_eq_some_iff.mp hc
    have q := List.all_eq_true.mp ((Array.all_eq_true_iff_forall_mem.mp hF) _ (Array.getElem_mem ha)) i (List.mem_range.mpr hi)
    simpa [Array.getElem?_eq_getElem hi] using q
  obtain ⟨hsets, hown0⟩ := atoms_of _ (rest_1_c_eq ▸ (show rest_1_c.before _ s = true from hrest))
  have hr0 := Cond.before_iff.mp hown0
  obtain ⟨i0, ei0⟩ := is_v gg3
  obtain rfl : w0 = (.int i0) := Option.some.inj ei0
  obtain ⟨i1, ei1⟩ := is_v gg5
  obtain rfl : w1 = (.int i1) := Option.some.inj ei1
  obtain ⟨i2, ei2⟩ := is_v gg7
  obtain rfl : w2 = (.int i2) := Option.some.inj ei2
  obtain ⟨i3, ei3⟩ := is_v gg9
  obtain rfl : w3 = (.int i3) := Option.some.inj ei3
  obtain ⟨i4, ei4⟩ := is_v gg10
  obtain rfl : w4 = (.int i4) := Option.some.inj ei4
  obtain ⟨nn1, nn2⟩ := and_e hn
  obtain ⟨nn3, nn4⟩ := and_e nn2
  obtain ⟨nn5, nn6⟩ := and_e nn4
  obtain ⟨nn7, nn8⟩ := and_e nn6
  obtain ⟨nn9, nn10⟩ := and_e nn8
  obtain ⟨nn11, nn12⟩ := and_e nn10
  obtain ⟨nn13, nn14⟩ := and_e nn12
  obtain ⟨nn15, nn16⟩ := and_e nn14
  obtain ⟨nn17, nn18⟩ := and_e nn16
  obtain ⟨nn19, nn20⟩ := and_e nn18
  obtain ⟨nn21, nn22⟩ := and_e nn20
  obtain ⟨nn23, nn24⟩ := and_e nn22
  obtain ⟨nn25, nn26⟩ := and_e nn24
  obtain ⟨nn27, nn28⟩ := and_e nn26
  obtain ⟨nn29, nn30⟩ := and_e nn28
  obtain ⟨nn31, nn32⟩ := and_e nn30
  obtain ⟨nn33, nn34⟩ := and_e nn32
  obtain ⟨nn35, nn36⟩ := and_e nn34
  obtain ⟨nn37, nn38⟩ := and_e nn36
  obtain ⟨nn39, nn40⟩ := and_e nn38
  obtain ⟨nn41, nn42⟩ := and_e nn40
  obtain ⟨nn43, nn44⟩ := and_e nn42
  obtain ⟨nn45, nn46⟩ := and_e nn44
  obtain ⟨nn47, nn48⟩ := and_e nn46
  obtain ⟨nn49, nn50⟩ := and_e nn48
  obtain ⟨nn51, nn52⟩ := and_e nn50
  obtain ⟨nn53, nn54⟩ := and_e nn52
  obtain ⟨nn55, nn56⟩ := and_e nn54
  obtain ⟨nn57, nn58⟩ := and_e nn56
  obtain ⟨nn59, nn60⟩ := and_e nn58
  obtain ⟨nn61, nn62⟩ := and_e nn60
  obtain ⟨nn63, nn64⟩ := and_e nn62
  obtain ⟨nn65, nn66⟩ := and_e nn64
  obtain ⟨nn67, nn68⟩ := and_e nn66
  obtain ⟨nn69, nn70⟩ := and_e nn68
  obtain ⟨nn71, nn72⟩ := and_e nn70
  obtain ⟨nn73, nn74⟩ := and_e nn72
  obtain ⟨nn75, nn76⟩ := and_e nn74
  obtain ⟨nn77, nn78⟩ := and_e nn76
  obtain ⟨nn79, nn80⟩ := and_e nn78
  obtain ⟨nn81, nn82⟩ := and_e nn80
  obtain ⟨nn83, nn84⟩ := and_e nn82
  obtain ⟨nn85, nn86⟩ := and_e nn84
  obtain ⟨nn87, nn88⟩ := and_e nn86
  obtain ⟨z, vz⟩ := is_v (Cond.before_iff.mp (hsets _ (List.mem_of_getElem? (i := 1) rfl)))
  have S2 := Sta.start vz (Or.inl (hsets _ (List.mem_of_getElem? (i := 0) rfl)))
  have hz : ¬ z = 0 := own_nz vz (Cond.before_iff.mp (hsets _ (List.mem_of_getElem? (i := 2) rfl)))
  obtain ⟨wO, v_wO⟩ := exa_v nn5
  have S_O := Sta.start v_wO (Or.inr ⟨hw _ (List.mem_of_getElem? (i := 9) rfl), hw _ (List.mem_of_getElem? (i := 13) rfl)⟩)
  obtain ⟨tO, v_tO⟩ := exa_v nn17
  have Fh_O := Fld.start ((fld_at v_wO).symm.trans v_tO)
  have Fs_O := own_fldI v_wO nn9
  have X_O : own_str s s.heap tO ([111, 118, 101, 114, 108, 111, 97, 100, 101, 100] : List Int32) := own_strstart hfit v_tO nn17 nn19 nn21 nn23 (by decide) (by decide) (fun i hi => match i, hi with | 0, _ => nn33 | 1, _ => nn35 | 2, _ => nn37 | 3, _ => nn39 | 4, _ => nn41 | 5, _ => nn43 | 6, _ => nn45 | 7, _ => nn47 | 8, _ => nn49 | 9, _ => nn51 | n + 10, q => absurd q (by simp))
  obtain ⟨wN, v_wN⟩ := exa_v nn11
  have S_N := Sta.start v_wN (Or.inr ⟨hw _ (List.mem_of_getElem? (i := 9) rfl), hw _ (List.mem_of_getElem? (i := 16) rfl)⟩)
  obtain ⟨tN, v_tN⟩ := exa_v nn25
  have Fh_N := Fld.start ((fld_at v_wN).symm.trans v_tN)
  have Fs_N := own_fldI v_wN nn15
  have X_N : own_str s s.heap tN ([111, 118, 101, 114, 108, 111, 97, 100, 101, 100, 45, 110, 111, 45, 114, 101, 116, 114, 121] : List Int32) := own_strstart hfit v_tN nn25 nn27 nn29 nn31 (by decide) (by decide) (fun i hi => match i, hi with | 0, _ => nn53 | 1, _ => nn55 | 2, _ => nn57 | 3, _ => nn59 | 4, _ => nn61 | 5, _ => nn63 | 6, _ => nn65 | 7, _ => nn67 | 8, _ => nn69 | 9, _ => nn71 | 10, _ => nn73 | 11, _ => nn75 | 12, _ => nn77 | 13, _ => nn79 | 14, _ => nn81 | 15, _ => nn83 | 16, _ => nn85 | 17, _ => nn87 | 18, _ => nn88 | n + 19, q => absurd q (by simp))
  obtain ⟨ar, v_ar⟩ := arr_v nn1
  have S_R := Sta.start v_ar (Or.inr ⟨hw _ (List.mem_of_getElem? (i := 9) rfl), hw _ (List.mem_of_getElem? (i := 12) rfl)⟩)
  obtain ⟨clr, A_R⟩ := Arr.start v_ar nn1
  obtain ⟨rq1, rq2⟩ := own_len v_ar A_R nn3
  have el0 := (elem_in (own_refE v_wO nn7) v_ar (Term.int_eval 0) A_R.1).2
  have el1 := (elem_in (own_refE v_wN nn13) v_ar (Term.int_eval 1) A_R.1).2
  have V_R : Arv s s.heap ar clr.cls (.object "com/example/ventil/ventil/Rejection") (2 : Int32) [.ref wO, .ref wN] .null := Arv.start hfit A_R rq1 rq2 (by decide) rfl ⟨el0, el1, trivial⟩
  have hEL : EW s _ consts_1 := (EW.cons (hw _ (List.mem_of_getElem? (i := 47) rfl)) (by decide +kernel) (EW.cons (hw _ (List.mem_of_getElem? (i := 60) rfl)) (by decide +kernel) (EW.cons (hw _ (List.mem_of_getElem? (i := 64) rfl)) (by decide +kernel) EW.nil)))
  have hCH : CHv s consts_1 s.vm s.heap := CHv.start hEL hcalls.1 (hsets _ (List.mem_of_getElem? (i := 2) rfl)) (own_wS hw _ (List.mem_of_getElem? (i := 2) rfl)) (own_wS hw _ (List.mem_of_getElem? (i := 1) rfl))
  obtain ⟨n, o, h1, h2, h3, _, L, rfl, ⟨rfl, N⟩, hq⟩ := rm_law l s _ hw tables_1 i0 i1 i2 i3 i4 z ar clr.cls wO wN tO tN s.heap s.heap.size (Nat.le_refl _) hEL (Old.start s) S2 hz S_O S_N S_R V_R Fs_O Fs_N Fh_O Fh_N X_O X_N p e ha hc hk s m _ below hf ((Spec.applies_iff_loose hf).mp happ).1 ⟨rfl, State.Warmed39.refl s, rfl, hCH⟩ trivial
  refine ⟨n, _, h1, h2, h3, hpost _ _ _ _ _ _ ⟨Cond.after_iff.mpr rfl, Cond.after_iff.mpr (eq_i res_at (Term.int_eval (1)) rfl), trivial⟩ ⟨hq.1, hq.2.1, hq.2.2.1, (hq.2.2.2.sift fun y hy => Or.inr (N y hy)).mono (by decide) (by decide)⟩⟩
theorem main_1_1 : Claimed_1_1 := comes_1 fun _ _ _ _ _ _ h hF => ⟨h.1, hF⟩
theorem main_1_2 : Claimed_1_2 := comes_1 fun _ _ _ _ _ _ h hF => ⟨h.2.1, hF⟩
end Jvm.Pilot.@@N@@
namespace Jvm.Pilot.@@N@@
open Jvm Jvm.ClassFile Sem Op Lib Jvm.Free Jvm.Stand Jvm.Pilot.@@N@@.Jvm.D
/-! MADE BY PROGRAM (witnessworld.py) out of the Statement's table words and the real class files: 22 classes; the members and pool entries that the words name. The judged class is class 1, her method 1. -/
namespace start1
open Jvm.ClassFile
def u (s : String) : CpInfo := .utf8 (stringToUtf16 s)
/-- a pool by its gaps: so many unusable entries, then the entry; so many at the end -/
def gap : Nat → List CpInfo → List CpInfo
  | 0, r => r
  | n + 1, r => .unusable :: gap n r
def poolList (es : List (Nat × CpInfo)) (last : Nat) : List CpInfo := es.foldr (fun e r => gap e.1 (e.2 :: r)) (gap last [])
def pool (es : List (Nat × CpInfo)) (last : Nat) : Array CpInfo := ⟨poolList es last⟩
def fileOf (pool : Array CpInfo) (this : Nat) (attrs : Array Attribute := #[]) (ms : Array MethodInfo := #[]) (fl : Nat := 33) (sup : Nat := 0) (ifs : Array Nat := #[]) (fds : Array FieldInfo := #[]) : ClassFile where
  minorVersion := 0
  majorVersion := 65
  constantPool := pool
  accessFlags := fl
  thisClass := this
  superClass := sup
  interfaces := ifs
  fields := fds
  methods := ms
  attributes := attrs
def plain (name : String) (sup : Option ClassId) : Class where
  name := name
  kind := .ordinary
  loader := none
  accessFlags := 33
  super := sup
  interfaces := #[]
  cf := none
  fields := #[]
  methods := #[]
  instanceTypes := #[]
  staticTypes := #[]
  resolved := #[]
  callSites := []
  init := .initialized
  statics := none
  mirror := none

def pool0 : Array CpInfo := pool [(5, u "<init>"), (0, u "()V"), (1, .class_ 10), (1, u "java/lang/Object")] 113

def k0c0 : Code := { maxStack := 0, maxLocals := 1, code := object_method_1_code, exceptionTable := #[], attributes := #[] }
def k0m0 : Method := { name := "<init>", desc := "()V", sig := { parameters := [], returnType := none }, accessFlags := 1, code := some k0c0 }
/-- java/lang/Object -/
def k0 : Class := { plain "java/lang/Object" none with
  accessFlags := 33
  interfaces := #[]
  cf := some (fileOf pool0 8 #[] #[{ accessFlags := 1, nameIndex := 5, descriptorIndex := 6, attributes := #[] }] 33 0 #[] #[])
  fields := #[]
  methods := #[k0m0]
  instanceTypes := #[]
  staticTypes := #[]
  resolved := Array.replicate 124 none
  statics := none }

def pool1 : Array CpInfo := pool [(2, .class_ 4), (1, u "java/lang/Object"), (0, u "<init>"), (0, u "()V"), (0, .methodref 8 9), (0, .class_ 10), (0, .nameAndType 11 12), (0, u "com/example/ventil/ventil/RejectionOfPinLaw"), (0, u "makeHeader"), (0, u "(IICCI)Ljava/lang/String;"), (0, .methodref 8 14), (0, .nameAndType 15 16), (0, u "reference"), (0, u "(ILjava/lang/String;)Lcom/example/ventil/ventil/Rejection;"), (0, .methodref 18 19), (0, .class_ 20), (0, .nameAndType 21 16), (0, u "com/example/ventil/ventil/Rejection"), (0, u "of"), (0, .class_ 23), (0, u "java/lang/String"), (0, .methodref 22 25), (0, .nameAndType 5 26), (0, u "([C)V"), (0, .integer 2147483647), (0, .string 29), (0, u "overloaded"), (0, .methodref 22 31), (0, .nameAndType 32 33), (0, u "equals"), (0, u "(Ljava/lang/Object;)Z"), (0, .fieldref 18 35), (0, .nameAndType 36 37), (0, u "OVERLOADED"), (0, u "Lcom/example/ventil/ventil/Rejection;"), (0, .string 39), (0, u "overloaded-no-retry"), (0, .fieldref 18 41), (0, .nameAndType 42 37), (0, u "OVERLOADED_NO_RETRY"), (2, u "law"), (0, u "(IIIII)Z")] 3

def k1m0 : Method := { name := "<init>", desc := "()V", sig := { parameters := [], returnType := none }, accessFlags := 2, code := none }
def k1c1 : Code := { maxStack := 5, maxLocals := 13, code := code, exceptionTable := #[], attributes := #[] }
def k1m1 : Method := { name := "law", desc := "(IIIII)Z", sig := { parameters := [.int, .int, .int, .int, .int], returnType := some .boolean }, accessFlags := 9, code := some k1c1 }
def k1c2 : Code := { maxStack := 6, maxLocals := 6, code := method_3_code, exceptionTable := #[], attributes := #[] }
def k1m2 : Method := { name := "makeHeader", desc := "(IICCI)Ljava/lang/String;", sig := { parameters := [.int, .int, .char, .char, .int], returnType := some (.object "java/lang/String") }, accessFlags := 10, code := some k1c2 }
def k1c3 : Code := { maxStack := 2, maxLocals := 2, code := method_4_code, exceptionTable := #[], attributes := #[] }
def k1m3 : Method := { name := "reference", desc := "(ILjava/lang/String;)Lcom/example/ventil/ventil/Rejection;", sig := { parameters := [.int, (.object "java/lang/String")], returnType := some (.object "com/example/ventil/ventil/Rejection") }, accessFlags := 10, code := some k1c3 }
/-- com/example/ventil/ventil/RejectionOfPinLaw -/
def k1 : Class := { plain "com/example/ventil/ventil/RejectionOfPinLaw" (some 0) with
  accessFlags := 49
  interfaces := #[]
  cf := some (fileOf pool1 8 #[] #[{ accessFlags := 2, nameIndex := 5, descriptorIndex := 6, attributes := #[] }, { accessFlags := 9, nameIndex := 45, descriptorIndex := 46, attributes := #[] }, { accessFlags := 10, nameIndex := 11, descriptorIndex := 12, attributes := #[] }, { accessFlags := 10, nameIndex := 15, descriptorIndex := 16, attributes := #[] }] 49 2 #[] #[])
  fields := #[]
  methods := #[k1m0, k1m1, k1m2, k1m3]
  instanceTypes := #[]
  staticTypes := #[]
  resolved := Array.replicate 50 none
  statics := none }

def pool2 : Array CpInfo := pool [(1, .class_ 2), (0, u "java/lang/constant/Constable"), (0, .class_ 4), (0, u "java/lang/Object")] 6

/-- java/lang/constant/Constable -/
def k2 : Class := { plain "java/lang/constant/Constable" (some 0) with
  accessFlags := 1537
  interfaces := #[]
  cf := some (fileOf pool2 1 #[] #[] 1537 3 #[] #[])
  fields := #[]
  methods := #[]
  instanceTypes := #[]
  staticTypes := #[]
  resolved := Array.replicate 11 none
  statics := none }

def pool3 : Array CpInfo := pool [(1, .class_ 2), (0, u "java/lang/Comparable"), (0, .class_ 4), (0, u "java/lang/Object")] 7

/-- java/lang/Comparable -/
def k3 : Class := { plain "java/lang/Comparable" (some 0) with
  accessFlags := 1537
  interfaces := #[]
  cf := some (fileOf pool3 1 #[] #[] 1537 3 #[] #[])
  fields := #[]
  methods := #[]
  instanceTypes := #[]
  staticTypes := #[]
  resolved := Array.replicate 12 none
  statics := none }

def pool4 : Array CpInfo := pool [(1, .class_ 2), (0, u "java/io/Serializable"), (0, .class_ 4), (0, u "java/lang/Object")] 2

/-- java/io/Serializable -/
def k4 : Class := { plain "java/io/Serializable" (some 0) with
  accessFlags := 1537
  interfaces := #[]
  cf := some (fileOf pool4 1 #[] #[] 1537 3 #[] #[])
  fields := #[]
  methods := #[]
  instanceTypes := #[]
  staticTypes := #[]
  resolved := Array.replicate 7 none
  statics := none }

def pool5 : Array CpInfo := pool [(2, .class_ 4), (1, u "java/lang/Enum"), (0, u "name"), (0, u "Ljava/lang/String;"), (2, u "ordinal"), (0, u "I"), (1, .class_ 14), (1, u "java/lang/Object"), (4, u "hash"), (86, .class_ 108), (1, u "java/lang/Enum$EnumDesc"), (2, .class_ 112), (0, u "java/lang/constant/Constable"), (0, .class_ 114), (0, u "java/lang/Comparable"), (0, .class_ 116), (0, u "java/io/Serializable")] 87

/-- java/lang/Enum -/
def k5 : Class := { plain "java/lang/Enum" (some 0) with
  accessFlags := 1057
  interfaces := #[2, 3, 4]
  cf := some (fileOf pool5 2 #[.nestMembers #[106]] #[] 1057 12 #[111, 113, 115] #[{ accessFlags := 18, nameIndex := 5, descriptorIndex := 6, attributes := #[] }, { accessFlags := 18, nameIndex := 9, descriptorIndex := 10, attributes := #[] }, { accessFlags := 2, nameIndex := 19, descriptorIndex := 10, attributes := #[] }])
  fields := #[{ name := "name", type := (.object "java/lang/String"), accessFlags := 18, slot := 0, constantValue := 0 }, { name := "ordinal", type := .int, accessFlags := 18, slot := 1, constantValue := 0 }, { name := "hash", type := .int, accessFlags := 2, slot := 2, constantValue := 0 }]
  methods := #[]
  instanceTypes := #[(.object "java/lang/String"), .int, .int]
  staticTypes := #[]
  resolved := Array.replicate 204 none
  statics := none }

def pool6 : Array CpInfo := pool [(1, .class_ 2), (0, u "com/example/ventil/ventil/Rejection"), (2, u "OVERLOADED"), (0, u "Lcom/example/ventil/ventil/Rejection;"), (2, u "OVERLOADED_NO_RETRY"), (2, u "$VALUES"), (0, u "[Lcom/example/ventil/ventil/Rejection;"), (6, .class_ 22), (1, u "java/lang/Enum"), (6, .fieldref 1 30), (0, .nameAndType 31 32), (0, u "headerValue"), (0, u "Ljava/lang/String;"), (0, .fieldref 1 34), (0, .nameAndType 35 36), (0, u "status"), (0, u "I"), (0, .fieldref 1 38), (0, .nameAndType 39 13), (0, u "REASONS"), (0, .methodref 41 42), (0, .class_ 43), (0, .nameAndType 44 45), (0, u "java/lang/String"), (0, u "equals"), (0, u "(Ljava/lang/Object;)Z"), (16, u "HEADER"), (10, u "of"), (0, u "(ILjava/lang/String;)Lcom/example/ventil/ventil/Rejection;")] 6

def k6c0 : Code := { maxStack := 2, maxLocals := 7, code := prog_27_method_6_code, exceptionTable := #[], attributes := #[] }
def k6m0 : Method := { name := "of", desc := "(ILjava/lang/String;)Lcom/example/ventil/ventil/Rejection;", sig := { parameters := [.int, (.object "java/lang/String")], returnType := some (.object "com/example/ventil/ventil/Rejection") }, accessFlags := 8, code := some k6c0 }
/-- com/example/ventil/ventil/Rejection -/
def k6 : Class := { plain "com/example/ventil/ventil/Rejection" (some 5) with
  accessFlags := 16433
  interfaces := #[]
  cf := some (fileOf pool6 1 #[] #[{ accessFlags := 8, nameIndex := 73, descriptorIndex := 74, attributes := #[] }] 16433 20 #[] #[{ accessFlags := 16409, nameIndex := 5, descriptorIndex := 6, attributes := #[] }, { accessFlags := 16409, nameIndex := 9, descriptorIndex := 6, attributes := #[] }, { accessFlags := 25, nameIndex := 62, descriptorIndex := 32, attributes := #[] }, { accessFlags := 26, nameIndex := 39, descriptorIndex := 13, attributes := #[] }, { accessFlags := 18, nameIndex := 31, descriptorIndex := 32, attributes := #[] }, { accessFlags := 18, nameIndex := 35, descriptorIndex := 36, attributes := #[] }, { accessFlags := 4122, nameIndex := 12, descriptorIndex := 13, attributes := #[] }])
  fields := #[{ name := "OVERLOADED", type := (.object "com/example/ventil/ventil/Rejection"), accessFlags := 16409, slot := 0, constantValue := 0 }, { name := "OVERLOADED_NO_RETRY", type := (.object "com/example/ventil/ventil/Rejection"), accessFlags := 16409, slot := 1, constantValue := 0 }, { name := "HEADER", type := (.object "java/lang/String"), accessFlags := 25, slot := 2, constantValue := 0 }, { name := "REASONS", type := (.array (.object "com/example/ventil/ventil/Rejection")), accessFlags := 26, slot := 3, constantValue := 0 }, { name := "headerValue", type := (.object "java/lang/String"), accessFlags := 18, slot := 3, constantValue := 0 }, { name := "status", type := .int, accessFlags := 18, slot := 4, constantValue := 0 }, { name := "$VALUES", type := (.array (.object "com/example/ventil/ventil/Rejection")), accessFlags := 4122, slot := 4, constantValue := 0 }]
  methods := #[k6m0]
  instanceTypes := #[(.object "java/lang/String"), .int, .int, (.object "java/lang/String"), .int]
  staticTypes := #[(.object "com/example/ventil/ventil/Rejection"), (.object "com/example/ventil/ventil/Rejection"), (.object "java/lang/String"), (.array (.object "com/example/ventil/ventil/Rejection")), (.array (.object "com/example/ventil/ventil/Rejection"))]
  resolved := Array.replicate 81 none
  statics := some 0 }

def pool7 : Array CpInfo := pool [(2, .class_ 4), (1, u "java/lang/CharSequence"), (42, .class_ 48), (0, u "java/lang/CharSequence$1CodePointIterator"), (10, .class_ 60), (0, u "java/lang/CharSequence$1CharIterator"), (5, .class_ 67), (0, u "java/lang/Object")] 63

/-- java/lang/CharSequence -/
def k7 : Class := { plain "java/lang/CharSequence" (some 0) with
  accessFlags := 1537
  interfaces := #[]
  cf := some (fileOf pool7 2 #[.nestMembers #[47, 59]] #[] 1537 66 #[] #[])
  fields := #[]
  methods := #[]
  instanceTypes := #[]
  staticTypes := #[]
  resolved := Array.replicate 131 none
  statics := none }

def pool8 : Array CpInfo := pool [(1, .class_ 2), (0, u "java/lang/constant/ConstantDesc"), (0, .class_ 4), (0, u "java/lang/Object")] 32

/-- java/lang/constant/ConstantDesc -/
def k8 : Class := { plain "java/lang/constant/ConstantDesc" (some 0) with
  accessFlags := 1537
  interfaces := #[]
  cf := some (fileOf pool8 1 #[] #[] 1537 3 #[] #[])
  fields := #[]
  methods := #[]
  instanceTypes := #[]
  staticTypes := #[]
  resolved := Array.replicate 37 none
  statics := none }

def pool9 : Array CpInfo := pool [(1, .methodref 2 3), (0, .class_ 4), (0, .nameAndType 5 6), (0, u "java/lang/Object"), (0, u "<init>"), (0, u "()V"), (0, .string 8), (0, u ""), (0, .fieldref 10 11), (0, .class_ 12), (0, .nameAndType 13 14), (0, u "java/lang/String"), (0, u "value"), (0, u "[B"), (0, .fieldref 10 16), (0, .nameAndType 17 18), (0, u "coder"), (0, u "B"), (2, u "hash"), (0, u "I"), (2, u "hashIsZero"), (0, u "Z"), (0, .methodref 10 28), (0, .nameAndType 5 29), (0, u "([CIILjava/lang/Void;)V"), (8, .fieldref 10 39), (0, .nameAndType 40 26), (0, u "COMPACT_STRINGS"), (1, .class_ 44), (1, u "java/lang/StringUTF16"), (0, u "compress"), (1, .methodref 42 48), (0, .nameAndType 49 50), (0, u "coderFromArrayLen"), (0, u "([BI)B"), (56, .class_ 109), (1, u "java/lang/StringLatin1"), (67, .methodref 42 178), (0, .nameAndType 45 179), (0, u "([CII)[B"), (361, .methodref 107 542), (0, .nameAndType 543 544), (0, u "equals"), (0, u "([B[B)Z"), (28, u "(Ljava/lang/Object;)Z"), (1, .class_ 576), (0, u "java/lang/CharSequence"), (22, u "CASE_INSENSITIVE_ORDER"), (0, u "Ljava/util/Comparator;"), (409, u "([C)V"), (90, u "serialPersistentFields"), (0, u "[Ljava/io/ObjectStreamField;"), (0, .class_ 1104), (0, u "java/lang/String$CaseInsensitiveComparator"), (1, .class_ 1107), (0, u "java/io/Serializable"), (0, .class_ 1109), (0, u "java/lang/Comparable"), (0, .class_ 1111), (0, u "java/lang/constant/Constable"), (0, .class_ 1113), (0, u "java/lang/constant/ConstantDesc"), (2, u "serialVersionUID"), (0, u "J"), (3, u "REPL"), (0, u "C"), (2, u "LATIN1"), (1, u "UTF16")] 323

def k9m0 : Method := { name := "<init>", desc := "()V", sig := { parameters := [], returnType := none }, accessFlags := 1, code := none }
def k9c1 : Code := { maxStack := 5, maxLocals := 2, code := jdk_42_method_3_code, exceptionTable := #[], attributes := #[] }
def k9m1 : Method := { name := "<init>", desc := "([C)V", sig := { parameters := [(.array .char)], returnType := none }, accessFlags := 1, code := some k9c1 }
def k9c2 : Code := { maxStack := 2, maxLocals := 3, code := jdk_42_method_66_code, exceptionTable := #[], attributes := #[] }
def k9m2 : Method := { name := "equals", desc := "(Ljava/lang/Object;)Z", sig := { parameters := [(.object "java/lang/Object")], returnType := some .boolean }, accessFlags := 1, code := some k9c2 }
def k9c3 : Code := { maxStack := 4, maxLocals := 6, code := jdk_42_method_149_code, exceptionTable := #[], attributes := #[] }
def k9m3 : Method := { name := "<init>", desc := "([CIILjava/lang/Void;)V", sig := { parameters := [(.array .char), .int, .int, (.object "java/lang/Void")], returnType := none }, accessFlags := 2, code := some k9c3 }
/-- java/lang/String -/
def k9 : Class := { plain "java/lang/String" (some 0) with
  accessFlags := 49
  interfaces := #[4, 3, 7, 2, 8]
  cf := some (fileOf pool9 10 #[.nestMembers #[1103]] #[{ accessFlags := 1, nameIndex := 5, descriptorIndex := 6, attributes := #[] }, { accessFlags := 1, nameIndex := 5, descriptorIndex := 1010, attributes := #[] }, { accessFlags := 1, nameIndex := 543, descriptorIndex := 573, attributes := #[] }, { accessFlags := 2, nameIndex := 5, descriptorIndex := 29, attributes := #[] }] 49 2 #[1106, 1108, 575, 1110, 1112] #[{ accessFlags := 18, nameIndex := 13, descriptorIndex := 14, attributes := #[] }, { accessFlags := 18, nameIndex := 17, descriptorIndex := 18, attributes := #[] }, { accessFlags := 2, nameIndex := 21, descriptorIndex := 22, attributes := #[] }, { accessFlags := 2, nameIndex := 25, descriptorIndex := 26, attributes := #[] }, { accessFlags := 26, nameIndex := 1116, descriptorIndex := 1117, attributes := #[] }, { accessFlags := 24, nameIndex := 40, descriptorIndex := 26, attributes := #[] }, { accessFlags := 26, nameIndex := 1101, descriptorIndex := 1102, attributes := #[] }, { accessFlags := 26, nameIndex := 1121, descriptorIndex := 1122, attributes := #[] }, { accessFlags := 25, nameIndex := 599, descriptorIndex := 600, attributes := #[] }, { accessFlags := 24, nameIndex := 1125, descriptorIndex := 18, attributes := #[] }, { accessFlags := 24, nameIndex := 1127, descriptorIndex := 18, attributes := #[] }])
  fields := #[{ name := "value", type := (.array .byte), accessFlags := 18, slot := 0, constantValue := 0 }, { name := "coder", type := .byte, accessFlags := 18, slot := 1, constantValue := 0 }, { name := "hash", type := .int, accessFlags := 2, slot := 2, constantValue := 0 }, { name := "hashIsZero", type := .boolean, accessFlags := 2, slot := 3, constantValue := 0 }, { name := "serialVersionUID", type := .long, accessFlags := 26, slot := 0, constantValue := 0 }, { name := "COMPACT_STRINGS", type := .boolean, accessFlags := 24, slot := 1, constantValue := 0 }, { name := "serialPersistentFields", type := (.array (.object "java/io/ObjectStreamField")), accessFlags := 26, slot := 2, constantValue := 0 }, { name := "REPL", type := .char, accessFlags := 26, slot := 3, constantValue := 0 }, { name := "CASE_INSENSITIVE_ORDER", type := (.object "java/util/Comparator"), accessFlags := 25, slot := 4, constantValue := 0 }, { name := "LATIN1", type := .byte, accessFlags := 24, slot := 5, constantValue := 0 }, { name := "UTF16", type := .byte, accessFlags := 24, slot := 6, constantValue := 0 }]
  methods := #[k9m0, k9m1, k9m2, k9m3]
  instanceTypes := #[(.array .byte), .byte, .int, .boolean]
  staticTypes := #[.long, .boolean, (.array (.object "java/io/ObjectStreamField")), .char, (.object "java/util/Comparator"), .byte, .byte]
  resolved := Array.replicate 1451 none
  statics := some 1 }

def pool10 : Array CpInfo := pool [(6, .class_ 8), (1, u "java/lang/Object"), (0, u "<init>"), (0, u "()V"), (1, .class_ 14), (1, u "java/lang/StringUTF16"), (31, u "$assertionsDisabled"), (0, u "Z"), (13, u "HI_BYTE_SHIFT"), (0, u "I"), (2, u "LO_BYTE_SHIFT"), (49, .methodref 12 116), (0, .nameAndType 117 118), (0, u "compress"), (0, u "([CI[BII)I"), (3, u "([CII)[B"), (138, u "coderFromArrayLen"), (0, u "([BI)B"), (106, .class_ 371), (1, u "java/lang/StringUTF16$LinesSpliterator"), (58, u "MAX_LENGTH"), (196, .class_ 628), (0, u "java/lang/StringUTF16$CodePointsSpliterator"), (0, .class_ 630), (0, u "java/lang/StringUTF16$CharsSpliterator")] 4

def k10m0 : Method := { name := "<init>", desc := "()V", sig := { parameters := [], returnType := none }, accessFlags := 0, code := none }
def k10c1 : Code := { maxStack := 2, maxLocals := 2, code := jdk_52_method_15_code, exceptionTable := #[], attributes := #[] }
def k10m1 : Method := { name := "coderFromArrayLen", desc := "([BI)B", sig := { parameters := [(.array .byte), .int], returnType := some .byte }, accessFlags := 8, code := some k10c1 }
def k10c2 : Code := { maxStack := 5, maxLocals := 6, code := jdk_52_method_16_code, exceptionTable := #[], attributes := #[] }
def k10m2 : Method := { name := "compress", desc := "([CII)[B", sig := { parameters := [(.array .char), .int, .int], returnType := some (.array .byte) }, accessFlags := 9, code := some k10c2 }
def k10c3 : Code := { maxStack := 3, maxLocals := 7, code := jdk_52_method_21_code, exceptionTable := #[], attributes := #[] }
def k10m3 : Method := { name := "compress", desc := "([CI[BII)I", sig := { parameters := [(.array .char), .int, (.array .byte), .int, .int], returnType := some .int }, accessFlags := 9, code := some k10c3 }
/-- java/lang/StringUTF16 -/
def k10 : Class := { plain "java/lang/StringUTF16" (some 0) with
  accessFlags := 48
  interfaces := #[]
  cf := some (fileOf pool10 12 #[.nestMembers #[627, 629, 369]] #[{ accessFlags := 0, nameIndex := 9, descriptorIndex := 10, attributes := #[] }, { accessFlags := 8, nameIndex := 261, descriptorIndex := 262, attributes := #[] }, { accessFlags := 9, nameIndex := 117, descriptorIndex := 122, attributes := #[] }, { accessFlags := 9, nameIndex := 117, descriptorIndex := 118, attributes := #[] }] 48 6 #[] #[{ accessFlags := 26, nameIndex := 61, descriptorIndex := 62, attributes := #[] }, { accessFlags := 26, nameIndex := 65, descriptorIndex := 62, attributes := #[] }, { accessFlags := 24, nameIndex := 430, descriptorIndex := 62, attributes := #[] }, { accessFlags := 4120, nameIndex := 46, descriptorIndex := 47, attributes := #[] }])
  fields := #[{ name := "HI_BYTE_SHIFT", type := .int, accessFlags := 26, slot := 0, constantValue := 0 }, { name := "LO_BYTE_SHIFT", type := .int, accessFlags := 26, slot := 1, constantValue := 0 }, { name := "MAX_LENGTH", type := .int, accessFlags := 24, slot := 2, constantValue := 0 }, { name := "$assertionsDisabled", type := .boolean, accessFlags := 4120, slot := 3, constantValue := 0 }]
  methods := #[k10m0, k10m1, k10m2, k10m3]
  instanceTypes := #[]
  staticTypes := #[.int, .int, .int, .boolean]
  resolved := Array.replicate 635 none
  statics := none }

def pool11 : Array CpInfo := pool [(4, .class_ 6), (1, u "java/lang/Object"), (0, u "<init>"), (0, u "()V"), (5, .class_ 16), (1, u "java/lang/StringLatin1"), (104, u "$assertionsDisabled"), (0, u "Z"), (98, .class_ 223), (1, u "java/lang/StringLatin1$LinesSpliterator"), (57, u "equals"), (0, u "([B[B)Z"), (107, .class_ 391), (0, u "java/lang/StringLatin1$CharsSpliterator")] 3

def k11m0 : Method := { name := "<init>", desc := "()V", sig := { parameters := [], returnType := none }, accessFlags := 0, code := none }
def k11c1 : Code := { maxStack := 3, maxLocals := 3, code := jdk_43_method_13_code, exceptionTable := #[], attributes := #[] }
def k11m1 : Method := { name := "equals", desc := "([B[B)Z", sig := { parameters := [(.array .byte), (.array .byte)], returnType := some .boolean }, accessFlags := 9, code := some k11c1 }
/-- java/lang/StringLatin1 -/
def k11 : Class := { plain "java/lang/StringLatin1" (some 0) with
  accessFlags := 48
  interfaces := #[]
  cf := some (fileOf pool11 14 #[.nestMembers #[390, 221]] #[{ accessFlags := 0, nameIndex := 7, descriptorIndex := 8, attributes := #[] }, { accessFlags := 9, nameIndex := 281, descriptorIndex := 282, attributes := #[] }] 48 4 #[] #[{ accessFlags := 4120, nameIndex := 121, descriptorIndex := 122, attributes := #[] }])
  fields := #[{ name := "$assertionsDisabled", type := .boolean, accessFlags := 4120, slot := 0, constantValue := 0 }]
  methods := #[k11m0, k11m1]
  instanceTypes := #[]
  staticTypes := #[.boolean]
  resolved := Array.replicate 395 none
  statics := none }

def pool12 : Array CpInfo := pool [(2, .class_ 4), (1, u "java/lang/Object"), (0, u "<init>"), (0, u "()V"), (17, .class_ 26), (1, u "jdk/internal/util/Preconditions"), (28, .class_ 56), (0, u "jdk/internal/util/Preconditions$4"), (57, .class_ 115), (0, u "jdk/internal/util/Preconditions$1"), (7, u "SIOOBE_FORMATTER"), (0, u "Ljava/util/function/BiFunction;"), (0, .class_ 126), (0, u "jdk/internal/util/Preconditions$2"), (3, u "AIOOBE_FORMATTER"), (0, .class_ 132), (0, u "jdk/internal/util/Preconditions$3"), (3, u "IOOBE_FORMATTER")] 57

def k12m0 : Method := { name := "<init>", desc := "()V", sig := { parameters := [], returnType := none }, accessFlags := 1, code := none }
/-- jdk/internal/util/Preconditions -/
def k12 : Class := { plain "jdk/internal/util/Preconditions" (some 0) with
  accessFlags := 33
  interfaces := #[]
  cf := some (fileOf pool12 24 #[.nestMembers #[55, 131, 125, 114]] #[{ accessFlags := 1, nameIndex := 5, descriptorIndex := 6, attributes := #[] }] 33 2 #[] #[{ accessFlags := 25, nameIndex := 123, descriptorIndex := 124, attributes := #[] }, { accessFlags := 25, nameIndex := 130, descriptorIndex := 124, attributes := #[] }, { accessFlags := 25, nameIndex := 136, descriptorIndex := 124, attributes := #[] }])
  fields := #[{ name := "SIOOBE_FORMATTER", type := (.object "java/util/function/BiFunction"), accessFlags := 25, slot := 0, constantValue := 0 }, { name := "AIOOBE_FORMATTER", type := (.object "java/util/function/BiFunction"), accessFlags := 25, slot := 1, constantValue := 0 }, { name := "IOOBE_FORMATTER", type := (.object "java/util/function/BiFunction"), accessFlags := 25, slot := 2, constantValue := 0 }]
  methods := #[k12m0]
  instanceTypes := #[]
  staticTypes := #[(.object "java/util/function/BiFunction"), (.object "java/util/function/BiFunction"), (.object "java/util/function/BiFunction")]
  resolved := Array.replicate 194 none
  statics := some 2 }

def pool13 : Array CpInfo := pool [(9, u "<init>"), (6, .class_ 18), (1, u "java/lang/Object"), (0, u "()V"), (1, .class_ 23), (1, u "jdk/internal/util/ArraysSupport"), (0, u "LOG2_ARRAY_LONG_INDEX_SCALE"), (0, u "I"), (2, u "U"), (0, u "Ljdk/internal/misc/Unsafe;"), (8, u "BIG_ENDIAN"), (0, u "Z"), (8, u "LOG2_BYTE_BIT_SIZE"), (4, u "LOG2_ARRAY_INT_INDEX_SCALE"), (54, u "JLA"), (0, u "Ljdk/internal/access/JavaLangAccess;"), (11, u "LOG2_ARRAY_BOOLEAN_INDEX_SCALE"), (9, u "LOG2_ARRAY_BYTE_INDEX_SCALE"), (5, u "LOG2_ARRAY_CHAR_INDEX_SCALE"), (5, u "LOG2_ARRAY_SHORT_INDEX_SCALE"), (18, u "LOG2_ARRAY_FLOAT_INDEX_SCALE"), (24, u "LOG2_ARRAY_DOUBLE_INDEX_SCALE"), (89, u "T_BOOLEAN"), (2, u "T_CHAR"), (1, u "T_FLOAT"), (1, u "T_DOUBLE"), (1, u "T_BYTE"), (1, u "T_SHORT"), (1, u "T_INT"), (1, u "T_LONG"), (1, u "SOFT_MAX_ARRAY_LENGTH")] 83

def k13m0 : Method := { name := "<init>", desc := "()V", sig := { parameters := [], returnType := none }, accessFlags := 2, code := none }
/-- jdk/internal/util/ArraysSupport -/
def k13 : Class := { plain "jdk/internal/util/ArraysSupport" (some 0) with
  accessFlags := 33
  interfaces := #[]
  cf := some (fileOf pool13 21 #[] #[{ accessFlags := 2, nameIndex := 9, descriptorIndex := 19, attributes := #[] }] 33 16 #[] #[{ accessFlags := 24, nameIndex := 28, descriptorIndex := 29, attributes := #[] }, { accessFlags := 26, nameIndex := 38, descriptorIndex := 39, attributes := #[] }, { accessFlags := 25, nameIndex := 121, descriptorIndex := 25, attributes := #[] }, { accessFlags := 25, nameIndex := 131, descriptorIndex := 25, attributes := #[] }, { accessFlags := 25, nameIndex := 137, descriptorIndex := 25, attributes := #[] }, { accessFlags := 25, nameIndex := 143, descriptorIndex := 25, attributes := #[] }, { accessFlags := 25, nameIndex := 53, descriptorIndex := 25, attributes := #[] }, { accessFlags := 25, nameIndex := 24, descriptorIndex := 25, attributes := #[] }, { accessFlags := 25, nameIndex := 162, descriptorIndex := 25, attributes := #[] }, { accessFlags := 25, nameIndex := 187, descriptorIndex := 25, attributes := #[] }, { accessFlags := 26, nameIndex := 48, descriptorIndex := 25, attributes := #[] }, { accessFlags := 25, nameIndex := 277, descriptorIndex := 25, attributes := #[] }, { accessFlags := 25, nameIndex := 280, descriptorIndex := 25, attributes := #[] }, { accessFlags := 25, nameIndex := 282, descriptorIndex := 25, attributes := #[] }, { accessFlags := 25, nameIndex := 284, descriptorIndex := 25, attributes := #[] }, { accessFlags := 25, nameIndex := 286, descriptorIndex := 25, attributes := #[] }, { accessFlags := 25, nameIndex := 288, descriptorIndex := 25, attributes := #[] }, { accessFlags := 25, nameIndex := 290, descriptorIndex := 25, attributes := #[] }, { accessFlags := 25, nameIndex := 292, descriptorIndex := 25, attributes := #[] }, { accessFlags := 26, nameIndex := 108, descriptorIndex := 109, attributes := #[] }, { accessFlags := 25, nameIndex := 294, descriptorIndex := 25, attributes := #[] }])
  fields := #[{ name := "U", type := (.object "jdk/internal/misc/Unsafe"), accessFlags := 24, slot := 0, constantValue := 0 }, { name := "BIG_ENDIAN", type := .boolean, accessFlags := 26, slot := 1, constantValue := 0 }, { name := "LOG2_ARRAY_BOOLEAN_INDEX_SCALE", type := .int, accessFlags := 25, slot := 2, constantValue := 0 }, { name := "LOG2_ARRAY_BYTE_INDEX_SCALE", type := .int, accessFlags := 25, slot := 3, constantValue := 0 }, { name := "LOG2_ARRAY_CHAR_INDEX_SCALE", type := .int, accessFlags := 25, slot := 4, constantValue := 0 }, { name := "LOG2_ARRAY_SHORT_INDEX_SCALE", type := .int, accessFlags := 25, slot := 5, constantValue := 0 }, { name := "LOG2_ARRAY_INT_INDEX_SCALE", type := .int, accessFlags := 25, slot := 6, constantValue := 0 }, { name := "LOG2_ARRAY_LONG_INDEX_SCALE", type := .int, accessFlags := 25, slot := 7, constantValue := 0 }, { name := "LOG2_ARRAY_FLOAT_INDEX_SCALE", type := .int, accessFlags := 25, slot := 8, constantValue := 0 }, { name := "LOG2_ARRAY_DOUBLE_INDEX_SCALE", type := .int, accessFlags := 25, slot := 9, constantValue := 0 }, { name := "LOG2_BYTE_BIT_SIZE", type := .int, accessFlags := 26, slot := 10, constantValue := 0 }, { name := "T_BOOLEAN", type := .int, accessFlags := 25, slot := 11, constantValue := 0 }, { name := "T_CHAR", type := .int, accessFlags := 25, slot := 12, constantValue := 0 }, { name := "T_FLOAT", type := .int, accessFlags := 25, slot := 13, constantValue := 0 }, { name := "T_DOUBLE", type := .int, accessFlags := 25, slot := 14, constantValue := 0 }, { name := "T_BYTE", type := .int, accessFlags := 25, slot := 15, constantValue := 0 }, { name := "T_SHORT", type := .int, accessFlags := 25, slot := 16, constantValue := 0 }, { name := "T_INT", type := .int, accessFlags := 25, slot := 17, constantValue := 0 }, { name := "T_LONG", type := .int, accessFlags := 25, slot := 18, constantValue := 0 }, { name := "JLA", type := (.object "jdk/internal/access/JavaLangAccess"), accessFlags := 26, slot := 19, constantValue := 0 }, { name := "SOFT_MAX_ARRAY_LENGTH", type := .int, accessFlags := 25, slot := 20, constantValue := 0 }]
  methods := #[k13m0]
  instanceTypes := #[]
  staticTypes := #[(.object "jdk/internal/misc/Unsafe"), .boolean, .int, .int, .int, .int, .int, .int, .int, .int, .int, .int, .int, .int, .int, .int, .int, .int, .int, (.object "jdk/internal/access/JavaLangAccess"), .int]
  resolved := Array.replicate 378 none
  statics := none }

def pool14 : Array CpInfo := pool [(1, u "java/lang/Cloneable"), (0, .class_ 1), (0, u "java/lang/Object"), (0, .class_ 3)] 3

/-- java/lang/Cloneable -/
def k14 : Class := { plain "java/lang/Cloneable" (some 0) with
  accessFlags := 1537
  interfaces := #[]
  cf := some (fileOf pool14 2 #[] #[] 1537 4 #[] #[])
  fields := #[]
  methods := #[]
  instanceTypes := #[]
  staticTypes := #[]
  resolved := Array.replicate 8 none
  statics := none }

/-- the primitive byte -/
def k15 : Class := { plain "byte" none with kind := .primitive 'B', accessFlags := 0x411 }
/-- [B -/
def k16 : Class := { plain "[B" (some 0) with kind := .array 15 .byte, interfaces := #[14, 4], accessFlags := 1041 }

/-- the primitive char -/
def k17 : Class := { plain "char" none with kind := .primitive 'C', accessFlags := 0x411 }
/-- [C -/
def k18 : Class := { plain "[C" (some 0) with kind := .array 17 .char, interfaces := #[14, 4], accessFlags := 1041 }

/-- the primitive int -/
def k19 : Class := { plain "int" none with kind := .primitive 'I', accessFlags := 0x411 }
/-- [I -/
def k20 : Class := { plain "[I" (some 0) with kind := .array 19 .int, interfaces := #[14, 4], accessFlags := 1041 }

/-- [Lcom/example/ventil/ventil/Rejection; -/
def k21 : Class := { plain "[Lcom/example/ventil/ventil/Rejection;" (some 0) with kind := .array 6 (.object "com/example/ventil/ventil/Rejection"), interfaces := #[14, 4], accessFlags := 1041 }

def heap : Heap := #[{ cls := 6, slots := #[.ref 6, .ref 9, .null, .ref 3, .null], vm := .statics 6 },
  { cls := 9, slots := #[.long 0, .int 1, .null, .int 0, .null, .int 0, .int 0], vm := .statics 9 },
  { cls := 12, slots := #[.null, .null, .null], vm := .statics 12 },
  { cls := 21, slots := #[.ref 6, .ref 9], vm := .none },
  { cls := 16, slots := #[.int 111, .int 118, .int 101, .int 114, .int 108, .int 111, .int 97, .int 100, .int 101, .int 100], vm := .none },
  { cls := 9, slots := #[.ref 4, .int 0, .int 0, .int 0], vm := .none },
  { cls := 6, slots := #[.null, .int 0, .int 0, .ref 5, .int 503], vm := .none },
  { cls := 16, slots := #[.int 111, .int 118, .int 101, .int 114, .int 108, .int 111, .int 97, .int 100, .int 101, .int 100, .int 45, .int 110, .int 111, .int 45, .int 114, .int 101, .int 116, .int 114, .int 121], vm := .none },
  { cls := 9, slots := #[.ref 7, .int 0, .int 0, .int 0], vm := .none },
  { cls := 6, slots := #[.null, .int 1, .int 0, .ref 8, .int 503], vm := .none }]
def classes : Array Class := #[k0, k1, k2, k3, k4, k5, k6, k7, k8, k9, k10, k11, k12, k13, k14, k15, k16, k17, k18, k19, k20, k21]
def interned : List (Array UInt16 × Addr) := []
def slotsUsed : Nat := 64
def theMethod : MethodId := ⟨1, 1⟩
def args0 : Array Value := #[.int 9, .int 4, .int 3, .int 2, .int 1]
def aboutOver (below : List Frame) : State where
  vm := { classes := classes, interned := interned.toArray }
  heap := heap
  slotsUsed := slotsUsed
  threads := #[{ frames := .invoking theMethod args0 :: below }]
def below0 : List Frame := [.native { method := ⟨0, 0⟩, args := #[] }]
def about1 : State := aboutOver below0
def p0 : Program := .bare "" "" ""
def e0 : Env := launch0.env 0 0 0
theorem w_frames : about1.frames = Frame.invoking theMethod args0 :: below0 := rfl
set_option maxRecDepth 65536 in
theorem w_args : argsFit about1.vm theMethod args0 = true := by decide +kernel
set_option maxRecDepth 65536 in
theorem w_heap : heapFits about1 = true := by decide +kernel
set_option maxRecDepth 65536 in
theorem w_runnable : about1.curStatus? = some .runnable := by decide +kernel
set_option maxRecDepth 65536 in
theorem w_alone : about1.alone = true := by decide +kernel
set_option maxRecDepth 65536 in
theorem w_named : about1.methodNamed? x = some theMethod := by decide +kernel
set_option maxRecDepth 65536 in
theorem w_hears : about1.hears theMethod below0 = true := by decide +kernel
set_option maxRecDepth 65536 in
theorem w_ripe : about1.ripe theMethod args0 below0 = true := by decide +kernel
theorem w_running : about1.status = .running := rfl
set_option maxRecDepth 65536 in
theorem w_room : about1.hasRoom e0.platform room_1 = true :=
  launch0.hasRoom_least _ room_1 (by decide +kernel) (by decide +kernel) (by decide +kernel) (by decide +kernel) (by decide +kernel) (by decide +kernel)
theorem allAtoms_all (ts : List Jvm.Cond) (a : Array Jvm.Value) (st : Jvm.State) : (allAtoms ts).before a st = ts.all (fun c => c.before a st) := by
  induction ts with
  | nil => rfl
  | cons c t ih =>
    show (Jvm.Cond.and c (allAtoms t)).before a st = _
    rw [Jvm.Cond.before_and, ih, List.all_cons]
def words1 : List Jvm.Cond := Jvm.Cond.code x code maxLocals ret :: tables_1
/-- a 'code' word, met by the world's own term for the bytes: nothing is compared byte by byte -/
theorem code_word {y : MethodName} {bytes : ByteArray} {mx : Nat} {rt : Option FieldType} {a : Array Value} {s : State} {m : MethodId} {meth : Method} {c : Code} (h1 : s.methodNamed? y = some m) (h2 : s.vm.method? m = some meth) (h3 : meth.code = some c) (h4 : c.code = bytes)
    (h5 : (c.maxLocals == mx && c.exceptionTable.isEmpty && decide (c.maxStack ≤ mostOperands) && decide (meth.sig.returnType = rt) && !meth.locks && decide (parseMethodDescriptor y.desc = some meth.sig)) = true) : (Jvm.Cond.code y bytes mx rt).before a s = true := by
  simp only [Bool.and_eq_true, beq_iff_eq, Bool.not_eq_true', decide_eq_true_eq] at h5
  obtain ⟨⟨⟨⟨⟨g1, g2⟩, g3⟩, g4⟩, g5⟩, g6⟩ := h5
  simp [Cond.before, Cond.holds, Cond.value, h1, h2, h3, h4, g1, g2, g3, g4, g5, g6]
def isCode : Jvm.Cond → Bool
  | .code _ _ _ _ => true
  | _ => false
theorem all_split {L : List Jvm.Cond} {P : Jvm.Cond → Bool} (h1 : L.all (fun c => isCode c || P c) = true) (h2 : ∀ c ∈ L.filter isCode, P c = true) : L.all P = true := by
  refine List.all_eq_true.mpr fun c hc => ?_
  have h := List.all_eq_true.mp h1 c hc
  rcases Bool.eq_false_or_eq_true (isCode c) with hi | hi
  · exact h2 c (List.mem_filter.mpr ⟨hc, hi⟩)
  · simpa [hi] using h
set_option maxRecDepth 65536 in
theorem w_c0 : (Jvm.Cond.code x code maxLocals ret).before args0 about1 = true := code_word (m := ⟨1, 1⟩) (meth := k1m1) (c := k1c1) (by decide +kernel) rfl rfl rfl (by decide +kernel)
set_option maxRecDepth 65536 in
theorem w_c1 : (Jvm.Cond.code ({ cls := "com/example/ventil/ventil/RejectionOfPinLaw", name := "makeHeader", desc := "(IICCI)Ljava/lang/String;" } : Jvm.MethodName) method_3_code (6 : Nat) (Option.some (Jvm.ClassFile.FieldType.object "java/lang/String"))).before args0 about1 = true := code_word (m := ⟨1, 2⟩) (meth := k1m2) (c := k1c2) (by decide +kernel) rfl rfl rfl (by decide +kernel)
set_option maxRecDepth 65536 in
theorem w_c2 : (Jvm.Cond.code ({ cls := "com/example/ventil/ventil/RejectionOfPinLaw", name := "reference", desc := "(ILjava/lang/String;)Lcom/example/ventil/ventil/Rejection;" } : Jvm.MethodName) method_4_code (2 : Nat) (Option.some (Jvm.ClassFile.FieldType.object "com/example/ventil/ventil/Rejection"))).before args0 about1 = true := code_word (m := ⟨1, 3⟩) (meth := k1m3) (c := k1c3) (by decide +kernel) rfl rfl rfl (by decide +kernel)
set_option maxRecDepth 65536 in
theorem w_c3 : (Jvm.Cond.code ({ cls := "com/example/ventil/ventil/Rejection", name := "of", desc := "(ILjava/lang/String;)Lcom/example/ventil/ventil/Rejection;" } : Jvm.MethodName) prog_27_method_6_code (7 : Nat) (Option.some (Jvm.ClassFile.FieldType.object "com/example/ventil/ventil/Rejection"))).before args0 about1 = true := code_word (m := ⟨6, 0⟩) (meth := k6m0) (c := k6c0) (by decide +kernel) rfl rfl rfl (by decide +kernel)
set_option maxRecDepth 65536 in
theorem w_c4 : (Jvm.Cond.code ({ cls := "java/lang/String", name := "<init>", desc := "([C)V" } : Jvm.MethodName) jdk_42_method_3_code (2 : Nat) (Option.none : Option Jvm.ClassFile.FieldType)).before args0 about1 = true := code_word (m := ⟨9, 1⟩) (meth := k9m1) (c := k9c1) (by decide +kernel) rfl rfl rfl (by decide +kernel)
set_option maxRecDepth 65536 in
theorem w_c5 : (Jvm.Cond.code ({ cls := "java/lang/String", name := "<init>", desc := "([CIILjava/lang/Void;)V" } : Jvm.MethodName) jdk_42_method_149_code (6 : Nat) (Option.none : Option Jvm.ClassFile.FieldType)).before args0 about1 = true := code_word (m := ⟨9, 3⟩) (meth := k9m3) (c := k9c3) (by decide +kernel) rfl rfl rfl (by decide +kernel)
set_option maxRecDepth 65536 in
theorem w_c6 : (Jvm.Cond.code ({ cls := "java/lang/Object", name := "<init>", desc := "()V" } : Jvm.MethodName) object_method_1_code (1 : Nat) (Option.none : Option Jvm.ClassFile.FieldType)).before args0 about1 = true := code_word (m := ⟨0, 0⟩) (meth := k0m0) (c := k0c0) (by decide +kernel) rfl rfl rfl (by decide +kernel)
set_option maxRecDepth 65536 in
theorem w_c7 : (Jvm.Cond.code ({ cls := "java/lang/StringUTF16", name := "compress", desc := "([CII)[B" } : Jvm.MethodName) jdk_52_method_16_code (6 : Nat) (Option.some (Jvm.ClassFile.FieldType.array Jvm.ClassFile.FieldType.byte))).before args0 about1 = true := code_word (m := ⟨10, 2⟩) (meth := k10m2) (c := k10c2) (by decide +kernel) rfl rfl rfl (by decide +kernel)
set_option maxRecDepth 65536 in
theorem w_c8 : (Jvm.Cond.code ({ cls := "java/lang/StringUTF16", name := "compress", desc := "([CI[BII)I" } : Jvm.MethodName) jdk_52_method_21_code (7 : Nat) (Option.some Jvm.ClassFile.FieldType.int)).before args0 about1 = true := code_word (m := ⟨10, 3⟩) (meth := k10m3) (c := k10c3) (by decide +kernel) rfl rfl rfl (by decide +kernel)
set_option maxRecDepth 65536 in
theorem w_c9 : (Jvm.Cond.code ({ cls := "java/lang/StringUTF16", name := "coderFromArrayLen", desc := "([BI)B" } : Jvm.MethodName) jdk_52_method_15_code (2 : Nat) (Option.some Jvm.ClassFile.FieldType.byte)).before args0 about1 = true := code_word (m := ⟨10, 1⟩) (meth := k10m1) (c := k10c1) (by decide +kernel) rfl rfl rfl (by decide +kernel)
set_option maxRecDepth 65536 in
theorem w_c10 : (Jvm.Cond.code ({ cls := "java/lang/String", name := "equals", desc := "(Ljava/lang/Object;)Z" } : Jvm.MethodName) jdk_42_method_66_code (3 : Nat) (Option.some Jvm.ClassFile.FieldType.boolean)).before args0 about1 = true := code_word (m := ⟨9, 2⟩) (meth := k9m2) (c := k9c2) (by decide +kernel) rfl rfl rfl (by decide +kernel)
set_option maxRecDepth 65536 in
theorem w_c11 : (Jvm.Cond.code ({ cls := "java/lang/StringLatin1", name := "equals", desc := "([B[B)Z" } : Jvm.MethodName) jdk_43_method_13_code (3 : Nat) (Option.some Jvm.ClassFile.FieldType.boolean)).before args0 about1 = true := code_word (m := ⟨11, 1⟩) (meth := k11m1) (c := k11c1) (by decide +kernel) rfl rfl rfl (by decide +kernel)
def codes1 : List Jvm.Cond := [Jvm.Cond.code x code maxLocals ret, Jvm.Cond.code ({ cls := "com/example/ventil/ventil/RejectionOfPinLaw", name := "makeHeader", desc := "(IICCI)Ljava/lang/String;" } : Jvm.MethodName) method_3_code (6 : Nat) (Option.some (Jvm.ClassFile.FieldType.object "java/lang/String")), Jvm.Cond.code ({ cls := "com/example/ventil/ventil/RejectionOfPinLaw", name := "reference", desc := "(ILjava/lang/String;)Lcom/example/ventil/ventil/Rejection;" } : Jvm.MethodName) method_4_code (2 : Nat) (Option.some (Jvm.ClassFile.FieldType.object "com/example/ventil/ventil/Rejection")), Jvm.Cond.code ({ cls := "com/example/ventil/ventil/Rejection", name := "of", desc := "(ILjava/lang/String;)Lcom/example/ventil/ventil/Rejection;" } : Jvm.MethodName) prog_27_method_6_code (7 : Nat) (Option.some (Jvm.ClassFile.FieldType.object "com/example/ventil/ventil/Rejection")), Jvm.Cond.code ({ cls := "java/lang/String", name := "<init>", desc := "([C)V" } : Jvm.MethodName) jdk_42_method_3_code (2 : Nat) (Option.none : Option Jvm.ClassFile.FieldType), Jvm.Cond.code ({ cls := "java/lang/String", name := "<init>", desc := "([CIILjava/lang/Void;)V" } : Jvm.MethodName) jdk_42_method_149_code (6 : Nat) (Option.none : Option Jvm.ClassFile.FieldType), Jvm.Cond.code ({ cls := "java/lang/Object", name := "<init>", desc := "()V" } : Jvm.MethodName) object_method_1_code (1 : Nat) (Option.none : Option Jvm.ClassFile.FieldType), Jvm.Cond.code ({ cls := "java/lang/StringUTF16", name := "compress", desc := "([CII)[B" } : Jvm.MethodName) jdk_52_method_16_code (6 : Nat) (Option.some (Jvm.ClassFile.FieldType.array Jvm.ClassFile.FieldType.byte)), Jvm.Cond.code ({ cls := "java/lang/StringUTF16", name := "compress", desc := "([CI[BII)I" } : Jvm.MethodName) jdk_52_method_21_code (7 : Nat) (Option.some Jvm.ClassFile.FieldType.int), Jvm.Cond.code ({ cls := "java/lang/StringUTF16", name := "coderFromArrayLen", desc := "([BI)B" } : Jvm.MethodName) jdk_52_method_15_code (2 : Nat) (Option.some Jvm.ClassFile.FieldType.byte), Jvm.Cond.code ({ cls := "java/lang/String", name := "equals", desc := "(Ljava/lang/Object;)Z" } : Jvm.MethodName) jdk_42_method_66_code (3 : Nat) (Option.some Jvm.ClassFile.FieldType.boolean), Jvm.Cond.code ({ cls := "java/lang/StringLatin1", name := "equals", desc := "([B[B)Z" } : Jvm.MethodName) jdk_43_method_13_code (3 : Nat) (Option.some Jvm.ClassFile.FieldType.boolean)]
set_option maxRecDepth 65536 in
theorem codes_eq : words1.filter isCode = codes1 := rfl
theorem w_codes : ∀ c ∈ words1.filter isCode, c.before args0 about1 = true := by
  rw [codes_eq]
  intro c hc
  simp only [codes1, List.mem_cons, List.not_mem_nil, or_false] at hc
  rcases hc with rfl | rfl | rfl | rfl | rfl | rfl | rfl | rfl | rfl | rfl | rfl | rfl
  · exact w_c0
  · exact w_c1
  · exact w_c2
  · exact w_c3
  · exact w_c4
  · exact w_c5
  · exact w_c6
  · exact w_c7
  · exact w_c8
  · exact w_c9
  · exact w_c10
  · exact w_c11
set_option maxRecDepth 65536 in
theorem w_t1 : (words1.take 24).all (fun c => isCode c || c.before args0 about1) = true := by decide +kernel
set_option maxRecDepth 65536 in
theorem w_t2 : ((words1.drop 24).take 24).all (fun c => isCode c || c.before args0 about1) = true := by decide +kernel
set_option maxRecDepth 65536 in
theorem w_t3 : ((words1.drop 24).drop 24).all (fun c => isCode c || c.before args0 about1) = true := by decide +kernel
theorem w_tables : (allAtoms (Jvm.Cond.code x code maxLocals ret :: tables_1)).before args0 about1 = true := by
  rw [allAtoms_all]
  show words1.all (fun c => c.before args0 about1) = true
  refine all_split ?_ w_codes
  rw [← List.take_append_drop 24 words1, List.all_append, w_t1, ← List.take_append_drop 24 (words1.drop 24), List.all_append, w_t2, w_t3]
  rfl
set_option maxRecDepth 65536 in
theorem w_rest : rest_1_c.before args0 about1 = true := by decide +kernel
set_option maxRecDepth 65536 in
theorem w_case : (Jvm.Cond.and given_1 narrow_1).before args0 about1 = true := by decide +kernel
set_option maxRecDepth 65536 in
theorem w_consts : constsHeld consts_1 about1 := Jvm.Lit.constsHeldB_iff.mp (by decide +kernel)
theorem w_applies : (headSpec (Jvm.Cond.code x code maxLocals ret :: tables_1) room_1).applies x e0.platform about1 = true :=
  (Spec.applies_iff w_frames).mpr ⟨w_running, w_runnable, w_alone, w_named, w_hears, w_ripe, w_room, w_tables⟩
theorem atStart : AtStart classFile x code maxLocals ret World_1 tables_1 room_1 Calls_1 rest_1 Pre_1 launch0 p0 e0 about1 theMethod args0 below0 :=
  ⟨lists_1, trivial, launch0.admits_env _ _ _, launch0.least_env, fairChoices_fair.cas, fairChoices_fair.clock, w_frames, w_args, w_heap, w_applies, ⟨w_consts, trivial⟩, w_rest, w_case⟩
end start1
theorem witness_1 : WitnessClaimed_1 := ⟨start1.p0, start1.e0, start1.about1, start1.theMethod, start1.args0, start1.below0, start1.atStart⟩
end Jvm.Pilot.@@N@@
