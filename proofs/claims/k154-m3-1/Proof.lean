import JvmDerived
import JvmDerived.Pilot.@@N@@Statement
import JvmDerived.Pilot.@@N@@Code
set_option linter.unusedVariables false
set_option linter.unusedSimpArgs false
set_option maxRecDepth 65536
set_option maxHeartbeats 20000000
/- laws to paste: Road.backV (cut by pick.py; bodies as the Statement names them) -/
namespace Jvm.Pilot.@@N@@
namespace StrChars
open Jvm Sem ClassFile Op Lib Jvm.Stand Jvm.Free.XT Jvm.Free.ALB Jvm.Free.JM Jvm.Free
open Jvm.Lib.Cold (StaticIs)
/-- a char array whose places are chars -/
def Ch (a : Addr) (A : Cell) (U : State) : Prop := Arr .char a A U ∧ Typed .char A
theorem Ch.mv {a : Addr} {A : Cell} {U U' : State} (h : Ch a A U) (hal : U.vm.Alike U'.vm) (hh : U'.heap = U.heap) : Ch a A U' := ⟨h.1.mv hal hh, h.2⟩
theorem Ch.keep {a : Addr} {A : Cell} {U U' : State} (h : Ch a A U) (hal : U.vm.Alike U'.vm) (hk : U'.heap[a]? = some A) : Ch a A U' := ⟨h.1.keep hal hk, h.2⟩
/-- what place i of a char[]'s cell holds -/
def cv (A : Cell) (i : Nat) : Int32 := match A.slots[i]? with | some (.int x) => x | _ => 0
theorem Ch.get {a : Addr} {A : Cell} {U : State} (h : Ch a A U) {i : Nat} (hi : i < A.slots.size) : A.slots[i]? = some (.int (cv A i)) := by
  have e := Array.getElem?_eq_getElem hi
  have f := h.2 i _ e
  unfold cv; rw [e]
  generalize A.slots[i] = v at f
  cases v <;> simp [fits] at f ⊢
/-- the byte that i2b leaves of a char -/
def lo8 (x : Int32) : Int32 := x.toInt8.toInt32
theorem fits_lo8 (y : Int32) : fits .byte (.int (lo8 y)) = true := by
  have h1 := y.toInt8.le_toInt
  have h2 := y.toInt8.toInt_lt
  simp only [lo8, fits, Bool.and_eq_true, decide_eq_true_eq, Int32.le_iff_toInt_le, Int8.toInt_toInt32, show (-128 : Int32).toInt = -128 from by decide, show (127 : Int32).toInt = 127 from by decide]
  omega
/-- A' is A but that each place j of lo .. hi - 1 holds f j -/
def Laid (A A' : Cell) (lo hi : Nat) (f : Nat → Value) : Prop := A'.cls = A.cls ∧ A'.vm = A.vm ∧ A'.slots.size = A.slots.size ∧ ∀ i, A'.slots[i]? = if lo ≤ i ∧ i < hi then some (f i) else A.slots[i]?
theorem Laid.zero (A : Cell) (lo : Nat) (f : Nat → Value) : Laid A A lo (lo + 0) f := ⟨rfl, rfl, rfl, fun i => by rw [if_neg (by omega)]⟩
theorem Laid.step {A Ak : Cell} {lo k : Nat} {f : Nat → Value} {v : Value} (h : Laid A Ak lo k f) (hlo : lo ≤ k) (hk : k < Ak.slots.size) (hv : v = f k) : Laid A (Ak.setSlot k v) lo (k + 1) f := by
  refine ⟨h.1, h.2.1, by simpa [Cell.setSlot] using h.2.2.1, fun i => ?_⟩
  by_cases e : k = i
  · subst e; rw [Cell.slots_setSlot_self v hk, if_pos (by omega), hv]
  · rw [Cell.slots_setSlot_ne v e, h.2.2.2 i]
    by_cases q : lo ≤ i ∧ i < k
    · rw [if_pos q, if_pos (by omega)]
    · rw [if_neg q, if_neg (by omega)]
def U16 : String := "java/lang/StringUTF16"
namespace Cmp5
def yN : MethodName := ⟨"java/lang/StringUTF16", "compress", "([CI[BII)I"⟩
abbrev yB : ByteArray := jdk_52_method_21_code
theorem d0 : decode yB 0 = .ok (.iconst 0, 1) := by decide +kernel
theorem d1 : decode yB 1 = .ok (.istore 5, 2) := by decide +kernel
theorem d3 : decode yB 3 = .ok (.iload 5, 2) := by decide +kernel
theorem d5 : decode yB 5 = .ok (.iload 4, 2) := by decide +kernel
theorem d7 : decode yB 7 = .ok (.if_icmp (.ge) 37, 3) := by decide +kernel
theorem d10 : decode yB 10 = .ok (.aload_n 0, 1) := by decide +kernel
theorem d11 : decode yB 11 = .ok (.iload_n 1, 1) := by decide +kernel
theorem d12 : decode yB 12 = .ok (.caload, 1) := by decide +kernel
theorem d13 : decode yB 13 = .ok (.istore 6, 2) := by decide +kernel
theorem d15 : decode yB 15 = .ok (.iload 6, 2) := by decide +kernel
theorem d17 : decode yB 17 = .ok (.sipush 255, 3) := by decide +kernel
theorem d20 : decode yB 20 = .ok (.if_icmp (.le) 6, 3) := by decide +kernel
theorem d26 : decode yB 26 = .ok (.aload_n 2, 1) := by decide +kernel
theorem d27 : decode yB 27 = .ok (.iload_n 3, 1) := by decide +kernel
theorem d28 : decode yB 28 = .ok (.iload 6, 2) := by decide +kernel
theorem d30 : decode yB 30 = .ok (.i2b, 1) := by decide +kernel
theorem d31 : decode yB 31 = .ok (.bastore, 1) := by decide +kernel
theorem d32 : decode yB 32 = .ok (.iinc 1 1, 3) := by decide +kernel
theorem d35 : decode yB 35 = .ok (.iinc 3 1, 3) := by decide +kernel
theorem d38 : decode yB 38 = .ok (.iinc 5 1, 3) := by decide +kernel
theorem d41 : decode yB 41 = .ok (.goto (-38), 3) := by decide +kernel
theorem d44 : decode yB 44 = .ok (.iload 4, 2) := by decide +kernel
theorem d46 : decode yB 46 = .ok (.ireturn, 1) := by decide +kernel
def site : List Cond := []
def tab : Cond := tabOf yN yB 7 (some .int) site
def P (b : Addr) (A : Cell) (d : Addr) (B : Cell) (o q len : Nat) (args : Array Value) (s : State) : Prop := args = #[.ref b, .int (Int32.ofNat o), .ref d, .int (Int32.ofNat q), .int (Int32.ofNat len)] ∧ Ch b A s ∧ Arr .byte d B s ∧ b ≠ d ∧ o + len ≤ A.slots.size ∧ q + len ≤ B.slots.size ∧ ∀ i, i < len → ¬ 255 < cv A (o + i)
def E (b : Addr) (A : Cell) (d : Addr) (B : Cell) (o q len : Nat) (r : Option Value) (s u : State) : Prop := r = some (.int (Int32.ofNat len)) ∧ ∃ B', Put d B' s u ∧ Laid B B' q (q + len) (fun j => Value.int (lo8 (cv A (o + (j - q)))))
/-- no char of the range above 255: len; the places written hold each char's low byte -/
theorem law (l : Launch) (b : Addr) (A : Cell) (d : Addr) (B : Cell) (o q len : Nat) : Law l yN 5 5 0 0 yB 7 (some .int) site (P b A d B o q len) (E b A d B o q len) (copyLocs d q len) 0 0 := by
  refine Law.of_walk (plainFor_of_name (by decide +kernel)) (by decide +kernel) (by decide +kernel) (by decide) (fun _ _ h => by rw [h.1]; rfl) (fun _ U U' hal hh h => ⟨h.1, h.2.1.mv hal hh, h.2.2.1.mv hal hh, h.2.2.2⟩) (fun r U U' V V' h1 hal h2 h => ⟨h.1, h.2.elim fun B' q => ⟨B', q.1.mv h1 h2, q.2⟩⟩) ?_
  intro p e s m args below meth c s₁ X0 hexec hbytes hml hret hlk hnm hown hh0 W hP
  obtain ⟨rfl, hA, hB, hne, l1, l2, hp⟩ := hP
  have c1 : Steps p.tables e below (s₁.setTop (entryFrame m #[.ref b, .int (Int32.ofNat o), .ref d, .int (Int32.ofNat q), .int (Int32.ofNat len)] 7)) (s₁.setTop (mkF m 0 #[.val (.ref b), .val (.int (Int32.ofNat o)), .val (.ref d), .val (.int (Int32.ofNat q)), .val (.int (Int32.ofNat len)), .unset, .unset] [])) := entry rfl
  have hA0 := hA.1.mv X0.warmed.alike hh0
  have hB0 := hB.mv X0.warmed.alike hh0
  have a31 := hA.1.2.2.2
  have c2 : Steps p.tables e below (s₁.setTop (entryFrame m #[.ref b, .int (Int32.ofNat o), .ref d, .int (Int32.ofNat q), .int (Int32.ofNat len)] 7)) (s₁.setTop (mkF m 3 #[.val (.ref b), .val (.int (Int32.ofNat o)), .val (.ref d), .val (.int (Int32.ofNat q)), .val (.int (Int32.ofNat len)), .val (.int 0), .unset] [])) := c1.trans (by
    refine iconstV X0.here hexec rfl 0 (hb hbytes d0) (by decide) ?_
    refine XS.istore X0.here hexec rfl (hb hbytes d1) rfl rfl ?_
    exact Steps.refl _)
  have loop : ∀ (r i : Nat), i + r = len → ∀ (z : Slot), (z = .unset ∨ ∃ w, z = .val w ∧ w.category = 1) → ∀ (Tl : State) (Bk : Cell), Stand p l e { frames := 0, locals := 0, cells := 0, slots := 0 } s m #[.ref b, .int (Int32.ofNat o), .ref d, .int (Int32.ofNat q), .int (Int32.ofNat len)] below meth c Tl ([] ++ copyLocs d q i) 0 0 → Put d Bk s₁ Tl → Laid B Bk q (q + i) (fun j => Value.int (lo8 (cv A (o + (j - q))))) →
      Steps p.tables e below (s₁.setTop (entryFrame m #[.ref b, .int (Int32.ofNat o), .ref d, .int (Int32.ofNat q), .int (Int32.ofNat len)] 7)) (Tl.setTop (mkF m 3 #[.val (.ref b), .val (.int (Int32.ofNat (o + i))), .val (.ref d), .val (.int (Int32.ofNat (q + i))), .val (.int (Int32.ofNat len)), .val (.int (Int32.ofNat i)), z] [])) → ∃ (T' : State) (B' : Cell) (z' : Slot), Stand p l e { frames := 0, locals := 0, cells := 0, slots := 0 } s m #[.ref b, .int (Int32.ofNat o), .ref d, .int (Int32.ofNat q), .int (Int32.ofNat len)] below meth c T' ([] ++ copyLocs d q len) 0 0 ∧ Put d B' s₁ T' ∧ Laid B B' q (q + len) (fun j => Value.int (lo8 (cv A (o + (j - q))))) ∧
      Steps p.tables e below (s₁.setTop (entryFrame m #[.ref b, .int (Int32.ofNat o), .ref d, .int (Int32.ofNat q), .int (Int32.ofNat len)] 7)) (T'.setTop (mkF m 3 #[.val (.ref b), .val (.int (Int32.ofNat (o + len))), .val (.ref d), .val (.int (Int32.ofNat (q + len))), .val (.int (Int32.ofNat len)), .val (.int (Int32.ofNat len)), z'] [])) := by
    intro r
    induction r with
    | zero =>
      intro i hi z hz Tl Bk Xl pl fl cl
      have hil : i = len := by omega
      rw [hil] at Xl fl cl
      exact ⟨Tl, Bk, z, Xl, pl, fl, cl⟩
    | succ r ih =>
      intro i hi z hz Tl Bk Xl pl fl cl
      have all := X0.warmed.alike.symm.trans Xl.warmed.alike
      have hAl := hA0.keep all (pl.other hne hA0.1)
      have hBk := hB0.like all pl.1 fl.1 fl.2.1 fl.2.2.1
      have hlt : q + i < Bk.slots.size := by rw [fl.2.2.1]; omega
      have c3 : Steps p.tables e below (s₁.setTop (entryFrame m #[.ref b, .int (Int32.ofNat o), .ref d, .int (Int32.ofNat q), .int (Int32.ofNat len)] 7)) (Tl.setTop (mkF m 12 #[.val (.ref b), .val (.int (Int32.ofNat (o + i))), .val (.ref d), .val (.int (Int32.ofNat (q + i))), .val (.int (Int32.ofNat len)), .val (.int (Int32.ofNat i)), z] [.int (Int32.ofNat (o + i)), .ref b])) := cl.trans (by
        refine XS.iload Xl.here hexec rfl (hb hbytes d3) rfl ?_
        refine XS.iload Xl.here hexec rfl (hb hbytes d5) rfl ?_
        refine XS.icmpNo Xl.here hexec rfl (hb hbytes d7) rfl (ii_ge_f (lt32 (by omega) (by omega))) ?_
        refine XS.aloadN Xl.here hexec rfl (hb hbytes d10) rfl rfl ?_
        refine XS.iloadN Xl.here hexec rfl (hb hbytes d11) rfl ?_
        exact Steps.refl _)
      have c4 : Steps p.tables e below (s₁.setTop (entryFrame m #[.ref b, .int (Int32.ofNat o), .ref d, .int (Int32.ofNat q), .int (Int32.ofNat len)] 7)) (Tl.setTop (mkF m 13 #[.val (.ref b), .val (.int (Int32.ofNat (o + i))), .val (.ref d), .val (.int (Int32.ofNat (q + i))), .val (.int (Int32.ofNat len)), .val (.int (Int32.ofNat i)), z] [.int (cv A (o + i))])) := c3.trans (by
        refine Xl.aget hexec hAl rfl (hA.get (i := o + i) (by omega)) rfl rfl (hb hbytes d12) ?_
        exact Steps.refl _)
      have c5 : Steps p.tables e below (s₁.setTop (entryFrame m #[.ref b, .int (Int32.ofNat o), .ref d, .int (Int32.ofNat q), .int (Int32.ofNat len)] 7)) (Tl.setTop (mkF m 15 #[.val (.ref b), .val (.int (Int32.ofNat (o + i))), .val (.ref d), .val (.int (Int32.ofNat (q + i))), .val (.int (Int32.ofNat len)), .val (.int (Int32.ofNat i)), .val (.int (cv A (o + i)))] [])) := c4.trans (by
        refine XS.istoreS Xl.here hexec rfl (hb hbytes d13) rfl rfl hz ?_
        exact Steps.refl _)
      have c6 : Steps p.tables e below (s₁.setTop (entryFrame m #[.ref b, .int (Int32.ofNat o), .ref d, .int (Int32.ofNat q), .int (Int32.ofNat len)] 7)) (Tl.setTop (mkF m 31 #[.val (.ref b), .val (.int (Int32.ofNat (o + i))), .val (.ref d), .val (.int (Int32.ofNat (q + i))), .val (.int (Int32.ofNat len)), .val (.int (Int32.ofNat i)), .val (.int (cv A (o + i)))] [.int (lo8 (cv A (o + i))), .int (Int32.ofNat (q + i)), .ref d])) := c5.trans (by
        refine XS.iload Xl.here hexec rfl (hb hbytes d15) rfl ?_
        refine sipushV Xl.here hexec rfl 255 (hb hbytes d17) (by decide) ?_
        refine XS.icmpYes Xl.here hexec rfl (pc0 := 20) rfl (hb hbytes d20) rfl (ii_le_t (hp i (by omega))) (by decide) rfl ?_
        refine XS.aloadN Xl.here hexec rfl (hb hbytes d26) rfl rfl ?_
        refine XS.iloadN Xl.here hexec rfl (hb hbytes d27) rfl ?_
        refine XS.iload Xl.here hexec rfl (hb hbytes d28) rfl ?_
        refine i2b Xl.here hexec rfl (hb hbytes d30) rfl ?_
        exact Steps.refl _)
      obtain ⟨T7, X7, p7, st7⟩ := Xl.aput hexec hBk rfl hlt rfl (fits_lo8 (cv A (o + i))) (g := (mkF m 31 #[.val (.ref b), .val (.int (Int32.ofNat (o + i))), .val (.ref d), .val (.int (Int32.ofNat (q + i))), .val (.int (Int32.ofNat len)), .val (.int (Int32.ofNat i)), .val (.int (cv A (o + i)))] [.int (lo8 (cv A (o + i))), .int (Int32.ofNat (q + i)), .ref d])) rfl (rest := []) rfl (hb hbytes d31)
      have c8 : Steps p.tables e below (s₁.setTop (entryFrame m #[.ref b, .int (Int32.ofNat o), .ref d, .int (Int32.ofNat q), .int (Int32.ofNat len)] 7)) (T7.setTop (mkF m 32 #[.val (.ref b), .val (.int (Int32.ofNat (o + i))), .val (.ref d), .val (.int (Int32.ofNat (q + i))), .val (.int (Int32.ofNat len)), .val (.int (Int32.ofNat i)), .val (.int (cv A (o + i)))] [])) := c6.trans (st7 _ (Steps.refl _))
      have c9 : Steps p.tables e below (s₁.setTop (entryFrame m #[.ref b, .int (Int32.ofNat o), .ref d, .int (Int32.ofNat q), .int (Int32.ofNat len)] 7)) (T7.setTop (mkF m 3 #[.val (.ref b), .val (.int (Int32.ofNat (o + i) + 1)), .val (.ref d), .val (.int (Int32.ofNat (q + i) + 1)), .val (.int (Int32.ofNat len)), .val (.int (Int32.ofNat i + 1)), .val (.int (cv A (o + i)))] [])) := c8.trans (by
        refine iincV X7.here hexec rfl 1 (hb hbytes d32) (by decide) rfl rfl ?_
        refine iincV X7.here hexec rfl 1 (hb hbytes d35) (by decide) rfl rfl ?_
        refine iincV X7.here hexec rfl 1 (hb hbytes d38) (by decide) rfl rfl ?_
        refine XS.goto X7.here hexec rfl (pc0 := 41) rfl (hb hbytes d41) (by decide) rfl ?_
        exact Steps.refl _)
      have c10 : Steps p.tables e below (s₁.setTop (entryFrame m #[.ref b, .int (Int32.ofNat o), .ref d, .int (Int32.ofNat q), .int (Int32.ofNat len)] 7)) (T7.setTop (mkF m 3 #[.val (.ref b), .val (.int (Int32.ofNat (o + (i + 1)))), .val (.ref d), .val (.int (Int32.ofNat (q + (i + 1)))), .val (.int (Int32.ofNat len)), .val (.int (Int32.ofNat (i + 1))), .val (.int (cv A (o + i)))] [])) := by
        have := c9
        rw [succ32, succ32, succ32] at this
        exact this
      exact ih (i + 1) (by omega) _ (Or.inr ⟨_, rfl, rfl⟩) T7 _ (by rw [copyLocs_step, ← List.append_assoc]; exact X7) (pl.trans p7) (fl.step (by omega) hlt (by simp)) c10
  obtain ⟨T9, B9, z9, X9, p9, f9, g9⟩ := loop len 0 (by omega) .unset (Or.inl rfl) s₁ B (by simpa [copyLocs] using X0) ⟨hB0.1, fun _ _ => rfl, rfl⟩ (Laid.zero _ _ _) c2
  have c11 : Steps p.tables e below (s₁.setTop (entryFrame m #[.ref b, .int (Int32.ofNat o), .ref d, .int (Int32.ofNat q), .int (Int32.ofNat len)] 7)) (T9.setTop (mkF m 46 #[.val (.ref b), .val (.int (Int32.ofNat (o + len))), .val (.ref d), .val (.int (Int32.ofNat (q + len))), .val (.int (Int32.ofNat len)), .val (.int (Int32.ofNat len)), z9] [.int (Int32.ofNat len)])) := g9.trans (by
    refine XS.iload X9.here hexec rfl (hb hbytes d3) rfl ?_
    refine XS.iload X9.here hexec rfl (hb hbytes d5) rfl ?_
    refine XS.icmpYes X9.here hexec rfl (pc0 := 7) rfl (hb hbytes d7) rfl (ii_ge_t (nlt32 (by omega) (Nat.le_refl _))) (by decide) rfl ?_
    refine XS.iload X9.here hexec rfl (hb hbytes d44) rfl ?_
    exact Steps.refl _)
  exact ⟨T9, some (.int (Int32.ofNat len)), _, _, _, X9, by simp, rfl, rfl, (fun h => by cases h), ⟨rfl, B9, p9.from hh0, f9⟩, fun fs hl => c11.trans (X9.ireturnOut hexec hret rfl (Or.inl rfl) (hb hbytes d46) hl)⟩
end Cmp5
namespace Cmp3
def yN : MethodName := ⟨"java/lang/StringUTF16", "compress", "([CII)[B"⟩
abbrev yB : ByteArray := jdk_52_method_16_code
theorem d0 : decode yB 0 = .ok (.iload_n 2, 1) := by decide +kernel
theorem d1 : decode yB 1 = .ok (.newarray .byte, 2) := by decide +kernel
theorem d3 : decode yB 3 = .ok (.astore_n 3, 1) := by decide +kernel
theorem d4 : decode yB 4 = .ok (.aload_n 0, 1) := by decide +kernel
theorem d5 : decode yB 5 = .ok (.iload_n 1, 1) := by decide +kernel
theorem d6 : decode yB 6 = .ok (.aload_n 3, 1) := by decide +kernel
theorem d7 : decode yB 7 = .ok (.iconst 0, 1) := by decide +kernel
theorem d8 : decode yB 8 = .ok (.iload_n 2, 1) := by decide +kernel
theorem d9 : decode yB 9 = .ok (.invokestatic 115, 3) := by decide +kernel
theorem d12 : decode yB 12 = .ok (.istore 4, 2) := by decide +kernel
theorem d14 : decode yB 14 = .ok (.iload 4, 2) := by decide +kernel
theorem d16 : decode yB 16 = .ok (.iload_n 2, 1) := by decide +kernel
theorem d17 : decode yB 17 = .ok (.if_icmp (.eq) 40, 3) := by decide +kernel
theorem d57 : decode yB 57 = .ok (.aload_n 3, 1) := by decide +kernel
theorem d58 : decode yB 58 = .ok (.areturn, 1) := by decide +kernel
def site : List Cond := [.arrayClass .byte, Cmp5.tab] ++ staticW U16 115 Cmp5.yN
def tab : Cond := tabOf yN yB 6 (some (.array .byte)) site
def P (b : Addr) (A : Cell) (o len : Nat) (args : Array Value) (s : State) : Prop := args = #[.ref b, .int (Int32.ofNat o), .int (Int32.ofNat len)] ∧ Ch b A s ∧ o + len ≤ A.slots.size ∧ len ≤ 536870912 ∧ ∀ i, i < len → ¬ 255 < cv A (o + i)
def E (b : Addr) (A : Cell) (o len : Nat) (r : Option Value) (s u : State) : Prop := NewArr .byte "[B" len (fun j => .int (lo8 (cv A (o + j)))) r s u ∧ u.heap.size = s.heap.size + 1
/-- no char of the range above 255: a new byte[] of their low bytes -/
theorem law (l : Launch) (b : Addr) (A : Cell) (o len : Nat) : Law l yN 3 3 1 18 yB 6 (some (.array .byte)) site (P b A o len) (E b A o len) [] 1 len := by
  refine Law.of_walk (plainFor_of_name (by decide +kernel)) (by decide +kernel) (by decide +kernel) (by decide) (fun _ _ h => by rw [h.1]; rfl) (fun _ U U' hal hh h => ⟨h.1, h.2.1.mv hal hh, h.2.2⟩) (fun r U U' V V' h1 hal h2 h => ⟨NewArr.mv r U U' V V' h1 hal h2 h.1, by rw [h1, h2]; exact h.2⟩) ?_
  intro p e s m args below meth c s₁ X0 hexec hbytes hml hret hlk hnm hown hh0 W hP
  obtain ⟨rfl, hA, l1, l2, hp⟩ := hP
  have a31 := hA.1.2.2.2
  have c1 : Steps p.tables e below (s₁.setTop (entryFrame m #[.ref b, .int (Int32.ofNat o), .int (Int32.ofNat len)] 6)) (s₁.setTop (mkF m 0 #[.val (.ref b), .val (.int (Int32.ofNat o)), .val (.int (Int32.ofNat len)), .unset, .unset, .unset] [])) := entry rfl
  have c2 : Steps p.tables e below (s₁.setTop (entryFrame m #[.ref b, .int (Int32.ofNat o), .int (Int32.ofNat len)] 6)) (s₁.setTop (mkF m 1 #[.val (.ref b), .val (.int (Int32.ofNat o)), .val (.int (Int32.ofNat len)), .unset, .unset, .unset] [.int (Int32.ofNat len)])) := c1.trans (by
    refine XS.iloadN X0.here hexec rfl (hb hbytes d0) rfl ?_
    exact Steps.refl _)
  obtain ⟨T3, B3, X3, ba3, bs3, bv3, bh3, bf3, st3⟩ := X0.anew hexec (atype := .byte) (wk W (.arrayClass .byte)) rfl (by show len * 1 ≤ _; omega) (by omega) (g := (mkF m 1 #[.val (.ref b), .val (.int (Int32.ofNat o)), .val (.int (Int32.ofNat len)), .unset, .unset, .unset] [.int (Int32.ofNat len)])) rfl (hb hbytes d1) (rest := []) rfl (Nat.le_refl _) (by show 0 + len ≤ len; omega)
  rw [hh0] at ba3 st3
  have kp3 : XT.Kept s T3 := (XT.Kept.of_eq hh0).push bh3
  have hA3 := hA.keep X3.warmed.alike (kp3 _ _ hA.1.1)
  have hne : b ≠ s.heap.size := hA.1.ne
  have c4 : Steps p.tables e below (s₁.setTop (entryFrame m #[.ref b, .int (Int32.ofNat o), .int (Int32.ofNat len)] 6)) (T3.setTop (mkF m 3 #[.val (.ref b), .val (.int (Int32.ofNat o)), .val (.int (Int32.ofNat len)), .unset, .unset, .unset] [.ref s.heap.size])) := c2.trans (st3 _ (Steps.refl _))
  have c5 : Steps p.tables e below (s₁.setTop (entryFrame m #[.ref b, .int (Int32.ofNat o), .int (Int32.ofNat len)] 6)) (T3.setTop (mkF m 9 #[.val (.ref b), .val (.int (Int32.ofNat o)), .val (.int (Int32.ofNat len)), .val (.ref s.heap.size), .unset, .unset] [.int (Int32.ofNat len), .int 0, .ref s.heap.size, .int (Int32.ofNat o), .ref b])) := c4.trans (by
    refine XS.astoreN X3.here hexec rfl (hb hbytes d3) rfl rfl rfl ?_
    refine XS.aloadN X3.here hexec rfl (hb hbytes d4) rfl rfl ?_
    refine XS.iloadN X3.here hexec rfl (hb hbytes d5) rfl ?_
    refine XS.aloadN X3.here hexec rfl (hb hbytes d6) rfl rfl ?_
    refine iconstV X3.here hexec rfl 0 (hb hbytes d7) (by decide) ?_
    refine XS.iloadN X3.here hexec rfl (hb hbytes d8) rfl ?_
    exact Steps.refl _)
  obtain ⟨v6, T6, X6, E6, g6⟩ := X3.callS hexec (Cmp5.law l b A s.heap.size B3 o 0 len) hown (wks W (staticW U16 115 Cmp5.yN)) (wk W Cmp5.tab) (W := 0) (Nat.le_of_ble_eq_true rfl) (Nat.le_of_ble_eq_true rfl) (Nat.le_refl _) (by show 0 + len + 0 ≤ len; omega) (g := (mkF m 9 #[.val (.ref b), .val (.int (Int32.ofNat o)), .val (.int (Int32.ofNat len)), .val (.ref s.heap.size), .unset, .unset] [.int (Int32.ofNat len), .int (Int32.ofNat 0), .ref s.heap.size, .int (Int32.ofNat o), .ref b])) rfl (by rw [hml]; rfl) c5 (argsL := [.ref b, .int (Int32.ofNat o), .ref s.heap.size, .int (Int32.ofNat 0), .int (Int32.ofNat len)]) (rest := []) rfl rfl (by show 2 * 0 + 0 ≤ _; decide) (hb hbytes d9) (⟨rfl, hA3, ba3, hne, l1, by rw [bs3]; simp, hp⟩)
  obtain ⟨rfl, B6, p6, f6⟩ := E6
  have c7 : Steps p.tables e below (s₁.setTop (entryFrame m #[.ref b, .int (Int32.ofNat o), .int (Int32.ofNat len)] 6)) (T6.setTop (mkF m 12 #[.val (.ref b), .val (.int (Int32.ofNat o)), .val (.int (Int32.ofNat len)), .val (.ref s.heap.size), .unset, .unset] [.int (Int32.ofNat len)])) := g6
  have c8 : Steps p.tables e below (s₁.setTop (entryFrame m #[.ref b, .int (Int32.ofNat o), .int (Int32.ofNat len)] 6)) (T6.setTop (mkF m 58 #[.val (.ref b), .val (.int (Int32.ofNat o)), .val (.int (Int32.ofNat len)), .val (.ref s.heap.size), .val (.int (Int32.ofNat len)), .unset] [.ref s.heap.size])) := c7.trans (by
    refine XS.istore X6.here hexec rfl (hb hbytes d12) rfl rfl ?_
    refine XS.iload X6.here hexec rfl (hb hbytes d14) rfl ?_
    refine XS.iloadN X6.here hexec rfl (hb hbytes d16) rfl ?_
    refine XS.icmpYes X6.here hexec rfl (pc0 := 17) rfl (hb hbytes d17) rfl (ii_eq_t rfl) (by decide) rfl ?_
    refine XS.aloadN X6.here hexec rfl (hb hbytes d57) rfl rfl ?_
    exact Steps.refl _)
  have X8 := X6.wide (L' := []) (cells' := 1) (slots' := len) (fun x hx hlt => by
    simp only [List.nil_append, copyLocs, List.mem_map, List.mem_range] at hx
    obtain ⟨i, -, rfl⟩ := hx
    exact absurd hlt (Nat.lt_irrefl _)) (Nat.le_refl _) (by omega)
  exact ⟨T6, some (.ref s.heap.size), _, _, _, X8, rfl, rfl, rfl, (fun h => by cases h), ⟨⟨rfl, B6, ba3.like (X3.warmed.alike.symm.trans X6.warmed.alike) p6.1 f6.1 f6.2.1 f6.2.2.1, f6.2.1.trans bv3, by rw [X6.warmed.alike.findClass, f6.1]; exact bf3, by rw [f6.2.2.1, bs3]; simp, fun j hj => by rw [f6.2.2.2 j, if_pos (by omega)]; rfl, kp3.put p6 (Nat.le_refl _)⟩, by rw [p6.2.2, bh3, hh0]; simp⟩, fun fs hl => c8.trans (X8.areturnOut hexec rfl hret rfl (hb hbytes d58) hl)⟩
end Cmp3
namespace CodL
def yN : MethodName := ⟨"java/lang/StringUTF16", "coderFromArrayLen", "([BI)B"⟩
abbrev yB : ByteArray := jdk_52_method_15_code
theorem d0 : decode yB 0 = .ok (.iload_n 1, 1) := by decide +kernel
theorem d1 : decode yB 1 = .ok (.aload_n 0, 1) := by decide +kernel
theorem d2 : decode yB 2 = .ok (.arraylength, 1) := by decide +kernel
theorem d3 : decode yB 3 = .ok (.isub, 1) := by decide +kernel
theorem d4 : decode yB 4 = .ok (.bipush 31, 2) := by decide +kernel
theorem d6 : decode yB 6 = .ok (.iushr, 1) := by decide +kernel
theorem d7 : decode yB 7 = .ok (.i2b, 1) := by decide +kernel
theorem d8 : decode yB 8 = .ok (.ireturn, 1) := by decide +kernel
def site : List Cond := []
def tab : Cond := tabOf yN yB 2 (some .byte) site
def P (d : Addr) (B : Cell) (args : Array Value) (s : State) : Prop := args = #[.ref d, .int (Int32.ofNat B.slots.size)] ∧ Arr .byte d B s
def E (r : Option Value) (s u : State) : Prop := XT.PureE (some (.int 0)) r s u
/-- an array as long as the number of chars: LATIN1 -/
theorem law (l : Launch) (d : Addr) (B : Cell) : Law l yN 2 2 0 0 yB 2 (some .byte) site (P d B) E [] 0 0 := by
  refine Law.of_walk (plainFor_of_name (by decide +kernel)) (by decide +kernel) (by decide +kernel) (by decide) (fun _ _ h => by rw [h.1]; rfl) (fun _ U U' hal hh h => ⟨h.1, h.2.mv hal hh⟩) (fun r U U' V V' h1 hal h2 h => XT.PureE.mv r U U' V V' h1 hal h2 h) ?_
  intro p e s m args below meth c s₁ X0 hexec hbytes hml hret hlk hnm hown hh0 W hP
  obtain ⟨rfl, hB⟩ := hP
  have hB0 := hB.mv X0.warmed.alike hh0
  have c1 : Steps p.tables e below (s₁.setTop (entryFrame m #[.ref d, .int (Int32.ofNat B.slots.size)] 2)) (s₁.setTop (mkF m 0 #[.val (.ref d), .val (.int (Int32.ofNat B.slots.size))] [])) := entry rfl
  have c2 : Steps p.tables e below (s₁.setTop (entryFrame m #[.ref d, .int (Int32.ofNat B.slots.size)] 2)) (s₁.setTop (mkF m 2 #[.val (.ref d), .val (.int (Int32.ofNat B.slots.size))] [.ref d, .int (Int32.ofNat B.slots.size)])) := c1.trans (by
    refine XS.iloadN X0.here hexec rfl (hb hbytes d0) rfl ?_
    refine XS.aloadN X0.here hexec rfl (hb hbytes d1) rfl rfl ?_
    exact Steps.refl _)
  have c3 : Steps p.tables e below (s₁.setTop (entryFrame m #[.ref d, .int (Int32.ofNat B.slots.size)] 2)) (s₁.setTop (mkF m 8 #[.val (.ref d), .val (.int (Int32.ofNat B.slots.size))] [.int (lo8 (ushr (Int32.ofNat B.slots.size - Int32.ofNat B.slots.size) 31))])) := c2.trans (by
    refine X0.alen hexec hB0 rfl rfl (hb hbytes d2) ?_
    refine XS.isub X0.here hexec rfl (hb hbytes d3) rfl ?_
    refine bipushV X0.here hexec rfl 31 (hb hbytes d4) (by decide) ?_
    refine iushr X0.here hexec rfl (hb hbytes d6) rfl ?_
    refine i2b X0.here hexec rfl (hb hbytes d7) rfl ?_
    exact Steps.refl _)
  have e0 : lo8 (ushr (Int32.ofNat B.slots.size - Int32.ofNat B.slots.size) 31) = 0 := by rw [Int32.sub_self]; decide
  rw [e0] at c3
  exact ⟨s₁, some (.int 0), _, _, _, X0, rfl, rfl, rfl, (fun h => by cases h), ⟨rfl, hh0⟩, fun fs hl => c3.trans (X0.ireturnOut hexec hret rfl (Or.inr (Or.inr (Or.inl rfl))) (hb hbytes d8) hl)⟩
end CodL
/-- the String at a is Latin-1 over a new byte[] (the heap's one new cell): the low bytes of the len chars of A from o on; every cell but a is kept -/
def Got (a : Addr) (D : Cell) (fV fC : Field) (A : Cell) (o len : Nat) (r : Option Value) (s u : State) : Prop := r = none ∧ ∃ D' V : Cell, Blank "java/lang/String" a D' u ∧ Same D D' [fV.slot, fC.slot] ∧ D'.slots[fV.slot]? = some (.ref s.heap.size) ∧ D'.slots[fC.slot]? = some (.int 0) ∧ Arr .byte s.heap.size V u ∧ V.vm = .none ∧ u.vm.findClass "[B" = some V.cls ∧ V.slots.size = len ∧ (∀ j, j < len → V.slots[j]? = some (.int (lo8 (cv A (o + j))))) ∧ (∀ (y : Addr) (c : Cell), y ≠ a → s.heap[y]? = some c → u.heap[y]? = some c) ∧ u.heap.size = s.heap.size + 1
theorem Got.mv {a : Addr} {D A : Cell} {fV fC : Field} {o len : Nat} : ∀ r (U U' V V' : State), U'.heap = U.heap → V.vm.Alike V'.vm → V'.heap = V.heap → Got a D fV fC A o len r U V → Got a D fV fC A o len r U' V' :=
  fun r U U' V V' h1 hal h2 ⟨e0, D', X, a1, a2, a3, a4, a5, a6, a7, a8, a9, a10, a11⟩ => ⟨e0, D', X, a1.mv hal h2, a2, by rw [h1]; exact a3, a4, by rw [h1]; exact a5.mv hal h2, a6, by rw [hal.findClass]; exact a7, a8, a9, by rw [h1, h2]; exact a10, by rw [h1, h2]; exact a11⟩
namespace New4
def yN : MethodName := ⟨"java/lang/String", "<init>", "([CIILjava/lang/Void;)V"⟩
abbrev yB : ByteArray := jdk_42_method_149_code
theorem d0 : decode yB 0 = .ok (.aload_n 0, 1) := by decide +kernel
theorem d1 : decode yB 1 = .ok (.invokespecial 1, 3) := by decide +kernel
theorem d4 : decode yB 4 = .ok (.iload_n 3, 1) := by decide +kernel
theorem d5 : decode yB 5 = .ok (.ifCond (.ne) 22, 3) := by decide +kernel
theorem d27 : decode yB 27 = .ok (.getstatic 38, 3) := by decide +kernel
theorem d30 : decode yB 30 = .ok (.ifCond (.eq) 28, 3) := by decide +kernel
theorem d33 : decode yB 33 = .ok (.aload_n 1, 1) := by decide +kernel
theorem d34 : decode yB 34 = .ok (.iload_n 2, 1) := by decide +kernel
theorem d35 : decode yB 35 = .ok (.iload_n 3, 1) := by decide +kernel
theorem d36 : decode yB 36 = .ok (.invokestatic 177, 3) := by decide +kernel
theorem d39 : decode yB 39 = .ok (.astore 5, 2) := by decide +kernel
theorem d41 : decode yB 41 = .ok (.aload_n 0, 1) := by decide +kernel
theorem d42 : decode yB 42 = .ok (.aload 5, 2) := by decide +kernel
theorem d44 : decode yB 44 = .ok (.iload_n 3, 1) := by decide +kernel
theorem d45 : decode yB 45 = .ok (.invokestatic 47, 3) := by decide +kernel
theorem d48 : decode yB 48 = .ok (.putfield 15, 3) := by decide +kernel
theorem d51 : decode yB 51 = .ok (.aload_n 0, 1) := by decide +kernel
theorem d52 : decode yB 52 = .ok (.aload 5, 2) := by decide +kernel
theorem d54 : decode yB 54 = .ok (.putfield 9, 3) := by decide +kernel
theorem d57 : decode yB 57 = .ok (.return_, 1) := by decide +kernel
def site : List Cond := [.fieldLink "java/lang/String" 38 "java/lang/String" "COMPACT_STRINGS" "Z", Cmp3.tab, CodL.tab, .laysFinal "java/lang/String" "java/lang/String" "value" "[B", .fieldLink "java/lang/String" 9 "java/lang/String" "value" "[B", .laysFinal "java/lang/String" "java/lang/String" "coder" "B", .fieldLink "java/lang/String" 15 "java/lang/String" "coder" "B"] ++ objW "java/lang/String" 1 ++ staticW "java/lang/String" 177 Cmp3.yN ++ staticW "java/lang/String" 47 CodL.yN
def tab : Cond := tabOf yN yB 6 none site
def P (a : Addr) (D : Cell) (fV fC : Field) (b : Addr) (A : Cell) (z : Int32) (o len : Nat) (args : Array Value) (s : State) : Prop := args = #[.ref a, .ref b, .int (Int32.ofNat o), .int (Int32.ofNat len), .null] ∧ Blank "java/lang/String" a D s ∧ Found "java/lang/String" "value" "[B" fV s ∧ Found "java/lang/String" "coder" "B" fC s ∧ Ch b A s ∧ StaticIs s "java/lang/String" "COMPACT_STRINGS" "Z" (.int z) ∧ ¬ z = 0 ∧ 0 < len ∧ o + len ≤ A.slots.size ∧ len ≤ 536870912 ∧ ∀ i, i < len → ¬ 255 < cv A (o + i)
def E (a : Addr) (D : Cell) (fV fC : Field) (A : Cell) (o len : Nat) (r : Option Value) (s u : State) : Prop := Got a D fV fC A o len r s u
/-- len > 0, no char of the range above 255: a Latin-1 String of their low bytes -/
theorem law (l : Launch) (a : Addr) (D : Cell) (fV fC : Field) (b : Addr) (A : Cell) (z : Int32) (o len : Nat) : Law l yN 5 4 2 35 yB 6 none site (P a D fV fC b A z o len) (E a D fV fC A o len) [⟨a, fC.slot⟩, ⟨a, fV.slot⟩] 1 len := by
  refine Law.of_walk (plainFor_of_name (by decide +kernel)) (by decide +kernel) (by decide +kernel) (by decide) (fun _ _ h => by rw [h.1]; rfl) (fun _ U U' hal hh h => ⟨h.1, h.2.1.mv hal hh, h.2.2.1.al hal, h.2.2.2.1.al hal, h.2.2.2.2.1.mv hal hh, h.2.2.2.2.2.1.there hal hh, h.2.2.2.2.2.2⟩) (fun r U U' V V' h1 hal h2 h => Got.mv r U U' V V' h1 hal h2 h) ?_
  intro p e s m args below meth c s₁ X0 hexec hbytes hml hret hlk hnm hown hh0 W hP
  obtain ⟨rfl, hB, f1, f2, hA, s1, hz, l0, l1, l2, hp⟩ := hP
  have a31 := hA.1.2.2.2
  have c1 : Steps p.tables e below (s₁.setTop (entryFrame m #[.ref a, .ref b, .int (Int32.ofNat o), .int (Int32.ofNat len), .null] 6)) (s₁.setTop (mkF m 0 #[.val (.ref a), .val (.ref b), .val (.int (Int32.ofNat o)), .val (.int (Int32.ofNat len)), .val .null, .unset] [])) := entry rfl
  have c2 : Steps p.tables e below (s₁.setTop (entryFrame m #[.ref a, .ref b, .int (Int32.ofNat o), .int (Int32.ofNat len), .null] 6)) (s₁.setTop (mkF m 1 #[.val (.ref a), .val (.ref b), .val (.int (Int32.ofNat o)), .val (.int (Int32.ofNat len)), .val .null, .unset] [.ref a])) := c1.trans (by
    refine XS.aloadN X0.here hexec rfl (hb hbytes d0) rfl rfl ?_
    exact Steps.refl _)
  obtain ⟨T3, X3, q3, st3⟩ := X0.oinit hexec hown (wks W (objW "java/lang/String" 1)) (g := (mkF m 1 #[.val (.ref a), .val (.ref b), .val (.int (Int32.ofNat o)), .val (.int (Int32.ofNat len)), .val .null, .unset] [.ref a])) rfl (by rw [hml]; rfl) (rest := []) rfl (hb hbytes d1) (W := 0) (by show 2 * 0 + 0 ≤ _; decide) (Nat.le_of_ble_eq_true rfl) (Nat.le_of_ble_eq_true rfl)
  have hh3 := q3.trans hh0
  have c4 : Steps p.tables e below (s₁.setTop (entryFrame m #[.ref a, .ref b, .int (Int32.ofNat o), .int (Int32.ofNat len), .null] 6)) (T3.setTop (mkF m 27 #[.val (.ref a), .val (.ref b), .val (.int (Int32.ofNat o)), .val (.int (Int32.ofNat len)), .val .null, .unset] [])) := (c2.trans (st3 _ (Steps.refl _))).trans (by
    refine XS.iloadN X3.here hexec rfl (hb hbytes d4) rfl ?_
    refine XS.ifYes X3.here hexec rfl (pc0 := 5) rfl (hb hbytes d5) rfl (i0_ne_t (nz32 (by omega) l0)) (by decide) rfl ?_
    exact Steps.refl _)
  obtain ⟨T5, X5, q5, st5⟩ := X3.sget hexec hown (wk W (.fieldLink "java/lang/String" 38 "java/lang/String" "COMPACT_STRINGS" "Z")) s1 (fun _ _ h => by rw [hh3]; exact h) (g := (mkF m 27 #[.val (.ref a), .val (.ref b), .val (.int (Int32.ofNat o)), .val (.int (Int32.ofNat len)), .val .null, .unset] [])) rfl (hb hbytes d27)
  have hh5 := q5.trans hh3
  have c6 : Steps p.tables e below (s₁.setTop (entryFrame m #[.ref a, .ref b, .int (Int32.ofNat o), .int (Int32.ofNat len), .null] 6)) (T5.setTop (mkF m 30 #[.val (.ref a), .val (.ref b), .val (.int (Int32.ofNat o)), .val (.int (Int32.ofNat len)), .val .null, .unset] [.int z])) := c4.trans (st5 _ (Steps.refl _))
  have c7 : Steps p.tables e below (s₁.setTop (entryFrame m #[.ref a, .ref b, .int (Int32.ofNat o), .int (Int32.ofNat len), .null] 6)) (T5.setTop (mkF m 36 #[.val (.ref a), .val (.ref b), .val (.int (Int32.ofNat o)), .val (.int (Int32.ofNat len)), .val .null, .unset] [.int (Int32.ofNat len), .int (Int32.ofNat o), .ref b])) := c6.trans (by
    refine XS.ifNo X5.here hexec rfl (hb hbytes d30) rfl (i0_eq_f hz) ?_
    refine XS.aloadN X5.here hexec rfl (hb hbytes d33) rfl rfl ?_
    refine XS.iloadN X5.here hexec rfl (hb hbytes d34) rfl ?_
    refine XS.iloadN X5.here hexec rfl (hb hbytes d35) rfl ?_
    exact Steps.refl _)
  obtain ⟨v8, T8, X8, E8, g8⟩ := X5.callS hexec (Cmp3.law l b A o len) hown (wks W (staticW "java/lang/String" 177 Cmp3.yN)) (wk W Cmp3.tab) (W := 0) (Nat.le_of_ble_eq_true rfl) (Nat.le_of_ble_eq_true rfl) (Nat.le_refl _) (by show 0 + len ≤ len; omega) (g := (mkF m 36 #[.val (.ref a), .val (.ref b), .val (.int (Int32.ofNat o)), .val (.int (Int32.ofNat len)), .val .null, .unset] [.int (Int32.ofNat len), .int (Int32.ofNat o), .ref b])) rfl (by rw [hml]; rfl) c7 (argsL := [.ref b, .int (Int32.ofNat o), .int (Int32.ofNat len)]) (rest := []) rfl rfl (by show 2 * 0 + 0 ≤ _; decide) (hb hbytes d36) (⟨rfl, hA.mv X5.warmed.alike hh5, l1, l2, hp⟩)
  obtain ⟨e8, z8⟩ := E8
  obtain ⟨rfl, N, n1, n2, n3, n4, n5, n6⟩ := NewArr.mv _ T5 s _ _ hh5.symm (Vm.Alike.refl _) rfl e8
  rw [hh5] at z8
  have hB1 := hB.keep X8.warmed.alike (n6 _ _ hB.1)
  have hne : s.heap.size ≠ a := (Nat.ne_of_lt (Array.getElem?_eq_some_iff.mp hB.1).1).symm
  have c9 : Steps p.tables e below (s₁.setTop (entryFrame m #[.ref a, .ref b, .int (Int32.ofNat o), .int (Int32.ofNat len), .null] 6)) (T8.setTop (mkF m 39 #[.val (.ref a), .val (.ref b), .val (.int (Int32.ofNat o)), .val (.int (Int32.ofNat len)), .val .null, .unset] [.ref s.heap.size])) := g8
  have c10 : Steps p.tables e below (s₁.setTop (entryFrame m #[.ref a, .ref b, .int (Int32.ofNat o), .int (Int32.ofNat len), .null] 6)) (T8.setTop (mkF m 45 #[.val (.ref a), .val (.ref b), .val (.int (Int32.ofNat o)), .val (.int (Int32.ofNat len)), .val .null, .val (.ref s.heap.size)] [.int (Int32.ofNat N.slots.size), .ref s.heap.size, .ref a])) := by
    have hc : Steps p.tables e below (s₁.setTop (entryFrame m #[.ref a, .ref b, .int (Int32.ofNat o), .int (Int32.ofNat len), .null] 6)) (T8.setTop (mkF m 45 #[.val (.ref a), .val (.ref b), .val (.int (Int32.ofNat o)), .val (.int (Int32.ofNat len)), .val .null, .val (.ref s.heap.size)] [.int (Int32.ofNat len), .ref s.heap.size, .ref a])) := c9.trans (by
      refine XS.astore X8.here hexec rfl (hb hbytes d39) rfl rfl rfl ?_
      refine XS.aloadN X8.here hexec rfl (hb hbytes d41) rfl rfl ?_
      refine XS.aload X8.here hexec rfl (hb hbytes d42) rfl rfl ?_
      refine XS.iloadN X8.here hexec rfl (hb hbytes d44) rfl ?_
      exact Steps.refl _)
    rw [n4]; exact hc
  obtain ⟨v11, T11, X11, E11, g11⟩ := X8.callS hexec (CodL.law l s.heap.size N) hown (wks W (staticW "java/lang/String" 47 CodL.yN)) (wk W CodL.tab) (W := 1) (Nat.le_of_ble_eq_true rfl) (Nat.le_of_ble_eq_true rfl) (Nat.le_refl _) (by show 0 + len + 0 ≤ len; omega) (g := (mkF m 45 #[.val (.ref a), .val (.ref b), .val (.int (Int32.ofNat o)), .val (.int (Int32.ofNat len)), .val .null, .val (.ref s.heap.size)] [.int (Int32.ofNat N.slots.size), .ref s.heap.size, .ref a])) rfl (by rw [hml]; rfl) c10 (argsL := [.ref s.heap.size, .int (Int32.ofNat N.slots.size)]) (rest := [.ref a]) rfl rfl (by show 2 * 0 + (1 + 0) ≤ _; decide) (hb hbytes d45) (⟨rfl, n1⟩)
  obtain ⟨rfl, q11⟩ := E11
  have hB11 := hB1.mv (X8.warmed.alike.symm.trans X11.warmed.alike) q11
  have c12 : Steps p.tables e below (s₁.setTop (entryFrame m #[.ref a, .ref b, .int (Int32.ofNat o), .int (Int32.ofNat len), .null] 6)) (T11.setTop (mkF m 48 #[.val (.ref a), .val (.ref b), .val (.int (Int32.ofNat o)), .val (.int (Int32.ofNat len)), .val .null, .val (.ref s.heap.size)] [.int 0, .ref a])) := g11
  obtain ⟨T13, X13, p13, bl13, sl13, st13⟩ := X11.finit hexec hown (wk W (.fieldLink "java/lang/String" 15 "java/lang/String" "coder" "B")) (Or.inr ⟨_, (wk W (.laysFinal "java/lang/String" "java/lang/String" "coder" "B"))⟩) (Or.inl ⟨rfl, hnm⟩) f2 (Or.inl rfl) hB11 (t := .byte) (by decide +kernel) rfl (g := (mkF m 48 #[.val (.ref a), .val (.ref b), .val (.int (Int32.ofNat o)), .val (.int (Int32.ofNat len)), .val .null, .val (.ref s.heap.size)] [.int 0, .ref a])) rfl (rest := []) rfl (hb hbytes d48)
  have c14 : Steps p.tables e below (s₁.setTop (entryFrame m #[.ref a, .ref b, .int (Int32.ofNat o), .int (Int32.ofNat len), .null] 6)) (T13.setTop (mkF m 54 #[.val (.ref a), .val (.ref b), .val (.int (Int32.ofNat o)), .val (.int (Int32.ofNat len)), .val .null, .val (.ref s.heap.size)] [.ref s.heap.size, .ref a])) := (c12.trans (st13 _ (Steps.refl _))).trans (by
    refine XS.aloadN X13.here hexec rfl (hb hbytes d51) rfl rfl ?_
    refine XS.aload X13.here hexec rfl (hb hbytes d52) rfl rfl ?_
    exact Steps.refl _)
  obtain ⟨T15, X15, p15, bl15, sl15, st15⟩ := X13.finit hexec hown (wk W (.fieldLink "java/lang/String" 9 "java/lang/String" "value" "[B")) (Or.inr ⟨_, (wk W (.laysFinal "java/lang/String" "java/lang/String" "value" "[B"))⟩) (Or.inl ⟨rfl, hnm⟩) f1 (Or.inl rfl) bl13 (t := (.array .byte)) (by decide +kernel) rfl (g := (mkF m 54 #[.val (.ref a), .val (.ref b), .val (.int (Int32.ofNat o)), .val (.int (Int32.ofNat len)), .val .null, .val (.ref s.heap.size)] [.ref s.heap.size, .ref a])) rfl (rest := []) rfl (hb hbytes d54)
  have c16 : Steps p.tables e below (s₁.setTop (entryFrame m #[.ref a, .ref b, .int (Int32.ofNat o), .int (Int32.ofNat len), .null] 6)) (T15.setTop (mkF m 57 #[.val (.ref a), .val (.ref b), .val (.int (Int32.ofNat o)), .val (.int (Int32.ofNat len)), .val .null, .val (.ref s.heap.size)] [])) := c14.trans (st15 _ (Steps.refl _))
  have ap := apart (Or.inr ⟨_, (wk W (.laysFinal "java/lang/String" "java/lang/String" "value" "[B"))⟩) (Or.inr ⟨_, (wk W (.laysFinal "java/lang/String" "java/lang/String" "coder" "B"))⟩) f1 f2 (t₁ := .array .byte) (t₂ := .byte) (by decide +kernel) (by decide +kernel) (by decide)
  have al := X8.warmed.alike.symm.trans X15.warmed.alike
  have n7 : T11.heap[s.heap.size]? = some N := by rw [q11]; exact n1.1
  exact ⟨T15, none, _, _, _, X15, by simp, rfl, by omega, (fun _ => rfl), ⟨rfl, _, N, bl15, ((Same.refl D _).set _ (by simp)).set _ (by simp), sl15, (Cell.slots_setSlot_ne _ ap).trans sl13, n1.keep al (p15.other hne (p13.other hne n7)), n2, by rw [al.findClass]; exact n3, n4, n5, fun y c h1 h2 => p15.other h1 (p13.other h1 (by rw [q11]; exact n6 y c h2)), by rw [p15.2.2, p13.2.2, q11]; exact z8⟩, fun fs hl => c16.trans (X15.returnOut hexec hret (hb hbytes d57) hl)⟩
end New4
namespace New1
def yN : MethodName := ⟨"java/lang/String", "<init>", "([C)V"⟩
abbrev yB : ByteArray := jdk_42_method_3_code
theorem d0 : decode yB 0 = .ok (.aload_n 0, 1) := by decide +kernel
theorem d1 : decode yB 1 = .ok (.aload_n 1, 1) := by decide +kernel
theorem d2 : decode yB 2 = .ok (.iconst 0, 1) := by decide +kernel
theorem d3 : decode yB 3 = .ok (.aload_n 1, 1) := by decide +kernel
theorem d4 : decode yB 4 = .ok (.arraylength, 1) := by decide +kernel
theorem d5 : decode yB 5 = .ok (.aconst_null, 1) := by decide +kernel
theorem d6 : decode yB 6 = .ok (.invokespecial 27, 3) := by decide +kernel
theorem d9 : decode yB 9 = .ok (.return_, 1) := by decide +kernel
def site : List Cond := [New4.tab] ++ initW "java/lang/String" 27 New4.yN
def tab : Cond := tabOf yN yB 2 none site
def P (a : Addr) (D : Cell) (fV fC : Field) (b : Addr) (A : Cell) (z : Int32) (args : Array Value) (s : State) : Prop := args = #[.ref a, .ref b] ∧ Blank "java/lang/String" a D s ∧ Found "java/lang/String" "value" "[B" fV s ∧ Found "java/lang/String" "coder" "B" fC s ∧ Ch b A s ∧ StaticIs s "java/lang/String" "COMPACT_STRINGS" "Z" (.int z) ∧ ¬ z = 0 ∧ 0 < A.slots.size ∧ A.slots.size ≤ 536870912 ∧ ∀ i, i < A.slots.size → ¬ 255 < cv A i
def E (a : Addr) (D : Cell) (fV fC : Field) (A : Cell) (r : Option Value) (s u : State) : Prop := Got a D fV fC A 0 A.slots.size r s u
/-- new String(chars), not empty, no char above 255: a Latin-1 String of their low bytes -/
theorem law (l : Launch) (a : Addr) (D : Cell) (fV fC : Field) (b : Addr) (A : Cell) (z : Int32) : Law l yN 2 1 3 52 yB 2 none site (P a D fV fC b A z) (E a D fV fC A) [⟨a, fC.slot⟩, ⟨a, fV.slot⟩] 1 A.slots.size := by
  refine Law.of_walk (plainFor_of_name (by decide +kernel)) (by decide +kernel) (by decide +kernel) (by decide) (fun _ _ h => by rw [h.1]; rfl) (fun _ U U' hal hh h => ⟨h.1, h.2.1.mv hal hh, h.2.2.1.al hal, h.2.2.2.1.al hal, h.2.2.2.2.1.mv hal hh, h.2.2.2.2.2.1.there hal hh, h.2.2.2.2.2.2⟩) (fun r U U' V V' h1 hal h2 h => Got.mv r U U' V V' h1 hal h2 h) ?_
  intro p e s m args below meth c s₁ X0 hexec hbytes hml hret hlk hnm hown hh0 W hP
  obtain ⟨rfl, hB, f1, f2, hA, s1, hz, l0, l2, hp⟩ := hP
  have c1 : Steps p.tables e below (s₁.setTop (entryFrame m #[.ref a, .ref b] 2)) (s₁.setTop (mkF m 0 #[.val (.ref a), .val (.ref b)] [])) := entry rfl
  have c2 : Steps p.tables e below (s₁.setTop (entryFrame m #[.ref a, .ref b] 2)) (s₁.setTop (mkF m 6 #[.val (.ref a), .val (.ref b)] [.null, .int (Int32.ofNat A.slots.size), .int 0, .ref b, .ref a])) := c1.trans (by
    refine XS.aloadN X0.here hexec rfl (hb hbytes d0) rfl rfl ?_
    refine XS.aloadN X0.here hexec rfl (hb hbytes d1) rfl rfl ?_
    refine iconstV X0.here hexec rfl 0 (hb hbytes d2) (by decide) ?_
    refine XS.aloadN X0.here hexec rfl (hb hbytes d3) rfl rfl ?_
    refine X0.alen hexec (hA.1.mv X0.warmed.alike hh0) rfl rfl (hb hbytes d4) ?_
    refine XS.aconstNull X0.here hexec rfl (hb hbytes d5) ?_
    exact Steps.refl _)
  obtain ⟨v3, T3, X3, E3, g3⟩ := X0.callN hexec (New4.law l a D fV fC b A z 0 A.slots.size) rfl hown (wks W (initW "java/lang/String" 27 New4.yN)) (W New4.tab (by simp only [site, List.mem_cons, List.mem_append, true_or, or_true])) (W := 0) (Nat.le_of_ble_eq_true rfl) (Nat.le_of_ble_eq_true rfl) (Nat.le_refl _) (by show 0 + A.slots.size ≤ A.slots.size; omega) (g := (mkF m 6 #[.val (.ref a), .val (.ref b)] [.null, .int (Int32.ofNat A.slots.size), .int (Int32.ofNat 0), .ref b, .ref a])) rfl (by rw [hml]; rfl) c2 (argsL := [.ref b, .int (Int32.ofNat 0), .int (Int32.ofNat A.slots.size), .null]) (rest := []) rfl rfl (by show 2 * 0 + 0 ≤ _; decide) (hb hbytes d6) (⟨rfl, hB.mv X0.warmed.alike hh0, f1.al X0.warmed.alike, f2.al X0.warmed.alike, hA.mv X0.warmed.alike hh0, s1.there X0.warmed.alike hh0, hz, l0, by omega, l2, fun i hi => by rw [Nat.zero_add]; exact hp i hi⟩)
  have e0 := Got.mv _ s₁ s _ _ hh0.symm (Vm.Alike.refl _) rfl E3
  obtain rfl := e0.1
  have c4 : Steps p.tables e below (s₁.setTop (entryFrame m #[.ref a, .ref b] 2)) (T3.setTop (mkF m 9 #[.val (.ref a), .val (.ref b)] [])) := g3
  exact ⟨T3, none, _, _, _, X3, by simp, rfl, by omega, (fun _ => rfl), e0, fun fs hl => c4.trans (X3.returnOut hexec hret (hb hbytes d9) hl)⟩
theorem pays {l : Launch} {R : Room} {p : Program} {e : Env} {below : List Frame} {s : State} {sargs : Array Value} {len W : Nat} (a : Addr) (D : Cell) (fV fC : Field) (b : Addr) (A : Cell) (z : Int32) (htab : tab.before sargs s = true) (hfr : 4 ≤ R.frames) (hlo : W + 65 ≤ R.locals) :
    Back l R p e below s sargs yN len W (fun A₁ a₁ => A₁.cells + 1 ≤ R.cells ∧ A₁.slots + A.slots.size ≤ R.slots ∧ P a D fV fC b A z a₁ A₁.U) (fun A₁ _ v₁ B₁ => E a D fV fC A v₁ A₁.U B₁.U ∧ B₁.locs = A₁.locs ++ [⟨a, fC.slot⟩, ⟨a, fV.slot⟩] ∧ B₁.cells = A₁.cells + 1 ∧ B₁.slots = A₁.slots + A.slots.size) :=
  (law l a D fV fC b A z).pays htab hfr (by omega)
end New1
end StrChars
namespace StrChars.Road
open Jvm Sem ClassFile Op Lib Jvm.Stand Jvm.Free Jvm.Free.XT
open Jvm.Lib.Cold (StaticIs)
abbrev ST : String := "java/lang/String"
/-- every table word that New1's law asks, flat -/
abbrev words : List Jvm.Cond := [.code New1.yN New1.yB 2 none, .initialized ST, .methodLink ST 27 New4.yN, .instanceMethod New4.yN,
  .code New4.yN New4.yB 6 none, .fieldLink ST 38 ST "COMPACT_STRINGS" "Z", .laysFinal ST ST "value" "[B", .fieldLink ST 9 ST "value" "[B", .laysFinal ST ST "coder" "B", .fieldLink ST 15 ST "coder" "B",
  .methodLink ST 1 Lib.objectInit, .instanceMethod Lib.objectInit, .code Lib.objectInit ⟨#[0xb1]⟩ 1 none, .methodLink ST 177 Cmp3.yN, .static Cmp3.yN, .methodLink ST 47 CodL.yN, .static CodL.yN,
  .code Cmp3.yN Cmp3.yB 6 (some (.array .byte)), .initialized U16, .arrayClass .byte, .methodLink U16 115 Cmp5.yN, .static Cmp5.yN, .code Cmp5.yN Cmp5.yB 7 (some .int), .code CodL.yN CodL.yB 2 (some .byte)]
theorem tab_of {a : Array Value} {s : State} (h : ∀ w ∈ words, w.before a s = true) : New1.tab.before a s = true := by
  have h5 : Cmp5.tab.before a s = true := unparts (wk h (.code Cmp5.yN Cmp5.yB 7 (some .int))) (wks h (.initialized Cmp5.yN.cls :: Cmp5.site))
  have hc : CodL.tab.before a s = true := unparts (wk h (.code CodL.yN CodL.yB 2 (some .byte))) (wks h (.initialized CodL.yN.cls :: CodL.site))
  have q5 : ∀ w ∈ Cmp5.tab :: words, w.before a s = true := fun w hw => (List.mem_cons.mp hw).elim (fun e => e ▸ h5) (h w)
  have h3 : Cmp3.tab.before a s = true := unparts (wk q5 (.code Cmp3.yN Cmp3.yB 6 (some (.array .byte)))) (wks q5 (.initialized Cmp3.yN.cls :: Cmp3.site))
  have q3 : ∀ w ∈ Cmp3.tab :: CodL.tab :: words, w.before a s = true := fun w hw => (List.mem_cons.mp hw).elim (fun e => e ▸ h3) fun hw => (List.mem_cons.mp hw).elim (fun e => e ▸ hc) (h w)
  have h4 : New4.tab.before a s = true := unparts (wk q3 (.code New4.yN New4.yB 6 none)) (wks q3 (.initialized New4.yN.cls :: New4.site))
  have q4 : ∀ w ∈ New4.tab :: words, w.before a s = true := fun w hw => (List.mem_cons.mp hw).elim (fun e => e ▸ h4) (h w)
  exact unparts (wk q4 (.code New1.yN New1.yB 2 none)) (wks q4 (.initialized New1.yN.cls :: New1.site))
/-- the words ride from the start Z to the walk's own state -/
theorem moved {Z s : State} {a0 args : Array Value} (hZ : Z.Warmed39 s.vm) (hw : ∀ d ∈ words, d.before a0 Z = true) : ∀ d ∈ words, d.before args s = true := fun d hd => by
  have q := hw d hd
  have t : ∀ d ∈ words, d = .arrayClass .byte ∨ (d.onTables && d.keepsFace) = true := by decide +kernel
  rcases t d hd with rfl | t
  · exact RoadKit.mvA hZ q
  · exact RoadKit.mv hZ q t
/-- WHAT COMES BACK, over the tables of the start Z: h the heap at the call, h' behind it -/
def Q (Z : State) (x : Addr) (A : Cell) (h : Heap) (v : Option Value) (h' : Heap) (L : List Loc) : Prop := v = none ∧ (∀ y ∈ L, y.base = x) ∧ RoadKit.Keep h h' [x] ∧ h'.size = h.size + 1 ∧ RoadKit.Exa Z h' x ST ∧ RoadKit.Fld Z h' x ST "value" "[B" (.ref h.size) ∧ RoadKit.Fld Z h' x ST "coder" "B" (.int 0) ∧
  (∃ V : Cell, RoadKit.Arr Z h' h.size V .byte ∧ V.vm = .none ∧ Z.vm.findClass "[B" = some V.cls ∧ V.slots.size = A.slots.size ∧ ∀ j, j < A.slots.size → V.slots[j]? = some (.int (lo8 (cv A j)))) ∧
  ∀ (O n d : String) (w : Value), RoadKit.Fld Z h x O n d w → RoadKit.slotOf Z O n d ≠ RoadKit.slotOf Z ST "value" "[B" → RoadKit.slotOf Z O n d ≠ RoadKit.slotOf Z ST "coder" "B" → RoadKit.Fld Z h' x O n d w
/-- **new String(chars) AT A CALL, IN THE ROAD'S FORM**: for specialBack behind newO: x the fresh String, b the char[] with the cell A -/
theorem back {p : Program} {l : Launch} {e : Env} {R : Room} {s : State} {args : Array Value} {below : List Frame} {len W : Nat} {Z : State} {a0 : Array Value} {h : Heap} (hZ : Z.Warmed39 s.vm) (hw : ∀ d ∈ words, d.before a0 Z = true) {kI : Nat} (wi : (Jvm.Cond.instantiable ST kI).before a0 Z = true)
    {x b : Addr} {A : Cell} {z : Int32} {v0 c0 : Value} (E : RoadKit.Exa Z h x ST) (V : RoadKit.Fld Z h x ST "value" "[B" v0) (C : RoadKit.Fld Z h x ST "coder" "B" c0) (K : RoadKit.Arr Z h b A .char) (hty : Typed .char A) (S : RoadKit.Sta Z h ST "COMPACT_STRINGS" "Z" (.int z)) (hz : ¬ z = 0)
    (l0 : 0 < A.slots.size) (l2 : A.slots.size ≤ 536870912) (hp : ∀ i, i < A.slots.size → ¬ 255 < cv A i) (hfr : 4 ≤ R.frames) (hlo : W + 65 ≤ R.locals) :
    Back l R p e below s args New1.yN len W (fun P a => a = #[.ref x, .ref b] ∧ P.U.heap = h ∧ P.cells + 1 ≤ R.cells ∧ P.slots + A.slots.size ≤ R.slots)
      (fun P _ v B => ∃ L, Q Z x A h v B.U.heap L ∧ B.locs = P.locs ++ L ∧ B.cells = P.cells + 1 ∧ B.slots = P.slots + A.slots.size) := by
  intro m meth c P g ig mk a X hg hsize hdg hW hn hp'
  obtain ⟨rfl, rfl, r1, r2⟩ := hp'
  have al : Z.vm.Alike P.U.vm := hZ.alike.trans X.warmed.alike
  obtain ⟨D, cfV, kV, iV, fV, hD, gV, stV, knV, obV, asV, slV⟩ := id V
  obtain ⟨D', cfC, kC, iC, fC, hD', gC, stC, -, -, asC, slC⟩ := id C
  cases hD.symm.trans hD'
  obtain ⟨D2, kD, e1, e2, e3, e4, e5⟩ := id E
  cases hD.symm.trans e1
  obtain ⟨c2, k2, i1, i2, i3, -⟩ := Cond.instantiable_spec wi
  cases e2.symm.trans i1
  cases e3.symm.trans i2
  obtain ⟨kU, u1, u2⟩ := al.2.2 _ _ e3
  have hB : Blank ST x D P.U := ⟨hD, ⟨knV, fun q hq => by rw [hq] at obV; cases obV⟩, by rw [al.findClass]; exact e2, kU, u1, by rw [u2]; exact i3, by rw [u2]; exact e5 i3⟩
  have F1 : Found ST "value" "[B" fV P.U := ⟨SBG.found_only al ⟨cfV, kV, iV, gV⟩, stV⟩
  have F2 : Found ST "coder" "B" fC P.U := ⟨SBG.found_only al ⟨cfC, kC, iC, gC⟩, stC⟩
  have hA : Ch b A P.U := ⟨⟨K.1, State.isArrayOf_alike al K.2.1, K.2.2, by omega⟩, hty⟩
  have hS : StaticIs P.U ST "COMPACT_STRINGS" "Z" (.int z) := by
    obtain ⟨cfS, iS, kS, fS, st, cS, t1, t2, t3, t4, t5, t6, t7⟩ := S
    exact StaticIs.there (s := { Z with heap := P.U.heap }) ⟨cfS, iS, kS, fS, st, cS, t1, t2, t3, t4, t5, (fun q => by rw [q] at t6; cases t6), t7⟩ al rfl
  obtain ⟨v, B, X', ⟨⟨hv, E', V', q1, q2, q3, q4, q5, q6, q7, q8, q9, q10, q11⟩, hl, hc, hs⟩, st⟩ := New1.pays x D fV fC b A z (tab_of (moved hZ hw)) hfr hlo m meth c P g ig mk _ X hg hsize hdg hW hn ⟨r1, r2, rfl, hB, F1, F2, hA, hS, hz, l0, l2, hp⟩
  have al' : Z.vm.Alike B.U.vm := hZ.alike.trans X'.warmed.alike
  have hsz : E'.slots.size = D.slots.size := by
    obtain ⟨-, -, -, kB, w1, w2, w3⟩ := q1
    obtain ⟨kB', y1, y2⟩ := al'.2.2 _ _ e3
    rw [q2.2.1] at w1
    cases w1.symm.trans y1
    rw [w3, e5 i3, y2]
  refine ⟨v, B, X', ⟨_, ⟨hv, ?_, ⟨by omega, fun y cy hy hn' => q10 y cy (by simpa using hn') hy, fun y cy hy => ?_⟩, q11, ⟨E', _, q1.1, by rw [q2.2.1]; exact e2, by rw [q2.2.1]; exact e3, by rw [q2.1]; exact obV, fun _ => by rw [hsz]; exact e5 i3⟩,
    ⟨E', cfV, kV, iV, fV, q1.1, gV, stV, by rw [q2.1]; exact knV, by rw [q2.1]; exact obV, by rw [q2.2.1]; exact asV, q3⟩, ⟨E', cfC, kC, iC, fC, q1.1, gC, stC, by rw [q2.1]; exact knV, by rw [q2.1]; exact obV, by rw [q2.2.1]; exact asC, q4⟩,
    ⟨V', ⟨q5.1, State.isArrayOf_alike al'.symm q5.2.1, q5.2.2.1⟩, q6, by rw [← al'.findClass]; exact q7, q8, fun j hj => by have := q9 j hj; rwa [Nat.zero_add] at this⟩, fun O n d w F n1 n2 => ?_⟩, hl, hc, hs⟩, st⟩
  · intro y hy
    simp only [List.mem_cons, List.not_mem_nil, or_false] at hy
    rcases hy with rfl | rfl <;> rfl
  · by_cases q : y = x
    · subst q
      cases hD.symm.trans hy
      exact ⟨E', q1.1, q2.2.1, q2.1, hsz⟩
    · exact ⟨cy, q10 y cy q hy, rfl, rfl, rfl⟩
  · obtain ⟨D3, cf, k, i, f, g1, g2, g3, g4, g5, g6, g7⟩ := F
    cases hD.symm.trans g1
    simp only [RoadKit.slotOf, g2, gV, gC, Option.map_some, Option.getD_some] at n1 n2
    exact ⟨E', cf, k, i, f, q1.1, g2, g3, by rw [q2.1]; exact g4, by rw [q2.1]; exact g5, by rw [q2.2.1]; exact g6, by rw [q2.2.2 f.slot (by simp [n1, n2])]; exact g7⟩
end StrChars.Road
namespace StrChars.Road
open Jvm Sem ClassFile Op Lib Jvm.Stand Jvm.Free Jvm.Free.XT
/-- WHAT COMES BACK, the byte[] as a list of values -/
def QA (Z : State) (x : Addr) (zn : Int32) (cs : List Int32) (h : Heap) (v : Option Value) (h' : Heap) (L : List Loc) : Prop := v = none ∧ (∀ y ∈ L, y.base = x) ∧ RoadKit.Keep h h' [x] ∧ h'.size = h.size + 1 ∧ RoadKit.Exa Z h' x ST ∧ RoadKit.Fld Z h' x ST "value" "[B" (.ref h.size) ∧ RoadKit.Fld Z h' x ST "coder" "B" (.int 0) ∧
  (∃ kb, Z.vm.findClass "[B" = some kb ∧ RoadKit.Arv Z h' h.size kb .byte zn (cs.map fun c => .int (lo8 c)) (.int 0)) ∧
  ∀ (O n d : String) (w : Value), RoadKit.Fld Z h x O n d w → RoadKit.slotOf Z O n d ≠ RoadKit.slotOf Z ST "value" "[B" → RoadKit.slotOf Z O n d ≠ RoadKit.slotOf Z ST "coder" "B" → RoadKit.Fld Z h' x O n d w
/-- **new String(chars) AT A CALL, THE ARRAYS AS LISTS**: the char[] at b holds cs, not empty, no char above 255 -/
theorem backArv {p : Program} {l : Launch} {e : Env} {R : Room} {s : State} {args : Array Value} {below : List Frame} {len W : Nat} {Z : State} {a0 : Array Value} {h : Heap} (hZ : Z.Warmed39 s.vm) (hw : ∀ d ∈ words, d.before a0 Z = true) {kI : Nat} (wi : (Jvm.Cond.instantiable ST kI).before a0 Z = true)
    {x b : Addr} {k : ClassId} {zn z : Int32} {cs : List Int32} {dv v0 c0 : Value} (E : RoadKit.Exa Z h x ST) (V : RoadKit.Fld Z h x ST "value" "[B" v0) (C : RoadKit.Fld Z h x ST "coder" "B" c0) (K : RoadKit.Arv Z h b k .char zn (cs.map Value.int) dv) (S : RoadKit.Sta Z h ST "COMPACT_STRINGS" "Z" (.int z)) (hz : ¬ z = 0)
    (hlen : zn.toNatClampNeg = cs.length) (h0 : 0 < cs.length) (hbig : cs.length ≤ 536870912) (hall : ∀ c ∈ cs, ¬ 255 < c) (hfr : 4 ≤ R.frames) (hlo : W + 65 ≤ R.locals) :
    Back l R p e below s args New1.yN len W (fun P a => a = #[.ref x, .ref b] ∧ P.U.heap = h ∧ P.cells + 1 ≤ R.cells ∧ P.slots + cs.length ≤ R.slots)
      (fun P _ v B => ∃ L, QA Z x zn cs h v B.U.heap L ∧ B.locs = P.locs ++ L ∧ B.cells = P.cells + 1 ∧ B.slots = P.slots + cs.length) := by
  obtain ⟨A, K1, K2, K3, K4, K5, K6⟩ := K
  have e : A.slots.size = cs.length := K3.trans hlen
  have hat : ∀ (i : Nat) (hi : i < cs.length), A.slots[i]? = some (.int cs[i]) := fun i hi => by rw [K5 i (by omega)]; simp [List.getD_eq_getElem?_getD, hi]
  have hcv : ∀ (i : Nat) (hi : i < cs.length), cv A i = cs[i] := fun i hi => by unfold cv; rw [hat i hi]
  have hty : Typed .char A := fun i v hv => by
    have hi : i < A.slots.size := (Array.getElem?_eq_some_iff.mp hv).1
    have q := K5 i hi
    rw [hv] at q
    rw [Option.some.inj q]
    exact K6 i hi
  refine Back.mono (back hZ hw wi E V C K1 hty S hz (by omega) (by omega) (fun i hi => by rw [hcv i (by omega)]; exact hall _ (List.getElem_mem _)) hfr hlo) (fun P a hp => ⟨hp.1, hp.2.1, hp.2.2.1, by rw [e]; exact hp.2.2.2⟩) (fun P a v B hp hq => ?_)
  obtain ⟨L, ⟨q1, q2, q3, q4, q5, q6, q7, ⟨V', v1, v2, v3, v4, v5⟩, q9⟩, hl, hc, hs⟩ := hq
  refine ⟨L, ⟨q1, q2, q3, q4, q5, q6, q7, ⟨V'.cls, v3, V', v1, rfl, by rw [v4, e, hlen], K4, fun i hi => ?_, fun i hi => ?_⟩, q9⟩, hl, hc, by rw [hs, e]⟩
  · have hi' : i < cs.length := by omega
    rw [v5 i (by omega), hcv i hi']; simp [List.getD_eq_getElem?_getD, hi']
  · have hi' : i < cs.length := by omega
    simp only [List.getD_eq_getElem?_getD, List.getElem?_map, List.getElem?_eq_getElem hi', Option.map_some, Option.getD_some]
    exact fits_lo8 _
end StrChars.Road
namespace StrChars.Road
open Jvm Sem ClassFile Op Lib Jvm.Stand Jvm.Free Jvm.Free.XT
/-- WHAT COMES BACK, in the writer's own shape -/
def QV (Z : State) (x : Addr) (N : Int32) (bs : List Int32) (h : Heap) (n0 : Nat) (v : Option Value) (h' : Heap) (L : List Loc) : Prop := v = none ∧ RoadKit.Fr n0 L ∧ RoadKit.Keep h h' [x] ∧ RoadKit.Exa Z h' x ST ∧ RoadKit.Fld Z h' x ST "coder" "B" (.int 0) ∧
  ∃ (t : Addr) (kb : ClassId), n0 ≤ t ∧ h.size ≤ t ∧ ¬ t = x ∧ RoadKit.Fld Z h' x ST "value" "[B" (.ref t) ∧ RoadKit.Arv Z h' t kb .byte N (bs.map Value.int) (.int 0)
/-- **new String(chars) AT A CALL, FOR THE WRITER**: a char[] of n known ints, each 0 to 255 -/
theorem backV {p : Program} {l : Launch} {e : Env} {R : Room} {s : State} {args : Array Value} {below : List Frame} {len W : Nat} {Z : State} {a0 : Array Value} {h : Heap} (hZ : Z.Warmed39 s.vm) (hw : ∀ d ∈ words, d.before a0 Z = true) {kI : Nat} (wi : (Jvm.Cond.instantiable ST kI).before a0 Z = true)
    {x b : Addr} {kC : ClassId} {cs bs : List Int32} {d v0 c0 : Value} {z N : Int32} {n n0 : Nat} (hx0 : n0 ≤ x) (hh0 : n0 ≤ h.size) (E : RoadKit.Exa Z h x ST) (V : RoadKit.Fld Z h x ST "value" "[B" v0) (C : RoadKit.Fld Z h x ST "coder" "B" c0) (K : RoadKit.Arv Z h b kC .char N (cs.map Value.int) d) (S : RoadKit.Sta Z h ST "COMPACT_STRINGS" "Z" (.int z)) (hz : ¬ z = 0)
    (hn : cs.length = n) (hN : N = Int32.ofNat n) (l0 : 0 < n) (l2 : n ≤ 4000) (hp : ∀ c ∈ cs, ¬ c < 0 ∧ ¬ (255 : Int32) < c) (hb : bs = cs.map (fun c => c.toInt8.toInt32)) (hfr : 4 ≤ R.frames) (hlo : W + 65 ≤ R.locals) :
    Back l R p e below s args (⟨"java/lang/String", "<init>", "([C)V"⟩ : MethodName) len W (fun P a => a = #[.ref x, .ref b] ∧ P.U.heap = h ∧ P.cells + 1 ≤ R.cells ∧ P.slots + n ≤ R.slots)
      (fun P _ v B => ∃ L, QV Z x N bs h n0 v B.U.heap L ∧ B.locs = P.locs ++ L ∧ B.cells = P.cells + 1 ∧ B.slots = P.slots + n) := by
  subst hn hN hb
  refine Back.mono (backArv hZ hw wi E V C K S hz (n32 (by omega)) l0 (by omega) (fun c hc => (hp c hc).2) hfr hlo) (fun P a hp => hp) (fun P a v B hp hq => ?_)
  obtain ⟨L, ⟨q1, q2, q3, q4, q5, q6, q7, ⟨kb, v1, v2⟩, q9⟩, hl, hc, hs⟩ := hq
  exact ⟨L, ⟨q1, fun y hy => by rw [q2 y hy]; exact hx0, q3, q5, q7, h.size, kb, hh0, Nat.le_refl _, Nat.ne_of_gt E.lt, q6, by rw [List.map_map]; exact v2⟩, hl, hc, hs⟩
end StrChars.Road
end Jvm.Pilot.@@N@@
namespace Jvm.Pilot.@@N@@
open Jvm Jvm.ClassFile Sem Op Lib Jvm.Free Jvm.Stand Jvm.LawKit Jvm.RoadKit Bundle Jvm.Pilot.@@N@@.Jvm.D
section OwnKit
variable {p : Program} {l : Launch} {e : Env} {R : Room} {s : State} {m : MethodId} {args : Array Value} {below : List Frame} {meth : Method} {c : Code} {T : State} {locs : List Loc} {cells slots : Nat} {Z : State} {a0 : Array Value} {h0 : Heap}
/-- from this state the run comes to the end of the invocation, and there P holds -/
def own_G (p : Program) (e : Env) (below : List Frame) (P : Outcome → State → Prop) (st : State) : Prop :=
  ∃ (u : State) (o : Outcome), Steps p.tables e below st u ∧ u.status = .running ∧ Ended u below o ∧ P o u
theorem own_via {P : Outcome → State → Prop} {st st' : State} (k : ∀ t, Steps p.tables e below st' t → Steps p.tables e below st t) (h : own_G p e below P st') : own_G p e below P st := by
  obtain ⟨u, o, h1, h2⟩ := h
  exact ⟨u, o, k _ h1, h2⟩
/-- what a contract says of the end -/
def own_P (s : State) (Q : Option Value → Heap → List Loc → Prop) (k n : Nat) : Outcome → State → Prop := fun o u => ∃ v L, o = .returned v ∧ Q v u.heap L ∧ FrameEnd s o u L k n
/-- it returns w and leaves the heap as it was -/
def own_Q (w : Value) (h0 : Heap) : Option Value → Heap → List Loc → Prop := fun v h L => v = some w ∧ L = [] ∧ h = h0
/-- a contract -/
def own_C (l : Launch) (Z : State) (y : MethodName) (bytes : ByteArray) (maxL : Nat) (ret : Option FieldType) (ws : List Jvm.Cond) (rm : Room) (as : Array Value) (h0 : Heap) (Q : Option Value → Heap → List Loc → Prop) : Prop :=
  MetFree l y (head1 (Jvm.Cond.code y bytes maxL ret :: ws) rm) (fun a U => a = as ∧ Z.Warmed39 U.vm ∧ U.heap = h0) (fun _ _ _ _ _ => True) (fun _ U o U' => ∃ v L, o = .returned v ∧ Q v U'.heap L ∧ FrameEnd U o U' L rm.cells rm.slots)
theorem own_ret {v : Option Value} {Q : Option Value → Heap → List Loc → Prop} {k n : Nat} {st : State} (X : Stand p l e R s m args below meth c T locs cells slots) (hv : meth.sig.returnType = none → v = none) (hlocks : meth.locks = false)
    (hst : ∀ fs, (∀ (f : JFrame) (acts : List Action), f.method = m → f.locked = none → f.entered = [] → (doReturn e (T.setTop f) acts v).1 = T.setFrames fs) → Steps p.tables e below st (T.setFrames fs))
    (hQ : Q v T.heap locs) (hk : cells ≤ k) (hn : slots ≤ n) : own_G p e below (own_P s Q k n) st := by
  obtain ⟨fs, hr, hrun, hended, hW, hsame⟩ := X.leave (v := v) hv hlocks
  exact ⟨_, _, hst fs hr, hrun, hended, _, _, rfl, hQ, ⟨_, rfl⟩, hW, hsame.mono hk hn⟩
theorem own_retI {Q : Option Value → Heap → List Loc → Prop} {k n : Nat} (X : Stand p l e R s m args below meth c T locs cells slots) (hx : p.tables.exec = Jvm.exec) {pc : Nat} {Ls : Array Slot} {z : Int32} {rest : List Value} (hret : meth.sig.returnType = some .int) (hlocks : meth.locks = false) (hd : decode c.code pc = .ok (.ireturn, 1))
    (hQ : Q (some (.int z)) T.heap locs) (hk : cells ≤ k) (hn : slots ≤ n) : own_G p e below (own_P s Q k n) (T.setTop (mkF m pc Ls (.int z :: rest))) := by
  refine own_ret X (fun h => by rw [hret] at h; cases h) hlocks (fun fs hr => ?_) hQ hk hn
  have hm' : T.vm.method? m = some meth := X.method'
  have hn : narrow .int (.int z) = .int z := rfl
  show Steps p.tables e below (T.setTop { method := m, pc := pc, locals := Ls, stack := _ :: rest, locked := none }) _
  jvm_step X.here [X.here.top, hx, hd, hm', hret, hn]
  first | (intro acts; rw [hr _ acts rfl rfl rfl]) | rw [hr _ _ rfl rfl rfl]
  exact Steps.refl _
theorem own_retN {Q : Option Value → Heap → List Loc → Prop} {k n : Nat} {t : FieldType} (X : Stand p l e R s m args below meth c T locs cells slots) (hx : p.tables.exec = Jvm.exec) {pc : Nat} {Ls : Array Slot} {z : Int32} {rest : List Value} (hret : meth.sig.returnType = some t) (ht : t = .boolean ∨ t = .byte ∨ t = .char ∨ t = .short) (hlocks : meth.locks = false) (hd : decode c.code pc = .ok (.ireturn, 1))
    (hQ : Q (some (.int (nar t z))) T.heap locs) (hk : cells ≤ k) (hn : slots ≤ n) : own_G p e below (own_P s Q k n) (T.setTop (mkF m pc Ls (.int z :: rest))) :=
  own_ret X (fun h => by rw [hret] at h; cases h) hlocks (fun fs hr => retN X hx hret ht hd hr) hQ hk hn
theorem own_retL {Q : Option Value → Heap → List Loc → Prop} {k n : Nat} (X : Stand p l e R s m args below meth c T locs cells slots) (hx : p.tables.exec = Jvm.exec) {pc : Nat} {Ls : Array Slot} {z : Int64} (hret : meth.sig.returnType = some .long) (hlocks : meth.locks = false) (hd : decode c.code pc = .ok (.lreturn, 1))
    (hQ : Q (some (.long z)) T.heap locs) (hk : cells ≤ k) (hn : slots ≤ n) : own_G p e below (own_P s Q k n) (T.setTop (mkF m pc Ls [.long z])) :=
  own_ret X (fun h => by rw [hret] at h; cases h) hlocks (fun fs hr => X.lreturnOut hx hret hd hr) hQ hk hn
theorem own_retV {Q : Option Value → Heap → List Loc → Prop} {k n : Nat} (X : Stand p l e R s m args below meth c T locs cells slots) (hx : p.tables.exec = Jvm.exec) {pc : Nat} {Ls : Array Slot} (hret : meth.sig.returnType = none) (hlocks : meth.locks = false) (hd : decode c.code pc = .ok (.return_, 1))
    (hQ : Q none T.heap locs) (hk : cells ≤ k) (hn : slots ≤ n) : own_G p e below (own_P s Q k n) (T.setTop (mkF m pc Ls [])) :=
  own_ret X (fun _ => rfl) hlocks (fun fs hr => X.returnOut hx hret hd hr) hQ hk hn
theorem own_retA {Q : Option Value → Heap → List Loc → Prop} {k n : Nat} {t : FieldType} {v : Value} (X : Stand p l e R s m args below meth c T locs cells slots) (hx : p.tables.exec = Jvm.exec) {pc : Nat} {Ls : Array Slot} {rest : List Value} (hret : meth.sig.returnType = some t) (ht : t.isReference = true) (hv : v.isRef = true) (hlocks : meth.locks = false) (hd : decode c.code pc = .ok (.areturn, 1))
    (hQ : Q (some v) T.heap locs) (hk : cells ≤ k) (hn : slots ≤ n) : own_G p e below (own_P s Q k n) (T.setTop (mkF m pc Ls (v :: rest))) := by
  refine own_ret X (fun h => by rw [hret] at h; cases h) hlocks (fun fs hr => ?_) hQ hk hn
  have hm' : T.vm.method? m = some meth := X.method'
  show Steps p.tables e below (T.setTop { method := m, pc := pc, locals := Ls, stack := _ :: rest, locked := none }) _
  jvm_step X.here [X.here.top, hx, hd, hm', hret, ht, hv]
  first | (intro acts; rw [hr _ acts rfl rfl rfl]) | rw [hr _ _ rfl rfl rfl]
  exact Steps.refl _
/-- a static method by its contract -/
theorem own_callS {own : String} {index : Nat} {y : MethodName} {bytes : ByteArray} {maxL W : Nat} {ret : Option FieldType} {rm : Room} {as : Array Value} {Q : Option Value → Heap → List Loc → Prop}
    (X : Stand p l e R s m args below meth c T locs cells slots) (hx : p.tables.exec = Jvm.exec) (hZ : Z.Warmed39 s.vm) (hown : s.vm.findClass own = some m.cls)
    (w1 : (Jvm.Cond.methodLink own index y).before a0 Z = true) (w2 : (Jvm.Cond.static y).before a0 Z = true) (w3 : (Jvm.Cond.initialized y.cls).before a0 Z = true) (w4 : (Jvm.Cond.code y bytes maxL ret).before a0 Z = true)
    (hy : y.cls ≠ "java/lang/invoke/MethodHandle" ∧ y.cls ≠ "java/lang/invoke/VarHandle") (hM : own_C l Z y bytes maxL ret [] rm as h0 Q)
    (hf : rm.frames + 1 ≤ R.frames) (hl : W + (maxL + 11) + rm.locals ≤ R.locals) (hcc : cells + rm.cells ≤ R.cells) (hss : slots + rm.slots ≤ R.slots) (e0 : T.heap = h0)
    {pc : Nat} {Ls : Array Slot} {st argsL rest : List Value} (hsize : Ls.size = c.maxLocals) (hlen : ∀ sig, parseMethodDescriptor y.desc = some sig → argsL.length = sig.parameters.length) (has : argsL.toArray = as)
    (hst : st = argsL.reverse ++ rest) (hW : 2 * 0 + (rest.map fun v => v.category).sum ≤ W) (hd : decode c.code pc = .ok (.invokestatic index, 3)) :
    ∃ (v : Option Value) (T' : State) (L : List Loc), Stand p l e R s m args below meth c T' (locs ++ L) (cells + rm.cells) (slots + rm.slots) ∧ Q v T'.heap L ∧
      ∀ target, Steps p.tables e below (T'.setTop (mkF m (pc + 3) Ls (v.toList ++ rest))) target → Steps p.tables e below (T.setTop (mkF m pc Ls st)) target := by
  obtain ⟨v, _, ⟨T', L', k', n'⟩, -, X', ⟨Lc, hQ, h1, h2, h3⟩, stp⟩ := Jvm.LawKit.callS X hx (y := y) hown (mvT hZ w1) (mvT hZ w2) (mvT hZ w3) (mvT hZ w4) hy
    (backOf (W := W) hM hZ w4 w3 hf hl) (g := mkF m pc Ls st) rfl hsize (argsL := argsL) (rest := rest) hlen hst hW hd (fun _ _ => ⟨has, e0, hcc, hss⟩)
  dsimp only [Pt.U, Pt.locs, Pt.cells, Pt.slots] at X' h1 h2 h3 stp hQ
  subst h1 h2 h3
  exact ⟨v, T', Lc, X', hQ, stp⟩
/-- a static method that leaves the heap as it was -/
theorem own_callP {own : String} {index : Nat} {y : MethodName} {bytes : ByteArray} {maxL W : Nat} {ret : Option FieldType} {rm : Room} {as : Array Value} {w : Value}
    (X : Stand p l e R s m args below meth c T locs cells slots) (hx : p.tables.exec = Jvm.exec) (hZ : Z.Warmed39 s.vm) (hown : s.vm.findClass own = some m.cls)
    (w1 : (Jvm.Cond.methodLink own index y).before a0 Z = true) (w2 : (Jvm.Cond.static y).before a0 Z = true) (w3 : (Jvm.Cond.initialized y.cls).before a0 Z = true) (w4 : (Jvm.Cond.code y bytes maxL ret).before a0 Z = true)
    (hy : y.cls ≠ "java/lang/invoke/MethodHandle" ∧ y.cls ≠ "java/lang/invoke/VarHandle") (hM : own_C l Z y bytes maxL ret [] rm as h0 (own_Q w h0))
    (hf : rm.frames + 1 ≤ R.frames) (hl : W + (maxL + 11) + rm.locals ≤ R.locals) (hrc : rm.cells = 0) (hrs : rm.slots = 0) (hcc : cells + rm.cells ≤ R.cells) (hss : slots + rm.slots ≤ R.slots) (e0 : T.heap = h0)
    {pc : Nat} {Ls : Array Slot} {st argsL rest : List Value} (hsize : Ls.size = c.maxLocals) (hlen : ∀ sig, parseMethodDescriptor y.desc = some sig → argsL.length = sig.parameters.length) (has : argsL.toArray = as)
    (hst : st = argsL.reverse ++ rest) (hW : 2 * 0 + (rest.map fun v => v.category).sum ≤ W) (hd : decode c.code pc = .ok (.invokestatic index, 3)) :
    ∃ (T' : State), Stand p l e R s m args below meth c T' locs cells slots ∧ T'.heap = h0 ∧
      ∀ target, Steps p.tables e below (T'.setTop (mkF m (pc + 3) Ls (w :: rest))) target → Steps p.tables e below (T.setTop (mkF m pc Ls st)) target := by
  obtain ⟨v, T', L, X', ⟨rfl, rfl, hh⟩, stp⟩ := own_callS X hx hZ hown w1 w2 w3 w4 hy hM hf hl hcc hss e0 hsize hlen has hst hW hd
  rw [List.append_nil, hrc, hrs] at X'
  exact ⟨T', X', hh, stp⟩
theorem own_b1 {x a : Int32} (h : x < a) : x.toInt ≤ a.toInt - 1 := by rw [Int32.lt_iff_toInt_lt] at h; omega
theorem own_b2 {x a : Int32} (h : ¬ x < a) : a.toInt ≤ x.toInt := by rw [Int32.lt_iff_toInt_lt] at h; omega
theorem own_b3 {x a : Int32} (h : a < x) : a.toInt + 1 ≤ x.toInt := by rw [Int32.lt_iff_toInt_lt] at h; omega
theorem own_b4 {x a : Int32} (h : ¬ a < x) : x.toInt ≤ a.toInt := by rw [Int32.lt_iff_toInt_lt] at h; omega
theorem own_b5 {x b : Int32} {k : Int} (h : x.toInt ≤ k) (q : k < b.toInt) : x < b := by rw [Int32.lt_iff_toInt_lt]; omega
theorem own_b6 {x b : Int32} {k : Int} (h : k ≤ x.toInt) (q : b.toInt ≤ k) : ¬ x < b := by rw [Int32.lt_iff_toInt_lt]; omega
theorem own_b7 {x b : Int32} {k : Int} (h : k ≤ x.toInt) (q : b.toInt < k) : b < x := by rw [Int32.lt_iff_toInt_lt]; omega
theorem own_b8 {x b : Int32} {k : Int} (h : x.toInt ≤ k) (q : k ≤ b.toInt) : ¬ b < x := by rw [Int32.lt_iff_toInt_lt]; omega
theorem own_b9 {x b : Int32} {k : Int} (h : x.toInt ≤ k) (q : k < b.toInt) : ¬ x = b := fun e => by subst e; omega
theorem own_b10 {x b : Int32} {k : Int} (h : k ≤ x.toInt) (q : b.toInt < k) : ¬ x = b := fun e => by subst e; omega
theorem own_q1 {x a b : Int32} (h : x = a) (q : a < b) : x < b := h ▸ q
theorem own_q2 {x a b : Int32} (h : x = a) (q : ¬ a < b) : ¬ x < b := h ▸ q
theorem own_q3 {x a b : Int32} (h : x = a) (q : b < a) : b < x := h ▸ q
theorem own_q4 {x a b : Int32} (h : x = a) (q : ¬ b < a) : ¬ b < x := h ▸ q
theorem own_q5 {x a b : Int32} (h : x = a) (q : a = b) : x = b := h ▸ q
theorem own_q6 {x a b : Int32} (h : x = a) (q : ¬ a = b) : ¬ x = b := h ▸ q
end OwnKit
section OwnHeap
variable {p : Program} {l : Launch} {e : Env} {R : Room} {s : State} {m : MethodId} {args : Array Value} {below : List Frame} {meth : Method} {c : Code} {T : State} {locs : List Loc} {cells slots : Nat} {Z : State} {a0 : Array Value} {h0 h : Heap} {n0 : Nat}
/-- the writes lie at or above n0, and q says the rest -/
def own_W (n0 : Nat) (q : Option Value → Heap → Prop) : Option Value → Heap → List Loc → Prop := fun v h L => Fr n0 L ∧ q v h
theorem own_newA (X : Stand p l e R s m args below meth c T locs cells slots) (hx : p.tables.exec = Jvm.exec) (hZ : Z.Warmed39 s.vm) {aty : ArrayType} (w : (Jvm.Cond.arrayClass (newarray.typeOf aty)).before a0 Z = true) (eT : T.heap = h) {pc : Nat} {Ls : Array Slot} (hd : decode c.code pc = .ok (.newarray aty, 2)) {n : Int32} {rest : List Value}
    (hn : ¬ n < 0) {cap : Nat} (hcap : n.toNatClampNeg ≤ cap) (hb : cap * 8 ≤ 536870912) (hc : cells + 1 ≤ R.cells) (hl : slots + cap ≤ R.slots) (len : Nat) {ad : String} (had : "[" ++ (newarray.typeOf aty).toString = ad) :
    ∃ T' h' k a, Stand p l e R s m args below meth c T' locs (cells + 1) (slots + cap) ∧ T'.heap = h' ∧ Ext h h' ∧ a = h.size ∧ Arv Z h' a k (newarray.typeOf aty) n (List.replicate len (defaultValue (newarray.typeOf aty))) (defaultValue (newarray.typeOf aty)) ∧ Exa Z h' a ad ∧
      ∀ target, Steps p.tables e below (T'.setTop (mkF m (pc + 2) Ls (.ref a :: rest))) target → Steps p.tables e below (T.setTop (mkF m pc Ls (.int n :: rest))) target := by
  obtain ⟨T', h', k, X', e', E, A, Ex, st⟩ := newPE X hx hZ w eT (g := mkF m pc Ls (.int n :: rest)) rfl hd rfl hn hcap hb hc hl had
  exact ⟨T', h', k, h.size, X', e', E, rfl, (Arv.new A hn).pad (fun i => by have := pad_rep [] (defaultValue (newarray.typeOf aty)) len i; rwa [List.nil_append] at this), Ex, st⟩
theorem own_stB (X : Stand p l e R s m args below meth c T locs cells slots) (N : Fr n0 locs) (hx : p.tables.exec = Jvm.exec) (hZ : Z.Warmed39 s.vm) (eT : T.heap = h) {a : Addr} {k : ClassId} {z : Int32} {vs : List Value} {d : Value} (V : Arv Z h a k .byte z vs d) (ga : n0 ≤ a) {j x : Int32} {i : Nat} (hj : ¬ j < 0 ∧ j < z) (hi : j.toNatClampNeg = i) (hl : i < vs.length)
    {pc : Nat} {Ls : Array Slot} {rest : List Value} (hd : decode c.code pc = .ok (.bastore, 1)) :
    ∃ T' h' L', Stand p l e R s m args below meth c T' L' cells slots ∧ Fr n0 L' ∧ T'.heap = h' ∧ Wr h h' a i (.int x.toInt8.toInt32) ∧ Arv Z h' a k .byte z (vs.set i (.int x.toInt8.toInt32)) d ∧
      ∀ target, Steps p.tables e below (T'.setTop (mkF m (pc + 1) Ls rest)) target → Steps p.tables e below (T.setTop (mkF m pc Ls (.int x :: .int j :: .ref a :: rest))) target := by
  obtain ⟨cl, Ar, q, S, Nn, H, G⟩ := V
  obtain ⟨T', h', X', e', W, st⟩ := stB X hx hZ eT Ar (j := j) (x := x) (inb_of S hj) (g := mkF m pc Ls (.int x :: .int j :: .ref a :: rest)) rfl rfl hd
  subst hi
  exact ⟨T', h', _, X', Fr.snoc X' N ga, e', W, Arv.set Ar q S Nn H G (fits_nar_byte x) W _ rfl hl, st⟩
theorem own_stI (X : Stand p l e R s m args below meth c T locs cells slots) (N : Fr n0 locs) (hx : p.tables.exec = Jvm.exec) (hZ : Z.Warmed39 s.vm) (eT : T.heap = h) {a : Addr} {k : ClassId} {z : Int32} {vs : List Value} {d : Value} (V : Arv Z h a k .int z vs d) (ga : n0 ≤ a) {j x : Int32} {i : Nat} (hj : ¬ j < 0 ∧ j < z) (hi : j.toNatClampNeg = i) (hl : i < vs.length)
    {pc : Nat} {Ls : Array Slot} {rest : List Value} (hd : decode c.code pc = .ok (.iastore, 1)) :
    ∃ T' h' L', Stand p l e R s m args below meth c T' L' cells slots ∧ Fr n0 L' ∧ T'.heap = h' ∧ Wr h h' a i (.int x) ∧ Arv Z h' a k .int z (vs.set i (.int x)) d ∧
      ∀ target, Steps p.tables e below (T'.setTop (mkF m (pc + 1) Ls rest)) target → Steps p.tables e below (T.setTop (mkF m pc Ls (.int x :: .int j :: .ref a :: rest))) target := by
  obtain ⟨cl, Ar, q, S, Nn, H, G⟩ := V
  obtain ⟨T', h', X', e', W, st⟩ := stI X hx hZ eT Ar (j := j) (x := x) (inb_of S hj) (g := mkF m pc Ls (.int x :: .int j :: .ref a :: rest)) rfl rfl hd
  subst hi
  exact ⟨T', h', _, X', Fr.snoc X' N ga, e', W, Arv.set Ar q S Nn H G rfl W _ rfl hl, st⟩
theorem own_stC (X : Stand p l e R s m args below meth c T locs cells slots) (N : Fr n0 locs) (hx : p.tables.exec = Jvm.exec) (hZ : Z.Warmed39 s.vm) (eT : T.heap = h) {a : Addr} {k : ClassId} {z : Int32} {vs : List Value} {d : Value} (V : Arv Z h a k .char z vs d) (ga : n0 ≤ a) {j x : Int32} {i : Nat} (hj : ¬ j < 0 ∧ j < z) (hi : j.toNatClampNeg = i) (hl : i < vs.length)
    {pc : Nat} {Ls : Array Slot} {rest : List Value} (hd : decode c.code pc = .ok (.castore, 1)) :
    ∃ T' h' L', Stand p l e R s m args below meth c T' L' cells slots ∧ Fr n0 L' ∧ T'.heap = h' ∧ Wr h h' a i (.int (nar .char x)) ∧ Arv Z h' a k .char z (vs.set i (.int (nar .char x))) d ∧
      ∀ target, Steps p.tables e below (T'.setTop (mkF m (pc + 1) Ls rest)) target → Steps p.tables e below (T.setTop (mkF m pc Ls (.int x :: .int j :: .ref a :: rest))) target := by
  obtain ⟨cl, Ar, q, S, Nn, H, G⟩ := V
  obtain ⟨T', h', X', e', W, st⟩ := stC X hx hZ eT Ar (j := j) (x := x) (inb_of S hj) (g := mkF m pc Ls (.int x :: .int j :: .ref a :: rest)) rfl rfl hd
  subst hi
  exact ⟨T', h', _, X', Fr.snoc X' N ga, e', W, Arv.set Ar q S Nn H G (fits_nar_char x) W _ rfl hl, st⟩
theorem own_ldB (X : Stand p l e R s m args below meth c T locs cells slots) (hx : p.tables.exec = Jvm.exec) (hZ : Z.Warmed39 s.vm) (eT : T.heap = h) {a : Addr} {k : ClassId} {z : Int32} {vs : List Value} {d v : Value} (V : Arv Z h a k .byte z vs d) {j : Int32} (hj : ¬ j < 0 ∧ j < z) (hv : vs.getD j.toNatClampNeg d = v)
    {pc : Nat} {Ls : Array Slot} {rest : List Value} (hd : decode c.code pc = .ok (.baload, 1)) (target : State) (hr : Steps p.tables e below (T.setTop (mkF m (pc + 1) Ls (v :: rest))) target) : Steps p.tables e below (T.setTop (mkF m pc Ls (.int j :: .ref a :: rest))) target := by
  obtain ⟨cl, Ar, q, S, Nn, H, G⟩ := V
  have hin := inb_of S hj
  refine X.baloadBytes hx (j := j) (v := v) (by rw [eT]; exact Ar.1) (State.isArrayOf_alike hZ.alike Ar.2.1) Ar.2.2 hin ?_ (g := mkF m pc Ls (.int j :: .ref a :: rest)) rfl rfl hd _ hr
  rw [H _ (Nat.lt_of_not_le fun q => hin (Or.inr q)), hv]
theorem own_ldI (X : Stand p l e R s m args below meth c T locs cells slots) (hx : p.tables.exec = Jvm.exec) (hZ : Z.Warmed39 s.vm) (eT : T.heap = h) {a : Addr} {k : ClassId} {z : Int32} {vs : List Value} {d v : Value} (V : Arv Z h a k .int z vs d) {j : Int32} (hj : ¬ j < 0 ∧ j < z) (hv : vs.getD j.toNatClampNeg d = v)
    {pc : Nat} {Ls : Array Slot} {rest : List Value} (hd : decode c.code pc = .ok (.iaload, 1)) (target : State) (hr : Steps p.tables e below (T.setTop (mkF m (pc + 1) Ls (v :: rest))) target) : Steps p.tables e below (T.setTop (mkF m pc Ls (.int j :: .ref a :: rest))) target := by
  obtain ⟨cl, Ar, q, S, Nn, H, G⟩ := V
  have hin := inb_of S hj
  refine X.iaload hx (j := j) (v := v) (by rw [eT]; exact Ar.1) (State.isArrayOf_alike hZ.alike Ar.2.1) Ar.2.2 hin ?_ (g := mkF m pc Ls (.int j :: .ref a :: rest)) rfl rfl hd _ hr
  rw [H _ (Nat.lt_of_not_le fun q => hin (Or.inr q)), hv]
theorem own_ldC (X : Stand p l e R s m args below meth c T locs cells slots) (hx : p.tables.exec = Jvm.exec) (hZ : Z.Warmed39 s.vm) (eT : T.heap = h) {a : Addr} {k : ClassId} {z : Int32} {vs : List Value} {d v : Value} (V : Arv Z h a k .char z vs d) {j : Int32} (hj : ¬ j < 0 ∧ j < z) (hv : vs.getD j.toNatClampNeg d = v)
    {pc : Nat} {Ls : Array Slot} {rest : List Value} (hd : decode c.code pc = .ok (.caload, 1)) (target : State) (hr : Steps p.tables e below (T.setTop (mkF m (pc + 1) Ls (v :: rest))) target) : Steps p.tables e below (T.setTop (mkF m pc Ls (.int j :: .ref a :: rest))) target := by
  obtain ⟨cl, Ar, q, S, Nn, H, G⟩ := V
  have hin := inb_of S hj
  refine X.caload hx (j := j) (v := v) (by rw [eT]; exact Ar.1) (State.isArrayOf_alike hZ.alike Ar.2.1) Ar.2.2 hin ?_ (g := mkF m pc Ls (.int j :: .ref a :: rest)) rfl rfl hd _ hr
  rw [H _ (Nat.lt_of_not_le fun q => hin (Or.inr q)), hv]
theorem own_len (X : Stand p l e R s m args below meth c T locs cells slots) (hx : p.tables.exec = Jvm.exec) (hZ : Z.Warmed39 s.vm) (eT : T.heap = h) {a : Addr} {k : ClassId} {ty : FieldType} {z : Int32} {vs : List Value} {d : Value} (V : Arv Z h a k ty z vs d)
    {pc : Nat} {Ls : Array Slot} {rest : List Value} (hd : decode c.code pc = .ok (.arraylength, 1)) (target : State) (hr : Steps p.tables e below (T.setTop (mkF m (pc + 1) Ls (.int z :: rest))) target) : Steps p.tables e below (T.setTop (mkF m pc Ls (.ref a :: rest))) target := by
  obtain ⟨cl, Ar, q, S, Nn, H, G⟩ := V
  refine X.arraylength hx (by rw [eT]; exact Ar.1) (State.isArrayOf_alike hZ.alike Ar.2.1) (g := mkF m pc Ls (.ref a :: rest)) rfl rfl hd _ ?_
  rw [len_of S Nn]
  exact hr
/-- an array cloned -/
theorem own_clone (X : Stand p l e R s m args below meth c T locs cells slots) (hx : p.tables.exec = Jvm.exec) (hZ : Z.Warmed39 s.vm) {own ad : String} {index : Nat} (hown : s.vm.findClass own = some m.cls)
    (w1 : (Jvm.Cond.methodLink own index ⟨ad, "clone", "()Ljava/lang/Object;"⟩).before a0 Z = true) (w2 : (Jvm.Cond.sameMethod ad "java/lang/Object" "clone" "()Ljava/lang/Object;").before a0 Z = true) (w3 : (Jvm.Cond.native ⟨"java/lang/Object", "clone", "()Ljava/lang/Object;"⟩).before a0 Z = true)
    (w4 : (Jvm.Cond.instanceMethod ⟨"java/lang/Object", "clone", "()Ljava/lang/Object;"⟩).before a0 Z = true) (w5 : (Jvm.Cond.selects ad ⟨ad, "clone", "()Ljava/lang/Object;"⟩ ⟨"java/lang/Object", "clone", "()Ljava/lang/Object;"⟩).before a0 Z = true) (w6 : (Jvm.Cond.castable ad "java/lang/Cloneable").before a0 Z = true)
    (eT : T.heap = h) {a : Addr} {k : ClassId} {ty : FieldType} {z : Int32} {vs : List Value} {dv : Value} (F : Arv Z h a k ty z vs dv) (E : Exa Z h a ad) {pc : Nat} {Ls : Array Slot} {rest : List Value} (hsize : Ls.size = c.maxLocals) (hd : decode c.code pc = .ok (.invokevirtual index, 3))
    (hf : 1 ≤ R.frames) {W cap : Nat} (hW : 2 * 0 + (rest.map fun v => v.category).sum ≤ W) (hl : W + 14 ≤ R.locals) (hcap : z.toNatClampNeg ≤ cap) (hc : cells + 1 ≤ R.cells) (hsl : slots + cap ≤ R.slots) :
    ∃ T' h' b, Stand p l e R s m args below meth c T' locs (cells + 1) (slots + cap) ∧ T'.heap = h' ∧ Ext h h' ∧ b = h.size ∧ Arv Z h' b k ty z vs dv ∧ Exa Z h' b ad ∧
      ∀ target, Steps p.tables e below (T'.setTop (mkF m (pc + 3) Ls (.ref b :: rest))) target → Steps p.tables e below (T.setTop (mkF m pc Ls (.ref a :: rest))) target := by
  obtain ⟨T', h', X', e', ex, V, E', st⟩ := cloneH X hx hZ hown w1 w2 w3 w4 w5 w6 eT F.arh E (g := mkF m pc Ls (.ref a :: rest)) rfl hsize rfl hd hf hW hl hcap hc hsl
  exact ⟨T', h', h.size, X', e', ex, rfl, V, E', st⟩
/-- a field written -/
theorem own_putF (X : Stand p l e R s m args below meth c T locs cells slots) (N : Fr n0 locs) (hx : p.tables.exec = Jvm.exec) (hZ : Z.Warmed39 s.vm) {own O n d C : String} {index kk : Nat} {ty : FieldType} (hown : s.vm.findClass own = some m.cls) (w : (Jvm.Cond.fieldLink own index O n d).before a0 Z = true)
    (eT : T.heap = h) {a : Addr} {v old : Value} (F : Fld Z h a O n d old) (E : Exa Z h a C) (L : (Jvm.Cond.lays C O n d).before a0 Z = true ∨ ((Jvm.Cond.laysFinal C O n d).before a0 Z = true ∧ own = O ∧ meth.name = "<init>")) (wi : (Jvm.Cond.instantiable C kk).before a0 Z = true) (ga : n0 ≤ a)
    (hty : parseFieldDescriptor d = some ty) (hn : narrow ty v = v) (hf : fits ty v = true) {pc : Nat} {Ls : Array Slot} {rest : List Value} (hd : decode c.code pc = .ok (.putfield index, 3)) :
    ∃ T' h' L', Stand p l e R s m args below meth c T' L' cells slots ∧ Fr n0 L' ∧ T'.heap = h' ∧ Wr h h' a (Jvm.RoadKit.slotOf Z O n d) v ∧ Fld Z h' a O n d v ∧
      ∀ target, Steps p.tables e below (T'.setTop (mkF m (pc + 3) Ls rest)) target → Steps p.tables e below (T.setTop (mkF m pc Ls (v :: .ref a :: rest))) target := by
  obtain ⟨T', h', X', e', W, st⟩ := putF X hx hZ hown (host := "") (Or.inl w) Via.refl eT F E L wi hty hn hf (g := mkF m pc Ls (v :: .ref a :: rest)) rfl rfl hd
  exact ⟨T', h', _, X', Fr.snoc X' N ga, e', W, F.same W, st⟩
theorem own_putFN (X : Stand p l e R s m args below meth c T locs cells slots) (N : Fr n0 locs) (hx : p.tables.exec = Jvm.exec) (hZ : Z.Warmed39 s.vm) {own O n d C : String} {index kk : Nat} {ty : FieldType} (hown : s.vm.findClass own = some m.cls) (w : (Jvm.Cond.fieldLink own index O n d).before a0 Z = true)
    (eT : T.heap = h) {a : Addr} {v v' old : Value} (F : Fld Z h a O n d old) (E : Exa Z h a C) (L : (Jvm.Cond.lays C O n d).before a0 Z = true ∨ ((Jvm.Cond.laysFinal C O n d).before a0 Z = true ∧ own = O ∧ meth.name = "<init>")) (wi : (Jvm.Cond.instantiable C kk).before a0 Z = true) (ga : n0 ≤ a)
    (hty : parseFieldDescriptor d = some ty) (hn : narrow ty v = v') (hf : fits ty v' = true) {pc : Nat} {Ls : Array Slot} {rest : List Value} (hd : decode c.code pc = .ok (.putfield index, 3)) :
    ∃ T' h' L', Stand p l e R s m args below meth c T' L' cells slots ∧ Fr n0 L' ∧ T'.heap = h' ∧ Wr h h' a (Jvm.RoadKit.slotOf Z O n d) v' ∧ Fld Z h' a O n d v' ∧
      ∀ target, Steps p.tables e below (T'.setTop (mkF m (pc + 3) Ls rest)) target → Steps p.tables e below (T.setTop (mkF m pc Ls (v :: .ref a :: rest))) target := by
  obtain ⟨T', h', X', e', W, st⟩ := putFN X hx hZ hown w Via.refl eT F E L wi hty hn hf (g := mkF m pc Ls (v :: .ref a :: rest)) rfl rfl hd
  exact ⟨T', h', _, X', Fr.snoc X' N ga, e', W, F.same W, st⟩
/-- new -/
theorem own_newO (X : Stand p l e R s m args below meth c T locs cells slots) (hx : p.tables.exec = Jvm.exec) (hZ : Z.Warmed39 s.vm) {own C : String} {index n : Nat} (hown : s.vm.findClass own = some m.cls) (w : (Jvm.Cond.classLink own index C).before a0 Z = true) (wi : (Jvm.Cond.instantiable C n).before a0 Z = true) (wz : (Jvm.Cond.initialized C).before a0 Z = true) (eT : T.heap = h)
    {pc : Nat} {Ls : Array Slot} {rest : List Value} (hd : decode c.code pc = .ok (.new index, 3)) (hc : cells + 1 ≤ R.cells) (hl : slots + n ≤ R.slots) :
    ∃ T' h' a, Stand p l e R s m args below meth c T' locs (cells + 1) (slots + n) ∧ T'.heap = h' ∧ Ext h h' ∧ a = h.size ∧ Exa Z h' a C ∧ (∀ {O nm d : String} {ty : FieldType}, Laid Z a0 C O nm d → parseFieldDescriptor d = some ty → Fld Z h' a O nm d (defaultValue ty)) ∧
      ∀ target, Steps p.tables e below (T'.setTop (mkF m (pc + 3) Ls (.ref a :: rest))) target → Steps p.tables e below (T.setTop (mkF m pc Ls rest)) target := by
  obtain ⟨T', h', X', e', E, A, D, -, st⟩ := newO X hx hZ hown w wi wz eT (g := mkF m pc Ls rest) rfl hd hc hl
  exact ⟨T', h', h.size, X', e', E, rfl, A, D, st⟩
/-- a static method that may write and make -/
theorem own_callSW {own : String} {index : Nat} {y : MethodName} {bytes : ByteArray} {maxL W : Nat} {ret : Option FieldType} {rm : Room} {as : Array Value} {q : Option Value → Heap → Prop}
    (X : Stand p l e R s m args below meth c T locs cells slots) (N : Fr n0 locs) (hx : p.tables.exec = Jvm.exec) (hZ : Z.Warmed39 s.vm) (hown : s.vm.findClass own = some m.cls)
    (w1 : (Jvm.Cond.methodLink own index y).before a0 Z = true) (w2 : (Jvm.Cond.static y).before a0 Z = true) (w3 : (Jvm.Cond.initialized y.cls).before a0 Z = true) (w4 : (Jvm.Cond.code y bytes maxL ret).before a0 Z = true)
    (hy : y.cls ≠ "java/lang/invoke/MethodHandle" ∧ y.cls ≠ "java/lang/invoke/VarHandle") (hM : own_C l Z y bytes maxL ret [] rm as h (own_W n0 q))
    (hf : rm.frames + 1 ≤ R.frames) (hl : W + (maxL + 11) + rm.locals ≤ R.locals) (hcc : cells + rm.cells ≤ R.cells) (hss : slots + rm.slots ≤ R.slots) (e0 : T.heap = h)
    {pc : Nat} {Ls : Array Slot} {st argsL rest : List Value} (hsize : Ls.size = c.maxLocals) (hlen : ∀ sig, parseMethodDescriptor y.desc = some sig → argsL.length = sig.parameters.length) (has : argsL.toArray = as)
    (hst : st = argsL.reverse ++ rest) (hW : 2 * 0 + (rest.map fun v => v.category).sum ≤ W) (hd : decode c.code pc = .ok (.invokestatic index, 3)) :
    ∃ (v : Option Value) (T' : State) (h' : Heap) (L' : List Loc), Stand p l e R s m args below meth c T' L' (cells + rm.cells) (slots + rm.slots) ∧ Fr n0 L' ∧ T'.heap = h' ∧ q v h' ∧
      ∀ target, Steps p.tables e below (T'.setTop (mkF m (pc + 3) Ls (v.toList ++ rest))) target → Steps p.tables e below (T.setTop (mkF m pc Ls st)) target := by
  obtain ⟨v, T', L, X', ⟨N', hq⟩, stp⟩ := own_callS X hx hZ hown w1 w2 w3 w4 hy hM hf hl hcc hss e0 hsize hlen has hst hW hd
  exact ⟨v, T', _, _, X', N.app N', rfl, hq, stp⟩
/-- a constructor by its contract -/
theorem own_callI {own : String} {index : Nat} {y : MethodName} {bytes : ByteArray} {maxL W : Nat} {rm : Room} {as : Array Value} {q : Option Value → Heap → Prop} {a : Addr}
    (X : Stand p l e R s m args below meth c T locs cells slots) (N : Fr n0 locs) (hx : p.tables.exec = Jvm.exec) (hZ : Z.Warmed39 s.vm) (hy1 : y.name = "<init>") (hown : s.vm.findClass own = some m.cls)
    (w1 : (Jvm.Cond.methodLink own index y).before a0 Z = true) (w2 : (Jvm.Cond.instanceMethod y).before a0 Z = true) (w3 : (Jvm.Cond.initialized y.cls).before a0 Z = true) (w4 : (Jvm.Cond.code y bytes maxL none).before a0 Z = true)
    (hy : y.cls ≠ "java/lang/invoke/MethodHandle" ∧ y.cls ≠ "java/lang/invoke/VarHandle") (hM : own_C l Z y bytes maxL none [] rm as h (own_W n0 q))
    (hf : rm.frames + 1 ≤ R.frames) (hl : W + (maxL + 11) + rm.locals ≤ R.locals) (hcc : cells + rm.cells ≤ R.cells) (hss : slots + rm.slots ≤ R.slots) (e0 : T.heap = h)
    {pc : Nat} {Ls : Array Slot} {st argsL rest : List Value} (hsize : Ls.size = c.maxLocals) (hlen : ∀ sig, parseMethodDescriptor y.desc = some sig → argsL.length = sig.parameters.length) (has : (Value.ref a :: argsL).toArray = as)
    (hst : st = argsL.reverse ++ .ref a :: rest) (hW : 2 * 0 + (rest.map fun v => v.category).sum ≤ W) (hd : decode c.code pc = .ok (.invokespecial index, 3)) :
    ∃ (v : Option Value) (T' : State) (h' : Heap) (L' : List Loc), Stand p l e R s m args below meth c T' L' (cells + rm.cells) (slots + rm.slots) ∧ Fr n0 L' ∧ T'.heap = h' ∧ q v h' ∧
      ∀ target, Steps p.tables e below (T'.setTop (mkF m (pc + 3) Ls (v.toList ++ rest))) target → Steps p.tables e below (T.setTop (mkF m pc Ls st)) target := by
  obtain ⟨v, _, ⟨T', L', k', n'⟩, -, X', ⟨Lc, ⟨N', hq⟩, h1, h2, h3⟩, stp⟩ := X.specialBack hx (y := y) hy1 hown (mvT hZ w1) (mvT hZ w2) (mvT hZ w4) hy
    (backOf (W := W) hM hZ w4 w3 hf hl) (g := mkF m pc Ls st) rfl hsize (Steps.refl _) (a := a) (argsL := argsL) (rest := rest) hlen hst hW hd (fun _ _ => ⟨has, e0, hcc, hss⟩)
  dsimp only [Pt.U, Pt.locs, Pt.cells, Pt.slots] at X' h1 h2 h3 stp hq
  subst h1 h2 h3
  exact ⟨v, T', _, _, X', N.app N', rfl, hq, fun t k => stp.trans k⟩
/-- an instance method by its contract -/
theorem own_callV {own C : String} {index : Nat} {y z : MethodName} {bytes : ByteArray} {maxL W : Nat} {ret : Option FieldType} {rm : Room} {as : Array Value} {q : Option Value → Heap → Prop} {a : Addr}
    (X : Stand p l e R s m args below meth c T locs cells slots) (N : Fr n0 locs) (hx : p.tables.exec = Jvm.exec) (hZ : Z.Warmed39 s.vm) (hown : s.vm.findClass own = some m.cls)
    (w1 : (Jvm.Cond.methodLink own index y).before a0 Z = true) (w2 : (Jvm.Cond.declares y).before a0 Z = true) (hnf : NotFace s y) (ws : (Jvm.Cond.selects C y z).before a0 Z = true) (wi : (Jvm.Cond.instanceMethod z).before a0 Z = true) (w3 : (Jvm.Cond.initialized z.cls).before a0 Z = true) (w4 : (Jvm.Cond.code z bytes maxL ret).before a0 Z = true)
    (hy : y.cls ≠ "java/lang/invoke/MethodHandle" ∧ y.cls ≠ "java/lang/invoke/VarHandle") (hM : own_C l Z z bytes maxL ret [] rm as h (own_W n0 q))
    (hf : rm.frames + 1 ≤ R.frames) (hl : W + (maxL + 11) + rm.locals ≤ R.locals) (hcc : cells + rm.cells ≤ R.cells) (hss : slots + rm.slots ≤ R.slots) (e0 : T.heap = h) (E : Exa Z h a C)
    {pc : Nat} {Ls : Array Slot} {st argsL rest : List Value} (hsize : Ls.size = c.maxLocals) (hlen : ∀ sig, parseMethodDescriptor y.desc = some sig → argsL.length = sig.parameters.length) (has : (Value.ref a :: argsL).toArray = as)
    (hst : st = argsL.reverse ++ .ref a :: rest) (hW : 2 * 0 + (rest.map fun v => v.category).sum ≤ W) (hd : decode c.code pc = .ok (.invokevirtual index, 3)) :
    ∃ (v : Option Value) (T' : State) (h' : Heap) (L' : List Loc), Stand p l e R s m args below meth c T' L' (cells + rm.cells) (slots + rm.slots) ∧ Fr n0 L' ∧ T'.heap = h' ∧ q v h' ∧
      ∀ target, Steps p.tables e below (T'.setTop (mkF m (pc + 3) Ls (v.toList ++ rest))) target → Steps p.tables e below (T.setTop (mkF m pc Ls st)) target := by
  obtain ⟨cq, kq, qa, qb, qc⟩ := isOf hZ e0 E
  obtain ⟨v, _, ⟨T', L', k', n'⟩, -, X', ⟨Lc, ⟨N', hq⟩, h1, h2, h3⟩, stp⟩ := X.virtualBack hx (y := y) (z := z) hown (mvT hZ w1) (mvT hZ w2) hnf (mvT hZ ws) (mvT hZ wi) hy
    (backOf (W := W) hM hZ w4 w3 hf hl) qa qc (g := mkF m pc Ls st) rfl hsize (Steps.refl _) (argsL := argsL) (rest := rest) hlen hst hW hd (fun _ _ => ⟨has, e0, hcc, hss⟩)
  dsimp only [Pt.U, Pt.locs, Pt.cells, Pt.slots] at X' h1 h2 h3 stp hq
  subst h1 h2 h3
  exact ⟨v, T', _, _, X', N.app N', rfl, hq, fun t k => stp.trans k⟩
/-- an instance method that leaves the heap as it was -/
theorem own_callVP {own C : String} {index : Nat} {y z : MethodName} {bytes : ByteArray} {maxL W : Nat} {ret : Option FieldType} {rm : Room} {as : Array Value} {w : Value} {a : Addr}
    (X : Stand p l e R s m args below meth c T locs cells slots) (hx : p.tables.exec = Jvm.exec) (hZ : Z.Warmed39 s.vm) (hown : s.vm.findClass own = some m.cls)
    (w1 : (Jvm.Cond.methodLink own index y).before a0 Z = true) (w2 : (Jvm.Cond.declares y).before a0 Z = true) (hnf : NotFace s y) (ws : (Jvm.Cond.selects C y z).before a0 Z = true) (wi : (Jvm.Cond.instanceMethod z).before a0 Z = true) (w3 : (Jvm.Cond.initialized z.cls).before a0 Z = true) (w4 : (Jvm.Cond.code z bytes maxL ret).before a0 Z = true)
    (hy : y.cls ≠ "java/lang/invoke/MethodHandle" ∧ y.cls ≠ "java/lang/invoke/VarHandle") (hM : own_C l Z z bytes maxL ret [] rm as h (own_Q w h))
    (hf : rm.frames + 1 ≤ R.frames) (hl : W + (maxL + 11) + rm.locals ≤ R.locals) (hrc : rm.cells = 0) (hrs : rm.slots = 0) (hcc : cells + rm.cells ≤ R.cells) (hss : slots + rm.slots ≤ R.slots) (e0 : T.heap = h) (E : Exa Z h a C)
    {pc : Nat} {Ls : Array Slot} {st argsL rest : List Value} (hsize : Ls.size = c.maxLocals) (hlen : ∀ sig, parseMethodDescriptor y.desc = some sig → argsL.length = sig.parameters.length) (has : (Value.ref a :: argsL).toArray = as)
    (hst : st = argsL.reverse ++ .ref a :: rest) (hW : 2 * 0 + (rest.map fun v => v.category).sum ≤ W) (hd : decode c.code pc = .ok (.invokevirtual index, 3)) :
    ∃ (T' : State), Stand p l e R s m args below meth c T' locs cells slots ∧ T'.heap = h ∧
      ∀ target, Steps p.tables e below (T'.setTop (mkF m (pc + 3) Ls (w :: rest))) target → Steps p.tables e below (T.setTop (mkF m pc Ls st)) target := by
  obtain ⟨cq, kq, qa, qb, qc⟩ := isOf hZ e0 E
  obtain ⟨v, _, ⟨T', L', k', n'⟩, -, X', ⟨Lc, ⟨rfl, rfl, hh⟩, h1, h2, h3⟩, stp⟩ := X.virtualBack hx (y := y) (z := z) hown (mvT hZ w1) (mvT hZ w2) hnf (mvT hZ ws) (mvT hZ wi) hy
    (backOf (W := W) hM hZ w4 w3 hf hl) qa qc (g := mkF m pc Ls st) rfl hsize (Steps.refl _) (argsL := argsL) (rest := rest) hlen hst hW hd (fun _ _ => ⟨has, e0, hcc, hss⟩)
  dsimp only [Pt.U, Pt.locs, Pt.cells, Pt.slots] at X' h1 h2 h3 stp hh
  subst h1 h2 h3
  rw [List.append_nil, hrc, hrs] at X'
  exact ⟨T', X', hh, fun t k => stp.trans k⟩
theorem own_ke {h h' : Heap} (K : Keep h h' []) : Ext h h' := ⟨K.1, fun a c q => K.2.1 a c q (by simp)⟩
theorem own_ldA (X : Stand p l e R s m args below meth c T locs cells slots) (hx : p.tables.exec = Jvm.exec) (hZ : Z.Warmed39 s.vm) (eT : T.heap = h) {a : Addr} {k : ClassId} {ty : FieldType} {z : Int32} {vs : List Value} {d v : Value} (V : Arv Z h a k ty z vs d) (hty : ty.isReference = true) {j : Int32} (hj : ¬ j < 0 ∧ j < z) (hv : vs.getD j.toNatClampNeg d = v)
    {pc : Nat} {Ls : Array Slot} {rest : List Value} (hd : decode c.code pc = .ok (.aaload, 1)) (target : State) (hr : Steps p.tables e below (T.setTop (mkF m (pc + 1) Ls (v :: rest))) target) : Steps p.tables e below (T.setTop (mkF m pc Ls (.int j :: .ref a :: rest))) target := by
  obtain ⟨cl, Ar, q, S, Nn, H, G⟩ := V
  have hin := inb_of S hj
  refine X.aaload hx (j := j) (v := v) (by rw [eT]; exact Ar.1) (State.isArrayOf_alike hZ.alike Ar.2.1) hty Ar.2.2 hin ?_ (g := mkF m pc Ls (.int j :: .ref a :: rest)) rfl rfl hd _ hr
  rw [H _ (Nat.lt_of_not_le fun q => hin (Or.inr q)), hv]
end OwnHeap
theorem own_pd0 : parseMethodDescriptor "(Lcom/example/valbonne/valbonne/exposition/TextFormat$Cursor;)V" = some ⟨[(.object "com/example/valbonne/valbonne/exposition/TextFormat$Cursor")], none⟩ := by decide +kernel
theorem own_pd1 : parseMethodDescriptor "([C)V" = some ⟨[(.array .char)], none⟩ := by decide +kernel
theorem own_pd2 : parseMethodDescriptor "(Ljava/lang/String;)V" = some ⟨[(.object "java/lang/String")], none⟩ := by decide +kernel
theorem own_pd3 : parseMethodDescriptor "(II)Lcom/example/valbonne/valbonne/exposition/TextFormat$Cursor;" = some ⟨[.int, .int], some (.object "com/example/valbonne/valbonne/exposition/TextFormat$Cursor")⟩ := by decide +kernel
theorem own_pd4 : parseMethodDescriptor "()Z" = some ⟨[], some .boolean⟩ := by decide +kernel
theorem own_pd5 : parseMethodDescriptor "()V" = some ⟨[], none⟩ := by decide +kernel
theorem own_pos (p : Int32) : 0 ≤ (p &&& (2147483647 : Int32)).toInt := (c_and p 2147483647 (by decide)).1
theorem own_s {a v : Int32} (h : ((a &&& (2147483647 : Int32)) - ((a &&& (2147483647 : Int32)) / (5 : Int32)) * (5 : Int32)) = v) : 0 ≤ v.toInt ∧ v.toInt ≤ 4 := by
  subst h
  have p := own_pos a
  generalize (a &&& (2147483647 : Int32)) = x at *
  rw [irem_eq_mod]
  have h := (c_irem x 5 5 rfl).1 (by omega)
  omega
theorem own_sub5 {s : Int32} (h : 0 ≤ s.toInt ∧ s.toInt ≤ 4) : ((5 : Int32) - s).toInt = 5 - s.toInt := by
  have q := c_isub 5 s
  have r := rng32 (5 - s)
  rw [show (5 : Int32).toInt = 5 from rfl] at q
  omega
theorem own_nz5 {s : Int32} (h : 0 ≤ s.toInt ∧ s.toInt ≤ 4) : ((5 : Int32) - s) ≠ 0 := by
  intro q
  have := own_sub5 h
  rw [q, show (0 : Int32).toInt = 0 from rfl] at this
  omega
theorem own_e {b s v : Int32} (hs : 0 ≤ s.toInt ∧ s.toInt ≤ 4) (h : (s + ((b &&& (2147483647 : Int32)) - ((b &&& (2147483647 : Int32)) / ((5 : Int32) - s)) * ((5 : Int32) - s))) = v) : s.toInt ≤ v.toInt ∧ v.toInt ≤ 4 := by
  subst h
  have p := own_pos b
  have q := own_sub5 hs
  generalize (b &&& (2147483647 : Int32)) = x at *
  generalize (5 : Int32) - s = d at *
  rw [irem_eq_mod]
  have h := (c_iremV x d).1 (by omega) (by omega)
  have g := c_iadd s (x % d)
  have r := rng32 (s + x % d)
  omega
theorem own_l {s e v : Int32} (hs : 0 ≤ s.toInt ∧ s.toInt ≤ 4) (he : s.toInt ≤ e.toInt ∧ e.toInt ≤ 4) (h : (e - s) = v) : 0 ≤ v.toInt ∧ v.toInt ≤ 4 ∧ v.toInt = e.toInt - s.toInt := by
  subst h
  have q := c_isub e s
  have r := rng32 (e - s)
  omega
theorem own_add1 {n : Int32} (h : 0 ≤ n.toInt ∧ n.toInt ≤ 4) : (n + (1 : Int32)).toInt = n.toInt + 1 := by
  have q := c_iadd n 1
  have r := rng32 (n + 1)
  rw [show (1 : Int32).toInt = 1 from rfl] at q
  omega
theorem own_nz1 {n : Int32} (h : 0 ≤ n.toInt ∧ n.toInt ≤ 4) : (n + (1 : Int32)) ≠ 0 := by
  intro q
  have := own_add1 h
  rw [q, show (0 : Int32).toInt = 0 from rfl] at this
  omega
theorem own_k {c n v : Int32} (hn : 0 ≤ n.toInt ∧ n.toInt ≤ 4) (h : ((c &&& (2147483647 : Int32)) - ((c &&& (2147483647 : Int32)) / (n + (1 : Int32))) * (n + (1 : Int32))) = v) : 0 ≤ v.toInt ∧ v.toInt ≤ 4 := by
  subst h
  have p := own_pos c
  have q := own_add1 hn
  generalize (c &&& (2147483647 : Int32)) = x at *
  generalize n + (1 : Int32) = d at *
  rw [irem_eq_mod]
  have h := (c_iremV x d).1 (by omega) (by omega)
  omega
theorem own_p0 (s : Int32) : (s.toInt - (s.toInt + 0)) % 4294967296 = 0 := by omega
theorem own_p1 (s : Int32) : ((s + (1 : Int32)).toInt - (s.toInt + 1)) % 4294967296 = 0 := by
  have := c_iadd s 1
  rw [show (1 : Int32).toInt = 1 from rfl] at this
  omega
theorem own_p2 (s : Int32) : (((s + (1 : Int32)) + (1 : Int32)).toInt - (s.toInt + 2)) % 4294967296 = 0 := by
  have a := own_p1 s
  have b := own_p1 (s + 1)
  omega
theorem own_p3 (s : Int32) : ((((s + (1 : Int32)) + (1 : Int32)) + (1 : Int32)).toInt - (s.toInt + 3)) % 4294967296 = 0 := by
  have a := own_p2 s
  have b := own_p1 (s + 1 + 1)
  omega
theorem own_p4 (s : Int32) : (((((s + (1 : Int32)) + (1 : Int32)) + (1 : Int32)) + (1 : Int32)).toInt - (s.toInt + 4)) % 4294967296 = 0 := by
  have a := own_p3 s
  have b := own_p1 (s + 1 + 1 + 1)
  omega
theorem own_notz {args : Array Value} {s : State} {t : Term} {z : Int32} (h : (Jvm.Cond.not (.eq t (.int 0))).value args s none s [] = some true) (e : t.eval args s none [] s = some (.int z)) : ¬ z = 0 := by
  intro q
  subst q
  have g := not_v h
  simp [Cond.value, e, Term.eval] at g
theorem own_255 (p : Int32) : ¬ (p &&& (255 : Int32)) < 0 ∧ ¬ (255 : Int32) < (p &&& (255 : Int32)) := by
  have h := c_mask p 255 8 (by decide) (by decide)
  rw [Int32.lt_iff_toInt_lt, Int32.lt_iff_toInt_lt, show (0 : Int32).toInt = 0 from rfl, show (255 : Int32).toInt = 255 from rfl]
  omega
theorem own_d8_0 : decode prog_29_method_1_code 0 = .ok (.aload_n 0, 1) := by decide +kernel
theorem own_d8_1 : decode prog_29_method_1_code 1 = .ok (.invokespecial 1, 3) := by decide +kernel
theorem own_d8_4 : decode prog_29_method_1_code 4 = .ok (.aload_n 0, 1) := by decide +kernel
theorem own_d8_5 : decode prog_29_method_1_code 5 = .ok (.bipush 8, 2) := by decide +kernel
theorem own_d8_7 : decode prog_29_method_1_code 7 = .ok (.newarray .int, 2) := by decide +kernel
theorem own_d8_9 : decode prog_29_method_1_code 9 = .ok (.putfield 7, 3) := by decide +kernel
theorem own_d8_12 : decode prog_29_method_1_code 12 = .ok (.aload_n 0, 1) := by decide +kernel
theorem own_d8_13 : decode prog_29_method_1_code 13 = .ok (.aload_n 1, 1) := by decide +kernel
theorem own_d8_14 : decode prog_29_method_1_code 14 = .ok (.putfield 13, 3) := by decide +kernel
theorem own_d8_17 : decode prog_29_method_1_code 17 = .ok (.return_, 1) := by decide +kernel
abbrev own_ln_R : Room := { frames := 1, cells := 1, slots := 8, locals := 12 }
theorem own_pn8 : plainFor (⟨"com/example/valbonne/valbonne/exposition/TextFormat$LabelNames", "<init>", "(Lcom/example/valbonne/valbonne/exposition/TextFormat$Cursor;)V"⟩ : MethodName) = true := plainFor_of_name (by first | (simp [plainName, overriddenIn]; done) | decide +kernel)
theorem own_ln_ef (m : MethodId) (a1 : Addr) (c1 : Addr) : entryFrame m #[(.ref a1), (.ref c1)] 2 = mkF m 0 #[.val (.ref a1), .val (.ref c1)] [] := by first | (simp [entryFrame, mkF, argsToLocals, Value.category]; done) | rfl
def own_ln_q (Z : State) (a1 : Addr) (c1 : Addr) (u1 : Value) (u2 : Value) (h0 : Heap) (v : Option Value) (h : Heap) : Prop := v = none ∧ Keep h0 h [a1]
set_option maxRecDepth 65536 in
set_option maxHeartbeats 40000000 in
theorem own_ln (l : Launch) (Z : State) (a0 : Array Value) (hw : ∀ d ∈ tables_1, d.before a0 Z = true) (ws : List Jvm.Cond) (a1 : Addr) (c1 : Addr) (u1 : Value) (u2 : Value) (h0 : Heap) (n0 : Nat) (Z0 : n0 ≤ h0.size) (i_E1 : Exa Z h0 a1 "com/example/valbonne/valbonne/exposition/TextFormat$LabelNames") (i_F1 : Fld Z h0 a1 "com/example/valbonne/valbonne/exposition/TextFormat$LabelNames" "bounds" "[I" u1) (i_F2 : Fld Z h0 a1 "com/example/valbonne/valbonne/exposition/TextFormat$LabelNames" "cursor" "Lcom/example/valbonne/valbonne/exposition/TextFormat$Cursor;" u2) (g_a1 : n0 ≤ a1) :
    own_C l Z (⟨"com/example/valbonne/valbonne/exposition/TextFormat$LabelNames", "<init>", "(Lcom/example/valbonne/valbonne/exposition/TextFormat$Cursor;)V"⟩ : MethodName) prog_29_method_1_code 2 none ws own_ln_R #[(.ref a1), (.ref c1)] h0 (own_W n0 (own_ln_q Z a1 c1 u1 u2 h0)) := by
  refine MetFree.of_bodySF own_pn8 hisR ?_
  intro p e s m args below meth c s₁ Bd hml0 hP hK
  obtain ⟨rfl, hZ, hh⟩ := hP
  have hx := Bd.exec
  have hby := Bd.bytes
  have hml : c.maxLocals = 2 := hml0
  have hown : s.vm.findClass "com/example/valbonne/valbonne/exposition/TextFormat$LabelNames" = some m.cls := findClass_of_methodNamed Bd.named
  have hnm := (name_of_methodNamed Bd.named Bd.method).1
  have X0 : Stand p l e own_ln_R s m #[(.ref a1), (.ref c1)] below meth c s₁ [] 0 0 := Stand.of_body Bd
  have e0 : s₁.heap = h0 := by rw [← hh, Bd.state]; rfl
  have N0 := Fr.nil n0
  have K0 : Keep h0 h0 [a1] := Keep.refl h0 _
  show own_G p e below (own_P s (own_W n0 (own_ln_q Z a1 c1 u1 u2 h0)) own_ln_R.cells own_ln_R.slots) (s₁.setTop (entryFrame m #[(.ref a1), (.ref c1)] 2))
  rw [own_ln_ef m a1 c1]
  show own_G p e below _ (s₁.setTop (mkF m 0 #[.val (.ref a1), .val (.ref c1)] []))
  refine own_via (fun t k => XS.aloadN X0.here hx rfl (hb hby own_d8_0) rfl rfl k) ?_
  show own_G p e below _ (s₁.setTop (mkF m 1 #[.val (.ref a1), .val (.ref c1)] [(.ref a1)]))
  obtain ⟨T1, X1, e1, st1⟩ := initO X0 hx hZ hown (hw _ (List.mem_of_getElem? (i := 44) rfl)) (hw _ (List.mem_of_getElem? (i := 12) rfl)) (hw _ (List.mem_of_getElem? (i := 13) rfl)) e0 (g := (mkF m 1 #[.val (.ref a1), .val (.ref c1)] [(.ref a1)])) rfl (by rw [hml]; rfl) rfl (hb hby own_d8_1) (by decide) (W := 0) (by show 2 * 0 + _ ≤ _; exact Nat.le_of_eq rfl) (by decide)
  refine own_via st1 ?_
  show own_G p e below _ (T1.setTop (mkF m 4 #[.val (.ref a1), .val (.ref c1)] []))
  refine own_via (fun t k => XS.aloadN X1.here hx rfl (hb hby own_d8_4) rfl rfl k) ?_
  show own_G p e below _ (T1.setTop (mkF m 5 #[.val (.ref a1), .val (.ref c1)] [(.ref a1)]))
  refine own_via (fun t k => XS.bipush X1.here hx rfl (hb hby own_d8_5) k) ?_
  show own_G p e below _ (T1.setTop (mkF m 7 #[.val (.ref a1), .val (.ref c1)] [(.int (8 : Int32)), (.ref a1)]))
  obtain ⟨T2, h2, k2, b2, X2, e2, E2, ga2, V2, Ex2, st2⟩ := own_newA X1 hx hZ (hw _ (List.mem_of_getElem? (i := 45) rfl)) e1 (pc := 7) (Ls := #[.val (.ref a1), .val (.ref c1)]) (rest := [(.ref a1)]) (hb hby own_d8_7) (n := (8 : Int32)) (by decide) (cap := 8) (by decide) (by decide) (by decide) (by decide) 8 rfl
  refine own_via st2 ?_
  have sz_b2 : h0.size ≤ b2 := Nat.le_trans K0.1 (Nat.le_of_eq ga2.symm)
  have ne3 : a1 ≠ b2 := Nat.ne_of_lt (Nat.lt_of_lt_of_le i_E1.lt (Nat.le_of_eq ga2.symm))
  have f4 : Exa Z h2 a1 "com/example/valbonne/valbonne/exposition/TextFormat$LabelNames" := i_E1.ext E2
  have f5 : Fld Z h2 a1 "com/example/valbonne/valbonne/exposition/TextFormat$LabelNames" "bounds" "[I" u1 := i_F1.ext E2
  have f6 : Fld Z h2 a1 "com/example/valbonne/valbonne/exposition/TextFormat$LabelNames" "cursor" "Lcom/example/valbonne/valbonne/exposition/TextFormat$Cursor;" u2 := i_F2.ext E2
  have Kp7 : Keep h0 h2 [a1] := K0.ext E2
  have f8 : Arv Z h2 b2 k2 .int (8 : Int32) [(.int (0 : Int32)), (.int (0 : Int32)), (.int (0 : Int32)), (.int (0 : Int32)), (.int (0 : Int32)), (.int (0 : Int32)), (.int (0 : Int32)), (.int (0 : Int32))] (.int (0 : Int32)) := V2
  have g_b2 : n0 ≤ b2 := Nat.le_trans Z0 (Nat.le_of_eq ga2.symm)
  have Zs9 : n0 ≤ h2.size := Nat.le_trans Z0 E2.1
  show own_G p e below _ (T2.setTop (mkF m 9 #[.val (.ref a1), .val (.ref c1)] [(.ref b2), (.ref a1)]))
  obtain ⟨T10, h10, L10, X10, N10, e10, W10, F10, st10⟩ := own_putF X2 N0 hx hZ hown (hw _ (List.mem_of_getElem? (i := 46) rfl)) e2 f5 f4 (Or.inl (hw _ (List.mem_of_getElem? (i := 47) rfl))) (hw _ (List.mem_of_getElem? (i := 39) rfl)) g_a1 (ty := (.array .int)) (v := (.ref b2)) (by decide) rfl rfl (pc := 9) (Ls := #[.val (.ref a1), .val (.ref c1)]) (rest := []) (hb hby own_d8_9)
  refine own_via st10 ?_
  have f11 : Exa Z h10 a1 "com/example/valbonne/valbonne/exposition/TextFormat$LabelNames" := f4.wr W10
  have f12 : Fld Z h10 a1 "com/example/valbonne/valbonne/exposition/TextFormat$LabelNames" "cursor" "Lcom/example/valbonne/valbonne/exposition/TextFormat$Cursor;" u2 := f6.other W10 (Or.inr (slot_ne (Or.inr (hw _ (List.mem_of_getElem? (i := 49) rfl))) (Or.inl (hw _ (List.mem_of_getElem? (i := 47) rfl))) (by decide) (t := (.object "com/example/valbonne/valbonne/exposition/TextFormat$Cursor")) (t' := (.array .int)) (by decide) (by decide)))
  have f13 : Arv Z h10 b2 k2 .int (8 : Int32) [(.int (0 : Int32)), (.int (0 : Int32)), (.int (0 : Int32)), (.int (0 : Int32)), (.int (0 : Int32)), (.int (0 : Int32)), (.int (0 : Int32)), (.int (0 : Int32))] (.int (0 : Int32)) := f8.other W10 (Ne.symm ne3)
  have Kp14 : Keep h0 h10 [a1] := Kp7.wr W10 (Or.inl (List.mem_of_getElem? (i := 0) rfl))
  have Zs15 : n0 ≤ h10.size := by rw [W10.size]; exact Zs9
  show own_G p e below _ (T10.setTop (mkF m 12 #[.val (.ref a1), .val (.ref c1)] []))
  refine own_via (fun t k => XS.aloadN X10.here hx rfl (hb hby own_d8_12) rfl rfl k) ?_
  show own_G p e below _ (T10.setTop (mkF m 13 #[.val (.ref a1), .val (.ref c1)] [(.ref a1)]))
  refine own_via (fun t k => XS.aloadN X10.here hx rfl (hb hby own_d8_13) rfl rfl k) ?_
  show own_G p e below _ (T10.setTop (mkF m 14 #[.val (.ref a1), .val (.ref c1)] [(.ref c1), (.ref a1)]))
  obtain ⟨T16, h16, L16, X16, N16, e16, W16, F16, st16⟩ := own_putF X10 N10 hx hZ hown (hw _ (List.mem_of_getElem? (i := 48) rfl)) e10 f12 f11 (Or.inr ⟨(hw _ (List.mem_of_getElem? (i := 49) rfl)), rfl, hnm⟩) (hw _ (List.mem_of_getElem? (i := 39) rfl)) g_a1 (ty := (.object "com/example/valbonne/valbonne/exposition/TextFormat$Cursor")) (v := (.ref c1)) (by decide) rfl rfl (pc := 14) (Ls := #[.val (.ref a1), .val (.ref c1)]) (rest := []) (hb hby own_d8_14)
  refine own_via st16 ?_
  have f17 : Exa Z h16 a1 "com/example/valbonne/valbonne/exposition/TextFormat$LabelNames" := f11.wr W16
  have f18 : Arv Z h16 b2 k2 .int (8 : Int32) [(.int (0 : Int32)), (.int (0 : Int32)), (.int (0 : Int32)), (.int (0 : Int32)), (.int (0 : Int32)), (.int (0 : Int32)), (.int (0 : Int32)), (.int (0 : Int32))] (.int (0 : Int32)) := f13.other W16 (Ne.symm ne3)
  have f19 : Fld Z h16 a1 "com/example/valbonne/valbonne/exposition/TextFormat$LabelNames" "bounds" "[I" (.ref b2) := F10.other W16 (Or.inr (slot_ne (Or.inl (hw _ (List.mem_of_getElem? (i := 47) rfl))) (Or.inr (hw _ (List.mem_of_getElem? (i := 49) rfl))) (by decide) (t := (.array .int)) (t' := (.object "com/example/valbonne/valbonne/exposition/TextFormat$Cursor")) (by decide) (by decide)))
  have Kp20 : Keep h0 h16 [a1] := Kp14.wr W16 (Or.inl (List.mem_of_getElem? (i := 0) rfl))
  have Zs21 : n0 ≤ h16.size := by rw [W16.size]; exact Zs15
  show own_G p e below _ (T16.setTop (mkF m 17 #[.val (.ref a1), .val (.ref c1)] []))
  exact own_retV X16 hx Bd.returns Bd.notSynchronized (hb hby own_d8_17) (by rw [e16]; exact ⟨N16, rfl, Kp20⟩) (by decide) (by decide)
theorem own_d7_0 : decode prog_28_method_1_code 0 = .ok (.aload_n 0, 1) := by decide +kernel
theorem own_d7_1 : decode prog_28_method_1_code 1 = .ok (.invokespecial 3, 3) := by decide +kernel
theorem own_d7_4 : decode prog_28_method_1_code 4 = .ok (.aload_n 0, 1) := by decide +kernel
theorem own_d7_5 : decode prog_28_method_1_code 5 = .ok (.new 9, 3) := by decide +kernel
theorem own_d7_8 : decode prog_28_method_1_code 8 = .ok (.dup, 1) := by decide +kernel
theorem own_d7_9 : decode prog_28_method_1_code 9 = .ok (.aload_n 0, 1) := by decide +kernel
theorem own_d7_10 : decode prog_28_method_1_code 10 = .ok (.invokespecial 11, 3) := by decide +kernel
theorem own_d7_13 : decode prog_28_method_1_code 13 = .ok (.putfield 14, 3) := by decide +kernel
theorem own_d7_16 : decode prog_28_method_1_code 16 = .ok (.aload_n 0, 1) := by decide +kernel
theorem own_d7_17 : decode prog_28_method_1_code 17 = .ok (.bipush 32, 2) := by decide +kernel
theorem own_d7_19 : decode prog_28_method_1_code 19 = .ok (.anewarray 20, 3) := by decide +kernel
theorem own_d7_22 : decode prog_28_method_1_code 22 = .ok (.putfield 22, 3) := by decide +kernel
theorem own_d7_25 : decode prog_28_method_1_code 25 = .ok (.aload_n 0, 1) := by decide +kernel
theorem own_d7_26 : decode prog_28_method_1_code 26 = .ok (.iconst (-1), 1) := by decide +kernel
theorem own_d7_27 : decode prog_28_method_1_code 27 = .ok (.putfield 26, 3) := by decide +kernel
theorem own_d7_30 : decode prog_28_method_1_code 30 = .ok (.aload_n 0, 1) := by decide +kernel
theorem own_d7_31 : decode prog_28_method_1_code 31 = .ok (.aload_n 1, 1) := by decide +kernel
theorem own_d7_32 : decode prog_28_method_1_code 32 = .ok (.putfield 30, 3) := by decide +kernel
theorem own_d7_35 : decode prog_28_method_1_code 35 = .ok (.return_, 1) := by decide +kernel
abbrev own_cur_R : Room := { frames := 2, cells := 3, slots := 44, locals := 27 }
theorem own_pn7 : plainFor (⟨"com/example/valbonne/valbonne/exposition/TextFormat$Cursor", "<init>", "(Ljava/lang/String;)V"⟩ : MethodName) = true := plainFor_of_name (by first | (simp [plainName, overriddenIn]; done) | decide +kernel)
theorem own_cur_ef (m : MethodId) (a1 : Addr) (t1 : Addr) : entryFrame m #[(.ref a1), (.ref t1)] 2 = mkF m 0 #[.val (.ref a1), .val (.ref t1)] [] := by first | (simp [entryFrame, mkF, argsToLocals, Value.category]; done) | rfl
def own_cur_q (Z : State) (a1 : Addr) (t1 : Addr) (u_labelNames : Value) (u_shared : Value) (u_backslash : Value) (u_text : Value) (u_start : Value) (u_end : Value) (u_position : Value) (h0 : Heap) (v : Option Value) (h : Heap) : Prop := v = none ∧ Keep h0 h [a1] ∧ Exa Z h a1 "com/example/valbonne/valbonne/exposition/TextFormat$Cursor" ∧ Fld Z h a1 "com/example/valbonne/valbonne/exposition/TextFormat$Cursor" "start" "I" u_start ∧ Fld Z h a1 "com/example/valbonne/valbonne/exposition/TextFormat$Cursor" "end" "I" u_end ∧ Fld Z h a1 "com/example/valbonne/valbonne/exposition/TextFormat$Cursor" "position" "I" u_position
set_option maxRecDepth 65536 in
set_option maxHeartbeats 40000000 in
theorem own_cur (l : Launch) (Z : State) (a0 : Array Value) (hw : ∀ d ∈ tables_1, d.before a0 Z = true) (ws : List Jvm.Cond) (a1 : Addr) (t1 : Addr) (u_labelNames : Value) (u_shared : Value) (u_backslash : Value) (u_text : Value) (u_start : Value) (u_end : Value) (u_position : Value) (h0 : Heap) (n0 : Nat) (Z0 : n0 ≤ h0.size) (i_E1 : Exa Z h0 a1 "com/example/valbonne/valbonne/exposition/TextFormat$Cursor") (i_F_labelNames : Fld Z h0 a1 "com/example/valbonne/valbonne/exposition/TextFormat$Cursor" "labelNames" "Lcom/example/valbonne/valbonne/exposition/TextFormat$LabelNames;" u_labelNames) (i_F_shared : Fld Z h0 a1 "com/example/valbonne/valbonne/exposition/TextFormat$Cursor" "shared" "[Ljava/lang/String;" u_shared) (i_F_backslash : Fld Z h0 a1 "com/example/valbonne/valbonne/exposition/TextFormat$Cursor" "backslash" "I" u_backslash) (i_F_text : Fld Z h0 a1 "com/example/valbonne/valbonne/exposition/TextFormat$Cursor" "text" "Ljava/lang/String;" u_text) (i_F_start : Fld Z h0 a1 "com/example/valbonne/valbonne/exposition/TextFormat$Cursor" "start" "I" u_start) (i_F_end : Fld Z h0 a1 "com/example/valbonne/valbonne/exposition/TextFormat$Cursor" "end" "I" u_end) (i_F_position : Fld Z h0 a1 "com/example/valbonne/valbonne/exposition/TextFormat$Cursor" "position" "I" u_position) (g_a1 : n0 ≤ a1) :
    own_C l Z (⟨"com/example/valbonne/valbonne/exposition/TextFormat$Cursor", "<init>", "(Ljava/lang/String;)V"⟩ : MethodName) prog_28_method_1_code 2 none ws own_cur_R #[(.ref a1), (.ref t1)] h0 (own_W n0 (own_cur_q Z a1 t1 u_labelNames u_shared u_backslash u_text u_start u_end u_position h0)) := by
  refine MetFree.of_bodySF own_pn7 hisR ?_
  intro p e s m args below meth c s₁ Bd hml0 hP hK
  obtain ⟨rfl, hZ, hh⟩ := hP
  have hx := Bd.exec
  have hby := Bd.bytes
  have hml : c.maxLocals = 2 := hml0
  have hown : s.vm.findClass "com/example/valbonne/valbonne/exposition/TextFormat$Cursor" = some m.cls := findClass_of_methodNamed Bd.named
  have hnm := (name_of_methodNamed Bd.named Bd.method).1
  have X0 : Stand p l e own_cur_R s m #[(.ref a1), (.ref t1)] below meth c s₁ [] 0 0 := Stand.of_body Bd
  have e0 : s₁.heap = h0 := by rw [← hh, Bd.state]; rfl
  have N0 := Fr.nil n0
  have K0 : Keep h0 h0 [a1] := Keep.refl h0 _
  show own_G p e below (own_P s (own_W n0 (own_cur_q Z a1 t1 u_labelNames u_shared u_backslash u_text u_start u_end u_position h0)) own_cur_R.cells own_cur_R.slots) (s₁.setTop (entryFrame m #[(.ref a1), (.ref t1)] 2))
  rw [own_cur_ef m a1 t1]
  show own_G p e below _ (s₁.setTop (mkF m 0 #[.val (.ref a1), .val (.ref t1)] []))
  refine own_via (fun t k => XS.aloadN X0.here hx rfl (hb hby own_d7_0) rfl rfl k) ?_
  show own_G p e below _ (s₁.setTop (mkF m 1 #[.val (.ref a1), .val (.ref t1)] [(.ref a1)]))
  obtain ⟨T1, X1, e1, st1⟩ := initO X0 hx hZ hown (hw _ (List.mem_of_getElem? (i := 37) rfl)) (hw _ (List.mem_of_getElem? (i := 12) rfl)) (hw _ (List.mem_of_getElem? (i := 13) rfl)) e0 (g := (mkF m 1 #[.val (.ref a1), .val (.ref t1)] [(.ref a1)])) rfl (by rw [hml]; rfl) rfl (hb hby own_d7_1) (by decide) (W := 0) (by show 2 * 0 + _ ≤ _; exact Nat.le_of_eq rfl) (by decide)
  refine own_via st1 ?_
  show own_G p e below _ (T1.setTop (mkF m 4 #[.val (.ref a1), .val (.ref t1)] []))
  refine own_via (fun t k => XS.aloadN X1.here hx rfl (hb hby own_d7_4) rfl rfl k) ?_
  show own_G p e below _ (T1.setTop (mkF m 5 #[.val (.ref a1), .val (.ref t1)] [(.ref a1)]))
  obtain ⟨T2, h2, b2, X2, e2, E2, ga2, A2, D2, st2⟩ := own_newO X1 hx hZ hown (hw _ (List.mem_of_getElem? (i := 38) rfl)) (hw _ (List.mem_of_getElem? (i := 39) rfl)) (hw _ (List.mem_of_getElem? (i := 40) rfl)) e1 (pc := 5) (Ls := #[.val (.ref a1), .val (.ref t1)]) (rest := [(.ref a1)]) (hb hby own_d7_5) (by decide) (by decide)
  refine own_via st2 ?_
  have sz_b2 : h0.size ≤ b2 := Nat.le_trans K0.1 (Nat.le_of_eq ga2.symm)
  have ne3 : a1 ≠ b2 := Nat.ne_of_lt (Nat.lt_of_lt_of_le i_E1.lt (Nat.le_of_eq ga2.symm))
  have f4 : Exa Z h2 a1 "com/example/valbonne/valbonne/exposition/TextFormat$Cursor" := i_E1.ext E2
  have f5 : Fld Z h2 a1 "com/example/valbonne/valbonne/exposition/TextFormat$Cursor" "labelNames" "Lcom/example/valbonne/valbonne/exposition/TextFormat$LabelNames;" u_labelNames := i_F_labelNames.ext E2
  have f6 : Fld Z h2 a1 "com/example/valbonne/valbonne/exposition/TextFormat$Cursor" "shared" "[Ljava/lang/String;" u_shared := i_F_shared.ext E2
  have f7 : Fld Z h2 a1 "com/example/valbonne/valbonne/exposition/TextFormat$Cursor" "backslash" "I" u_backslash := i_F_backslash.ext E2
  have f8 : Fld Z h2 a1 "com/example/valbonne/valbonne/exposition/TextFormat$Cursor" "text" "Ljava/lang/String;" u_text := i_F_text.ext E2
  have f9 : Fld Z h2 a1 "com/example/valbonne/valbonne/exposition/TextFormat$Cursor" "start" "I" u_start := i_F_start.ext E2
  have f10 : Fld Z h2 a1 "com/example/valbonne/valbonne/exposition/TextFormat$Cursor" "end" "I" u_end := i_F_end.ext E2
  have f11 : Fld Z h2 a1 "com/example/valbonne/valbonne/exposition/TextFormat$Cursor" "position" "I" u_position := i_F_position.ext E2
  have Kp12 : Keep h0 h2 [a1] := K0.ext E2
  have f13 : Fld Z h2 b2 "com/example/valbonne/valbonne/exposition/TextFormat$LabelNames" "bounds" "[I" .null := D2 (Or.inl (hw _ (List.mem_of_getElem? (i := 47) rfl))) (ty := (.array .int)) (by decide)
  have f14 : Fld Z h2 b2 "com/example/valbonne/valbonne/exposition/TextFormat$LabelNames" "cursor" "Lcom/example/valbonne/valbonne/exposition/TextFormat$Cursor;" .null := D2 (Or.inr (hw _ (List.mem_of_getElem? (i := 49) rfl))) (ty := (.object "com/example/valbonne/valbonne/exposition/TextFormat$Cursor")) (by decide)
  have g_b2 : n0 ≤ b2 := Nat.le_trans Z0 (Nat.le_of_eq ga2.symm)
  have Zs15 : n0 ≤ h2.size := Nat.le_trans Z0 E2.1
  show own_G p e below _ (T2.setTop (mkF m 8 #[.val (.ref a1), .val (.ref t1)] [(.ref b2), (.ref a1)]))
  refine own_via (fun t k => XS.dup X2.here hx rfl (hb hby own_d7_8) rfl rfl k) ?_
  show own_G p e below _ (T2.setTop (mkF m 9 #[.val (.ref a1), .val (.ref t1)] [(.ref b2), (.ref b2), (.ref a1)]))
  refine own_via (fun t k => XS.aloadN X2.here hx rfl (hb hby own_d7_9) rfl rfl k) ?_
  show own_G p e below _ (T2.setTop (mkF m 10 #[.val (.ref a1), .val (.ref t1)] [(.ref a1), (.ref b2), (.ref b2), (.ref a1)]))
  obtain ⟨v16, T16, h16, L16, X16, N16, e16, hq16, st16⟩ := own_callI (y := (⟨"com/example/valbonne/valbonne/exposition/TextFormat$LabelNames", "<init>", "(Lcom/example/valbonne/valbonne/exposition/TextFormat$Cursor;)V"⟩ : MethodName)) (W := 2) (a := b2) X2 N0 hx hZ rfl hown (hw _ (List.mem_of_getElem? (i := 41) rfl)) (hw _ (List.mem_of_getElem? (i := 42) rfl)) (hw _ (List.mem_of_getElem? (i := 40) rfl)) (hw _ (List.mem_of_getElem? (i := 43) rfl)) (by decide) (own_ln l Z a0 hw [] b2 a1 (.null) (.null) h2 n0 Zs15 A2 f13 f14 g_b2) (by decide) (by decide) (by decide) (by decide) e2 (pc := 10) (Ls := #[.val (.ref a1), .val (.ref t1)]) (st := [(.ref a1), (.ref b2), (.ref b2), (.ref a1)]) (argsL := [(.ref a1)]) (rest := [(.ref b2), (.ref a1)]) (by rw [hml]; rfl) (lenOf own_pd0 rfl) rfl rfl (Nat.le_of_eq rfl) (hb hby own_d7_10)
  obtain ⟨rfl, K16⟩ := hq16
  refine own_via st16 ?_
  have f17 : Exa Z h16 a1 "com/example/valbonne/valbonne/exposition/TextFormat$Cursor" := f4.keep K16
  have f18 : Fld Z h16 a1 "com/example/valbonne/valbonne/exposition/TextFormat$Cursor" "labelNames" "Lcom/example/valbonne/valbonne/exposition/TextFormat$LabelNames;" u_labelNames := f5.keep K16 (by simp only [List.mem_cons, List.not_mem_nil, or_false, not_or]; exact ne3)
  have f19 : Fld Z h16 a1 "com/example/valbonne/valbonne/exposition/TextFormat$Cursor" "shared" "[Ljava/lang/String;" u_shared := f6.keep K16 (by simp only [List.mem_cons, List.not_mem_nil, or_false, not_or]; exact ne3)
  have f20 : Fld Z h16 a1 "com/example/valbonne/valbonne/exposition/TextFormat$Cursor" "backslash" "I" u_backslash := f7.keep K16 (by simp only [List.mem_cons, List.not_mem_nil, or_false, not_or]; exact ne3)
  have f21 : Fld Z h16 a1 "com/example/valbonne/valbonne/exposition/TextFormat$Cursor" "text" "Ljava/lang/String;" u_text := f8.keep K16 (by simp only [List.mem_cons, List.not_mem_nil, or_false, not_or]; exact ne3)
  have f22 : Fld Z h16 a1 "com/example/valbonne/valbonne/exposition/TextFormat$Cursor" "start" "I" u_start := f9.keep K16 (by simp only [List.mem_cons, List.not_mem_nil, or_false, not_or]; exact ne3)
  have f23 : Fld Z h16 a1 "com/example/valbonne/valbonne/exposition/TextFormat$Cursor" "end" "I" u_end := f10.keep K16 (by simp only [List.mem_cons, List.not_mem_nil, or_false, not_or]; exact ne3)
  have f24 : Fld Z h16 a1 "com/example/valbonne/valbonne/exposition/TextFormat$Cursor" "position" "I" u_position := f11.keep K16 (by simp only [List.mem_cons, List.not_mem_nil, or_false, not_or]; exact ne3)
  have f25 : Exa Z h16 b2 "com/example/valbonne/valbonne/exposition/TextFormat$LabelNames" := A2.keep K16
  have Kp26 : Keep h0 h16 [a1] := Kp12.trans K16 (fun x hx => by simp only [List.mem_cons, List.not_mem_nil, or_false] at hx; rcases hx with rfl <;> first | exact (Or.inr sz_b2))
  have Zs27 : n0 ≤ h16.size := Nat.le_trans Zs15 K16.1
  show own_G p e below _ (T16.setTop (mkF m 13 #[.val (.ref a1), .val (.ref t1)] [(.ref b2), (.ref a1)]))
  obtain ⟨T28, h28, L28, X28, N28, e28, W28, F28, st28⟩ := own_putF X16 N16 hx hZ hown (hw _ (List.mem_of_getElem? (i := 50) rfl)) e16 f18 f17 (Or.inr ⟨(hw _ (List.mem_of_getElem? (i := 51) rfl)), rfl, hnm⟩) (hw _ (List.mem_of_getElem? (i := 32) rfl)) g_a1 (ty := (.object "com/example/valbonne/valbonne/exposition/TextFormat$LabelNames")) (v := (.ref b2)) (by decide) rfl rfl (pc := 13) (Ls := #[.val (.ref a1), .val (.ref t1)]) (rest := []) (hb hby own_d7_13)
  refine own_via st28 ?_
  have f29 : Exa Z h28 a1 "com/example/valbonne/valbonne/exposition/TextFormat$Cursor" := f17.wr W28
  have f30 : Fld Z h28 a1 "com/example/valbonne/valbonne/exposition/TextFormat$Cursor" "shared" "[Ljava/lang/String;" u_shared := f19.other W28 (Or.inr (slot_ne (Or.inr (hw _ (List.mem_of_getElem? (i := 55) rfl))) (Or.inr (hw _ (List.mem_of_getElem? (i := 51) rfl))) (by decide) (t := (.array (.object "java/lang/String"))) (t' := (.object "com/example/valbonne/valbonne/exposition/TextFormat$LabelNames")) (by decide) (by decide)))
  have f31 : Fld Z h28 a1 "com/example/valbonne/valbonne/exposition/TextFormat$Cursor" "backslash" "I" u_backslash := f20.other W28 (Or.inr (slot_ne (Or.inl (hw _ (List.mem_of_getElem? (i := 57) rfl))) (Or.inr (hw _ (List.mem_of_getElem? (i := 51) rfl))) (by decide) (t := .int) (t' := (.object "com/example/valbonne/valbonne/exposition/TextFormat$LabelNames")) (by decide) (by decide)))
  have f32 : Fld Z h28 a1 "com/example/valbonne/valbonne/exposition/TextFormat$Cursor" "text" "Ljava/lang/String;" u_text := f21.other W28 (Or.inr (slot_ne (Or.inr (hw _ (List.mem_of_getElem? (i := 59) rfl))) (Or.inr (hw _ (List.mem_of_getElem? (i := 51) rfl))) (by decide) (t := (.object "java/lang/String")) (t' := (.object "com/example/valbonne/valbonne/exposition/TextFormat$LabelNames")) (by decide) (by decide)))
  have f33 : Fld Z h28 a1 "com/example/valbonne/valbonne/exposition/TextFormat$Cursor" "start" "I" u_start := f22.other W28 (Or.inr (slot_ne (Or.inl (hw _ (List.mem_of_getElem? (i := 66) rfl))) (Or.inr (hw _ (List.mem_of_getElem? (i := 51) rfl))) (by decide) (t := .int) (t' := (.object "com/example/valbonne/valbonne/exposition/TextFormat$LabelNames")) (by decide) (by decide)))
  have f34 : Fld Z h28 a1 "com/example/valbonne/valbonne/exposition/TextFormat$Cursor" "end" "I" u_end := f23.other W28 (Or.inr (slot_ne (Or.inl (hw _ (List.mem_of_getElem? (i := 68) rfl))) (Or.inr (hw _ (List.mem_of_getElem? (i := 51) rfl))) (by decide) (t := .int) (t' := (.object "com/example/valbonne/valbonne/exposition/TextFormat$LabelNames")) (by decide) (by decide)))
  have f35 : Fld Z h28 a1 "com/example/valbonne/valbonne/exposition/TextFormat$Cursor" "position" "I" u_position := f24.other W28 (Or.inr (slot_ne (Or.inl (hw _ (List.mem_of_getElem? (i := 70) rfl))) (Or.inr (hw _ (List.mem_of_getElem? (i := 51) rfl))) (by decide) (t := .int) (t' := (.object "com/example/valbonne/valbonne/exposition/TextFormat$LabelNames")) (by decide) (by decide)))
  have f36 : Exa Z h28 b2 "com/example/valbonne/valbonne/exposition/TextFormat$LabelNames" := f25.wr W28
  have Kp37 : Keep h0 h28 [a1] := Kp26.wr W28 (Or.inl (List.mem_of_getElem? (i := 0) rfl))
  have Zs38 : n0 ≤ h28.size := by rw [W28.size]; exact Zs27
  show own_G p e below _ (T28.setTop (mkF m 16 #[.val (.ref a1), .val (.ref t1)] []))
  refine own_via (fun t k => XS.aloadN X28.here hx rfl (hb hby own_d7_16) rfl rfl k) ?_
  show own_G p e below _ (T28.setTop (mkF m 17 #[.val (.ref a1), .val (.ref t1)] [(.ref a1)]))
  refine own_via (fun t k => XS.bipush X28.here hx rfl (hb hby own_d7_17) k) ?_
  show own_G p e below _ (T28.setTop (mkF m 19 #[.val (.ref a1), .val (.ref t1)] [(.int (32 : Int32)), (.ref a1)]))
  obtain ⟨T39, h39, k39, X39, e39, E39, A39, O39, st39⟩ := newR X28 hx hZ hown (hw _ (List.mem_of_getElem? (i := 52) rfl)) (hw _ (List.mem_of_getElem? (i := 53) rfl)) e28 (g := (mkF m 19 #[.val (.ref a1), .val (.ref t1)] [(.int (32 : Int32)), (.ref a1)])) rfl (hb hby own_d7_19) rfl (by decide) (cap := 32) (by decide) (by decide) (by decide) (by decide)
  obtain ⟨b39, ga39⟩ : ∃ z, z = h28.size := ⟨_, rfl⟩
  rw [← ga39] at A39 st39
  refine own_via st39 ?_
  have sz_b39 : h0.size ≤ b39 := Nat.le_trans Kp37.1 (Nat.le_of_eq ga39.symm)
  have ne40 : a1 ≠ b39 := Nat.ne_of_lt (Nat.lt_of_lt_of_le f29.lt (Nat.le_of_eq ga39.symm))
  have ne41 : b2 ≠ b39 := Nat.ne_of_lt (Nat.lt_of_lt_of_le f36.lt (Nat.le_of_eq ga39.symm))
  have f42 : Exa Z h39 a1 "com/example/valbonne/valbonne/exposition/TextFormat$Cursor" := f29.ext E39
  have f43 : Fld Z h39 a1 "com/example/valbonne/valbonne/exposition/TextFormat$Cursor" "shared" "[Ljava/lang/String;" u_shared := f30.ext E39
  have f44 : Fld Z h39 a1 "com/example/valbonne/valbonne/exposition/TextFormat$Cursor" "backslash" "I" u_backslash := f31.ext E39
  have f45 : Fld Z h39 a1 "com/example/valbonne/valbonne/exposition/TextFormat$Cursor" "text" "Ljava/lang/String;" u_text := f32.ext E39
  have f46 : Fld Z h39 a1 "com/example/valbonne/valbonne/exposition/TextFormat$Cursor" "start" "I" u_start := f33.ext E39
  have f47 : Fld Z h39 a1 "com/example/valbonne/valbonne/exposition/TextFormat$Cursor" "end" "I" u_end := f34.ext E39
  have f48 : Fld Z h39 a1 "com/example/valbonne/valbonne/exposition/TextFormat$Cursor" "position" "I" u_position := f35.ext E39
  have f49 : Exa Z h39 b2 "com/example/valbonne/valbonne/exposition/TextFormat$LabelNames" := f36.ext E39
  have f50 : Fld Z h39 a1 "com/example/valbonne/valbonne/exposition/TextFormat$Cursor" "labelNames" "Lcom/example/valbonne/valbonne/exposition/TextFormat$LabelNames;" (.ref b2) := F28.ext E39
  have Kp51 : Keep h0 h39 [a1] := Kp37.ext E39
  have f52 : Arv Z h39 b39 k39 (.object "java/lang/String") (32 : Int32) [] .null := Arv.new A39 (by decide)
  have g_b39 : n0 ≤ b39 := Nat.le_trans Zs38 (Nat.le_of_eq ga39.symm)
  have Zs53 : n0 ≤ h39.size := Nat.le_trans Zs38 E39.1
  show own_G p e below _ (T39.setTop (mkF m 22 #[.val (.ref a1), .val (.ref t1)] [(.ref b39), (.ref a1)]))
  obtain ⟨T54, h54, L54, X54, N54, e54, W54, F54, st54⟩ := own_putF X39 N28 hx hZ hown (hw _ (List.mem_of_getElem? (i := 54) rfl)) e39 f43 f42 (Or.inr ⟨(hw _ (List.mem_of_getElem? (i := 55) rfl)), rfl, hnm⟩) (hw _ (List.mem_of_getElem? (i := 32) rfl)) g_a1 (ty := (.array (.object "java/lang/String"))) (v := (.ref b39)) (by decide) rfl rfl (pc := 22) (Ls := #[.val (.ref a1), .val (.ref t1)]) (rest := []) (hb hby own_d7_22)
  refine own_via st54 ?_
  have f55 : Exa Z h54 a1 "com/example/valbonne/valbonne/exposition/TextFormat$Cursor" := f42.wr W54
  have f56 : Fld Z h54 a1 "com/example/valbonne/valbonne/exposition/TextFormat$Cursor" "backslash" "I" u_backslash := f44.other W54 (Or.inr (slot_ne (Or.inl (hw _ (List.mem_of_getElem? (i := 57) rfl))) (Or.inr (hw _ (List.mem_of_getElem? (i := 55) rfl))) (by decide) (t := .int) (t' := (.array (.object "java/lang/String"))) (by decide) (by decide)))
  have f57 : Fld Z h54 a1 "com/example/valbonne/valbonne/exposition/TextFormat$Cursor" "text" "Ljava/lang/String;" u_text := f45.other W54 (Or.inr (slot_ne (Or.inr (hw _ (List.mem_of_getElem? (i := 59) rfl))) (Or.inr (hw _ (List.mem_of_getElem? (i := 55) rfl))) (by decide) (t := (.object "java/lang/String")) (t' := (.array (.object "java/lang/String"))) (by decide) (by decide)))
  have f58 : Fld Z h54 a1 "com/example/valbonne/valbonne/exposition/TextFormat$Cursor" "start" "I" u_start := f46.other W54 (Or.inr (slot_ne (Or.inl (hw _ (List.mem_of_getElem? (i := 66) rfl))) (Or.inr (hw _ (List.mem_of_getElem? (i := 55) rfl))) (by decide) (t := .int) (t' := (.array (.object "java/lang/String"))) (by decide) (by decide)))
  have f59 : Fld Z h54 a1 "com/example/valbonne/valbonne/exposition/TextFormat$Cursor" "end" "I" u_end := f47.other W54 (Or.inr (slot_ne (Or.inl (hw _ (List.mem_of_getElem? (i := 68) rfl))) (Or.inr (hw _ (List.mem_of_getElem? (i := 55) rfl))) (by decide) (t := .int) (t' := (.array (.object "java/lang/String"))) (by decide) (by decide)))
  have f60 : Fld Z h54 a1 "com/example/valbonne/valbonne/exposition/TextFormat$Cursor" "position" "I" u_position := f48.other W54 (Or.inr (slot_ne (Or.inl (hw _ (List.mem_of_getElem? (i := 70) rfl))) (Or.inr (hw _ (List.mem_of_getElem? (i := 55) rfl))) (by decide) (t := .int) (t' := (.array (.object "java/lang/String"))) (by decide) (by decide)))
  have f61 : Exa Z h54 b2 "com/example/valbonne/valbonne/exposition/TextFormat$LabelNames" := f49.wr W54
  have f62 : Fld Z h54 a1 "com/example/valbonne/valbonne/exposition/TextFormat$Cursor" "labelNames" "Lcom/example/valbonne/valbonne/exposition/TextFormat$LabelNames;" (.ref b2) := f50.other W54 (Or.inr (slot_ne (Or.inr (hw _ (List.mem_of_getElem? (i := 51) rfl))) (Or.inr (hw _ (List.mem_of_getElem? (i := 55) rfl))) (by decide) (t := (.object "com/example/valbonne/valbonne/exposition/TextFormat$LabelNames")) (t' := (.array (.object "java/lang/String"))) (by decide) (by decide)))
  have f63 : Arv Z h54 b39 k39 (.object "java/lang/String") (32 : Int32) [] .null := f52.other W54 (Ne.symm ne40)
  have Kp64 : Keep h0 h54 [a1] := Kp51.wr W54 (Or.inl (List.mem_of_getElem? (i := 0) rfl))
  have Zs65 : n0 ≤ h54.size := by rw [W54.size]; exact Zs53
  show own_G p e below _ (T54.setTop (mkF m 25 #[.val (.ref a1), .val (.ref t1)] []))
  refine own_via (fun t k => XS.aloadN X54.here hx rfl (hb hby own_d7_25) rfl rfl k) ?_
  show own_G p e below _ (T54.setTop (mkF m 26 #[.val (.ref a1), .val (.ref t1)] [(.ref a1)]))
  refine own_via (fun t k => XS.iconst X54.here hx rfl (hb hby own_d7_26) k) ?_
  show own_G p e below _ (T54.setTop (mkF m 27 #[.val (.ref a1), .val (.ref t1)] [(.int (-1 : Int32)), (.ref a1)]))
  obtain ⟨T66, h66, L66, X66, N66, e66, W66, F66, st66⟩ := own_putF X54 N54 hx hZ hown (hw _ (List.mem_of_getElem? (i := 56) rfl)) e54 f56 f55 (Or.inl (hw _ (List.mem_of_getElem? (i := 57) rfl))) (hw _ (List.mem_of_getElem? (i := 32) rfl)) g_a1 (ty := .int) (v := (.int (-1 : Int32))) (by decide) rfl rfl (pc := 27) (Ls := #[.val (.ref a1), .val (.ref t1)]) (rest := []) (hb hby own_d7_27)
  refine own_via st66 ?_
  have f67 : Exa Z h66 a1 "com/example/valbonne/valbonne/exposition/TextFormat$Cursor" := f55.wr W66
  have f68 : Fld Z h66 a1 "com/example/valbonne/valbonne/exposition/TextFormat$Cursor" "text" "Ljava/lang/String;" u_text := f57.other W66 (Or.inr (slot_ne (Or.inr (hw _ (List.mem_of_getElem? (i := 59) rfl))) (Or.inl (hw _ (List.mem_of_getElem? (i := 57) rfl))) (by decide) (t := (.object "java/lang/String")) (t' := .int) (by decide) (by decide)))
  have f69 : Fld Z h66 a1 "com/example/valbonne/valbonne/exposition/TextFormat$Cursor" "start" "I" u_start := f58.other W66 (Or.inr (slot_ne (Or.inl (hw _ (List.mem_of_getElem? (i := 66) rfl))) (Or.inl (hw _ (List.mem_of_getElem? (i := 57) rfl))) (by decide) (t := .int) (t' := .int) (by decide) (by decide)))
  have f70 : Fld Z h66 a1 "com/example/valbonne/valbonne/exposition/TextFormat$Cursor" "end" "I" u_end := f59.other W66 (Or.inr (slot_ne (Or.inl (hw _ (List.mem_of_getElem? (i := 68) rfl))) (Or.inl (hw _ (List.mem_of_getElem? (i := 57) rfl))) (by decide) (t := .int) (t' := .int) (by decide) (by decide)))
  have f71 : Fld Z h66 a1 "com/example/valbonne/valbonne/exposition/TextFormat$Cursor" "position" "I" u_position := f60.other W66 (Or.inr (slot_ne (Or.inl (hw _ (List.mem_of_getElem? (i := 70) rfl))) (Or.inl (hw _ (List.mem_of_getElem? (i := 57) rfl))) (by decide) (t := .int) (t' := .int) (by decide) (by decide)))
  have f72 : Exa Z h66 b2 "com/example/valbonne/valbonne/exposition/TextFormat$LabelNames" := f61.wr W66
  have f73 : Fld Z h66 a1 "com/example/valbonne/valbonne/exposition/TextFormat$Cursor" "labelNames" "Lcom/example/valbonne/valbonne/exposition/TextFormat$LabelNames;" (.ref b2) := f62.other W66 (Or.inr (slot_ne (Or.inr (hw _ (List.mem_of_getElem? (i := 51) rfl))) (Or.inl (hw _ (List.mem_of_getElem? (i := 57) rfl))) (by decide) (t := (.object "com/example/valbonne/valbonne/exposition/TextFormat$LabelNames")) (t' := .int) (by decide) (by decide)))
  have f74 : Arv Z h66 b39 k39 (.object "java/lang/String") (32 : Int32) [] .null := f63.other W66 (Ne.symm ne40)
  have f75 : Fld Z h66 a1 "com/example/valbonne/valbonne/exposition/TextFormat$Cursor" "shared" "[Ljava/lang/String;" (.ref b39) := F54.other W66 (Or.inr (slot_ne (Or.inr (hw _ (List.mem_of_getElem? (i := 55) rfl))) (Or.inl (hw _ (List.mem_of_getElem? (i := 57) rfl))) (by decide) (t := (.array (.object "java/lang/String"))) (t' := .int) (by decide) (by decide)))
  have Kp76 : Keep h0 h66 [a1] := Kp64.wr W66 (Or.inl (List.mem_of_getElem? (i := 0) rfl))
  have Zs77 : n0 ≤ h66.size := by rw [W66.size]; exact Zs65
  show own_G p e below _ (T66.setTop (mkF m 30 #[.val (.ref a1), .val (.ref t1)] []))
  refine own_via (fun t k => XS.aloadN X66.here hx rfl (hb hby own_d7_30) rfl rfl k) ?_
  show own_G p e below _ (T66.setTop (mkF m 31 #[.val (.ref a1), .val (.ref t1)] [(.ref a1)]))
  refine own_via (fun t k => XS.aloadN X66.here hx rfl (hb hby own_d7_31) rfl rfl k) ?_
  show own_G p e below _ (T66.setTop (mkF m 32 #[.val (.ref a1), .val (.ref t1)] [(.ref t1), (.ref a1)]))
  obtain ⟨T78, h78, L78, X78, N78, e78, W78, F78, st78⟩ := own_putF X66 N66 hx hZ hown (hw _ (List.mem_of_getElem? (i := 58) rfl)) e66 f68 f67 (Or.inr ⟨(hw _ (List.mem_of_getElem? (i := 59) rfl)), rfl, hnm⟩) (hw _ (List.mem_of_getElem? (i := 32) rfl)) g_a1 (ty := (.object "java/lang/String")) (v := (.ref t1)) (by decide) rfl rfl (pc := 32) (Ls := #[.val (.ref a1), .val (.ref t1)]) (rest := []) (hb hby own_d7_32)
  refine own_via st78 ?_
  have f79 : Exa Z h78 a1 "com/example/valbonne/valbonne/exposition/TextFormat$Cursor" := f67.wr W78
  have f80 : Fld Z h78 a1 "com/example/valbonne/valbonne/exposition/TextFormat$Cursor" "start" "I" u_start := f69.other W78 (Or.inr (slot_ne (Or.inl (hw _ (List.mem_of_getElem? (i := 66) rfl))) (Or.inr (hw _ (List.mem_of_getElem? (i := 59) rfl))) (by decide) (t := .int) (t' := (.object "java/lang/String")) (by decide) (by decide)))
  have f81 : Fld Z h78 a1 "com/example/valbonne/valbonne/exposition/TextFormat$Cursor" "end" "I" u_end := f70.other W78 (Or.inr (slot_ne (Or.inl (hw _ (List.mem_of_getElem? (i := 68) rfl))) (Or.inr (hw _ (List.mem_of_getElem? (i := 59) rfl))) (by decide) (t := .int) (t' := (.object "java/lang/String")) (by decide) (by decide)))
  have f82 : Fld Z h78 a1 "com/example/valbonne/valbonne/exposition/TextFormat$Cursor" "position" "I" u_position := f71.other W78 (Or.inr (slot_ne (Or.inl (hw _ (List.mem_of_getElem? (i := 70) rfl))) (Or.inr (hw _ (List.mem_of_getElem? (i := 59) rfl))) (by decide) (t := .int) (t' := (.object "java/lang/String")) (by decide) (by decide)))
  have f83 : Exa Z h78 b2 "com/example/valbonne/valbonne/exposition/TextFormat$LabelNames" := f72.wr W78
  have f84 : Fld Z h78 a1 "com/example/valbonne/valbonne/exposition/TextFormat$Cursor" "labelNames" "Lcom/example/valbonne/valbonne/exposition/TextFormat$LabelNames;" (.ref b2) := f73.other W78 (Or.inr (slot_ne (Or.inr (hw _ (List.mem_of_getElem? (i := 51) rfl))) (Or.inr (hw _ (List.mem_of_getElem? (i := 59) rfl))) (by decide) (t := (.object "com/example/valbonne/valbonne/exposition/TextFormat$LabelNames")) (t' := (.object "java/lang/String")) (by decide) (by decide)))
  have f85 : Arv Z h78 b39 k39 (.object "java/lang/String") (32 : Int32) [] .null := f74.other W78 (Ne.symm ne40)
  have f86 : Fld Z h78 a1 "com/example/valbonne/valbonne/exposition/TextFormat$Cursor" "shared" "[Ljava/lang/String;" (.ref b39) := f75.other W78 (Or.inr (slot_ne (Or.inr (hw _ (List.mem_of_getElem? (i := 55) rfl))) (Or.inr (hw _ (List.mem_of_getElem? (i := 59) rfl))) (by decide) (t := (.array (.object "java/lang/String"))) (t' := (.object "java/lang/String")) (by decide) (by decide)))
  have f87 : Fld Z h78 a1 "com/example/valbonne/valbonne/exposition/TextFormat$Cursor" "backslash" "I" (.int (-1 : Int32)) := F66.other W78 (Or.inr (slot_ne (Or.inl (hw _ (List.mem_of_getElem? (i := 57) rfl))) (Or.inr (hw _ (List.mem_of_getElem? (i := 59) rfl))) (by decide) (t := .int) (t' := (.object "java/lang/String")) (by decide) (by decide)))
  have Kp88 : Keep h0 h78 [a1] := Kp76.wr W78 (Or.inl (List.mem_of_getElem? (i := 0) rfl))
  have Zs89 : n0 ≤ h78.size := by rw [W78.size]; exact Zs77
  show own_G p e below _ (T78.setTop (mkF m 35 #[.val (.ref a1), .val (.ref t1)] []))
  exact own_retV X78 hx Bd.returns Bd.notSynchronized (hb hby own_d7_35) (by rw [e78]; exact ⟨N78, rfl, Kp88, f79, f80, f81, f82⟩) (by decide) (by decide)
theorem own_d9_0 : decode prog_28_method_2_code 0 = .ok (.aload_n 0, 1) := by decide +kernel
theorem own_d9_1 : decode prog_28_method_2_code 1 = .ok (.iload_n 1, 1) := by decide +kernel
theorem own_d9_2 : decode prog_28_method_2_code 2 = .ok (.putfield 34, 3) := by decide +kernel
theorem own_d9_5 : decode prog_28_method_2_code 5 = .ok (.aload_n 0, 1) := by decide +kernel
theorem own_d9_6 : decode prog_28_method_2_code 6 = .ok (.iload_n 2, 1) := by decide +kernel
theorem own_d9_7 : decode prog_28_method_2_code 7 = .ok (.putfield 37, 3) := by decide +kernel
theorem own_d9_10 : decode prog_28_method_2_code 10 = .ok (.aload_n 0, 1) := by decide +kernel
theorem own_d9_11 : decode prog_28_method_2_code 11 = .ok (.iload_n 1, 1) := by decide +kernel
theorem own_d9_12 : decode prog_28_method_2_code 12 = .ok (.putfield 40, 3) := by decide +kernel
theorem own_d9_15 : decode prog_28_method_2_code 15 = .ok (.aload_n 0, 1) := by decide +kernel
theorem own_d9_16 : decode prog_28_method_2_code 16 = .ok (.areturn, 1) := by decide +kernel
abbrev own_line_R : Room := { frames := 0, cells := 0, slots := 0, locals := 0 }
theorem own_pn9 : plainFor (⟨"com/example/valbonne/valbonne/exposition/TextFormat$Cursor", "line", "(II)Lcom/example/valbonne/valbonne/exposition/TextFormat$Cursor;"⟩ : MethodName) = true := plainFor_of_name (by first | (simp [plainName, overriddenIn]; done) | decide +kernel)
theorem own_line_ef (m : MethodId) (a1 : Addr) (p1 : Int32) (p2 : Int32) : entryFrame m #[(.ref a1), (.int p1), (.int p2)] 3 = mkF m 0 #[.val (.ref a1), .val (.int p1), .val (.int p2)] [] := by first | (simp [entryFrame, mkF, argsToLocals, Value.category]; done) | rfl
def own_line_q (Z : State) (a1 : Addr) (p1 : Int32) (p2 : Int32) (u1 : Value) (u2 : Value) (u3 : Value) (h0 : Heap) (v : Option Value) (h : Heap) : Prop := v = some (.ref a1) ∧ Keep h0 h [a1] ∧ Exa Z h a1 "com/example/valbonne/valbonne/exposition/TextFormat$Cursor" ∧ Fld Z h a1 "com/example/valbonne/valbonne/exposition/TextFormat$Cursor" "start" "I" (.int p1) ∧ Fld Z h a1 "com/example/valbonne/valbonne/exposition/TextFormat$Cursor" "end" "I" (.int p2) ∧ Fld Z h a1 "com/example/valbonne/valbonne/exposition/TextFormat$Cursor" "position" "I" (.int p1)
set_option maxRecDepth 65536 in
set_option maxHeartbeats 40000000 in
theorem own_line (l : Launch) (Z : State) (a0 : Array Value) (hw : ∀ d ∈ tables_1, d.before a0 Z = true) (ws : List Jvm.Cond) (a1 : Addr) (p1 : Int32) (p2 : Int32) (u1 : Value) (u2 : Value) (u3 : Value) (h0 : Heap) (n0 : Nat) (Z0 : n0 ≤ h0.size) (i_E1 : Exa Z h0 a1 "com/example/valbonne/valbonne/exposition/TextFormat$Cursor") (i_F1 : Fld Z h0 a1 "com/example/valbonne/valbonne/exposition/TextFormat$Cursor" "start" "I" u1) (i_F2 : Fld Z h0 a1 "com/example/valbonne/valbonne/exposition/TextFormat$Cursor" "end" "I" u2) (i_F3 : Fld Z h0 a1 "com/example/valbonne/valbonne/exposition/TextFormat$Cursor" "position" "I" u3) (g_a1 : n0 ≤ a1) :
    own_C l Z (⟨"com/example/valbonne/valbonne/exposition/TextFormat$Cursor", "line", "(II)Lcom/example/valbonne/valbonne/exposition/TextFormat$Cursor;"⟩ : MethodName) prog_28_method_2_code 3 (some (.object "com/example/valbonne/valbonne/exposition/TextFormat$Cursor")) ws own_line_R #[(.ref a1), (.int p1), (.int p2)] h0 (own_W n0 (own_line_q Z a1 p1 p2 u1 u2 u3 h0)) := by
  refine MetFree.of_bodySF own_pn9 hisR ?_
  intro p e s m args below meth c s₁ Bd hml0 hP hK
  obtain ⟨rfl, hZ, hh⟩ := hP
  have hx := Bd.exec
  have hby := Bd.bytes
  have hml : c.maxLocals = 3 := hml0
  have hown : s.vm.findClass "com/example/valbonne/valbonne/exposition/TextFormat$Cursor" = some m.cls := findClass_of_methodNamed Bd.named
  have hnm := (name_of_methodNamed Bd.named Bd.method).1
  have X0 : Stand p l e own_line_R s m #[(.ref a1), (.int p1), (.int p2)] below meth c s₁ [] 0 0 := Stand.of_body Bd
  have e0 : s₁.heap = h0 := by rw [← hh, Bd.state]; rfl
  have N0 := Fr.nil n0
  have K0 : Keep h0 h0 [a1] := Keep.refl h0 _
  show own_G p e below (own_P s (own_W n0 (own_line_q Z a1 p1 p2 u1 u2 u3 h0)) own_line_R.cells own_line_R.slots) (s₁.setTop (entryFrame m #[(.ref a1), (.int p1), (.int p2)] 3))
  rw [own_line_ef m a1 p1 p2]
  show own_G p e below _ (s₁.setTop (mkF m 0 #[.val (.ref a1), .val (.int p1), .val (.int p2)] []))
  refine own_via (fun t k => XS.aloadN X0.here hx rfl (hb hby own_d9_0) rfl rfl k) ?_
  show own_G p e below _ (s₁.setTop (mkF m 1 #[.val (.ref a1), .val (.int p1), .val (.int p2)] [(.ref a1)]))
  refine own_via (fun t k => XS.iloadN X0.here hx rfl (hb hby own_d9_1) rfl k) ?_
  show own_G p e below _ (s₁.setTop (mkF m 2 #[.val (.ref a1), .val (.int p1), .val (.int p2)] [(.int p1), (.ref a1)]))
  obtain ⟨T1, h1, L1, X1, N1, e1, W1, F1, st1⟩ := own_putF X0 N0 hx hZ hown (hw _ (List.mem_of_getElem? (i := 65) rfl)) e0 i_F1 i_E1 (Or.inl (hw _ (List.mem_of_getElem? (i := 66) rfl))) (hw _ (List.mem_of_getElem? (i := 32) rfl)) g_a1 (ty := .int) (v := (.int p1)) (by decide) rfl rfl (pc := 2) (Ls := #[.val (.ref a1), .val (.int p1), .val (.int p2)]) (rest := []) (hb hby own_d9_2)
  refine own_via st1 ?_
  have f2 : Exa Z h1 a1 "com/example/valbonne/valbonne/exposition/TextFormat$Cursor" := i_E1.wr W1
  have f3 : Fld Z h1 a1 "com/example/valbonne/valbonne/exposition/TextFormat$Cursor" "end" "I" u2 := i_F2.other W1 (Or.inr (slot_ne (Or.inl (hw _ (List.mem_of_getElem? (i := 68) rfl))) (Or.inl (hw _ (List.mem_of_getElem? (i := 66) rfl))) (by decide) (t := .int) (t' := .int) (by decide) (by decide)))
  have f4 : Fld Z h1 a1 "com/example/valbonne/valbonne/exposition/TextFormat$Cursor" "position" "I" u3 := i_F3.other W1 (Or.inr (slot_ne (Or.inl (hw _ (List.mem_of_getElem? (i := 70) rfl))) (Or.inl (hw _ (List.mem_of_getElem? (i := 66) rfl))) (by decide) (t := .int) (t' := .int) (by decide) (by decide)))
  have Kp5 : Keep h0 h1 [a1] := K0.wr W1 (Or.inl (List.mem_of_getElem? (i := 0) rfl))
  have Zs6 : n0 ≤ h1.size := by rw [W1.size]; exact Z0
  show own_G p e below _ (T1.setTop (mkF m 5 #[.val (.ref a1), .val (.int p1), .val (.int p2)] []))
  refine own_via (fun t k => XS.aloadN X1.here hx rfl (hb hby own_d9_5) rfl rfl k) ?_
  show own_G p e below _ (T1.setTop (mkF m 6 #[.val (.ref a1), .val (.int p1), .val (.int p2)] [(.ref a1)]))
  refine own_via (fun t k => XS.iloadN X1.here hx rfl (hb hby own_d9_6) rfl k) ?_
  show own_G p e below _ (T1.setTop (mkF m 7 #[.val (.ref a1), .val (.int p1), .val (.int p2)] [(.int p2), (.ref a1)]))
  obtain ⟨T7, h7, L7, X7, N7, e7, W7, F7, st7⟩ := own_putF X1 N1 hx hZ hown (hw _ (List.mem_of_getElem? (i := 67) rfl)) e1 f3 f2 (Or.inl (hw _ (List.mem_of_getElem? (i := 68) rfl))) (hw _ (List.mem_of_getElem? (i := 32) rfl)) g_a1 (ty := .int) (v := (.int p2)) (by decide) rfl rfl (pc := 7) (Ls := #[.val (.ref a1), .val (.int p1), .val (.int p2)]) (rest := []) (hb hby own_d9_7)
  refine own_via st7 ?_
  have f8 : Exa Z h7 a1 "com/example/valbonne/valbonne/exposition/TextFormat$Cursor" := f2.wr W7
  have f9 : Fld Z h7 a1 "com/example/valbonne/valbonne/exposition/TextFormat$Cursor" "position" "I" u3 := f4.other W7 (Or.inr (slot_ne (Or.inl (hw _ (List.mem_of_getElem? (i := 70) rfl))) (Or.inl (hw _ (List.mem_of_getElem? (i := 68) rfl))) (by decide) (t := .int) (t' := .int) (by decide) (by decide)))
  have f10 : Fld Z h7 a1 "com/example/valbonne/valbonne/exposition/TextFormat$Cursor" "start" "I" (.int p1) := F1.other W7 (Or.inr (slot_ne (Or.inl (hw _ (List.mem_of_getElem? (i := 66) rfl))) (Or.inl (hw _ (List.mem_of_getElem? (i := 68) rfl))) (by decide) (t := .int) (t' := .int) (by decide) (by decide)))
  have Kp11 : Keep h0 h7 [a1] := Kp5.wr W7 (Or.inl (List.mem_of_getElem? (i := 0) rfl))
  have Zs12 : n0 ≤ h7.size := by rw [W7.size]; exact Zs6
  show own_G p e below _ (T7.setTop (mkF m 10 #[.val (.ref a1), .val (.int p1), .val (.int p2)] []))
  refine own_via (fun t k => XS.aloadN X7.here hx rfl (hb hby own_d9_10) rfl rfl k) ?_
  show own_G p e below _ (T7.setTop (mkF m 11 #[.val (.ref a1), .val (.int p1), .val (.int p2)] [(.ref a1)]))
  refine own_via (fun t k => XS.iloadN X7.here hx rfl (hb hby own_d9_11) rfl k) ?_
  show own_G p e below _ (T7.setTop (mkF m 12 #[.val (.ref a1), .val (.int p1), .val (.int p2)] [(.int p1), (.ref a1)]))
  obtain ⟨T13, h13, L13, X13, N13, e13, W13, F13, st13⟩ := own_putF X7 N7 hx hZ hown (hw _ (List.mem_of_getElem? (i := 69) rfl)) e7 f9 f8 (Or.inl (hw _ (List.mem_of_getElem? (i := 70) rfl))) (hw _ (List.mem_of_getElem? (i := 32) rfl)) g_a1 (ty := .int) (v := (.int p1)) (by decide) rfl rfl (pc := 12) (Ls := #[.val (.ref a1), .val (.int p1), .val (.int p2)]) (rest := []) (hb hby own_d9_12)
  refine own_via st13 ?_
  have f14 : Exa Z h13 a1 "com/example/valbonne/valbonne/exposition/TextFormat$Cursor" := f8.wr W13
  have f15 : Fld Z h13 a1 "com/example/valbonne/valbonne/exposition/TextFormat$Cursor" "start" "I" (.int p1) := f10.other W13 (Or.inr (slot_ne (Or.inl (hw _ (List.mem_of_getElem? (i := 66) rfl))) (Or.inl (hw _ (List.mem_of_getElem? (i := 70) rfl))) (by decide) (t := .int) (t' := .int) (by decide) (by decide)))
  have f16 : Fld Z h13 a1 "com/example/valbonne/valbonne/exposition/TextFormat$Cursor" "end" "I" (.int p2) := F7.other W13 (Or.inr (slot_ne (Or.inl (hw _ (List.mem_of_getElem? (i := 68) rfl))) (Or.inl (hw _ (List.mem_of_getElem? (i := 70) rfl))) (by decide) (t := .int) (t' := .int) (by decide) (by decide)))
  have Kp17 : Keep h0 h13 [a1] := Kp11.wr W13 (Or.inl (List.mem_of_getElem? (i := 0) rfl))
  have Zs18 : n0 ≤ h13.size := by rw [W13.size]; exact Zs12
  show own_G p e below _ (T13.setTop (mkF m 15 #[.val (.ref a1), .val (.int p1), .val (.int p2)] []))
  refine own_via (fun t k => XS.aloadN X13.here hx rfl (hb hby own_d9_15) rfl rfl k) ?_
  show own_G p e below _ (T13.setTop (mkF m 16 #[.val (.ref a1), .val (.int p1), .val (.int p2)] [(.ref a1)]))
  exact own_retA X13 hx Bd.returns rfl rfl Bd.notSynchronized (hb hby own_d9_16) (by rw [e13]; exact ⟨N13, rfl, Kp17, f14, f15, f16, F13⟩) (by decide) (by decide)
theorem own_d10_0 : decode prog_28_method_6_code 0 = .ok (.aload_n 0, 1) := by decide +kernel
theorem own_d10_1 : decode prog_28_method_6_code 1 = .ok (.getfield 40, 3) := by decide +kernel
theorem own_d10_4 : decode prog_28_method_6_code 4 = .ok (.aload_n 0, 1) := by decide +kernel
theorem own_d10_5 : decode prog_28_method_6_code 5 = .ok (.getfield 37, 3) := by decide +kernel
theorem own_d10_8 : decode prog_28_method_6_code 8 = .ok (.if_icmp .ne 7, 3) := by decide +kernel
theorem own_d10_11 : decode prog_28_method_6_code 11 = .ok (.iconst 1, 1) := by decide +kernel
theorem own_d10_12 : decode prog_28_method_6_code 12 = .ok (.goto 4, 3) := by decide +kernel
theorem own_d10_15 : decode prog_28_method_6_code 15 = .ok (.iconst 0, 1) := by decide +kernel
theorem own_d10_16 : decode prog_28_method_6_code 16 = .ok (.ireturn, 1) := by decide +kernel
abbrev own_at_R : Room := { frames := 0, cells := 0, slots := 0, locals := 0 }
theorem own_pn10 : plainFor (⟨"com/example/valbonne/valbonne/exposition/TextFormat$Cursor", "atEnd", "()Z"⟩ : MethodName) = true := plainFor_of_name (by first | (simp [plainName, overriddenIn]; done) | decide +kernel)
theorem own_at_ef (m : MethodId) (a1 : Addr) : entryFrame m #[(.ref a1)] 1 = mkF m 0 #[.val (.ref a1)] [] := by first | (simp [entryFrame, mkF, argsToLocals, Value.category]; done) | rfl
def own_Fat (p1 : Int32) (p2 : Int32) : Int32 := (if p1 = p2 then (1 : Int32) else (0 : Int32))
set_option maxRecDepth 65536 in
set_option maxHeartbeats 40000000 in
theorem own_at (l : Launch) (Z : State) (a0 : Array Value) (hw : ∀ d ∈ tables_1, d.before a0 Z = true) (ws : List Jvm.Cond) (a1 : Addr) (p1 : Int32) (p2 : Int32) (h0 : Heap)  (i_F2 : Fld Z h0 a1 "com/example/valbonne/valbonne/exposition/TextFormat$Cursor" "end" "I" (.int p2)) (i_F3 : Fld Z h0 a1 "com/example/valbonne/valbonne/exposition/TextFormat$Cursor" "position" "I" (.int p1)) :
    own_C l Z (⟨"com/example/valbonne/valbonne/exposition/TextFormat$Cursor", "atEnd", "()Z"⟩ : MethodName) prog_28_method_6_code 1 (some .boolean) ws own_at_R #[(.ref a1)] h0 (own_Q (.int (own_Fat p1 p2)) h0) := by
  refine MetFree.of_bodySF own_pn10 hisR ?_
  intro p e s m args below meth c s₁ Bd hml0 hP hK
  obtain ⟨rfl, hZ, hh⟩ := hP
  have hx := Bd.exec
  have hby := Bd.bytes
  have hml : c.maxLocals = 1 := hml0
  have hown : s.vm.findClass "com/example/valbonne/valbonne/exposition/TextFormat$Cursor" = some m.cls := findClass_of_methodNamed Bd.named
  have hnm := (name_of_methodNamed Bd.named Bd.method).1
  have X0 : Stand p l e own_at_R s m #[(.ref a1)] below meth c s₁ [] 0 0 := Stand.of_body Bd
  have e0 : s₁.heap = h0 := by rw [← hh, Bd.state]; rfl
  show own_G p e below (own_P s (own_Q (.int (own_Fat p1 p2)) h0) own_at_R.cells own_at_R.slots) (s₁.setTop (entryFrame m #[(.ref a1)] 1))
  rw [own_at_ef m a1]
  show own_G p e below _ (s₁.setTop (mkF m 0 #[.val (.ref a1)] []))
  refine own_via (fun t k => XS.aloadN X0.here hx rfl (hb hby own_d10_0) rfl rfl k) ?_
  show own_G p e below _ (s₁.setTop (mkF m 1 #[.val (.ref a1)] [(.ref a1)]))
  obtain ⟨T1, X1, e1, st1⟩ := getF X0 hx hZ hown (host := "") (Or.inl (hw _ (List.mem_of_getElem? (i := 69) rfl))) Via.refl e0 i_F3 (g := (mkF m 1 #[.val (.ref a1)] [(.ref a1)])) rfl rfl (hb hby own_d10_1)
  refine own_via st1 ?_
  show own_G p e below _ (T1.setTop (mkF m 4 #[.val (.ref a1)] [(.int p1)]))
  refine own_via (fun t k => XS.aloadN X1.here hx rfl (hb hby own_d10_4) rfl rfl k) ?_
  show own_G p e below _ (T1.setTop (mkF m 5 #[.val (.ref a1)] [(.ref a1), (.int p1)]))
  obtain ⟨T2, X2, e2, st2⟩ := getF X1 hx hZ hown (host := "") (Or.inl (hw _ (List.mem_of_getElem? (i := 67) rfl))) Via.refl e1 i_F2 (g := (mkF m 5 #[.val (.ref a1)] [(.ref a1), (.int p1)])) rfl rfl (hb hby own_d10_5)
  refine own_via st2 ?_
  show own_G p e below _ (T2.setTop (mkF m 8 #[.val (.ref a1)] [(.int p2), (.int p1)]))
  by_cases hc3 : p1 = p2
  ·
    refine own_via (fun t k => XS.icmpNo X2.here hx rfl (hb hby own_d10_8) rfl (teq hc3).2 k) ?_
    show own_G p e below _ (T2.setTop (mkF m 11 #[.val (.ref a1)] []))
    refine own_via (fun t k => XS.iconst X2.here hx rfl (hb hby own_d10_11) k) ?_
    show own_G p e below _ (T2.setTop (mkF m 12 #[.val (.ref a1)] [(.int (1 : Int32))]))
    refine own_via (fun t k => XS.goto X2.here hx rfl (pc0 := 12) (pc' := 16) rfl (hb hby own_d10_12) (by decide) (by decide) k) ?_
    show own_G p e below _ (T2.setTop (mkF m 16 #[.val (.ref a1)] [(.int (1 : Int32))]))
    exact own_retN (t := .boolean) X2 hx Bd.returns (by simp) Bd.notSynchronized (hb hby own_d10_16) ⟨(by show (some (.int (1 : Int32)) : Option Value) = some (.int (own_Fat p1 p2)); simp only [own_Fat, if_pos hc3]), rfl, e2⟩ (by decide) (by decide)
  ·
    refine own_via (fun t k => XS.icmpYes X2.here hx rfl (pc0 := 8) (pc' := 15) rfl (hb hby own_d10_8) rfl (feq hc3).2 (by decide) (by decide) k) ?_
    show own_G p e below _ (T2.setTop (mkF m 15 #[.val (.ref a1)] []))
    refine own_via (fun t k => XS.iconst X2.here hx rfl (hb hby own_d10_15) k) ?_
    show own_G p e below _ (T2.setTop (mkF m 16 #[.val (.ref a1)] [(.int (0 : Int32))]))
    exact own_retN (t := .boolean) X2 hx Bd.returns (by simp) Bd.notSynchronized (hb hby own_d10_16) ⟨(by show (some (.int (0 : Int32)) : Option Value) = some (.int (own_Fat p1 p2)); simp only [own_Fat, if_neg hc3]), rfl, e2⟩ (by decide) (by decide)
theorem own_before {s e n : Int32} (h : (e - s) = n) : own_Fat s e = (if n = (0 : Int32) then (1 : Int32) else (0 : Int32)) := by
  subst h
  unfold own_Fat
  have q := c_isub e s
  have r := rng32 (e - s)
  have r1 := rng32 e
  have r2 := rng32 s
  simp only [← Int32.toInt_inj, show (0 : Int32).toInt = 0 from rfl]
  by_cases c : s.toInt = e.toInt
  · rw [if_pos c, if_pos (by omega)]
  · rw [if_neg c, if_neg (by omega)]
theorem own_aft {s e n k pos : Int32} (j : Int) (hn : (e - s) = n) (hk : k.toInt = j) (hp : (pos.toInt - (s.toInt + j)) % 4294967296 = 0) : own_Fat pos e = (if k = n then (1 : Int32) else (0 : Int32)) := by
  subst hn
  unfold own_Fat
  have q := c_isub e s
  have r := rng32 (e - s)
  have r1 := rng32 e
  have r2 := rng32 s
  have r3 := rng32 pos
  have r4 := rng32 k
  simp only [← Int32.toInt_inj]
  by_cases c : pos.toInt = e.toInt
  · rw [if_pos c, if_pos (by omega)]
  · rw [if_neg c, if_neg (by omega)]
theorem own_kj {k : Int32} (a b : Int) (h1 : a ≤ k.toInt) (h2 : k.toInt ≤ b) (e : a = b) : k.toInt = a := by omega
theorem own_d11_0 : decode prog_28_method_9_code 0 = .ok (.aload_n 0, 1) := by decide +kernel
theorem own_d11_1 : decode prog_28_method_9_code 1 = .ok (.dup, 1) := by decide +kernel
theorem own_d11_2 : decode prog_28_method_9_code 2 = .ok (.getfield 40, 3) := by decide +kernel
theorem own_d11_5 : decode prog_28_method_9_code 5 = .ok (.iconst 1, 1) := by decide +kernel
theorem own_d11_6 : decode prog_28_method_9_code 6 = .ok (.iadd, 1) := by decide +kernel
theorem own_d11_7 : decode prog_28_method_9_code 7 = .ok (.putfield 40, 3) := by decide +kernel
theorem own_d11_10 : decode prog_28_method_9_code 10 = .ok (.return_, 1) := by decide +kernel
abbrev own_adv_R : Room := { frames := 0, cells := 0, slots := 0, locals := 0 }
theorem own_pn11 : plainFor (⟨"com/example/valbonne/valbonne/exposition/TextFormat$Cursor", "advance", "()V"⟩ : MethodName) = true := plainFor_of_name (by first | (simp [plainName, overriddenIn]; done) | decide +kernel)
theorem own_adv_ef (m : MethodId) (a1 : Addr) : entryFrame m #[(.ref a1)] 1 = mkF m 0 #[.val (.ref a1)] [] := by first | (simp [entryFrame, mkF, argsToLocals, Value.category]; done) | rfl
def own_adv_q (Z : State) (a1 : Addr) (p1 : Int32) (p2 : Int32) (h0 : Heap) (v : Option Value) (h : Heap) : Prop := v = none ∧ Keep h0 h [a1] ∧ Exa Z h a1 "com/example/valbonne/valbonne/exposition/TextFormat$Cursor" ∧ Fld Z h a1 "com/example/valbonne/valbonne/exposition/TextFormat$Cursor" "end" "I" (.int p2) ∧ Fld Z h a1 "com/example/valbonne/valbonne/exposition/TextFormat$Cursor" "position" "I" (.int (p1 + (1 : Int32)))
set_option maxRecDepth 65536 in
set_option maxHeartbeats 40000000 in
theorem own_adv (l : Launch) (Z : State) (a0 : Array Value) (hw : ∀ d ∈ tables_1, d.before a0 Z = true) (ws : List Jvm.Cond) (a1 : Addr) (p1 : Int32) (p2 : Int32) (h0 : Heap) (n0 : Nat) (Z0 : n0 ≤ h0.size) (i_E1 : Exa Z h0 a1 "com/example/valbonne/valbonne/exposition/TextFormat$Cursor") (i_F2 : Fld Z h0 a1 "com/example/valbonne/valbonne/exposition/TextFormat$Cursor" "end" "I" (.int p2)) (i_F3 : Fld Z h0 a1 "com/example/valbonne/valbonne/exposition/TextFormat$Cursor" "position" "I" (.int p1)) (g_a1 : n0 ≤ a1) :
    own_C l Z (⟨"com/example/valbonne/valbonne/exposition/TextFormat$Cursor", "advance", "()V"⟩ : MethodName) prog_28_method_9_code 1 none ws own_adv_R #[(.ref a1)] h0 (own_W n0 (own_adv_q Z a1 p1 p2 h0)) := by
  refine MetFree.of_bodySF own_pn11 hisR ?_
  intro p e s m args below meth c s₁ Bd hml0 hP hK
  obtain ⟨rfl, hZ, hh⟩ := hP
  have hx := Bd.exec
  have hby := Bd.bytes
  have hml : c.maxLocals = 1 := hml0
  have hown : s.vm.findClass "com/example/valbonne/valbonne/exposition/TextFormat$Cursor" = some m.cls := findClass_of_methodNamed Bd.named
  have hnm := (name_of_methodNamed Bd.named Bd.method).1
  have X0 : Stand p l e own_adv_R s m #[(.ref a1)] below meth c s₁ [] 0 0 := Stand.of_body Bd
  have e0 : s₁.heap = h0 := by rw [← hh, Bd.state]; rfl
  have N0 := Fr.nil n0
  have K0 : Keep h0 h0 [a1] := Keep.refl h0 _
  show own_G p e below (own_P s (own_W n0 (own_adv_q Z a1 p1 p2 h0)) own_adv_R.cells own_adv_R.slots) (s₁.setTop (entryFrame m #[(.ref a1)] 1))
  rw [own_adv_ef m a1]
  show own_G p e below _ (s₁.setTop (mkF m 0 #[.val (.ref a1)] []))
  refine own_via (fun t k => XS.aloadN X0.here hx rfl (hb hby own_d11_0) rfl rfl k) ?_
  show own_G p e below _ (s₁.setTop (mkF m 1 #[.val (.ref a1)] [(.ref a1)]))
  refine own_via (fun t k => XS.dup X0.here hx rfl (hb hby own_d11_1) rfl rfl k) ?_
  show own_G p e below _ (s₁.setTop (mkF m 2 #[.val (.ref a1)] [(.ref a1), (.ref a1)]))
  obtain ⟨T1, X1, e1, st1⟩ := getF X0 hx hZ hown (host := "") (Or.inl (hw _ (List.mem_of_getElem? (i := 69) rfl))) Via.refl e0 i_F3 (g := (mkF m 2 #[.val (.ref a1)] [(.ref a1), (.ref a1)])) rfl rfl (hb hby own_d11_2)
  refine own_via st1 ?_
  show own_G p e below _ (T1.setTop (mkF m 5 #[.val (.ref a1)] [(.int p1), (.ref a1)]))
  refine own_via (fun t k => XS.iconst X1.here hx rfl (hb hby own_d11_5) k) ?_
  show own_G p e below _ (T1.setTop (mkF m 6 #[.val (.ref a1)] [(.int (1 : Int32)), (.int p1), (.ref a1)]))
  refine own_via (fun t k => XS.iadd X1.here hx rfl (hb hby own_d11_6) rfl k) ?_
  show own_G p e below _ (T1.setTop (mkF m 7 #[.val (.ref a1)] [(.int (p1 + (1 : Int32))), (.ref a1)]))
  obtain ⟨T2, h2, L2, X2, N2, e2, W2, F2, st2⟩ := own_putF X1 N0 hx hZ hown (hw _ (List.mem_of_getElem? (i := 69) rfl)) e1 i_F3 i_E1 (Or.inl (hw _ (List.mem_of_getElem? (i := 70) rfl))) (hw _ (List.mem_of_getElem? (i := 32) rfl)) g_a1 (ty := .int) (v := (.int (p1 + (1 : Int32)))) (by decide) rfl rfl (pc := 7) (Ls := #[.val (.ref a1)]) (rest := []) (hb hby own_d11_7)
  refine own_via st2 ?_
  have f3 : Exa Z h2 a1 "com/example/valbonne/valbonne/exposition/TextFormat$Cursor" := i_E1.wr W2
  have f4 : Fld Z h2 a1 "com/example/valbonne/valbonne/exposition/TextFormat$Cursor" "end" "I" (.int p2) := i_F2.other W2 (Or.inr (slot_ne (Or.inl (hw _ (List.mem_of_getElem? (i := 68) rfl))) (Or.inl (hw _ (List.mem_of_getElem? (i := 70) rfl))) (by decide) (t := .int) (t' := .int) (by decide) (by decide)))
  have Kp5 : Keep h0 h2 [a1] := K0.wr W2 (Or.inl (List.mem_of_getElem? (i := 0) rfl))
  have Zs6 : n0 ≤ h2.size := by rw [W2.size]; exact Z0
  show own_G p e below _ (T2.setTop (mkF m 10 #[.val (.ref a1)] []))
  exact own_retV X2 hx Bd.returns Bd.notSynchronized (hb hby own_d11_10) (by rw [e2]; exact ⟨N2, rfl, Kp5, f3, f4, F2⟩) (by decide) (by decide)
theorem own_pn0 : plainFor x = true := plainFor_of_name (by first | (simp [plainName, overriddenIn]; done) | decide +kernel)
theorem own_rm0_ef (m : MethodId) (p0 : Int32) (p1 : Int32) (p2 : Int32) (p3 : Int32) : entryFrame m #[(.int p0), (.int p1), (.int p2), (.int p3)] maxLocals = mkF m 0 #[.val (.int p0), .val (.int p1), .val (.int p2), .val (.int p3), .unset, .unset, .unset, .unset, .unset, .unset, .unset, .unset, .unset] [] := by first | (simp [entryFrame, mkF, argsToLocals, Value.category, maxLocals]; done) | rfl
set_option maxRecDepth 65536 in
set_option maxHeartbeats 40000000 in
theorem own_rm0 (l : Launch) (Z : State) (a0 : Array Value) (hw : ∀ d ∈ tables_1, d.before a0 Z = true) (ws : List Jvm.Cond) (p0 : Int32) (p1 : Int32) (p2 : Int32) (p3 : Int32) (zc : Int32) (h0 : Heap) (n0 : Nat) (Z0 : n0 ≤ h0.size) (i_S1 : Sta Z h0 "java/lang/String" "COMPACT_STRINGS" "Z" (.int zc)) (hp_hz : ¬ (zc = 0)) :
    own_C l Z x code maxLocals ret ws room_1 #[(.int p0), (.int p1), (.int p2), (.int p3)] h0 (own_W n0 (fun v _ => v = some (.int 1))) := by
  refine MetFree.of_bodySF own_pn0 hisR ?_
  intro p e s m args below meth c s₁ Bd hml0 hP hK
  obtain ⟨rfl, hZ, hh⟩ := hP
  have hx := Bd.exec
  have hby := Bd.bytes
  have hml : c.maxLocals = 13 := hml0
  have hown : s.vm.findClass "com/example/valbonne/valbonne/exposition/CursorAtEndPinLaw" = some m.cls := findClass_of_methodNamed Bd.named
  have hnm := (name_of_methodNamed Bd.named Bd.method).1
  have X0 : Stand p l e room_1 s m #[(.int p0), (.int p1), (.int p2), (.int p3)] below meth c s₁ [] 0 0 := Stand.of_body Bd
  have e0 : s₁.heap = h0 := by rw [← hh, Bd.state]; rfl
  have N0 := Fr.nil n0
  show own_G p e below (own_P s (own_W n0 (fun v _ => v = some (.int 1))) room_1.cells room_1.slots) (s₁.setTop (entryFrame m #[(.int p0), (.int p1), (.int p2), (.int p3)] maxLocals))
  rw [own_rm0_ef m p0 p1 p2 p3]
  show own_G p e below _ (s₁.setTop (mkF m 0 #[.val (.int p0), .val (.int p1), .val (.int p2), .val (.int p3), .unset, .unset, .unset, .unset, .unset, .unset, .unset, .unset, .unset] []))
  refine own_via (fun t k => XS.iconst X0.here hx rfl (hb hby at_0) k) ?_
  show own_G p e below _ (s₁.setTop (mkF m 1 #[.val (.int p0), .val (.int p1), .val (.int p2), .val (.int p3), .unset, .unset, .unset, .unset, .unset, .unset, .unset, .unset, .unset] [(.int (4 : Int32))]))
  obtain ⟨T1, h1, k1, b1, X1, e1, E1, ga1, V1, Ex1, st1⟩ := own_newA X0 hx hZ (hw _ (List.mem_of_getElem? (i := 0) rfl)) e0 (pc := 1) (Ls := #[.val (.int p0), .val (.int p1), .val (.int p2), .val (.int p3), .unset, .unset, .unset, .unset, .unset, .unset, .unset, .unset, .unset]) (rest := []) (hb hby at_1) (n := (4 : Int32)) (by decide) (cap := 4) (by decide) (by decide) (by decide) (by decide) 4 rfl
  refine own_via st1 ?_
  have f2 : Sta Z h1 "java/lang/String" "COMPACT_STRINGS" "Z" (.int zc) := i_S1.ext E1
  have f3 : Arv Z h1 b1 k1 .char (4 : Int32) [(.int (0 : Int32)), (.int (0 : Int32)), (.int (0 : Int32)), (.int (0 : Int32))] (.int (0 : Int32)) := V1
  have g_b1 : n0 ≤ b1 := Nat.le_trans Z0 (Nat.le_of_eq ga1.symm)
  have Zs4 : n0 ≤ h1.size := Nat.le_trans Z0 E1.1
  show own_G p e below _ (T1.setTop (mkF m 3 #[.val (.int p0), .val (.int p1), .val (.int p2), .val (.int p3), .unset, .unset, .unset, .unset, .unset, .unset, .unset, .unset, .unset] [(.ref b1)]))
  refine own_via (fun t k => XS.astore X1.here hx rfl (hb hby at_3) rfl rfl (l' := #[.val (.int p0), .val (.int p1), .val (.int p2), .val (.int p3), .val (.ref b1), .unset, .unset, .unset, .unset, .unset, .unset, .unset, .unset]) rfl k) ?_
  show own_G p e below _ (T1.setTop (mkF m 5 #[.val (.int p0), .val (.int p1), .val (.int p2), .val (.int p3), .val (.ref b1), .unset, .unset, .unset, .unset, .unset, .unset, .unset, .unset] []))
  refine own_via (fun t k => XS.aload X1.here hx rfl (hb hby at_5) rfl rfl k) ?_
  show own_G p e below _ (T1.setTop (mkF m 7 #[.val (.int p0), .val (.int p1), .val (.int p2), .val (.int p3), .val (.ref b1), .unset, .unset, .unset, .unset, .unset, .unset, .unset, .unset] [(.ref b1)]))
  refine own_via (fun t k => XS.iconst X1.here hx rfl (hb hby at_7) k) ?_
  show own_G p e below _ (T1.setTop (mkF m 8 #[.val (.int p0), .val (.int p1), .val (.int p2), .val (.int p3), .val (.ref b1), .unset, .unset, .unset, .unset, .unset, .unset, .unset, .unset] [(.int (0 : Int32)), (.ref b1)]))
  refine own_via (fun t k => XS.iloadN X1.here hx rfl (hb hby at_8) rfl k) ?_
  show own_G p e below _ (T1.setTop (mkF m 9 #[.val (.int p0), .val (.int p1), .val (.int p2), .val (.int p3), .val (.ref b1), .unset, .unset, .unset, .unset, .unset, .unset, .unset, .unset] [(.int p3), (.int (0 : Int32)), (.ref b1)]))
  refine own_via (fun t k => XS.sipush X1.here hx rfl (hb hby at_9) k) ?_
  show own_G p e below _ (T1.setTop (mkF m 12 #[.val (.int p0), .val (.int p1), .val (.int p2), .val (.int p3), .val (.ref b1), .unset, .unset, .unset, .unset, .unset, .unset, .unset, .unset] [(.int (255 : Int32)), (.int p3), (.int (0 : Int32)), (.ref b1)]))
  refine own_via (fun t k => XS.iand X1.here hx rfl (hb hby at_12) rfl k) ?_
  show own_G p e below _ (T1.setTop (mkF m 13 #[.val (.int p0), .val (.int p1), .val (.int p2), .val (.int p3), .val (.ref b1), .unset, .unset, .unset, .unset, .unset, .unset, .unset, .unset] [(.int (p3 &&& (255 : Int32))), (.int (0 : Int32)), (.ref b1)]))
  refine own_via (fun t k => XS.i2c X1.here hx rfl (hb hby at_13) rfl k) ?_
  show own_G p e below _ (T1.setTop (mkF m 14 #[.val (.int p0), .val (.int p1), .val (.int p2), .val (.int p3), .val (.ref b1), .unset, .unset, .unset, .unset, .unset, .unset, .unset, .unset] [(.int ((p3 &&& (255 : Int32)).toUInt32.toUInt16.toUInt32.toInt32)), (.int (0 : Int32)), (.ref b1)]))
  obtain ⟨T5, h5, L5, X5, N5, e5, W5, V5, st5⟩ := own_stC X1 N0 hx hZ e1 f3 g_b1 (j := (0 : Int32)) (x := ((p3 &&& (255 : Int32)).toUInt32.toUInt16.toUInt32.toInt32)) (i := 0) ⟨by decide, by decide⟩ rfl (Nat.le_of_ble_eq_true rfl) (pc := 14) (Ls := #[.val (.int p0), .val (.int p1), .val (.int p2), .val (.int p3), .val (.ref b1), .unset, .unset, .unset, .unset, .unset, .unset, .unset, .unset]) (rest := []) (hb hby at_14)
  refine own_via st5 ?_
  have f6 : Sta Z h5 "java/lang/String" "COMPACT_STRINGS" "Z" (.int zc) := f2.wr W5
  have f7 : Arv Z h5 b1 k1 .char (4 : Int32) [(.int (nar .char ((p3 &&& (255 : Int32)).toUInt32.toUInt16.toUInt32.toInt32))), (.int (0 : Int32)), (.int (0 : Int32)), (.int (0 : Int32))] (.int (0 : Int32)) := V5
  have Zs8 : n0 ≤ h5.size := by rw [W5.size]; exact Zs4
  show own_G p e below _ (T5.setTop (mkF m 15 #[.val (.int p0), .val (.int p1), .val (.int p2), .val (.int p3), .val (.ref b1), .unset, .unset, .unset, .unset, .unset, .unset, .unset, .unset] []))
  refine own_via (fun t k => XS.aload X5.here hx rfl (hb hby at_15) rfl rfl k) ?_
  show own_G p e below _ (T5.setTop (mkF m 17 #[.val (.int p0), .val (.int p1), .val (.int p2), .val (.int p3), .val (.ref b1), .unset, .unset, .unset, .unset, .unset, .unset, .unset, .unset] [(.ref b1)]))
  refine own_via (fun t k => XS.iconst X5.here hx rfl (hb hby at_17) k) ?_
  show own_G p e below _ (T5.setTop (mkF m 18 #[.val (.int p0), .val (.int p1), .val (.int p2), .val (.int p3), .val (.ref b1), .unset, .unset, .unset, .unset, .unset, .unset, .unset, .unset] [(.int (1 : Int32)), (.ref b1)]))
  refine own_via (fun t k => XS.iloadN X5.here hx rfl (hb hby at_18) rfl k) ?_
  show own_G p e below _ (T5.setTop (mkF m 19 #[.val (.int p0), .val (.int p1), .val (.int p2), .val (.int p3), .val (.ref b1), .unset, .unset, .unset, .unset, .unset, .unset, .unset, .unset] [(.int p3), (.int (1 : Int32)), (.ref b1)]))
  refine own_via (fun t k => XS.bipush X5.here hx rfl (hb hby at_19) k) ?_
  show own_G p e below _ (T5.setTop (mkF m 21 #[.val (.int p0), .val (.int p1), .val (.int p2), .val (.int p3), .val (.ref b1), .unset, .unset, .unset, .unset, .unset, .unset, .unset, .unset] [(.int (8 : Int32)), (.int p3), (.int (1 : Int32)), (.ref b1)]))
  refine own_via (fun t k => XS.iushr X5.here hx rfl (hb hby at_21) rfl k) ?_
  show own_G p e below _ (T5.setTop (mkF m 22 #[.val (.int p0), .val (.int p1), .val (.int p2), .val (.int p3), .val (.ref b1), .unset, .unset, .unset, .unset, .unset, .unset, .unset, .unset] [(.int ((p3.toUInt32 >>> ((8 : Int32) &&& 31).toUInt32).toInt32)), (.int (1 : Int32)), (.ref b1)]))
  refine own_via (fun t k => XS.sipush X5.here hx rfl (hb hby at_22) k) ?_
  show own_G p e below _ (T5.setTop (mkF m 25 #[.val (.int p0), .val (.int p1), .val (.int p2), .val (.int p3), .val (.ref b1), .unset, .unset, .unset, .unset, .unset, .unset, .unset, .unset] [(.int (255 : Int32)), (.int ((p3.toUInt32 >>> ((8 : Int32) &&& 31).toUInt32).toInt32)), (.int (1 : Int32)), (.ref b1)]))
  refine own_via (fun t k => XS.iand X5.here hx rfl (hb hby at_25) rfl k) ?_
  show own_G p e below _ (T5.setTop (mkF m 26 #[.val (.int p0), .val (.int p1), .val (.int p2), .val (.int p3), .val (.ref b1), .unset, .unset, .unset, .unset, .unset, .unset, .unset, .unset] [(.int (((p3.toUInt32 >>> ((8 : Int32) &&& 31).toUInt32).toInt32) &&& (255 : Int32))), (.int (1 : Int32)), (.ref b1)]))
  refine own_via (fun t k => XS.i2c X5.here hx rfl (hb hby at_26) rfl k) ?_
  show own_G p e below _ (T5.setTop (mkF m 27 #[.val (.int p0), .val (.int p1), .val (.int p2), .val (.int p3), .val (.ref b1), .unset, .unset, .unset, .unset, .unset, .unset, .unset, .unset] [(.int ((((p3.toUInt32 >>> ((8 : Int32) &&& 31).toUInt32).toInt32) &&& (255 : Int32)).toUInt32.toUInt16.toUInt32.toInt32)), (.int (1 : Int32)), (.ref b1)]))
  obtain ⟨T9, h9, L9, X9, N9, e9, W9, V9, st9⟩ := own_stC X5 N5 hx hZ e5 f7 g_b1 (j := (1 : Int32)) (x := ((((p3.toUInt32 >>> ((8 : Int32) &&& 31).toUInt32).toInt32) &&& (255 : Int32)).toUInt32.toUInt16.toUInt32.toInt32)) (i := 1) ⟨by decide, by decide⟩ rfl (Nat.le_of_ble_eq_true rfl) (pc := 27) (Ls := #[.val (.int p0), .val (.int p1), .val (.int p2), .val (.int p3), .val (.ref b1), .unset, .unset, .unset, .unset, .unset, .unset, .unset, .unset]) (rest := []) (hb hby at_27)
  refine own_via st9 ?_
  have f10 : Sta Z h9 "java/lang/String" "COMPACT_STRINGS" "Z" (.int zc) := f6.wr W9
  have f11 : Arv Z h9 b1 k1 .char (4 : Int32) [(.int (nar .char ((p3 &&& (255 : Int32)).toUInt32.toUInt16.toUInt32.toInt32))), (.int (nar .char ((((p3.toUInt32 >>> ((8 : Int32) &&& 31).toUInt32).toInt32) &&& (255 : Int32)).toUInt32.toUInt16.toUInt32.toInt32))), (.int (0 : Int32)), (.int (0 : Int32))] (.int (0 : Int32)) := V9
  have Zs12 : n0 ≤ h9.size := by rw [W9.size]; exact Zs8
  show own_G p e below _ (T9.setTop (mkF m 28 #[.val (.int p0), .val (.int p1), .val (.int p2), .val (.int p3), .val (.ref b1), .unset, .unset, .unset, .unset, .unset, .unset, .unset, .unset] []))
  refine own_via (fun t k => XS.aload X9.here hx rfl (hb hby at_28) rfl rfl k) ?_
  show own_G p e below _ (T9.setTop (mkF m 30 #[.val (.int p0), .val (.int p1), .val (.int p2), .val (.int p3), .val (.ref b1), .unset, .unset, .unset, .unset, .unset, .unset, .unset, .unset] [(.ref b1)]))
  refine own_via (fun t k => XS.iconst X9.here hx rfl (hb hby at_30) k) ?_
  show own_G p e below _ (T9.setTop (mkF m 31 #[.val (.int p0), .val (.int p1), .val (.int p2), .val (.int p3), .val (.ref b1), .unset, .unset, .unset, .unset, .unset, .unset, .unset, .unset] [(.int (2 : Int32)), (.ref b1)]))
  refine own_via (fun t k => XS.iloadN X9.here hx rfl (hb hby at_31) rfl k) ?_
  show own_G p e below _ (T9.setTop (mkF m 32 #[.val (.int p0), .val (.int p1), .val (.int p2), .val (.int p3), .val (.ref b1), .unset, .unset, .unset, .unset, .unset, .unset, .unset, .unset] [(.int p3), (.int (2 : Int32)), (.ref b1)]))
  refine own_via (fun t k => XS.bipush X9.here hx rfl (hb hby at_32) k) ?_
  show own_G p e below _ (T9.setTop (mkF m 34 #[.val (.int p0), .val (.int p1), .val (.int p2), .val (.int p3), .val (.ref b1), .unset, .unset, .unset, .unset, .unset, .unset, .unset, .unset] [(.int (16 : Int32)), (.int p3), (.int (2 : Int32)), (.ref b1)]))
  refine own_via (fun t k => XS.iushr X9.here hx rfl (hb hby at_34) rfl k) ?_
  show own_G p e below _ (T9.setTop (mkF m 35 #[.val (.int p0), .val (.int p1), .val (.int p2), .val (.int p3), .val (.ref b1), .unset, .unset, .unset, .unset, .unset, .unset, .unset, .unset] [(.int ((p3.toUInt32 >>> ((16 : Int32) &&& 31).toUInt32).toInt32)), (.int (2 : Int32)), (.ref b1)]))
  refine own_via (fun t k => XS.sipush X9.here hx rfl (hb hby at_35) k) ?_
  show own_G p e below _ (T9.setTop (mkF m 38 #[.val (.int p0), .val (.int p1), .val (.int p2), .val (.int p3), .val (.ref b1), .unset, .unset, .unset, .unset, .unset, .unset, .unset, .unset] [(.int (255 : Int32)), (.int ((p3.toUInt32 >>> ((16 : Int32) &&& 31).toUInt32).toInt32)), (.int (2 : Int32)), (.ref b1)]))
  refine own_via (fun t k => XS.iand X9.here hx rfl (hb hby at_38) rfl k) ?_
  show own_G p e below _ (T9.setTop (mkF m 39 #[.val (.int p0), .val (.int p1), .val (.int p2), .val (.int p3), .val (.ref b1), .unset, .unset, .unset, .unset, .unset, .unset, .unset, .unset] [(.int (((p3.toUInt32 >>> ((16 : Int32) &&& 31).toUInt32).toInt32) &&& (255 : Int32))), (.int (2 : Int32)), (.ref b1)]))
  refine own_via (fun t k => XS.i2c X9.here hx rfl (hb hby at_39) rfl k) ?_
  show own_G p e below _ (T9.setTop (mkF m 40 #[.val (.int p0), .val (.int p1), .val (.int p2), .val (.int p3), .val (.ref b1), .unset, .unset, .unset, .unset, .unset, .unset, .unset, .unset] [(.int ((((p3.toUInt32 >>> ((16 : Int32) &&& 31).toUInt32).toInt32) &&& (255 : Int32)).toUInt32.toUInt16.toUInt32.toInt32)), (.int (2 : Int32)), (.ref b1)]))
  obtain ⟨T13, h13, L13, X13, N13, e13, W13, V13, st13⟩ := own_stC X9 N9 hx hZ e9 f11 g_b1 (j := (2 : Int32)) (x := ((((p3.toUInt32 >>> ((16 : Int32) &&& 31).toUInt32).toInt32) &&& (255 : Int32)).toUInt32.toUInt16.toUInt32.toInt32)) (i := 2) ⟨by decide, by decide⟩ rfl (Nat.le_of_ble_eq_true rfl) (pc := 40) (Ls := #[.val (.int p0), .val (.int p1), .val (.int p2), .val (.int p3), .val (.ref b1), .unset, .unset, .unset, .unset, .unset, .unset, .unset, .unset]) (rest := []) (hb hby at_40)
  refine own_via st13 ?_
  have f14 : Sta Z h13 "java/lang/String" "COMPACT_STRINGS" "Z" (.int zc) := f10.wr W13
  have f15 : Arv Z h13 b1 k1 .char (4 : Int32) [(.int (nar .char ((p3 &&& (255 : Int32)).toUInt32.toUInt16.toUInt32.toInt32))), (.int (nar .char ((((p3.toUInt32 >>> ((8 : Int32) &&& 31).toUInt32).toInt32) &&& (255 : Int32)).toUInt32.toUInt16.toUInt32.toInt32))), (.int (nar .char ((((p3.toUInt32 >>> ((16 : Int32) &&& 31).toUInt32).toInt32) &&& (255 : Int32)).toUInt32.toUInt16.toUInt32.toInt32))), (.int (0 : Int32))] (.int (0 : Int32)) := V13
  have Zs16 : n0 ≤ h13.size := by rw [W13.size]; exact Zs12
  show own_G p e below _ (T13.setTop (mkF m 41 #[.val (.int p0), .val (.int p1), .val (.int p2), .val (.int p3), .val (.ref b1), .unset, .unset, .unset, .unset, .unset, .unset, .unset, .unset] []))
  refine own_via (fun t k => XS.aload X13.here hx rfl (hb hby at_41) rfl rfl k) ?_
  show own_G p e below _ (T13.setTop (mkF m 43 #[.val (.int p0), .val (.int p1), .val (.int p2), .val (.int p3), .val (.ref b1), .unset, .unset, .unset, .unset, .unset, .unset, .unset, .unset] [(.ref b1)]))
  refine own_via (fun t k => XS.iconst X13.here hx rfl (hb hby at_43) k) ?_
  show own_G p e below _ (T13.setTop (mkF m 44 #[.val (.int p0), .val (.int p1), .val (.int p2), .val (.int p3), .val (.ref b1), .unset, .unset, .unset, .unset, .unset, .unset, .unset, .unset] [(.int (3 : Int32)), (.ref b1)]))
  refine own_via (fun t k => XS.iloadN X13.here hx rfl (hb hby at_44) rfl k) ?_
  show own_G p e below _ (T13.setTop (mkF m 45 #[.val (.int p0), .val (.int p1), .val (.int p2), .val (.int p3), .val (.ref b1), .unset, .unset, .unset, .unset, .unset, .unset, .unset, .unset] [(.int p3), (.int (3 : Int32)), (.ref b1)]))
  refine own_via (fun t k => XS.bipush X13.here hx rfl (hb hby at_45) k) ?_
  show own_G p e below _ (T13.setTop (mkF m 47 #[.val (.int p0), .val (.int p1), .val (.int p2), .val (.int p3), .val (.ref b1), .unset, .unset, .unset, .unset, .unset, .unset, .unset, .unset] [(.int (24 : Int32)), (.int p3), (.int (3 : Int32)), (.ref b1)]))
  refine own_via (fun t k => XS.iushr X13.here hx rfl (hb hby at_47) rfl k) ?_
  show own_G p e below _ (T13.setTop (mkF m 48 #[.val (.int p0), .val (.int p1), .val (.int p2), .val (.int p3), .val (.ref b1), .unset, .unset, .unset, .unset, .unset, .unset, .unset, .unset] [(.int ((p3.toUInt32 >>> ((24 : Int32) &&& 31).toUInt32).toInt32)), (.int (3 : Int32)), (.ref b1)]))
  refine own_via (fun t k => XS.sipush X13.here hx rfl (hb hby at_48) k) ?_
  show own_G p e below _ (T13.setTop (mkF m 51 #[.val (.int p0), .val (.int p1), .val (.int p2), .val (.int p3), .val (.ref b1), .unset, .unset, .unset, .unset, .unset, .unset, .unset, .unset] [(.int (255 : Int32)), (.int ((p3.toUInt32 >>> ((24 : Int32) &&& 31).toUInt32).toInt32)), (.int (3 : Int32)), (.ref b1)]))
  refine own_via (fun t k => XS.iand X13.here hx rfl (hb hby at_51) rfl k) ?_
  show own_G p e below _ (T13.setTop (mkF m 52 #[.val (.int p0), .val (.int p1), .val (.int p2), .val (.int p3), .val (.ref b1), .unset, .unset, .unset, .unset, .unset, .unset, .unset, .unset] [(.int (((p3.toUInt32 >>> ((24 : Int32) &&& 31).toUInt32).toInt32) &&& (255 : Int32))), (.int (3 : Int32)), (.ref b1)]))
  refine own_via (fun t k => XS.i2c X13.here hx rfl (hb hby at_52) rfl k) ?_
  show own_G p e below _ (T13.setTop (mkF m 53 #[.val (.int p0), .val (.int p1), .val (.int p2), .val (.int p3), .val (.ref b1), .unset, .unset, .unset, .unset, .unset, .unset, .unset, .unset] [(.int ((((p3.toUInt32 >>> ((24 : Int32) &&& 31).toUInt32).toInt32) &&& (255 : Int32)).toUInt32.toUInt16.toUInt32.toInt32)), (.int (3 : Int32)), (.ref b1)]))
  obtain ⟨T17, h17, L17, X17, N17, e17, W17, V17, st17⟩ := own_stC X13 N13 hx hZ e13 f15 g_b1 (j := (3 : Int32)) (x := ((((p3.toUInt32 >>> ((24 : Int32) &&& 31).toUInt32).toInt32) &&& (255 : Int32)).toUInt32.toUInt16.toUInt32.toInt32)) (i := 3) ⟨by decide, by decide⟩ rfl (Nat.le_of_ble_eq_true rfl) (pc := 53) (Ls := #[.val (.int p0), .val (.int p1), .val (.int p2), .val (.int p3), .val (.ref b1), .unset, .unset, .unset, .unset, .unset, .unset, .unset, .unset]) (rest := []) (hb hby at_53)
  refine own_via st17 ?_
  have f18 : Sta Z h17 "java/lang/String" "COMPACT_STRINGS" "Z" (.int zc) := f14.wr W17
  have f19 : Arv Z h17 b1 k1 .char (4 : Int32) [(.int (nar .char ((p3 &&& (255 : Int32)).toUInt32.toUInt16.toUInt32.toInt32))), (.int (nar .char ((((p3.toUInt32 >>> ((8 : Int32) &&& 31).toUInt32).toInt32) &&& (255 : Int32)).toUInt32.toUInt16.toUInt32.toInt32))), (.int (nar .char ((((p3.toUInt32 >>> ((16 : Int32) &&& 31).toUInt32).toInt32) &&& (255 : Int32)).toUInt32.toUInt16.toUInt32.toInt32))), (.int (nar .char ((((p3.toUInt32 >>> ((24 : Int32) &&& 31).toUInt32).toInt32) &&& (255 : Int32)).toUInt32.toUInt16.toUInt32.toInt32)))] (.int (0 : Int32)) := V17
  have Zs20 : n0 ≤ h17.size := by rw [W17.size]; exact Zs16
  show own_G p e below _ (T17.setTop (mkF m 54 #[.val (.int p0), .val (.int p1), .val (.int p2), .val (.int p3), .val (.ref b1), .unset, .unset, .unset, .unset, .unset, .unset, .unset, .unset] []))
  obtain ⟨T21, h21, b21, X21, e21, E21, ga21, A21, D21, st21⟩ := own_newO X17 hx hZ hown (hw _ (List.mem_of_getElem? (i := 1) rfl)) (hw _ (List.mem_of_getElem? (i := 2) rfl)) (hw _ (List.mem_of_getElem? (i := 3) rfl)) e17 (pc := 54) (Ls := #[.val (.int p0), .val (.int p1), .val (.int p2), .val (.int p3), .val (.ref b1), .unset, .unset, .unset, .unset, .unset, .unset, .unset, .unset]) (rest := []) (hb hby at_54) (by decide) (by decide)
  refine own_via st21 ?_
  have ne22 : b1 ≠ b21 := Nat.ne_of_lt (Nat.lt_of_lt_of_le f19.lt (Nat.le_of_eq ga21.symm))
  have f23 : Sta Z h21 "java/lang/String" "COMPACT_STRINGS" "Z" (.int zc) := f18.ext E21
  have f24 : Arv Z h21 b1 k1 .char (4 : Int32) [(.int (nar .char ((p3 &&& (255 : Int32)).toUInt32.toUInt16.toUInt32.toInt32))), (.int (nar .char ((((p3.toUInt32 >>> ((8 : Int32) &&& 31).toUInt32).toInt32) &&& (255 : Int32)).toUInt32.toUInt16.toUInt32.toInt32))), (.int (nar .char ((((p3.toUInt32 >>> ((16 : Int32) &&& 31).toUInt32).toInt32) &&& (255 : Int32)).toUInt32.toUInt16.toUInt32.toInt32))), (.int (nar .char ((((p3.toUInt32 >>> ((24 : Int32) &&& 31).toUInt32).toInt32) &&& (255 : Int32)).toUInt32.toUInt16.toUInt32.toInt32)))] (.int (0 : Int32)) := f19.ext E21
  have f25 : Fld Z h21 b21 "java/lang/String" "coder" "B" (.int (0 : Int32)) := D21 (Or.inr (hw _ (List.mem_of_getElem? (i := 27) rfl))) (ty := .byte) (by decide)
  have f26 : Fld Z h21 b21 "java/lang/String" "value" "[B" .null := D21 (Or.inr (hw _ (List.mem_of_getElem? (i := 29) rfl))) (ty := (.array .byte)) (by decide)
  have g_b21 : n0 ≤ b21 := Nat.le_trans Zs20 (Nat.le_of_eq ga21.symm)
  have Zs27 : n0 ≤ h21.size := Nat.le_trans Zs20 E21.1
  show own_G p e below _ (T21.setTop (mkF m 57 #[.val (.int p0), .val (.int p1), .val (.int p2), .val (.int p3), .val (.ref b1), .unset, .unset, .unset, .unset, .unset, .unset, .unset, .unset] [(.ref b21)]))
  refine own_via (fun t k => XS.dup X21.here hx rfl (hb hby at_57) rfl rfl k) ?_
  show own_G p e below _ (T21.setTop (mkF m 58 #[.val (.int p0), .val (.int p1), .val (.int p2), .val (.int p3), .val (.ref b1), .unset, .unset, .unset, .unset, .unset, .unset, .unset, .unset] [(.ref b21), (.ref b21)]))
  refine own_via (fun t k => XS.aload X21.here hx rfl (hb hby at_58) rfl rfl k) ?_
  show own_G p e below _ (T21.setTop (mkF m 60 #[.val (.int p0), .val (.int p1), .val (.int p2), .val (.int p3), .val (.ref b1), .unset, .unset, .unset, .unset, .unset, .unset, .unset, .unset] [(.ref b1), (.ref b21), (.ref b21)]))
  have hws : ∀ d ∈ StrChars.Road.words, d.before a0 Z = true := fun d hd => hw d ((by decide +kernel : ∀ d ∈ StrChars.Road.words, d ∈ tables_1) d hd)
  have hlat : ∀ c ∈ [(nar .char ((p3 &&& (255 : Int32)).toUInt32.toUInt16.toUInt32.toInt32)), (nar .char ((((p3.toUInt32 >>> ((8 : Int32) &&& 31).toUInt32).toInt32) &&& (255 : Int32)).toUInt32.toUInt16.toUInt32.toInt32)), (nar .char ((((p3.toUInt32 >>> ((16 : Int32) &&& 31).toUInt32).toInt32) &&& (255 : Int32)).toUInt32.toUInt16.toUInt32.toInt32)), (nar .char ((((p3.toUInt32 >>> ((24 : Int32) &&& 31).toUInt32).toInt32) &&& (255 : Int32)).toUInt32.toUInt16.toUInt32.toInt32))], ¬ c < 0 ∧ ¬ (255 : Int32) < c := by
    intro c hc
    simp only [List.mem_cons, List.not_mem_nil, or_false] at hc
    rcases hc with rfl | rfl | rfl | rfl <;> (simp only [nar, i2c_mask]; exact own_255 _)
  obtain ⟨_, _, ⟨T28, L28, k28, n28⟩, -, X28, ⟨Lc28, hQ28, l28, y28, z28⟩, st28⟩ := X21.specialBack hx (y := (⟨"java/lang/String", "<init>", "([C)V"⟩ : MethodName)) rfl hown (mvT hZ (hw _ (List.mem_of_getElem? (i := 4) rfl))) (mvT hZ (hw _ (List.mem_of_getElem? (i := 5) rfl))) (mvT hZ (hw _ (List.mem_of_getElem? (i := 6) rfl))) (by decide) (StrChars.Road.backV (W := 1) hZ hws (kI := 4) (hw _ (List.mem_of_getElem? (i := 2) rfl)) (cs := [(nar .char ((p3 &&& (255 : Int32)).toUInt32.toUInt16.toUInt32.toInt32)), (nar .char ((((p3.toUInt32 >>> ((8 : Int32) &&& 31).toUInt32).toInt32) &&& (255 : Int32)).toUInt32.toUInt16.toUInt32.toInt32)), (nar .char ((((p3.toUInt32 >>> ((16 : Int32) &&& 31).toUInt32).toInt32) &&& (255 : Int32)).toUInt32.toUInt16.toUInt32.toInt32)), (nar .char ((((p3.toUInt32 >>> ((24 : Int32) &&& 31).toUInt32).toInt32) &&& (255 : Int32)).toUInt32.toUInt16.toUInt32.toInt32))]) (bs := [((nar .char ((p3 &&& (255 : Int32)).toUInt32.toUInt16.toUInt32.toInt32))).toInt8.toInt32, ((nar .char ((((p3.toUInt32 >>> ((8 : Int32) &&& 31).toUInt32).toInt32) &&& (255 : Int32)).toUInt32.toUInt16.toUInt32.toInt32))).toInt8.toInt32, ((nar .char ((((p3.toUInt32 >>> ((16 : Int32) &&& 31).toUInt32).toInt32) &&& (255 : Int32)).toUInt32.toUInt16.toUInt32.toInt32))).toInt8.toInt32, ((nar .char ((((p3.toUInt32 >>> ((24 : Int32) &&& 31).toUInt32).toInt32) &&& (255 : Int32)).toUInt32.toUInt16.toUInt32.toInt32))).toInt8.toInt32]) (n := 4) g_b21 Zs27 A21 f26 f25 f24 f23 hp_hz rfl rfl (by decide) (by decide) hlat rfl (by decide) (by decide)) (g := (mkF m 60 #[.val (.int p0), .val (.int p1), .val (.int p2), .val (.int p3), .val (.ref b1), .unset, .unset, .unset, .unset, .unset, .unset, .unset, .unset] [(.ref b1), (.ref b21), (.ref b21)])) rfl (by rw [hml]; rfl) (Steps.refl _) (a := b21) (argsL := [(.ref b1)]) (rest := [(.ref b21)]) (lenOf own_pd1 rfl) rfl (by show 2 * 0 + _ ≤ _; exact Nat.le_of_eq rfl) (hb hby at_60) (fun _ _ => ⟨rfl, e21, (by decide : 2 + 1 ≤ _), (by decide : 8 + 4 ≤ _)⟩)
  dsimp only [Pt.U, Pt.locs, Pt.cells, Pt.slots] at X28 l28 y28 z28 st28 hQ28
  subst l28 y28 z28
  obtain ⟨rfl, N28q, K28, Es28, -⟩ := hQ28
  have N28 := Fr.app N17 N28q
  obtain ⟨h28, e28⟩ : ∃ z, T28.heap = z := ⟨_, rfl⟩
  rw [e28] at K28 Es28
  refine own_via (fun t k => st28.trans k) ?_
  have f29 : Exa Z h28 b21 "java/lang/String" := A21.keep K28
  have Zs30 : n0 ≤ h28.size := Nat.le_trans Zs27 K28.1
  show own_G p e below _ (T28.setTop (mkF m 63 #[.val (.int p0), .val (.int p1), .val (.int p2), .val (.int p3), .val (.ref b1), .unset, .unset, .unset, .unset, .unset, .unset, .unset, .unset] [(.ref b21)]))
  refine own_via (fun t k => XS.astore X28.here hx rfl (hb hby at_63) rfl rfl (l' := #[.val (.int p0), .val (.int p1), .val (.int p2), .val (.int p3), .val (.ref b1), .val (.ref b21), .unset, .unset, .unset, .unset, .unset, .unset, .unset]) rfl k) ?_
  show own_G p e below _ (T28.setTop (mkF m 65 #[.val (.int p0), .val (.int p1), .val (.int p2), .val (.int p3), .val (.ref b1), .val (.ref b21), .unset, .unset, .unset, .unset, .unset, .unset, .unset] []))
  refine own_via (fun t k => XS.iloadN X28.here hx rfl (hb hby at_65) rfl k) ?_
  show own_G p e below _ (T28.setTop (mkF m 66 #[.val (.int p0), .val (.int p1), .val (.int p2), .val (.int p3), .val (.ref b1), .val (.ref b21), .unset, .unset, .unset, .unset, .unset, .unset, .unset] [(.int p0)]))
  refine own_via (X28.ldcInt hx hown (mvT hZ (hw _ (List.mem_of_getElem? (i := 30) rfl))) (g := (mkF m 66 #[.val (.int p0), .val (.int p1), .val (.int p2), .val (.int p3), .val (.ref b1), .val (.ref b21), .unset, .unset, .unset, .unset, .unset, .unset, .unset] [(.int p0)])) rfl (hb hby at_66)) ?_
  show own_G p e below _ (T28.setTop (mkF m 68 #[.val (.int p0), .val (.int p1), .val (.int p2), .val (.int p3), .val (.ref b1), .val (.ref b21), .unset, .unset, .unset, .unset, .unset, .unset, .unset] [(.int (2147483647 : Int32)), (.int p0)]))
  refine own_via (fun t k => XS.iand X28.here hx rfl (hb hby at_68) rfl k) ?_
  show own_G p e below _ (T28.setTop (mkF m 69 #[.val (.int p0), .val (.int p1), .val (.int p2), .val (.int p3), .val (.ref b1), .val (.ref b21), .unset, .unset, .unset, .unset, .unset, .unset, .unset] [(.int (p0 &&& (2147483647 : Int32)))]))
  refine own_via (fun t k => XS.iconst X28.here hx rfl (hb hby at_69) k) ?_
  show own_G p e below _ (T28.setTop (mkF m 70 #[.val (.int p0), .val (.int p1), .val (.int p2), .val (.int p3), .val (.ref b1), .val (.ref b21), .unset, .unset, .unset, .unset, .unset, .unset, .unset] [(.int (5 : Int32)), (.int (p0 &&& (2147483647 : Int32)))]))
  refine own_via (fun t k => XS.irem X28.here hx rfl (hb hby at_70) rfl (by decide) k) ?_
  show own_G p e below _ (T28.setTop (mkF m 71 #[.val (.int p0), .val (.int p1), .val (.int p2), .val (.int p3), .val (.ref b1), .val (.ref b21), .unset, .unset, .unset, .unset, .unset, .unset, .unset] [(.int ((p0 &&& (2147483647 : Int32)) - ((p0 &&& (2147483647 : Int32)) / (5 : Int32)) * (5 : Int32)))]))
  generalize hvg31 : ((p0 &&& (2147483647 : Int32)) - ((p0 &&& (2147483647 : Int32)) / (5 : Int32)) * (5 : Int32)) = vg31
  show own_G p e below _ (T28.setTop (mkF m 71 #[.val (.int p0), .val (.int p1), .val (.int p2), .val (.int p3), .val (.ref b1), .val (.ref b21), .unset, .unset, .unset, .unset, .unset, .unset, .unset] [(.int vg31)]))
  refine own_via (fun t k => XS.istore X28.here hx rfl (hb hby at_71) rfl (l' := #[.val (.int p0), .val (.int p1), .val (.int p2), .val (.int p3), .val (.ref b1), .val (.ref b21), .val (.int vg31), .unset, .unset, .unset, .unset, .unset, .unset]) rfl k) ?_
  show own_G p e below _ (T28.setTop (mkF m 73 #[.val (.int p0), .val (.int p1), .val (.int p2), .val (.int p3), .val (.ref b1), .val (.ref b21), .val (.int vg31), .unset, .unset, .unset, .unset, .unset, .unset] []))
  refine own_via (fun t k => XS.iload X28.here hx rfl (hb hby at_73) rfl k) ?_
  show own_G p e below _ (T28.setTop (mkF m 75 #[.val (.int p0), .val (.int p1), .val (.int p2), .val (.int p3), .val (.ref b1), .val (.ref b21), .val (.int vg31), .unset, .unset, .unset, .unset, .unset, .unset] [(.int vg31)]))
  refine own_via (fun t k => XS.iloadN X28.here hx rfl (hb hby at_75) rfl k) ?_
  show own_G p e below _ (T28.setTop (mkF m 76 #[.val (.int p0), .val (.int p1), .val (.int p2), .val (.int p3), .val (.ref b1), .val (.ref b21), .val (.int vg31), .unset, .unset, .unset, .unset, .unset, .unset] [(.int p1), (.int vg31)]))
  refine own_via (X28.ldcInt hx hown (mvT hZ (hw _ (List.mem_of_getElem? (i := 30) rfl))) (g := (mkF m 76 #[.val (.int p0), .val (.int p1), .val (.int p2), .val (.int p3), .val (.ref b1), .val (.ref b21), .val (.int vg31), .unset, .unset, .unset, .unset, .unset, .unset] [(.int p1), (.int vg31)])) rfl (hb hby at_76)) ?_
  show own_G p e below _ (T28.setTop (mkF m 78 #[.val (.int p0), .val (.int p1), .val (.int p2), .val (.int p3), .val (.ref b1), .val (.ref b21), .val (.int vg31), .unset, .unset, .unset, .unset, .unset, .unset] [(.int (2147483647 : Int32)), (.int p1), (.int vg31)]))
  refine own_via (fun t k => XS.iand X28.here hx rfl (hb hby at_78) rfl k) ?_
  show own_G p e below _ (T28.setTop (mkF m 79 #[.val (.int p0), .val (.int p1), .val (.int p2), .val (.int p3), .val (.ref b1), .val (.ref b21), .val (.int vg31), .unset, .unset, .unset, .unset, .unset, .unset] [(.int (p1 &&& (2147483647 : Int32))), (.int vg31)]))
  refine own_via (fun t k => XS.iconst X28.here hx rfl (hb hby at_79) k) ?_
  show own_G p e below _ (T28.setTop (mkF m 80 #[.val (.int p0), .val (.int p1), .val (.int p2), .val (.int p3), .val (.ref b1), .val (.ref b21), .val (.int vg31), .unset, .unset, .unset, .unset, .unset, .unset] [(.int (5 : Int32)), (.int (p1 &&& (2147483647 : Int32))), (.int vg31)]))
  refine own_via (fun t k => XS.iload X28.here hx rfl (hb hby at_80) rfl k) ?_
  show own_G p e below _ (T28.setTop (mkF m 82 #[.val (.int p0), .val (.int p1), .val (.int p2), .val (.int p3), .val (.ref b1), .val (.ref b21), .val (.int vg31), .unset, .unset, .unset, .unset, .unset, .unset] [(.int vg31), (.int (5 : Int32)), (.int (p1 &&& (2147483647 : Int32))), (.int vg31)]))
  refine own_via (fun t k => XS.isub X28.here hx rfl (hb hby at_82) rfl k) ?_
  show own_G p e below _ (T28.setTop (mkF m 83 #[.val (.int p0), .val (.int p1), .val (.int p2), .val (.int p3), .val (.ref b1), .val (.ref b21), .val (.int vg31), .unset, .unset, .unset, .unset, .unset, .unset] [(.int ((5 : Int32) - vg31)), (.int (p1 &&& (2147483647 : Int32))), (.int vg31)]))
  refine own_via (fun t k => XS.irem X28.here hx rfl (hb hby at_83) rfl (own_nz5 (own_s hvg31)) k) ?_
  show own_G p e below _ (T28.setTop (mkF m 84 #[.val (.int p0), .val (.int p1), .val (.int p2), .val (.int p3), .val (.ref b1), .val (.ref b21), .val (.int vg31), .unset, .unset, .unset, .unset, .unset, .unset] [(.int ((p1 &&& (2147483647 : Int32)) - ((p1 &&& (2147483647 : Int32)) / ((5 : Int32) - vg31)) * ((5 : Int32) - vg31))), (.int vg31)]))
  refine own_via (fun t k => XS.iadd X28.here hx rfl (hb hby at_84) rfl k) ?_
  show own_G p e below _ (T28.setTop (mkF m 85 #[.val (.int p0), .val (.int p1), .val (.int p2), .val (.int p3), .val (.ref b1), .val (.ref b21), .val (.int vg31), .unset, .unset, .unset, .unset, .unset, .unset] [(.int (vg31 + ((p1 &&& (2147483647 : Int32)) - ((p1 &&& (2147483647 : Int32)) / ((5 : Int32) - vg31)) * ((5 : Int32) - vg31))))]))
  generalize hvg32 : (vg31 + ((p1 &&& (2147483647 : Int32)) - ((p1 &&& (2147483647 : Int32)) / ((5 : Int32) - vg31)) * ((5 : Int32) - vg31))) = vg32
  show own_G p e below _ (T28.setTop (mkF m 85 #[.val (.int p0), .val (.int p1), .val (.int p2), .val (.int p3), .val (.ref b1), .val (.ref b21), .val (.int vg31), .unset, .unset, .unset, .unset, .unset, .unset] [(.int vg32)]))
  refine own_via (fun t k => XS.istore X28.here hx rfl (hb hby at_85) rfl (l' := #[.val (.int p0), .val (.int p1), .val (.int p2), .val (.int p3), .val (.ref b1), .val (.ref b21), .val (.int vg31), .val (.int vg32), .unset, .unset, .unset, .unset, .unset]) rfl k) ?_
  show own_G p e below _ (T28.setTop (mkF m 87 #[.val (.int p0), .val (.int p1), .val (.int p2), .val (.int p3), .val (.ref b1), .val (.ref b21), .val (.int vg31), .val (.int vg32), .unset, .unset, .unset, .unset, .unset] []))
  refine own_via (fun t k => XS.iload X28.here hx rfl (hb hby at_87) rfl k) ?_
  show own_G p e below _ (T28.setTop (mkF m 89 #[.val (.int p0), .val (.int p1), .val (.int p2), .val (.int p3), .val (.ref b1), .val (.ref b21), .val (.int vg31), .val (.int vg32), .unset, .unset, .unset, .unset, .unset] [(.int vg32)]))
  refine own_via (fun t k => XS.iload X28.here hx rfl (hb hby at_89) rfl k) ?_
  show own_G p e below _ (T28.setTop (mkF m 91 #[.val (.int p0), .val (.int p1), .val (.int p2), .val (.int p3), .val (.ref b1), .val (.ref b21), .val (.int vg31), .val (.int vg32), .unset, .unset, .unset, .unset, .unset] [(.int vg31), (.int vg32)]))
  refine own_via (fun t k => XS.isub X28.here hx rfl (hb hby at_91) rfl k) ?_
  show own_G p e below _ (T28.setTop (mkF m 92 #[.val (.int p0), .val (.int p1), .val (.int p2), .val (.int p3), .val (.ref b1), .val (.ref b21), .val (.int vg31), .val (.int vg32), .unset, .unset, .unset, .unset, .unset] [(.int (vg32 - vg31))]))
  generalize hvg33 : (vg32 - vg31) = vg33
  show own_G p e below _ (T28.setTop (mkF m 92 #[.val (.int p0), .val (.int p1), .val (.int p2), .val (.int p3), .val (.ref b1), .val (.ref b21), .val (.int vg31), .val (.int vg32), .unset, .unset, .unset, .unset, .unset] [(.int vg33)]))
  refine own_via (fun t k => XS.istore X28.here hx rfl (hb hby at_92) rfl (l' := #[.val (.int p0), .val (.int p1), .val (.int p2), .val (.int p3), .val (.ref b1), .val (.ref b21), .val (.int vg31), .val (.int vg32), .val (.int vg33), .unset, .unset, .unset, .unset]) rfl k) ?_
  show own_G p e below _ (T28.setTop (mkF m 94 #[.val (.int p0), .val (.int p1), .val (.int p2), .val (.int p3), .val (.ref b1), .val (.ref b21), .val (.int vg31), .val (.int vg32), .val (.int vg33), .unset, .unset, .unset, .unset] []))
  refine own_via (fun t k => XS.iloadN X28.here hx rfl (hb hby at_94) rfl k) ?_
  show own_G p e below _ (T28.setTop (mkF m 95 #[.val (.int p0), .val (.int p1), .val (.int p2), .val (.int p3), .val (.ref b1), .val (.ref b21), .val (.int vg31), .val (.int vg32), .val (.int vg33), .unset, .unset, .unset, .unset] [(.int p2)]))
  refine own_via (X28.ldcInt hx hown (mvT hZ (hw _ (List.mem_of_getElem? (i := 30) rfl))) (g := (mkF m 95 #[.val (.int p0), .val (.int p1), .val (.int p2), .val (.int p3), .val (.ref b1), .val (.ref b21), .val (.int vg31), .val (.int vg32), .val (.int vg33), .unset, .unset, .unset, .unset] [(.int p2)])) rfl (hb hby at_95)) ?_
  show own_G p e below _ (T28.setTop (mkF m 97 #[.val (.int p0), .val (.int p1), .val (.int p2), .val (.int p3), .val (.ref b1), .val (.ref b21), .val (.int vg31), .val (.int vg32), .val (.int vg33), .unset, .unset, .unset, .unset] [(.int (2147483647 : Int32)), (.int p2)]))
  refine own_via (fun t k => XS.iand X28.here hx rfl (hb hby at_97) rfl k) ?_
  show own_G p e below _ (T28.setTop (mkF m 98 #[.val (.int p0), .val (.int p1), .val (.int p2), .val (.int p3), .val (.ref b1), .val (.ref b21), .val (.int vg31), .val (.int vg32), .val (.int vg33), .unset, .unset, .unset, .unset] [(.int (p2 &&& (2147483647 : Int32)))]))
  refine own_via (fun t k => XS.iload X28.here hx rfl (hb hby at_98) rfl k) ?_
  show own_G p e below _ (T28.setTop (mkF m 100 #[.val (.int p0), .val (.int p1), .val (.int p2), .val (.int p3), .val (.ref b1), .val (.ref b21), .val (.int vg31), .val (.int vg32), .val (.int vg33), .unset, .unset, .unset, .unset] [(.int vg33), (.int (p2 &&& (2147483647 : Int32)))]))
  refine own_via (fun t k => XS.iconst X28.here hx rfl (hb hby at_100) k) ?_
  show own_G p e below _ (T28.setTop (mkF m 101 #[.val (.int p0), .val (.int p1), .val (.int p2), .val (.int p3), .val (.ref b1), .val (.ref b21), .val (.int vg31), .val (.int vg32), .val (.int vg33), .unset, .unset, .unset, .unset] [(.int (1 : Int32)), (.int vg33), (.int (p2 &&& (2147483647 : Int32)))]))
  refine own_via (fun t k => XS.iadd X28.here hx rfl (hb hby at_101) rfl k) ?_
  show own_G p e below _ (T28.setTop (mkF m 102 #[.val (.int p0), .val (.int p1), .val (.int p2), .val (.int p3), .val (.ref b1), .val (.ref b21), .val (.int vg31), .val (.int vg32), .val (.int vg33), .unset, .unset, .unset, .unset] [(.int (vg33 + (1 : Int32))), (.int (p2 &&& (2147483647 : Int32)))]))
  refine own_via (fun t k => XS.irem X28.here hx rfl (hb hby at_102) rfl (own_nz1 ⟨(own_l (own_s hvg31) (own_e (own_s hvg31) hvg32) hvg33).1, (own_l (own_s hvg31) (own_e (own_s hvg31) hvg32) hvg33).2.1⟩) k) ?_
  show own_G p e below _ (T28.setTop (mkF m 103 #[.val (.int p0), .val (.int p1), .val (.int p2), .val (.int p3), .val (.ref b1), .val (.ref b21), .val (.int vg31), .val (.int vg32), .val (.int vg33), .unset, .unset, .unset, .unset] [(.int ((p2 &&& (2147483647 : Int32)) - ((p2 &&& (2147483647 : Int32)) / (vg33 + (1 : Int32))) * (vg33 + (1 : Int32))))]))
  generalize hvg34 : ((p2 &&& (2147483647 : Int32)) - ((p2 &&& (2147483647 : Int32)) / (vg33 + (1 : Int32))) * (vg33 + (1 : Int32))) = vg34
  show own_G p e below _ (T28.setTop (mkF m 103 #[.val (.int p0), .val (.int p1), .val (.int p2), .val (.int p3), .val (.ref b1), .val (.ref b21), .val (.int vg31), .val (.int vg32), .val (.int vg33), .unset, .unset, .unset, .unset] [(.int vg34)]))
  refine own_via (fun t k => XS.istore X28.here hx rfl (hb hby at_103) rfl (l' := #[.val (.int p0), .val (.int p1), .val (.int p2), .val (.int p3), .val (.ref b1), .val (.ref b21), .val (.int vg31), .val (.int vg32), .val (.int vg33), .val (.int vg34), .unset, .unset, .unset]) rfl k) ?_
  show own_G p e below _ (T28.setTop (mkF m 105 #[.val (.int p0), .val (.int p1), .val (.int p2), .val (.int p3), .val (.ref b1), .val (.ref b21), .val (.int vg31), .val (.int vg32), .val (.int vg33), .val (.int vg34), .unset, .unset, .unset] []))
  obtain ⟨T35, h35, b35, X35, e35, E35, ga35, A35, D35, st35⟩ := own_newO X28 hx hZ hown (hw _ (List.mem_of_getElem? (i := 31) rfl)) (hw _ (List.mem_of_getElem? (i := 32) rfl)) (hw _ (List.mem_of_getElem? (i := 33) rfl)) e28 (pc := 105) (Ls := #[.val (.int p0), .val (.int p1), .val (.int p2), .val (.int p3), .val (.ref b1), .val (.ref b21), .val (.int vg31), .val (.int vg32), .val (.int vg33), .val (.int vg34), .unset, .unset, .unset]) (rest := []) (hb hby at_105) (by decide) (by decide)
  refine own_via st35 ?_
  have ne36 : b21 ≠ b35 := Nat.ne_of_lt (Nat.lt_of_lt_of_le f29.lt (Nat.le_of_eq ga35.symm))
  have f37 : Exa Z h35 b21 "java/lang/String" := f29.ext E35
  have f38 : Fld Z h35 b35 "com/example/valbonne/valbonne/exposition/TextFormat$Cursor" "labelNames" "Lcom/example/valbonne/valbonne/exposition/TextFormat$LabelNames;" .null := D35 (Or.inr (hw _ (List.mem_of_getElem? (i := 51) rfl))) (ty := (.object "com/example/valbonne/valbonne/exposition/TextFormat$LabelNames")) (by decide)
  have f39 : Fld Z h35 b35 "com/example/valbonne/valbonne/exposition/TextFormat$Cursor" "shared" "[Ljava/lang/String;" .null := D35 (Or.inr (hw _ (List.mem_of_getElem? (i := 55) rfl))) (ty := (.array (.object "java/lang/String"))) (by decide)
  have f40 : Fld Z h35 b35 "com/example/valbonne/valbonne/exposition/TextFormat$Cursor" "backslash" "I" (.int (0 : Int32)) := D35 (Or.inl (hw _ (List.mem_of_getElem? (i := 57) rfl))) (ty := .int) (by decide)
  have f41 : Fld Z h35 b35 "com/example/valbonne/valbonne/exposition/TextFormat$Cursor" "text" "Ljava/lang/String;" .null := D35 (Or.inr (hw _ (List.mem_of_getElem? (i := 59) rfl))) (ty := (.object "java/lang/String")) (by decide)
  have f42 : Fld Z h35 b35 "com/example/valbonne/valbonne/exposition/TextFormat$Cursor" "start" "I" (.int (0 : Int32)) := D35 (Or.inl (hw _ (List.mem_of_getElem? (i := 66) rfl))) (ty := .int) (by decide)
  have f43 : Fld Z h35 b35 "com/example/valbonne/valbonne/exposition/TextFormat$Cursor" "end" "I" (.int (0 : Int32)) := D35 (Or.inl (hw _ (List.mem_of_getElem? (i := 68) rfl))) (ty := .int) (by decide)
  have f44 : Fld Z h35 b35 "com/example/valbonne/valbonne/exposition/TextFormat$Cursor" "position" "I" (.int (0 : Int32)) := D35 (Or.inl (hw _ (List.mem_of_getElem? (i := 70) rfl))) (ty := .int) (by decide)
  have g_b35 : n0 ≤ b35 := Nat.le_trans Zs30 (Nat.le_of_eq ga35.symm)
  have Zs45 : n0 ≤ h35.size := Nat.le_trans Zs30 E35.1
  show own_G p e below _ (T35.setTop (mkF m 108 #[.val (.int p0), .val (.int p1), .val (.int p2), .val (.int p3), .val (.ref b1), .val (.ref b21), .val (.int vg31), .val (.int vg32), .val (.int vg33), .val (.int vg34), .unset, .unset, .unset] [(.ref b35)]))
  refine own_via (fun t k => XS.dup X35.here hx rfl (hb hby at_108) rfl rfl k) ?_
  show own_G p e below _ (T35.setTop (mkF m 109 #[.val (.int p0), .val (.int p1), .val (.int p2), .val (.int p3), .val (.ref b1), .val (.ref b21), .val (.int vg31), .val (.int vg32), .val (.int vg33), .val (.int vg34), .unset, .unset, .unset] [(.ref b35), (.ref b35)]))
  refine own_via (fun t k => XS.aload X35.here hx rfl (hb hby at_109) rfl rfl k) ?_
  show own_G p e below _ (T35.setTop (mkF m 111 #[.val (.int p0), .val (.int p1), .val (.int p2), .val (.int p3), .val (.ref b1), .val (.ref b21), .val (.int vg31), .val (.int vg32), .val (.int vg33), .val (.int vg34), .unset, .unset, .unset] [(.ref b21), (.ref b35), (.ref b35)]))
  obtain ⟨v46, T46, h46, L46, X46, N46, e46, hq46, st46⟩ := own_callI (y := (⟨"com/example/valbonne/valbonne/exposition/TextFormat$Cursor", "<init>", "(Ljava/lang/String;)V"⟩ : MethodName)) (W := 1) (a := b35) X35 N28 hx hZ rfl hown (hw _ (List.mem_of_getElem? (i := 34) rfl)) (hw _ (List.mem_of_getElem? (i := 35) rfl)) (hw _ (List.mem_of_getElem? (i := 33) rfl)) (hw _ (List.mem_of_getElem? (i := 36) rfl)) (by decide) (own_cur l Z a0 hw [] b35 b21 (.null) (.null) (.int (0 : Int32)) (.null) (.int (0 : Int32)) (.int (0 : Int32)) (.int (0 : Int32)) h35 n0 Zs45 A35 f38 f39 f40 f41 f42 f43 f44 g_b35) (by decide) (by decide) (by decide) (by decide) e35 (pc := 111) (Ls := #[.val (.int p0), .val (.int p1), .val (.int p2), .val (.int p3), .val (.ref b1), .val (.ref b21), .val (.int vg31), .val (.int vg32), .val (.int vg33), .val (.int vg34), .unset, .unset, .unset]) (st := [(.ref b21), (.ref b35), (.ref b35)]) (argsL := [(.ref b21)]) (rest := [(.ref b35)]) (by rw [hml]; rfl) (lenOf own_pd2 rfl) rfl rfl (Nat.le_of_eq rfl) (hb hby at_111)
  obtain ⟨rfl, K46, o46_0, o46_1, o46_2, o46_3⟩ := hq46
  refine own_via st46 ?_
  have f47 : Exa Z h46 b21 "java/lang/String" := f37.keep K46
  have f48 : Exa Z h46 b35 "com/example/valbonne/valbonne/exposition/TextFormat$Cursor" := A35.keep K46
  have Zs49 : n0 ≤ h46.size := Nat.le_trans Zs45 K46.1
  show own_G p e below _ (T46.setTop (mkF m 114 #[.val (.int p0), .val (.int p1), .val (.int p2), .val (.int p3), .val (.ref b1), .val (.ref b21), .val (.int vg31), .val (.int vg32), .val (.int vg33), .val (.int vg34), .unset, .unset, .unset] [(.ref b35)]))
  refine own_via (fun t k => XS.astore X46.here hx rfl (hb hby at_114) rfl rfl (l' := #[.val (.int p0), .val (.int p1), .val (.int p2), .val (.int p3), .val (.ref b1), .val (.ref b21), .val (.int vg31), .val (.int vg32), .val (.int vg33), .val (.int vg34), .val (.ref b35), .unset, .unset]) rfl k) ?_
  show own_G p e below _ (T46.setTop (mkF m 116 #[.val (.int p0), .val (.int p1), .val (.int p2), .val (.int p3), .val (.ref b1), .val (.ref b21), .val (.int vg31), .val (.int vg32), .val (.int vg33), .val (.int vg34), .val (.ref b35), .unset, .unset] []))
  refine own_via (fun t k => XS.aload X46.here hx rfl (hb hby at_116) rfl rfl k) ?_
  show own_G p e below _ (T46.setTop (mkF m 118 #[.val (.int p0), .val (.int p1), .val (.int p2), .val (.int p3), .val (.ref b1), .val (.ref b21), .val (.int vg31), .val (.int vg32), .val (.int vg33), .val (.int vg34), .val (.ref b35), .unset, .unset] [(.ref b35)]))
  refine own_via (fun t k => XS.iload X46.here hx rfl (hb hby at_118) rfl k) ?_
  show own_G p e below _ (T46.setTop (mkF m 120 #[.val (.int p0), .val (.int p1), .val (.int p2), .val (.int p3), .val (.ref b1), .val (.ref b21), .val (.int vg31), .val (.int vg32), .val (.int vg33), .val (.int vg34), .val (.ref b35), .unset, .unset] [(.int vg31), (.ref b35)]))
  refine own_via (fun t k => XS.iload X46.here hx rfl (hb hby at_120) rfl k) ?_
  show own_G p e below _ (T46.setTop (mkF m 122 #[.val (.int p0), .val (.int p1), .val (.int p2), .val (.int p3), .val (.ref b1), .val (.ref b21), .val (.int vg31), .val (.int vg32), .val (.int vg33), .val (.int vg34), .val (.ref b35), .unset, .unset] [(.int vg32), (.int vg31), (.ref b35)]))
  obtain ⟨v50, T50, h50, L50, X50, N50, e50, hq50, st50⟩ := own_callV (y := (⟨"com/example/valbonne/valbonne/exposition/TextFormat$Cursor", "line", "(II)Lcom/example/valbonne/valbonne/exposition/TextFormat$Cursor;"⟩ : MethodName)) (z := (⟨"com/example/valbonne/valbonne/exposition/TextFormat$Cursor", "line", "(II)Lcom/example/valbonne/valbonne/exposition/TextFormat$Cursor;"⟩ : MethodName)) (W := 0) (a := b35) X46 N46 hx hZ hown (hw _ (List.mem_of_getElem? (i := 60) rfl)) (hw _ (List.mem_of_getElem? (i := 61) rfl)) (notFace_of_selects (args := #[]) (mvT hZ (hw _ (List.mem_of_getElem? (i := 63) rfl)))) (hw _ (List.mem_of_getElem? (i := 63) rfl)) (hw _ (List.mem_of_getElem? (i := 62) rfl)) (hw _ (List.mem_of_getElem? (i := 33) rfl)) (hw _ (List.mem_of_getElem? (i := 64) rfl)) (by decide) (own_line l Z a0 hw [] b35 vg31 vg32 (.int (0 : Int32)) (.int (0 : Int32)) (.int (0 : Int32)) h46 n0 Zs49 o46_0 o46_1 o46_2 o46_3 g_b35) (by decide) (by decide) (by decide) (by decide) e46 o46_0 (pc := 122) (Ls := #[.val (.int p0), .val (.int p1), .val (.int p2), .val (.int p3), .val (.ref b1), .val (.ref b21), .val (.int vg31), .val (.int vg32), .val (.int vg33), .val (.int vg34), .val (.ref b35), .unset, .unset]) (st := [(.int vg32), (.int vg31), (.ref b35)]) (argsL := [(.int vg31), (.int vg32)]) (rest := []) (by rw [hml]; rfl) (lenOf own_pd3 rfl) rfl rfl (Nat.le_of_eq rfl) (hb hby at_122)
  obtain ⟨rfl, K50, o50_0, o50_1, o50_2, o50_3⟩ := hq50
  refine own_via st50 ?_
  have f51 : Exa Z h50 b21 "java/lang/String" := f47.keep K50
  have f52 : Exa Z h50 b35 "com/example/valbonne/valbonne/exposition/TextFormat$Cursor" := o46_0.keep K50
  have Zs53 : n0 ≤ h50.size := Nat.le_trans Zs49 K50.1
  show own_G p e below _ (T50.setTop (mkF m 125 #[.val (.int p0), .val (.int p1), .val (.int p2), .val (.int p3), .val (.ref b1), .val (.ref b21), .val (.int vg31), .val (.int vg32), .val (.int vg33), .val (.int vg34), .val (.ref b35), .unset, .unset] [(.ref b35)]))
  refine own_via (fun t k => XS.pop X50.here hx rfl (hb hby at_125) rfl rfl k) ?_
  show own_G p e below _ (T50.setTop (mkF m 126 #[.val (.int p0), .val (.int p1), .val (.int p2), .val (.int p3), .val (.ref b1), .val (.ref b21), .val (.int vg31), .val (.int vg32), .val (.int vg33), .val (.int vg34), .val (.ref b35), .unset, .unset] []))
  refine own_via (fun t k => XS.aload X50.here hx rfl (hb hby at_126) rfl rfl k) ?_
  show own_G p e below _ (T50.setTop (mkF m 128 #[.val (.int p0), .val (.int p1), .val (.int p2), .val (.int p3), .val (.ref b1), .val (.ref b21), .val (.int vg31), .val (.int vg32), .val (.int vg33), .val (.int vg34), .val (.ref b35), .unset, .unset] [(.ref b35)]))
  obtain ⟨T54, X54, e54, st54⟩ := own_callVP (y := (⟨"com/example/valbonne/valbonne/exposition/TextFormat$Cursor", "atEnd", "()Z"⟩ : MethodName)) (z := (⟨"com/example/valbonne/valbonne/exposition/TextFormat$Cursor", "atEnd", "()Z"⟩ : MethodName)) (W := 0) (a := b35) X50 hx hZ hown (hw _ (List.mem_of_getElem? (i := 71) rfl)) (hw _ (List.mem_of_getElem? (i := 72) rfl)) (notFace_of_selects (args := #[]) (mvT hZ (hw _ (List.mem_of_getElem? (i := 74) rfl)))) (hw _ (List.mem_of_getElem? (i := 74) rfl)) (hw _ (List.mem_of_getElem? (i := 73) rfl)) (hw _ (List.mem_of_getElem? (i := 33) rfl)) (hw _ (List.mem_of_getElem? (i := 75) rfl)) (by decide) (own_at l Z a0 hw [] b35 vg31 vg32 h50 o50_2 o50_3) (by decide) (by decide) rfl rfl (by decide) (by decide) e50 o50_0 (pc := 128) (Ls := #[.val (.int p0), .val (.int p1), .val (.int p2), .val (.int p3), .val (.ref b1), .val (.ref b21), .val (.int vg31), .val (.int vg32), .val (.int vg33), .val (.int vg34), .val (.ref b35), .unset, .unset]) (st := [(.ref b35)]) (argsL := []) (rest := []) (by rw [hml]; rfl) (lenOf own_pd4 rfl) rfl rfl (Nat.le_of_eq rfl) (hb hby at_128)
  refine own_via st54 ?_
  show own_G p e below _ (T54.setTop (mkF m 131 #[.val (.int p0), .val (.int p1), .val (.int p2), .val (.int p3), .val (.ref b1), .val (.ref b21), .val (.int vg31), .val (.int vg32), .val (.int vg33), .val (.int vg34), .val (.ref b35), .unset, .unset] [(.int (own_Fat vg31 vg32))]))
  refine own_via (fun t k => XS.iload X54.here hx rfl (hb hby at_131) rfl k) ?_
  show own_G p e below _ (T54.setTop (mkF m 133 #[.val (.int p0), .val (.int p1), .val (.int p2), .val (.int p3), .val (.ref b1), .val (.ref b21), .val (.int vg31), .val (.int vg32), .val (.int vg33), .val (.int vg34), .val (.ref b35), .unset, .unset] [(.int vg33), (.int (own_Fat vg31 vg32))]))
  have J55 : ∀ (TJ55 : State) (XJ55 : Stand p l e room_1 s m #[(.int p0), (.int p1), (.int p2), (.int p3)] below meth c TJ55 L50 7 64) (EJ55 : TJ55.heap = h50) (zj56 : Int32), zj56 = (if vg33 = (0 : Int32) then (1 : Int32) else (0 : Int32)) → own_G p e below (own_P s (own_W n0 (fun v _ => v = some (.int 1))) room_1.cells room_1.slots) (TJ55.setTop (mkF m 141 #[.val (.int p0), .val (.int p1), .val (.int p2), .val (.int p3), .val (.ref b1), .val (.ref b21), .val (.int vg31), .val (.int vg32), .val (.int vg33), .val (.int vg34), .val (.ref b35), .unset, .unset] [(.int zj56), (.int (own_Fat vg31 vg32))])) := by
    intro TJ55 XJ55 EJ55 zj56 hzj56
    refine own_via (fun t k => XS.icmpNo XJ55.here hx rfl (hb hby at_141) rfl (teq (by subst hzj56; exact own_before hvg33)).2 k) ?_
    show own_G p e below _ (TJ55.setTop (mkF m 144 #[.val (.int p0), .val (.int p1), .val (.int p2), .val (.int p3), .val (.ref b1), .val (.ref b21), .val (.int vg31), .val (.int vg32), .val (.int vg33), .val (.int vg34), .val (.ref b35), .unset, .unset] []))
    refine own_via (fun t k => XS.iconst XJ55.here hx rfl (hb hby at_144) k) ?_
    show own_G p e below _ (TJ55.setTop (mkF m 145 #[.val (.int p0), .val (.int p1), .val (.int p2), .val (.int p3), .val (.ref b1), .val (.ref b21), .val (.int vg31), .val (.int vg32), .val (.int vg33), .val (.int vg34), .val (.ref b35), .unset, .unset] [(.int (1 : Int32))]))
    refine own_via (fun t k => XS.goto XJ55.here hx rfl (pc0 := 145) (pc' := 149) rfl (hb hby at_145) (by decide) (by decide) k) ?_
    show own_G p e below _ (TJ55.setTop (mkF m 149 #[.val (.int p0), .val (.int p1), .val (.int p2), .val (.int p3), .val (.ref b1), .val (.ref b21), .val (.int vg31), .val (.int vg32), .val (.int vg33), .val (.int vg34), .val (.ref b35), .unset, .unset] [(.int (1 : Int32))]))
    refine own_via (fun t k => XS.istore XJ55.here hx rfl (hb hby at_149) rfl (l' := #[.val (.int p0), .val (.int p1), .val (.int p2), .val (.int p3), .val (.ref b1), .val (.ref b21), .val (.int vg31), .val (.int vg32), .val (.int vg33), .val (.int vg34), .val (.ref b35), .val (.int (1 : Int32)), .unset]) rfl k) ?_
    show own_G p e below _ (TJ55.setTop (mkF m 151 #[.val (.int p0), .val (.int p1), .val (.int p2), .val (.int p3), .val (.ref b1), .val (.ref b21), .val (.int vg31), .val (.int vg32), .val (.int vg33), .val (.int vg34), .val (.ref b35), .val (.int (1 : Int32)), .unset] []))
    refine own_via (fun t k => XS.iload XJ55.here hx rfl (hb hby at_151) rfl k) ?_
    show own_G p e below _ (TJ55.setTop (mkF m 153 #[.val (.int p0), .val (.int p1), .val (.int p2), .val (.int p3), .val (.ref b1), .val (.ref b21), .val (.int vg31), .val (.int vg32), .val (.int vg33), .val (.int vg34), .val (.ref b35), .val (.int (1 : Int32)), .unset] [(.int vg34)]))
    refine own_via (fun t k => XS.iconst XJ55.here hx rfl (hb hby at_153) k) ?_
    show own_G p e below _ (TJ55.setTop (mkF m 154 #[.val (.int p0), .val (.int p1), .val (.int p2), .val (.int p3), .val (.ref b1), .val (.ref b21), .val (.int vg31), .val (.int vg32), .val (.int vg33), .val (.int vg34), .val (.ref b35), .val (.int (1 : Int32)), .unset] [(.int (1 : Int32)), (.int vg34)]))
    by_cases hc57 : vg34 < (1 : Int32)
    ·
      refine own_via (fun t k => XS.icmpYes XJ55.here hx rfl (pc0 := 154) (pc' := 162) rfl (hb hby at_154) rfl (tlt hc57).1 (by decide) (by decide) k) ?_
      show own_G p e below _ (TJ55.setTop (mkF m 162 #[.val (.int p0), .val (.int p1), .val (.int p2), .val (.int p3), .val (.ref b1), .val (.ref b21), .val (.int vg31), .val (.int vg32), .val (.int vg33), .val (.int vg34), .val (.ref b35), .val (.int (1 : Int32)), .unset] []))
      refine own_via (fun t k => XS.iload XJ55.here hx rfl (hb hby at_162) rfl k) ?_
      show own_G p e below _ (TJ55.setTop (mkF m 164 #[.val (.int p0), .val (.int p1), .val (.int p2), .val (.int p3), .val (.ref b1), .val (.ref b21), .val (.int vg31), .val (.int vg32), .val (.int vg33), .val (.int vg34), .val (.ref b35), .val (.int (1 : Int32)), .unset] [(.int vg34)]))
      refine own_via (fun t k => XS.iconst XJ55.here hx rfl (hb hby at_164) k) ?_
      show own_G p e below _ (TJ55.setTop (mkF m 165 #[.val (.int p0), .val (.int p1), .val (.int p2), .val (.int p3), .val (.ref b1), .val (.ref b21), .val (.int vg31), .val (.int vg32), .val (.int vg33), .val (.int vg34), .val (.ref b35), .val (.int (1 : Int32)), .unset] [(.int (2 : Int32)), (.int vg34)]))
      refine own_via (fun t k => XS.icmpYes XJ55.here hx rfl (pc0 := 165) (pc' := 173) rfl (hb hby at_165) rfl (tlt (own_b5 (own_b1 hc57) (by decide))).1 (by decide) (by decide) k) ?_
      show own_G p e below _ (TJ55.setTop (mkF m 173 #[.val (.int p0), .val (.int p1), .val (.int p2), .val (.int p3), .val (.ref b1), .val (.ref b21), .val (.int vg31), .val (.int vg32), .val (.int vg33), .val (.int vg34), .val (.ref b35), .val (.int (1 : Int32)), .unset] []))
      refine own_via (fun t k => XS.iload XJ55.here hx rfl (hb hby at_173) rfl k) ?_
      show own_G p e below _ (TJ55.setTop (mkF m 175 #[.val (.int p0), .val (.int p1), .val (.int p2), .val (.int p3), .val (.ref b1), .val (.ref b21), .val (.int vg31), .val (.int vg32), .val (.int vg33), .val (.int vg34), .val (.ref b35), .val (.int (1 : Int32)), .unset] [(.int vg34)]))
      refine own_via (fun t k => XS.iconst XJ55.here hx rfl (hb hby at_175) k) ?_
      show own_G p e below _ (TJ55.setTop (mkF m 176 #[.val (.int p0), .val (.int p1), .val (.int p2), .val (.int p3), .val (.ref b1), .val (.ref b21), .val (.int vg31), .val (.int vg32), .val (.int vg33), .val (.int vg34), .val (.ref b35), .val (.int (1 : Int32)), .unset] [(.int (3 : Int32)), (.int vg34)]))
      refine own_via (fun t k => XS.icmpYes XJ55.here hx rfl (pc0 := 176) (pc' := 184) rfl (hb hby at_176) rfl (tlt (own_b5 (own_b1 hc57) (by decide))).1 (by decide) (by decide) k) ?_
      show own_G p e below _ (TJ55.setTop (mkF m 184 #[.val (.int p0), .val (.int p1), .val (.int p2), .val (.int p3), .val (.ref b1), .val (.ref b21), .val (.int vg31), .val (.int vg32), .val (.int vg33), .val (.int vg34), .val (.ref b35), .val (.int (1 : Int32)), .unset] []))
      refine own_via (fun t k => XS.iload XJ55.here hx rfl (hb hby at_184) rfl k) ?_
      show own_G p e below _ (TJ55.setTop (mkF m 186 #[.val (.int p0), .val (.int p1), .val (.int p2), .val (.int p3), .val (.ref b1), .val (.ref b21), .val (.int vg31), .val (.int vg32), .val (.int vg33), .val (.int vg34), .val (.ref b35), .val (.int (1 : Int32)), .unset] [(.int vg34)]))
      refine own_via (fun t k => XS.iconst XJ55.here hx rfl (hb hby at_186) k) ?_
      show own_G p e below _ (TJ55.setTop (mkF m 187 #[.val (.int p0), .val (.int p1), .val (.int p2), .val (.int p3), .val (.ref b1), .val (.ref b21), .val (.int vg31), .val (.int vg32), .val (.int vg33), .val (.int vg34), .val (.ref b35), .val (.int (1 : Int32)), .unset] [(.int (4 : Int32)), (.int vg34)]))
      refine own_via (fun t k => XS.icmpYes XJ55.here hx rfl (pc0 := 187) (pc' := 195) rfl (hb hby at_187) rfl (tlt (own_b5 (own_b1 hc57) (by decide))).1 (by decide) (by decide) k) ?_
      show own_G p e below _ (TJ55.setTop (mkF m 195 #[.val (.int p0), .val (.int p1), .val (.int p2), .val (.int p3), .val (.ref b1), .val (.ref b21), .val (.int vg31), .val (.int vg32), .val (.int vg33), .val (.int vg34), .val (.ref b35), .val (.int (1 : Int32)), .unset] []))
      refine own_via (fun t k => XS.aload XJ55.here hx rfl (hb hby at_195) rfl rfl k) ?_
      show own_G p e below _ (TJ55.setTop (mkF m 197 #[.val (.int p0), .val (.int p1), .val (.int p2), .val (.int p3), .val (.ref b1), .val (.ref b21), .val (.int vg31), .val (.int vg32), .val (.int vg33), .val (.int vg34), .val (.ref b35), .val (.int (1 : Int32)), .unset] [(.ref b35)]))
      obtain ⟨T58, X58, e58, st58⟩ := own_callVP (y := (⟨"com/example/valbonne/valbonne/exposition/TextFormat$Cursor", "atEnd", "()Z"⟩ : MethodName)) (z := (⟨"com/example/valbonne/valbonne/exposition/TextFormat$Cursor", "atEnd", "()Z"⟩ : MethodName)) (W := 0) (a := b35) XJ55 hx hZ hown (hw _ (List.mem_of_getElem? (i := 71) rfl)) (hw _ (List.mem_of_getElem? (i := 72) rfl)) (notFace_of_selects (args := #[]) (mvT hZ (hw _ (List.mem_of_getElem? (i := 74) rfl)))) (hw _ (List.mem_of_getElem? (i := 74) rfl)) (hw _ (List.mem_of_getElem? (i := 73) rfl)) (hw _ (List.mem_of_getElem? (i := 33) rfl)) (hw _ (List.mem_of_getElem? (i := 75) rfl)) (by decide) (own_at l Z a0 hw [] b35 vg31 vg32 h50 o50_2 o50_3) (by decide) (by decide) rfl rfl (by decide) (by decide) EJ55 o50_0 (pc := 197) (Ls := #[.val (.int p0), .val (.int p1), .val (.int p2), .val (.int p3), .val (.ref b1), .val (.ref b21), .val (.int vg31), .val (.int vg32), .val (.int vg33), .val (.int vg34), .val (.ref b35), .val (.int (1 : Int32)), .unset]) (st := [(.ref b35)]) (argsL := []) (rest := []) (by rw [hml]; rfl) (lenOf own_pd4 rfl) rfl rfl (Nat.le_of_eq rfl) (hb hby at_197)
      refine own_via st58 ?_
      show own_G p e below _ (T58.setTop (mkF m 200 #[.val (.int p0), .val (.int p1), .val (.int p2), .val (.int p3), .val (.ref b1), .val (.ref b21), .val (.int vg31), .val (.int vg32), .val (.int vg33), .val (.int vg34), .val (.ref b35), .val (.int (1 : Int32)), .unset] [(.int (own_Fat vg31 vg32))]))
      refine own_via (fun t k => XS.iload X58.here hx rfl (hb hby at_200) rfl k) ?_
      show own_G p e below _ (T58.setTop (mkF m 202 #[.val (.int p0), .val (.int p1), .val (.int p2), .val (.int p3), .val (.ref b1), .val (.ref b21), .val (.int vg31), .val (.int vg32), .val (.int vg33), .val (.int vg34), .val (.ref b35), .val (.int (1 : Int32)), .unset] [(.int vg34), (.int (own_Fat vg31 vg32))]))
      refine own_via (fun t k => XS.iload X58.here hx rfl (hb hby at_202) rfl k) ?_
      show own_G p e below _ (T58.setTop (mkF m 204 #[.val (.int p0), .val (.int p1), .val (.int p2), .val (.int p3), .val (.ref b1), .val (.ref b21), .val (.int vg31), .val (.int vg32), .val (.int vg33), .val (.int vg34), .val (.ref b35), .val (.int (1 : Int32)), .unset] [(.int vg33), (.int vg34), (.int (own_Fat vg31 vg32))]))
      have J59 : ∀ (TJ59 : State) (XJ59 : Stand p l e room_1 s m #[(.int p0), (.int p1), (.int p2), (.int p3)] below meth c TJ59 L50 7 64) (EJ59 : TJ59.heap = h50) (zj60 : Int32), zj60 = (if vg34 = vg33 then (1 : Int32) else (0 : Int32)) → own_G p e below (own_P s (own_W n0 (fun v _ => v = some (.int 1))) room_1.cells room_1.slots) (TJ59.setTop (mkF m 212 #[.val (.int p0), .val (.int p1), .val (.int p2), .val (.int p3), .val (.ref b1), .val (.ref b21), .val (.int vg31), .val (.int vg32), .val (.int vg33), .val (.int vg34), .val (.ref b35), .val (.int (1 : Int32)), .unset] [(.int zj60), (.int (own_Fat vg31 vg32))])) := by
        intro TJ59 XJ59 EJ59 zj60 hzj60
        refine own_via (fun t k => XS.icmpNo XJ59.here hx rfl (hb hby at_212) rfl (teq (by subst hzj60; exact own_aft 0 hvg33 (own_kj 0 0 (own_k ⟨(own_l (own_s hvg31) (own_e (own_s hvg31) hvg32) hvg33).1, (own_l (own_s hvg31) (own_e (own_s hvg31) hvg32) hvg33).2.1⟩ hvg34).1 (own_b1 hc57) rfl) (own_p0 _))).2 k) ?_
        show own_G p e below _ (TJ59.setTop (mkF m 215 #[.val (.int p0), .val (.int p1), .val (.int p2), .val (.int p3), .val (.ref b1), .val (.ref b21), .val (.int vg31), .val (.int vg32), .val (.int vg33), .val (.int vg34), .val (.ref b35), .val (.int (1 : Int32)), .unset] []))
        refine own_via (fun t k => XS.iconst XJ59.here hx rfl (hb hby at_215) k) ?_
        show own_G p e below _ (TJ59.setTop (mkF m 216 #[.val (.int p0), .val (.int p1), .val (.int p2), .val (.int p3), .val (.ref b1), .val (.ref b21), .val (.int vg31), .val (.int vg32), .val (.int vg33), .val (.int vg34), .val (.ref b35), .val (.int (1 : Int32)), .unset] [(.int (1 : Int32))]))
        refine own_via (fun t k => XS.goto XJ59.here hx rfl (pc0 := 216) (pc' := 220) rfl (hb hby at_216) (by decide) (by decide) k) ?_
        show own_G p e below _ (TJ59.setTop (mkF m 220 #[.val (.int p0), .val (.int p1), .val (.int p2), .val (.int p3), .val (.ref b1), .val (.ref b21), .val (.int vg31), .val (.int vg32), .val (.int vg33), .val (.int vg34), .val (.ref b35), .val (.int (1 : Int32)), .unset] [(.int (1 : Int32))]))
        refine own_via (fun t k => XS.istore XJ59.here hx rfl (hb hby at_220) rfl (l' := #[.val (.int p0), .val (.int p1), .val (.int p2), .val (.int p3), .val (.ref b1), .val (.ref b21), .val (.int vg31), .val (.int vg32), .val (.int vg33), .val (.int vg34), .val (.ref b35), .val (.int (1 : Int32)), .val (.int (1 : Int32))]) rfl k) ?_
        show own_G p e below _ (TJ59.setTop (mkF m 222 #[.val (.int p0), .val (.int p1), .val (.int p2), .val (.int p3), .val (.ref b1), .val (.ref b21), .val (.int vg31), .val (.int vg32), .val (.int vg33), .val (.int vg34), .val (.ref b35), .val (.int (1 : Int32)), .val (.int (1 : Int32))] []))
        refine own_via (fun t k => XS.iload XJ59.here hx rfl (hb hby at_222) rfl k) ?_
        show own_G p e below _ (TJ59.setTop (mkF m 224 #[.val (.int p0), .val (.int p1), .val (.int p2), .val (.int p3), .val (.ref b1), .val (.ref b21), .val (.int vg31), .val (.int vg32), .val (.int vg33), .val (.int vg34), .val (.ref b35), .val (.int (1 : Int32)), .val (.int (1 : Int32))] [(.int (1 : Int32))]))
        refine own_via (fun t k => XS.ifNo XJ59.here hx rfl (hb hby at_224) rfl ((if0 _ _).trans (feq (by decide : ¬ ((1 : Int32) = (0 : Int32)))).1) k) ?_
        show own_G p e below _ (TJ59.setTop (mkF m 227 #[.val (.int p0), .val (.int p1), .val (.int p2), .val (.int p3), .val (.ref b1), .val (.ref b21), .val (.int vg31), .val (.int vg32), .val (.int vg33), .val (.int vg34), .val (.ref b35), .val (.int (1 : Int32)), .val (.int (1 : Int32))] []))
        refine own_via (fun t k => XS.iload XJ59.here hx rfl (hb hby at_227) rfl k) ?_
        show own_G p e below _ (TJ59.setTop (mkF m 229 #[.val (.int p0), .val (.int p1), .val (.int p2), .val (.int p3), .val (.ref b1), .val (.ref b21), .val (.int vg31), .val (.int vg32), .val (.int vg33), .val (.int vg34), .val (.ref b35), .val (.int (1 : Int32)), .val (.int (1 : Int32))] [(.int (1 : Int32))]))
        refine own_via (fun t k => XS.ifNo XJ59.here hx rfl (hb hby at_229) rfl ((if0 _ _).trans (feq (by decide : ¬ ((1 : Int32) = (0 : Int32)))).1) k) ?_
        show own_G p e below _ (TJ59.setTop (mkF m 232 #[.val (.int p0), .val (.int p1), .val (.int p2), .val (.int p3), .val (.ref b1), .val (.ref b21), .val (.int vg31), .val (.int vg32), .val (.int vg33), .val (.int vg34), .val (.ref b35), .val (.int (1 : Int32)), .val (.int (1 : Int32))] []))
        refine own_via (fun t k => XS.iconst XJ59.here hx rfl (hb hby at_232) k) ?_
        show own_G p e below _ (TJ59.setTop (mkF m 233 #[.val (.int p0), .val (.int p1), .val (.int p2), .val (.int p3), .val (.ref b1), .val (.ref b21), .val (.int vg31), .val (.int vg32), .val (.int vg33), .val (.int vg34), .val (.ref b35), .val (.int (1 : Int32)), .val (.int (1 : Int32))] [(.int (1 : Int32))]))
        refine own_via (fun t k => XS.goto XJ59.here hx rfl (pc0 := 233) (pc' := 237) rfl (hb hby at_233) (by decide) (by decide) k) ?_
        show own_G p e below _ (TJ59.setTop (mkF m 237 #[.val (.int p0), .val (.int p1), .val (.int p2), .val (.int p3), .val (.ref b1), .val (.ref b21), .val (.int vg31), .val (.int vg32), .val (.int vg33), .val (.int vg34), .val (.ref b35), .val (.int (1 : Int32)), .val (.int (1 : Int32))] [(.int (1 : Int32))]))
        exact own_retN (t := .boolean) XJ59 hx Bd.returns (by simp) Bd.notSynchronized (hb hby at_237) ⟨N50, rfl⟩ (by decide) (by decide)
      by_cases hc61 : vg34 = vg33
      ·
        refine own_via (fun t k => XS.icmpNo X58.here hx rfl (hb hby at_204) rfl (teq hc61).2 k) ?_
        show own_G p e below _ (T58.setTop (mkF m 207 #[.val (.int p0), .val (.int p1), .val (.int p2), .val (.int p3), .val (.ref b1), .val (.ref b21), .val (.int vg31), .val (.int vg32), .val (.int vg33), .val (.int vg34), .val (.ref b35), .val (.int (1 : Int32)), .unset] [(.int (own_Fat vg31 vg32))]))
        refine own_via (fun t k => XS.iconst X58.here hx rfl (hb hby at_207) k) ?_
        show own_G p e below _ (T58.setTop (mkF m 208 #[.val (.int p0), .val (.int p1), .val (.int p2), .val (.int p3), .val (.ref b1), .val (.ref b21), .val (.int vg31), .val (.int vg32), .val (.int vg33), .val (.int vg34), .val (.ref b35), .val (.int (1 : Int32)), .unset] [(.int (1 : Int32)), (.int (own_Fat vg31 vg32))]))
        refine own_via (fun t k => XS.goto X58.here hx rfl (pc0 := 208) (pc' := 212) rfl (hb hby at_208) (by decide) (by decide) k) ?_
        show own_G p e below _ (T58.setTop (mkF m 212 #[.val (.int p0), .val (.int p1), .val (.int p2), .val (.int p3), .val (.ref b1), .val (.ref b21), .val (.int vg31), .val (.int vg32), .val (.int vg33), .val (.int vg34), .val (.ref b35), .val (.int (1 : Int32)), .unset] [(.int (1 : Int32)), (.int (own_Fat vg31 vg32))]))
        exact J59 _ X58 e58 _ (by simp only [if_pos hc61])
      ·
        refine own_via (fun t k => XS.icmpYes X58.here hx rfl (pc0 := 204) (pc' := 211) rfl (hb hby at_204) rfl (feq hc61).2 (by decide) (by decide) k) ?_
        show own_G p e below _ (T58.setTop (mkF m 211 #[.val (.int p0), .val (.int p1), .val (.int p2), .val (.int p3), .val (.ref b1), .val (.ref b21), .val (.int vg31), .val (.int vg32), .val (.int vg33), .val (.int vg34), .val (.ref b35), .val (.int (1 : Int32)), .unset] [(.int (own_Fat vg31 vg32))]))
        refine own_via (fun t k => XS.iconst X58.here hx rfl (hb hby at_211) k) ?_
        show own_G p e below _ (T58.setTop (mkF m 212 #[.val (.int p0), .val (.int p1), .val (.int p2), .val (.int p3), .val (.ref b1), .val (.ref b21), .val (.int vg31), .val (.int vg32), .val (.int vg33), .val (.int vg34), .val (.ref b35), .val (.int (1 : Int32)), .unset] [(.int (0 : Int32)), (.int (own_Fat vg31 vg32))]))
        exact J59 _ X58 e58 _ (by simp only [if_neg hc61])
    ·
      refine own_via (fun t k => XS.icmpNo XJ55.here hx rfl (hb hby at_154) rfl (flt hc57).1 k) ?_
      show own_G p e below _ (TJ55.setTop (mkF m 157 #[.val (.int p0), .val (.int p1), .val (.int p2), .val (.int p3), .val (.ref b1), .val (.ref b21), .val (.int vg31), .val (.int vg32), .val (.int vg33), .val (.int vg34), .val (.ref b35), .val (.int (1 : Int32)), .unset] []))
      refine own_via (fun t k => XS.aload XJ55.here hx rfl (hb hby at_157) rfl rfl k) ?_
      show own_G p e below _ (TJ55.setTop (mkF m 159 #[.val (.int p0), .val (.int p1), .val (.int p2), .val (.int p3), .val (.ref b1), .val (.ref b21), .val (.int vg31), .val (.int vg32), .val (.int vg33), .val (.int vg34), .val (.ref b35), .val (.int (1 : Int32)), .unset] [(.ref b35)]))
      obtain ⟨v62, T62, h62, L62, X62, N62, e62, hq62, st62⟩ := own_callV (y := (⟨"com/example/valbonne/valbonne/exposition/TextFormat$Cursor", "advance", "()V"⟩ : MethodName)) (z := (⟨"com/example/valbonne/valbonne/exposition/TextFormat$Cursor", "advance", "()V"⟩ : MethodName)) (W := 0) (a := b35) XJ55 N50 hx hZ hown (hw _ (List.mem_of_getElem? (i := 76) rfl)) (hw _ (List.mem_of_getElem? (i := 77) rfl)) (notFace_of_selects (args := #[]) (mvT hZ (hw _ (List.mem_of_getElem? (i := 79) rfl)))) (hw _ (List.mem_of_getElem? (i := 79) rfl)) (hw _ (List.mem_of_getElem? (i := 78) rfl)) (hw _ (List.mem_of_getElem? (i := 33) rfl)) (hw _ (List.mem_of_getElem? (i := 80) rfl)) (by decide) (own_adv l Z a0 hw [] b35 vg31 vg32 h50 n0 Zs53 o50_0 o50_2 o50_3 g_b35) (by decide) (by decide) (by decide) (by decide) EJ55 o50_0 (pc := 159) (Ls := #[.val (.int p0), .val (.int p1), .val (.int p2), .val (.int p3), .val (.ref b1), .val (.ref b21), .val (.int vg31), .val (.int vg32), .val (.int vg33), .val (.int vg34), .val (.ref b35), .val (.int (1 : Int32)), .unset]) (st := [(.ref b35)]) (argsL := []) (rest := []) (by rw [hml]; rfl) (lenOf own_pd5 rfl) rfl rfl (Nat.le_of_eq rfl) (hb hby at_159)
      obtain ⟨rfl, K62, o62_0, o62_1, o62_2⟩ := hq62
      refine own_via st62 ?_
      have f63 : Exa Z h62 b21 "java/lang/String" := f51.keep K62
      have f64 : Exa Z h62 b35 "com/example/valbonne/valbonne/exposition/TextFormat$Cursor" := o50_0.keep K62
      have Zs65 : n0 ≤ h62.size := Nat.le_trans Zs53 K62.1
      show own_G p e below _ (T62.setTop (mkF m 162 #[.val (.int p0), .val (.int p1), .val (.int p2), .val (.int p3), .val (.ref b1), .val (.ref b21), .val (.int vg31), .val (.int vg32), .val (.int vg33), .val (.int vg34), .val (.ref b35), .val (.int (1 : Int32)), .unset] []))
      refine own_via (fun t k => XS.iload X62.here hx rfl (hb hby at_162) rfl k) ?_
      show own_G p e below _ (T62.setTop (mkF m 164 #[.val (.int p0), .val (.int p1), .val (.int p2), .val (.int p3), .val (.ref b1), .val (.ref b21), .val (.int vg31), .val (.int vg32), .val (.int vg33), .val (.int vg34), .val (.ref b35), .val (.int (1 : Int32)), .unset] [(.int vg34)]))
      refine own_via (fun t k => XS.iconst X62.here hx rfl (hb hby at_164) k) ?_
      show own_G p e below _ (T62.setTop (mkF m 165 #[.val (.int p0), .val (.int p1), .val (.int p2), .val (.int p3), .val (.ref b1), .val (.ref b21), .val (.int vg31), .val (.int vg32), .val (.int vg33), .val (.int vg34), .val (.ref b35), .val (.int (1 : Int32)), .unset] [(.int (2 : Int32)), (.int vg34)]))
      by_cases hc66 : vg34 < (2 : Int32)
      ·
        refine own_via (fun t k => XS.icmpYes X62.here hx rfl (pc0 := 165) (pc' := 173) rfl (hb hby at_165) rfl (tlt hc66).1 (by decide) (by decide) k) ?_
        show own_G p e below _ (T62.setTop (mkF m 173 #[.val (.int p0), .val (.int p1), .val (.int p2), .val (.int p3), .val (.ref b1), .val (.ref b21), .val (.int vg31), .val (.int vg32), .val (.int vg33), .val (.int vg34), .val (.ref b35), .val (.int (1 : Int32)), .unset] []))
        refine own_via (fun t k => XS.iload X62.here hx rfl (hb hby at_173) rfl k) ?_
        show own_G p e below _ (T62.setTop (mkF m 175 #[.val (.int p0), .val (.int p1), .val (.int p2), .val (.int p3), .val (.ref b1), .val (.ref b21), .val (.int vg31), .val (.int vg32), .val (.int vg33), .val (.int vg34), .val (.ref b35), .val (.int (1 : Int32)), .unset] [(.int vg34)]))
        refine own_via (fun t k => XS.iconst X62.here hx rfl (hb hby at_175) k) ?_
        show own_G p e below _ (T62.setTop (mkF m 176 #[.val (.int p0), .val (.int p1), .val (.int p2), .val (.int p3), .val (.ref b1), .val (.ref b21), .val (.int vg31), .val (.int vg32), .val (.int vg33), .val (.int vg34), .val (.ref b35), .val (.int (1 : Int32)), .unset] [(.int (3 : Int32)), (.int vg34)]))
        refine own_via (fun t k => XS.icmpYes X62.here hx rfl (pc0 := 176) (pc' := 184) rfl (hb hby at_176) rfl (tlt (own_b5 (own_b1 hc66) (by decide))).1 (by decide) (by decide) k) ?_
        show own_G p e below _ (T62.setTop (mkF m 184 #[.val (.int p0), .val (.int p1), .val (.int p2), .val (.int p3), .val (.ref b1), .val (.ref b21), .val (.int vg31), .val (.int vg32), .val (.int vg33), .val (.int vg34), .val (.ref b35), .val (.int (1 : Int32)), .unset] []))
        refine own_via (fun t k => XS.iload X62.here hx rfl (hb hby at_184) rfl k) ?_
        show own_G p e below _ (T62.setTop (mkF m 186 #[.val (.int p0), .val (.int p1), .val (.int p2), .val (.int p3), .val (.ref b1), .val (.ref b21), .val (.int vg31), .val (.int vg32), .val (.int vg33), .val (.int vg34), .val (.ref b35), .val (.int (1 : Int32)), .unset] [(.int vg34)]))
        refine own_via (fun t k => XS.iconst X62.here hx rfl (hb hby at_186) k) ?_
        show own_G p e below _ (T62.setTop (mkF m 187 #[.val (.int p0), .val (.int p1), .val (.int p2), .val (.int p3), .val (.ref b1), .val (.ref b21), .val (.int vg31), .val (.int vg32), .val (.int vg33), .val (.int vg34), .val (.ref b35), .val (.int (1 : Int32)), .unset] [(.int (4 : Int32)), (.int vg34)]))
        refine own_via (fun t k => XS.icmpYes X62.here hx rfl (pc0 := 187) (pc' := 195) rfl (hb hby at_187) rfl (tlt (own_b5 (own_b1 hc66) (by decide))).1 (by decide) (by decide) k) ?_
        show own_G p e below _ (T62.setTop (mkF m 195 #[.val (.int p0), .val (.int p1), .val (.int p2), .val (.int p3), .val (.ref b1), .val (.ref b21), .val (.int vg31), .val (.int vg32), .val (.int vg33), .val (.int vg34), .val (.ref b35), .val (.int (1 : Int32)), .unset] []))
        refine own_via (fun t k => XS.aload X62.here hx rfl (hb hby at_195) rfl rfl k) ?_
        show own_G p e below _ (T62.setTop (mkF m 197 #[.val (.int p0), .val (.int p1), .val (.int p2), .val (.int p3), .val (.ref b1), .val (.ref b21), .val (.int vg31), .val (.int vg32), .val (.int vg33), .val (.int vg34), .val (.ref b35), .val (.int (1 : Int32)), .unset] [(.ref b35)]))
        obtain ⟨T67, X67, e67, st67⟩ := own_callVP (y := (⟨"com/example/valbonne/valbonne/exposition/TextFormat$Cursor", "atEnd", "()Z"⟩ : MethodName)) (z := (⟨"com/example/valbonne/valbonne/exposition/TextFormat$Cursor", "atEnd", "()Z"⟩ : MethodName)) (W := 0) (a := b35) X62 hx hZ hown (hw _ (List.mem_of_getElem? (i := 71) rfl)) (hw _ (List.mem_of_getElem? (i := 72) rfl)) (notFace_of_selects (args := #[]) (mvT hZ (hw _ (List.mem_of_getElem? (i := 74) rfl)))) (hw _ (List.mem_of_getElem? (i := 74) rfl)) (hw _ (List.mem_of_getElem? (i := 73) rfl)) (hw _ (List.mem_of_getElem? (i := 33) rfl)) (hw _ (List.mem_of_getElem? (i := 75) rfl)) (by decide) (own_at l Z a0 hw [] b35 (vg31 + (1 : Int32)) vg32 h62 o62_1 o62_2) (by decide) (by decide) rfl rfl (by decide) (by decide) e62 o62_0 (pc := 197) (Ls := #[.val (.int p0), .val (.int p1), .val (.int p2), .val (.int p3), .val (.ref b1), .val (.ref b21), .val (.int vg31), .val (.int vg32), .val (.int vg33), .val (.int vg34), .val (.ref b35), .val (.int (1 : Int32)), .unset]) (st := [(.ref b35)]) (argsL := []) (rest := []) (by rw [hml]; rfl) (lenOf own_pd4 rfl) rfl rfl (Nat.le_of_eq rfl) (hb hby at_197)
        refine own_via st67 ?_
        show own_G p e below _ (T67.setTop (mkF m 200 #[.val (.int p0), .val (.int p1), .val (.int p2), .val (.int p3), .val (.ref b1), .val (.ref b21), .val (.int vg31), .val (.int vg32), .val (.int vg33), .val (.int vg34), .val (.ref b35), .val (.int (1 : Int32)), .unset] [(.int (own_Fat (vg31 + (1 : Int32)) vg32))]))
        refine own_via (fun t k => XS.iload X67.here hx rfl (hb hby at_200) rfl k) ?_
        show own_G p e below _ (T67.setTop (mkF m 202 #[.val (.int p0), .val (.int p1), .val (.int p2), .val (.int p3), .val (.ref b1), .val (.ref b21), .val (.int vg31), .val (.int vg32), .val (.int vg33), .val (.int vg34), .val (.ref b35), .val (.int (1 : Int32)), .unset] [(.int vg34), (.int (own_Fat (vg31 + (1 : Int32)) vg32))]))
        refine own_via (fun t k => XS.iload X67.here hx rfl (hb hby at_202) rfl k) ?_
        show own_G p e below _ (T67.setTop (mkF m 204 #[.val (.int p0), .val (.int p1), .val (.int p2), .val (.int p3), .val (.ref b1), .val (.ref b21), .val (.int vg31), .val (.int vg32), .val (.int vg33), .val (.int vg34), .val (.ref b35), .val (.int (1 : Int32)), .unset] [(.int vg33), (.int vg34), (.int (own_Fat (vg31 + (1 : Int32)) vg32))]))
        have J68 : ∀ (TJ68 : State) (XJ68 : Stand p l e room_1 s m #[(.int p0), (.int p1), (.int p2), (.int p3)] below meth c TJ68 L62 7 64) (EJ68 : TJ68.heap = h62) (zj69 : Int32), zj69 = (if vg34 = vg33 then (1 : Int32) else (0 : Int32)) → own_G p e below (own_P s (own_W n0 (fun v _ => v = some (.int 1))) room_1.cells room_1.slots) (TJ68.setTop (mkF m 212 #[.val (.int p0), .val (.int p1), .val (.int p2), .val (.int p3), .val (.ref b1), .val (.ref b21), .val (.int vg31), .val (.int vg32), .val (.int vg33), .val (.int vg34), .val (.ref b35), .val (.int (1 : Int32)), .unset] [(.int zj69), (.int (own_Fat (vg31 + (1 : Int32)) vg32))])) := by
          intro TJ68 XJ68 EJ68 zj69 hzj69
          refine own_via (fun t k => XS.icmpNo XJ68.here hx rfl (hb hby at_212) rfl (teq (by subst hzj69; exact own_aft 1 hvg33 (own_kj 1 1 (own_b2 hc57) (own_b1 hc66) rfl) (own_p1 _))).2 k) ?_
          show own_G p e below _ (TJ68.setTop (mkF m 215 #[.val (.int p0), .val (.int p1), .val (.int p2), .val (.int p3), .val (.ref b1), .val (.ref b21), .val (.int vg31), .val (.int vg32), .val (.int vg33), .val (.int vg34), .val (.ref b35), .val (.int (1 : Int32)), .unset] []))
          refine own_via (fun t k => XS.iconst XJ68.here hx rfl (hb hby at_215) k) ?_
          show own_G p e below _ (TJ68.setTop (mkF m 216 #[.val (.int p0), .val (.int p1), .val (.int p2), .val (.int p3), .val (.ref b1), .val (.ref b21), .val (.int vg31), .val (.int vg32), .val (.int vg33), .val (.int vg34), .val (.ref b35), .val (.int (1 : Int32)), .unset] [(.int (1 : Int32))]))
          refine own_via (fun t k => XS.goto XJ68.here hx rfl (pc0 := 216) (pc' := 220) rfl (hb hby at_216) (by decide) (by decide) k) ?_
          show own_G p e below _ (TJ68.setTop (mkF m 220 #[.val (.int p0), .val (.int p1), .val (.int p2), .val (.int p3), .val (.ref b1), .val (.ref b21), .val (.int vg31), .val (.int vg32), .val (.int vg33), .val (.int vg34), .val (.ref b35), .val (.int (1 : Int32)), .unset] [(.int (1 : Int32))]))
          refine own_via (fun t k => XS.istore XJ68.here hx rfl (hb hby at_220) rfl (l' := #[.val (.int p0), .val (.int p1), .val (.int p2), .val (.int p3), .val (.ref b1), .val (.ref b21), .val (.int vg31), .val (.int vg32), .val (.int vg33), .val (.int vg34), .val (.ref b35), .val (.int (1 : Int32)), .val (.int (1 : Int32))]) rfl k) ?_
          show own_G p e below _ (TJ68.setTop (mkF m 222 #[.val (.int p0), .val (.int p1), .val (.int p2), .val (.int p3), .val (.ref b1), .val (.ref b21), .val (.int vg31), .val (.int vg32), .val (.int vg33), .val (.int vg34), .val (.ref b35), .val (.int (1 : Int32)), .val (.int (1 : Int32))] []))
          refine own_via (fun t k => XS.iload XJ68.here hx rfl (hb hby at_222) rfl k) ?_
          show own_G p e below _ (TJ68.setTop (mkF m 224 #[.val (.int p0), .val (.int p1), .val (.int p2), .val (.int p3), .val (.ref b1), .val (.ref b21), .val (.int vg31), .val (.int vg32), .val (.int vg33), .val (.int vg34), .val (.ref b35), .val (.int (1 : Int32)), .val (.int (1 : Int32))] [(.int (1 : Int32))]))
          refine own_via (fun t k => XS.ifNo XJ68.here hx rfl (hb hby at_224) rfl ((if0 _ _).trans (feq (by decide : ¬ ((1 : Int32) = (0 : Int32)))).1) k) ?_
          show own_G p e below _ (TJ68.setTop (mkF m 227 #[.val (.int p0), .val (.int p1), .val (.int p2), .val (.int p3), .val (.ref b1), .val (.ref b21), .val (.int vg31), .val (.int vg32), .val (.int vg33), .val (.int vg34), .val (.ref b35), .val (.int (1 : Int32)), .val (.int (1 : Int32))] []))
          refine own_via (fun t k => XS.iload XJ68.here hx rfl (hb hby at_227) rfl k) ?_
          show own_G p e below _ (TJ68.setTop (mkF m 229 #[.val (.int p0), .val (.int p1), .val (.int p2), .val (.int p3), .val (.ref b1), .val (.ref b21), .val (.int vg31), .val (.int vg32), .val (.int vg33), .val (.int vg34), .val (.ref b35), .val (.int (1 : Int32)), .val (.int (1 : Int32))] [(.int (1 : Int32))]))
          refine own_via (fun t k => XS.ifNo XJ68.here hx rfl (hb hby at_229) rfl ((if0 _ _).trans (feq (by decide : ¬ ((1 : Int32) = (0 : Int32)))).1) k) ?_
          show own_G p e below _ (TJ68.setTop (mkF m 232 #[.val (.int p0), .val (.int p1), .val (.int p2), .val (.int p3), .val (.ref b1), .val (.ref b21), .val (.int vg31), .val (.int vg32), .val (.int vg33), .val (.int vg34), .val (.ref b35), .val (.int (1 : Int32)), .val (.int (1 : Int32))] []))
          refine own_via (fun t k => XS.iconst XJ68.here hx rfl (hb hby at_232) k) ?_
          show own_G p e below _ (TJ68.setTop (mkF m 233 #[.val (.int p0), .val (.int p1), .val (.int p2), .val (.int p3), .val (.ref b1), .val (.ref b21), .val (.int vg31), .val (.int vg32), .val (.int vg33), .val (.int vg34), .val (.ref b35), .val (.int (1 : Int32)), .val (.int (1 : Int32))] [(.int (1 : Int32))]))
          refine own_via (fun t k => XS.goto XJ68.here hx rfl (pc0 := 233) (pc' := 237) rfl (hb hby at_233) (by decide) (by decide) k) ?_
          show own_G p e below _ (TJ68.setTop (mkF m 237 #[.val (.int p0), .val (.int p1), .val (.int p2), .val (.int p3), .val (.ref b1), .val (.ref b21), .val (.int vg31), .val (.int vg32), .val (.int vg33), .val (.int vg34), .val (.ref b35), .val (.int (1 : Int32)), .val (.int (1 : Int32))] [(.int (1 : Int32))]))
          exact own_retN (t := .boolean) XJ68 hx Bd.returns (by simp) Bd.notSynchronized (hb hby at_237) ⟨N62, rfl⟩ (by decide) (by decide)
        by_cases hc70 : vg34 = vg33
        ·
          refine own_via (fun t k => XS.icmpNo X67.here hx rfl (hb hby at_204) rfl (teq hc70).2 k) ?_
          show own_G p e below _ (T67.setTop (mkF m 207 #[.val (.int p0), .val (.int p1), .val (.int p2), .val (.int p3), .val (.ref b1), .val (.ref b21), .val (.int vg31), .val (.int vg32), .val (.int vg33), .val (.int vg34), .val (.ref b35), .val (.int (1 : Int32)), .unset] [(.int (own_Fat (vg31 + (1 : Int32)) vg32))]))
          refine own_via (fun t k => XS.iconst X67.here hx rfl (hb hby at_207) k) ?_
          show own_G p e below _ (T67.setTop (mkF m 208 #[.val (.int p0), .val (.int p1), .val (.int p2), .val (.int p3), .val (.ref b1), .val (.ref b21), .val (.int vg31), .val (.int vg32), .val (.int vg33), .val (.int vg34), .val (.ref b35), .val (.int (1 : Int32)), .unset] [(.int (1 : Int32)), (.int (own_Fat (vg31 + (1 : Int32)) vg32))]))
          refine own_via (fun t k => XS.goto X67.here hx rfl (pc0 := 208) (pc' := 212) rfl (hb hby at_208) (by decide) (by decide) k) ?_
          show own_G p e below _ (T67.setTop (mkF m 212 #[.val (.int p0), .val (.int p1), .val (.int p2), .val (.int p3), .val (.ref b1), .val (.ref b21), .val (.int vg31), .val (.int vg32), .val (.int vg33), .val (.int vg34), .val (.ref b35), .val (.int (1 : Int32)), .unset] [(.int (1 : Int32)), (.int (own_Fat (vg31 + (1 : Int32)) vg32))]))
          exact J68 _ X67 e67 _ (by simp only [if_pos hc70])
        ·
          refine own_via (fun t k => XS.icmpYes X67.here hx rfl (pc0 := 204) (pc' := 211) rfl (hb hby at_204) rfl (feq hc70).2 (by decide) (by decide) k) ?_
          show own_G p e below _ (T67.setTop (mkF m 211 #[.val (.int p0), .val (.int p1), .val (.int p2), .val (.int p3), .val (.ref b1), .val (.ref b21), .val (.int vg31), .val (.int vg32), .val (.int vg33), .val (.int vg34), .val (.ref b35), .val (.int (1 : Int32)), .unset] [(.int (own_Fat (vg31 + (1 : Int32)) vg32))]))
          refine own_via (fun t k => XS.iconst X67.here hx rfl (hb hby at_211) k) ?_
          show own_G p e below _ (T67.setTop (mkF m 212 #[.val (.int p0), .val (.int p1), .val (.int p2), .val (.int p3), .val (.ref b1), .val (.ref b21), .val (.int vg31), .val (.int vg32), .val (.int vg33), .val (.int vg34), .val (.ref b35), .val (.int (1 : Int32)), .unset] [(.int (0 : Int32)), (.int (own_Fat (vg31 + (1 : Int32)) vg32))]))
          exact J68 _ X67 e67 _ (by simp only [if_neg hc70])
      ·
        refine own_via (fun t k => XS.icmpNo X62.here hx rfl (hb hby at_165) rfl (flt hc66).1 k) ?_
        show own_G p e below _ (T62.setTop (mkF m 168 #[.val (.int p0), .val (.int p1), .val (.int p2), .val (.int p3), .val (.ref b1), .val (.ref b21), .val (.int vg31), .val (.int vg32), .val (.int vg33), .val (.int vg34), .val (.ref b35), .val (.int (1 : Int32)), .unset] []))
        refine own_via (fun t k => XS.aload X62.here hx rfl (hb hby at_168) rfl rfl k) ?_
        show own_G p e below _ (T62.setTop (mkF m 170 #[.val (.int p0), .val (.int p1), .val (.int p2), .val (.int p3), .val (.ref b1), .val (.ref b21), .val (.int vg31), .val (.int vg32), .val (.int vg33), .val (.int vg34), .val (.ref b35), .val (.int (1 : Int32)), .unset] [(.ref b35)]))
        obtain ⟨v71, T71, h71, L71, X71, N71, e71, hq71, st71⟩ := own_callV (y := (⟨"com/example/valbonne/valbonne/exposition/TextFormat$Cursor", "advance", "()V"⟩ : MethodName)) (z := (⟨"com/example/valbonne/valbonne/exposition/TextFormat$Cursor", "advance", "()V"⟩ : MethodName)) (W := 0) (a := b35) X62 N62 hx hZ hown (hw _ (List.mem_of_getElem? (i := 76) rfl)) (hw _ (List.mem_of_getElem? (i := 77) rfl)) (notFace_of_selects (args := #[]) (mvT hZ (hw _ (List.mem_of_getElem? (i := 79) rfl)))) (hw _ (List.mem_of_getElem? (i := 79) rfl)) (hw _ (List.mem_of_getElem? (i := 78) rfl)) (hw _ (List.mem_of_getElem? (i := 33) rfl)) (hw _ (List.mem_of_getElem? (i := 80) rfl)) (by decide) (own_adv l Z a0 hw [] b35 (vg31 + (1 : Int32)) vg32 h62 n0 Zs65 o62_0 o62_1 o62_2 g_b35) (by decide) (by decide) (by decide) (by decide) e62 o62_0 (pc := 170) (Ls := #[.val (.int p0), .val (.int p1), .val (.int p2), .val (.int p3), .val (.ref b1), .val (.ref b21), .val (.int vg31), .val (.int vg32), .val (.int vg33), .val (.int vg34), .val (.ref b35), .val (.int (1 : Int32)), .unset]) (st := [(.ref b35)]) (argsL := []) (rest := []) (by rw [hml]; rfl) (lenOf own_pd5 rfl) rfl rfl (Nat.le_of_eq rfl) (hb hby at_170)
        obtain ⟨rfl, K71, o71_0, o71_1, o71_2⟩ := hq71
        refine own_via st71 ?_
        have f72 : Exa Z h71 b21 "java/lang/String" := f63.keep K71
        have f73 : Exa Z h71 b35 "com/example/valbonne/valbonne/exposition/TextFormat$Cursor" := o62_0.keep K71
        have Zs74 : n0 ≤ h71.size := Nat.le_trans Zs65 K71.1
        show own_G p e below _ (T71.setTop (mkF m 173 #[.val (.int p0), .val (.int p1), .val (.int p2), .val (.int p3), .val (.ref b1), .val (.ref b21), .val (.int vg31), .val (.int vg32), .val (.int vg33), .val (.int vg34), .val (.ref b35), .val (.int (1 : Int32)), .unset] []))
        refine own_via (fun t k => XS.iload X71.here hx rfl (hb hby at_173) rfl k) ?_
        show own_G p e below _ (T71.setTop (mkF m 175 #[.val (.int p0), .val (.int p1), .val (.int p2), .val (.int p3), .val (.ref b1), .val (.ref b21), .val (.int vg31), .val (.int vg32), .val (.int vg33), .val (.int vg34), .val (.ref b35), .val (.int (1 : Int32)), .unset] [(.int vg34)]))
        refine own_via (fun t k => XS.iconst X71.here hx rfl (hb hby at_175) k) ?_
        show own_G p e below _ (T71.setTop (mkF m 176 #[.val (.int p0), .val (.int p1), .val (.int p2), .val (.int p3), .val (.ref b1), .val (.ref b21), .val (.int vg31), .val (.int vg32), .val (.int vg33), .val (.int vg34), .val (.ref b35), .val (.int (1 : Int32)), .unset] [(.int (3 : Int32)), (.int vg34)]))
        by_cases hc75 : vg34 < (3 : Int32)
        ·
          refine own_via (fun t k => XS.icmpYes X71.here hx rfl (pc0 := 176) (pc' := 184) rfl (hb hby at_176) rfl (tlt hc75).1 (by decide) (by decide) k) ?_
          show own_G p e below _ (T71.setTop (mkF m 184 #[.val (.int p0), .val (.int p1), .val (.int p2), .val (.int p3), .val (.ref b1), .val (.ref b21), .val (.int vg31), .val (.int vg32), .val (.int vg33), .val (.int vg34), .val (.ref b35), .val (.int (1 : Int32)), .unset] []))
          refine own_via (fun t k => XS.iload X71.here hx rfl (hb hby at_184) rfl k) ?_
          show own_G p e below _ (T71.setTop (mkF m 186 #[.val (.int p0), .val (.int p1), .val (.int p2), .val (.int p3), .val (.ref b1), .val (.ref b21), .val (.int vg31), .val (.int vg32), .val (.int vg33), .val (.int vg34), .val (.ref b35), .val (.int (1 : Int32)), .unset] [(.int vg34)]))
          refine own_via (fun t k => XS.iconst X71.here hx rfl (hb hby at_186) k) ?_
          show own_G p e below _ (T71.setTop (mkF m 187 #[.val (.int p0), .val (.int p1), .val (.int p2), .val (.int p3), .val (.ref b1), .val (.ref b21), .val (.int vg31), .val (.int vg32), .val (.int vg33), .val (.int vg34), .val (.ref b35), .val (.int (1 : Int32)), .unset] [(.int (4 : Int32)), (.int vg34)]))
          refine own_via (fun t k => XS.icmpYes X71.here hx rfl (pc0 := 187) (pc' := 195) rfl (hb hby at_187) rfl (tlt (own_b5 (own_b1 hc75) (by decide))).1 (by decide) (by decide) k) ?_
          show own_G p e below _ (T71.setTop (mkF m 195 #[.val (.int p0), .val (.int p1), .val (.int p2), .val (.int p3), .val (.ref b1), .val (.ref b21), .val (.int vg31), .val (.int vg32), .val (.int vg33), .val (.int vg34), .val (.ref b35), .val (.int (1 : Int32)), .unset] []))
          refine own_via (fun t k => XS.aload X71.here hx rfl (hb hby at_195) rfl rfl k) ?_
          show own_G p e below _ (T71.setTop (mkF m 197 #[.val (.int p0), .val (.int p1), .val (.int p2), .val (.int p3), .val (.ref b1), .val (.ref b21), .val (.int vg31), .val (.int vg32), .val (.int vg33), .val (.int vg34), .val (.ref b35), .val (.int (1 : Int32)), .unset] [(.ref b35)]))
          obtain ⟨T76, X76, e76, st76⟩ := own_callVP (y := (⟨"com/example/valbonne/valbonne/exposition/TextFormat$Cursor", "atEnd", "()Z"⟩ : MethodName)) (z := (⟨"com/example/valbonne/valbonne/exposition/TextFormat$Cursor", "atEnd", "()Z"⟩ : MethodName)) (W := 0) (a := b35) X71 hx hZ hown (hw _ (List.mem_of_getElem? (i := 71) rfl)) (hw _ (List.mem_of_getElem? (i := 72) rfl)) (notFace_of_selects (args := #[]) (mvT hZ (hw _ (List.mem_of_getElem? (i := 74) rfl)))) (hw _ (List.mem_of_getElem? (i := 74) rfl)) (hw _ (List.mem_of_getElem? (i := 73) rfl)) (hw _ (List.mem_of_getElem? (i := 33) rfl)) (hw _ (List.mem_of_getElem? (i := 75) rfl)) (by decide) (own_at l Z a0 hw [] b35 ((vg31 + (1 : Int32)) + (1 : Int32)) vg32 h71 o71_1 o71_2) (by decide) (by decide) rfl rfl (by decide) (by decide) e71 o71_0 (pc := 197) (Ls := #[.val (.int p0), .val (.int p1), .val (.int p2), .val (.int p3), .val (.ref b1), .val (.ref b21), .val (.int vg31), .val (.int vg32), .val (.int vg33), .val (.int vg34), .val (.ref b35), .val (.int (1 : Int32)), .unset]) (st := [(.ref b35)]) (argsL := []) (rest := []) (by rw [hml]; rfl) (lenOf own_pd4 rfl) rfl rfl (Nat.le_of_eq rfl) (hb hby at_197)
          refine own_via st76 ?_
          show own_G p e below _ (T76.setTop (mkF m 200 #[.val (.int p0), .val (.int p1), .val (.int p2), .val (.int p3), .val (.ref b1), .val (.ref b21), .val (.int vg31), .val (.int vg32), .val (.int vg33), .val (.int vg34), .val (.ref b35), .val (.int (1 : Int32)), .unset] [(.int (own_Fat ((vg31 + (1 : Int32)) + (1 : Int32)) vg32))]))
          refine own_via (fun t k => XS.iload X76.here hx rfl (hb hby at_200) rfl k) ?_
          show own_G p e below _ (T76.setTop (mkF m 202 #[.val (.int p0), .val (.int p1), .val (.int p2), .val (.int p3), .val (.ref b1), .val (.ref b21), .val (.int vg31), .val (.int vg32), .val (.int vg33), .val (.int vg34), .val (.ref b35), .val (.int (1 : Int32)), .unset] [(.int vg34), (.int (own_Fat ((vg31 + (1 : Int32)) + (1 : Int32)) vg32))]))
          refine own_via (fun t k => XS.iload X76.here hx rfl (hb hby at_202) rfl k) ?_
          show own_G p e below _ (T76.setTop (mkF m 204 #[.val (.int p0), .val (.int p1), .val (.int p2), .val (.int p3), .val (.ref b1), .val (.ref b21), .val (.int vg31), .val (.int vg32), .val (.int vg33), .val (.int vg34), .val (.ref b35), .val (.int (1 : Int32)), .unset] [(.int vg33), (.int vg34), (.int (own_Fat ((vg31 + (1 : Int32)) + (1 : Int32)) vg32))]))
          have J77 : ∀ (TJ77 : State) (XJ77 : Stand p l e room_1 s m #[(.int p0), (.int p1), (.int p2), (.int p3)] below meth c TJ77 L71 7 64) (EJ77 : TJ77.heap = h71) (zj78 : Int32), zj78 = (if vg34 = vg33 then (1 : Int32) else (0 : Int32)) → own_G p e below (own_P s (own_W n0 (fun v _ => v = some (.int 1))) room_1.cells room_1.slots) (TJ77.setTop (mkF m 212 #[.val (.int p0), .val (.int p1), .val (.int p2), .val (.int p3), .val (.ref b1), .val (.ref b21), .val (.int vg31), .val (.int vg32), .val (.int vg33), .val (.int vg34), .val (.ref b35), .val (.int (1 : Int32)), .unset] [(.int zj78), (.int (own_Fat ((vg31 + (1 : Int32)) + (1 : Int32)) vg32))])) := by
            intro TJ77 XJ77 EJ77 zj78 hzj78
            refine own_via (fun t k => XS.icmpNo XJ77.here hx rfl (hb hby at_212) rfl (teq (by subst hzj78; exact own_aft 2 hvg33 (own_kj 2 2 (own_b2 hc66) (own_b1 hc75) rfl) (own_p2 _))).2 k) ?_
            show own_G p e below _ (TJ77.setTop (mkF m 215 #[.val (.int p0), .val (.int p1), .val (.int p2), .val (.int p3), .val (.ref b1), .val (.ref b21), .val (.int vg31), .val (.int vg32), .val (.int vg33), .val (.int vg34), .val (.ref b35), .val (.int (1 : Int32)), .unset] []))
            refine own_via (fun t k => XS.iconst XJ77.here hx rfl (hb hby at_215) k) ?_
            show own_G p e below _ (TJ77.setTop (mkF m 216 #[.val (.int p0), .val (.int p1), .val (.int p2), .val (.int p3), .val (.ref b1), .val (.ref b21), .val (.int vg31), .val (.int vg32), .val (.int vg33), .val (.int vg34), .val (.ref b35), .val (.int (1 : Int32)), .unset] [(.int (1 : Int32))]))
            refine own_via (fun t k => XS.goto XJ77.here hx rfl (pc0 := 216) (pc' := 220) rfl (hb hby at_216) (by decide) (by decide) k) ?_
            show own_G p e below _ (TJ77.setTop (mkF m 220 #[.val (.int p0), .val (.int p1), .val (.int p2), .val (.int p3), .val (.ref b1), .val (.ref b21), .val (.int vg31), .val (.int vg32), .val (.int vg33), .val (.int vg34), .val (.ref b35), .val (.int (1 : Int32)), .unset] [(.int (1 : Int32))]))
            refine own_via (fun t k => XS.istore XJ77.here hx rfl (hb hby at_220) rfl (l' := #[.val (.int p0), .val (.int p1), .val (.int p2), .val (.int p3), .val (.ref b1), .val (.ref b21), .val (.int vg31), .val (.int vg32), .val (.int vg33), .val (.int vg34), .val (.ref b35), .val (.int (1 : Int32)), .val (.int (1 : Int32))]) rfl k) ?_
            show own_G p e below _ (TJ77.setTop (mkF m 222 #[.val (.int p0), .val (.int p1), .val (.int p2), .val (.int p3), .val (.ref b1), .val (.ref b21), .val (.int vg31), .val (.int vg32), .val (.int vg33), .val (.int vg34), .val (.ref b35), .val (.int (1 : Int32)), .val (.int (1 : Int32))] []))
            refine own_via (fun t k => XS.iload XJ77.here hx rfl (hb hby at_222) rfl k) ?_
            show own_G p e below _ (TJ77.setTop (mkF m 224 #[.val (.int p0), .val (.int p1), .val (.int p2), .val (.int p3), .val (.ref b1), .val (.ref b21), .val (.int vg31), .val (.int vg32), .val (.int vg33), .val (.int vg34), .val (.ref b35), .val (.int (1 : Int32)), .val (.int (1 : Int32))] [(.int (1 : Int32))]))
            refine own_via (fun t k => XS.ifNo XJ77.here hx rfl (hb hby at_224) rfl ((if0 _ _).trans (feq (by decide : ¬ ((1 : Int32) = (0 : Int32)))).1) k) ?_
            show own_G p e below _ (TJ77.setTop (mkF m 227 #[.val (.int p0), .val (.int p1), .val (.int p2), .val (.int p3), .val (.ref b1), .val (.ref b21), .val (.int vg31), .val (.int vg32), .val (.int vg33), .val (.int vg34), .val (.ref b35), .val (.int (1 : Int32)), .val (.int (1 : Int32))] []))
            refine own_via (fun t k => XS.iload XJ77.here hx rfl (hb hby at_227) rfl k) ?_
            show own_G p e below _ (TJ77.setTop (mkF m 229 #[.val (.int p0), .val (.int p1), .val (.int p2), .val (.int p3), .val (.ref b1), .val (.ref b21), .val (.int vg31), .val (.int vg32), .val (.int vg33), .val (.int vg34), .val (.ref b35), .val (.int (1 : Int32)), .val (.int (1 : Int32))] [(.int (1 : Int32))]))
            refine own_via (fun t k => XS.ifNo XJ77.here hx rfl (hb hby at_229) rfl ((if0 _ _).trans (feq (by decide : ¬ ((1 : Int32) = (0 : Int32)))).1) k) ?_
            show own_G p e below _ (TJ77.setTop (mkF m 232 #[.val (.int p0), .val (.int p1), .val (.int p2), .val (.int p3), .val (.ref b1), .val (.ref b21), .val (.int vg31), .val (.int vg32), .val (.int vg33), .val (.int vg34), .val (.ref b35), .val (.int (1 : Int32)), .val (.int (1 : Int32))] []))
            refine own_via (fun t k => XS.iconst XJ77.here hx rfl (hb hby at_232) k) ?_
            show own_G p e below _ (TJ77.setTop (mkF m 233 #[.val (.int p0), .val (.int p1), .val (.int p2), .val (.int p3), .val (.ref b1), .val (.ref b21), .val (.int vg31), .val (.int vg32), .val (.int vg33), .val (.int vg34), .val (.ref b35), .val (.int (1 : Int32)), .val (.int (1 : Int32))] [(.int (1 : Int32))]))
            refine own_via (fun t k => XS.goto XJ77.here hx rfl (pc0 := 233) (pc' := 237) rfl (hb hby at_233) (by decide) (by decide) k) ?_
            show own_G p e below _ (TJ77.setTop (mkF m 237 #[.val (.int p0), .val (.int p1), .val (.int p2), .val (.int p3), .val (.ref b1), .val (.ref b21), .val (.int vg31), .val (.int vg32), .val (.int vg33), .val (.int vg34), .val (.ref b35), .val (.int (1 : Int32)), .val (.int (1 : Int32))] [(.int (1 : Int32))]))
            exact own_retN (t := .boolean) XJ77 hx Bd.returns (by simp) Bd.notSynchronized (hb hby at_237) ⟨N71, rfl⟩ (by decide) (by decide)
          by_cases hc79 : vg34 = vg33
          ·
            refine own_via (fun t k => XS.icmpNo X76.here hx rfl (hb hby at_204) rfl (teq hc79).2 k) ?_
            show own_G p e below _ (T76.setTop (mkF m 207 #[.val (.int p0), .val (.int p1), .val (.int p2), .val (.int p3), .val (.ref b1), .val (.ref b21), .val (.int vg31), .val (.int vg32), .val (.int vg33), .val (.int vg34), .val (.ref b35), .val (.int (1 : Int32)), .unset] [(.int (own_Fat ((vg31 + (1 : Int32)) + (1 : Int32)) vg32))]))
            refine own_via (fun t k => XS.iconst X76.here hx rfl (hb hby at_207) k) ?_
            show own_G p e below _ (T76.setTop (mkF m 208 #[.val (.int p0), .val (.int p1), .val (.int p2), .val (.int p3), .val (.ref b1), .val (.ref b21), .val (.int vg31), .val (.int vg32), .val (.int vg33), .val (.int vg34), .val (.ref b35), .val (.int (1 : Int32)), .unset] [(.int (1 : Int32)), (.int (own_Fat ((vg31 + (1 : Int32)) + (1 : Int32)) vg32))]))
            refine own_via (fun t k => XS.goto X76.here hx rfl (pc0 := 208) (pc' := 212) rfl (hb hby at_208) (by decide) (by decide) k) ?_
            show own_G p e below _ (T76.setTop (mkF m 212 #[.val (.int p0), .val (.int p1), .val (.int p2), .val (.int p3), .val (.ref b1), .val (.ref b21), .val (.int vg31), .val (.int vg32), .val (.int vg33), .val (.int vg34), .val (.ref b35), .val (.int (1 : Int32)), .unset] [(.int (1 : Int32)), (.int (own_Fat ((vg31 + (1 : Int32)) + (1 : Int32)) vg32))]))
            exact J77 _ X76 e76 _ (by simp only [if_pos hc79])
          ·
            refine own_via (fun t k => XS.icmpYes X76.here hx rfl (pc0 := 204) (pc' := 211) rfl (hb hby at_204) rfl (feq hc79).2 (by decide) (by decide) k) ?_
            show own_G p e below _ (T76.setTop (mkF m 211 #[.val (.int p0), .val (.int p1), .val (.int p2), .val (.int p3), .val (.ref b1), .val (.ref b21), .val (.int vg31), .val (.int vg32), .val (.int vg33), .val (.int vg34), .val (.ref b35), .val (.int (1 : Int32)), .unset] [(.int (own_Fat ((vg31 + (1 : Int32)) + (1 : Int32)) vg32))]))
            refine own_via (fun t k => XS.iconst X76.here hx rfl (hb hby at_211) k) ?_
            show own_G p e below _ (T76.setTop (mkF m 212 #[.val (.int p0), .val (.int p1), .val (.int p2), .val (.int p3), .val (.ref b1), .val (.ref b21), .val (.int vg31), .val (.int vg32), .val (.int vg33), .val (.int vg34), .val (.ref b35), .val (.int (1 : Int32)), .unset] [(.int (0 : Int32)), (.int (own_Fat ((vg31 + (1 : Int32)) + (1 : Int32)) vg32))]))
            exact J77 _ X76 e76 _ (by simp only [if_neg hc79])
        ·
          refine own_via (fun t k => XS.icmpNo X71.here hx rfl (hb hby at_176) rfl (flt hc75).1 k) ?_
          show own_G p e below _ (T71.setTop (mkF m 179 #[.val (.int p0), .val (.int p1), .val (.int p2), .val (.int p3), .val (.ref b1), .val (.ref b21), .val (.int vg31), .val (.int vg32), .val (.int vg33), .val (.int vg34), .val (.ref b35), .val (.int (1 : Int32)), .unset] []))
          refine own_via (fun t k => XS.aload X71.here hx rfl (hb hby at_179) rfl rfl k) ?_
          show own_G p e below _ (T71.setTop (mkF m 181 #[.val (.int p0), .val (.int p1), .val (.int p2), .val (.int p3), .val (.ref b1), .val (.ref b21), .val (.int vg31), .val (.int vg32), .val (.int vg33), .val (.int vg34), .val (.ref b35), .val (.int (1 : Int32)), .unset] [(.ref b35)]))
          obtain ⟨v80, T80, h80, L80, X80, N80, e80, hq80, st80⟩ := own_callV (y := (⟨"com/example/valbonne/valbonne/exposition/TextFormat$Cursor", "advance", "()V"⟩ : MethodName)) (z := (⟨"com/example/valbonne/valbonne/exposition/TextFormat$Cursor", "advance", "()V"⟩ : MethodName)) (W := 0) (a := b35) X71 N71 hx hZ hown (hw _ (List.mem_of_getElem? (i := 76) rfl)) (hw _ (List.mem_of_getElem? (i := 77) rfl)) (notFace_of_selects (args := #[]) (mvT hZ (hw _ (List.mem_of_getElem? (i := 79) rfl)))) (hw _ (List.mem_of_getElem? (i := 79) rfl)) (hw _ (List.mem_of_getElem? (i := 78) rfl)) (hw _ (List.mem_of_getElem? (i := 33) rfl)) (hw _ (List.mem_of_getElem? (i := 80) rfl)) (by decide) (own_adv l Z a0 hw [] b35 ((vg31 + (1 : Int32)) + (1 : Int32)) vg32 h71 n0 Zs74 o71_0 o71_1 o71_2 g_b35) (by decide) (by decide) (by decide) (by decide) e71 o71_0 (pc := 181) (Ls := #[.val (.int p0), .val (.int p1), .val (.int p2), .val (.int p3), .val (.ref b1), .val (.ref b21), .val (.int vg31), .val (.int vg32), .val (.int vg33), .val (.int vg34), .val (.ref b35), .val (.int (1 : Int32)), .unset]) (st := [(.ref b35)]) (argsL := []) (rest := []) (by rw [hml]; rfl) (lenOf own_pd5 rfl) rfl rfl (Nat.le_of_eq rfl) (hb hby at_181)
          obtain ⟨rfl, K80, o80_0, o80_1, o80_2⟩ := hq80
          refine own_via st80 ?_
          have f81 : Exa Z h80 b21 "java/lang/String" := f72.keep K80
          have f82 : Exa Z h80 b35 "com/example/valbonne/valbonne/exposition/TextFormat$Cursor" := o71_0.keep K80
          have Zs83 : n0 ≤ h80.size := Nat.le_trans Zs74 K80.1
          show own_G p e below _ (T80.setTop (mkF m 184 #[.val (.int p0), .val (.int p1), .val (.int p2), .val (.int p3), .val (.ref b1), .val (.ref b21), .val (.int vg31), .val (.int vg32), .val (.int vg33), .val (.int vg34), .val (.ref b35), .val (.int (1 : Int32)), .unset] []))
          refine own_via (fun t k => XS.iload X80.here hx rfl (hb hby at_184) rfl k) ?_
          show own_G p e below _ (T80.setTop (mkF m 186 #[.val (.int p0), .val (.int p1), .val (.int p2), .val (.int p3), .val (.ref b1), .val (.ref b21), .val (.int vg31), .val (.int vg32), .val (.int vg33), .val (.int vg34), .val (.ref b35), .val (.int (1 : Int32)), .unset] [(.int vg34)]))
          refine own_via (fun t k => XS.iconst X80.here hx rfl (hb hby at_186) k) ?_
          show own_G p e below _ (T80.setTop (mkF m 187 #[.val (.int p0), .val (.int p1), .val (.int p2), .val (.int p3), .val (.ref b1), .val (.ref b21), .val (.int vg31), .val (.int vg32), .val (.int vg33), .val (.int vg34), .val (.ref b35), .val (.int (1 : Int32)), .unset] [(.int (4 : Int32)), (.int vg34)]))
          by_cases hc84 : vg34 < (4 : Int32)
          ·
            refine own_via (fun t k => XS.icmpYes X80.here hx rfl (pc0 := 187) (pc' := 195) rfl (hb hby at_187) rfl (tlt hc84).1 (by decide) (by decide) k) ?_
            show own_G p e below _ (T80.setTop (mkF m 195 #[.val (.int p0), .val (.int p1), .val (.int p2), .val (.int p3), .val (.ref b1), .val (.ref b21), .val (.int vg31), .val (.int vg32), .val (.int vg33), .val (.int vg34), .val (.ref b35), .val (.int (1 : Int32)), .unset] []))
            refine own_via (fun t k => XS.aload X80.here hx rfl (hb hby at_195) rfl rfl k) ?_
            show own_G p e below _ (T80.setTop (mkF m 197 #[.val (.int p0), .val (.int p1), .val (.int p2), .val (.int p3), .val (.ref b1), .val (.ref b21), .val (.int vg31), .val (.int vg32), .val (.int vg33), .val (.int vg34), .val (.ref b35), .val (.int (1 : Int32)), .unset] [(.ref b35)]))
            obtain ⟨T85, X85, e85, st85⟩ := own_callVP (y := (⟨"com/example/valbonne/valbonne/exposition/TextFormat$Cursor", "atEnd", "()Z"⟩ : MethodName)) (z := (⟨"com/example/valbonne/valbonne/exposition/TextFormat$Cursor", "atEnd", "()Z"⟩ : MethodName)) (W := 0) (a := b35) X80 hx hZ hown (hw _ (List.mem_of_getElem? (i := 71) rfl)) (hw _ (List.mem_of_getElem? (i := 72) rfl)) (notFace_of_selects (args := #[]) (mvT hZ (hw _ (List.mem_of_getElem? (i := 74) rfl)))) (hw _ (List.mem_of_getElem? (i := 74) rfl)) (hw _ (List.mem_of_getElem? (i := 73) rfl)) (hw _ (List.mem_of_getElem? (i := 33) rfl)) (hw _ (List.mem_of_getElem? (i := 75) rfl)) (by decide) (own_at l Z a0 hw [] b35 (((vg31 + (1 : Int32)) + (1 : Int32)) + (1 : Int32)) vg32 h80 o80_1 o80_2) (by decide) (by decide) rfl rfl (by decide) (by decide) e80 o80_0 (pc := 197) (Ls := #[.val (.int p0), .val (.int p1), .val (.int p2), .val (.int p3), .val (.ref b1), .val (.ref b21), .val (.int vg31), .val (.int vg32), .val (.int vg33), .val (.int vg34), .val (.ref b35), .val (.int (1 : Int32)), .unset]) (st := [(.ref b35)]) (argsL := []) (rest := []) (by rw [hml]; rfl) (lenOf own_pd4 rfl) rfl rfl (Nat.le_of_eq rfl) (hb hby at_197)
            refine own_via st85 ?_
            show own_G p e below _ (T85.setTop (mkF m 200 #[.val (.int p0), .val (.int p1), .val (.int p2), .val (.int p3), .val (.ref b1), .val (.ref b21), .val (.int vg31), .val (.int vg32), .val (.int vg33), .val (.int vg34), .val (.ref b35), .val (.int (1 : Int32)), .unset] [(.int (own_Fat (((vg31 + (1 : Int32)) + (1 : Int32)) + (1 : Int32)) vg32))]))
            refine own_via (fun t k => XS.iload X85.here hx rfl (hb hby at_200) rfl k) ?_
            show own_G p e below _ (T85.setTop (mkF m 202 #[.val (.int p0), .val (.int p1), .val (.int p2), .val (.int p3), .val (.ref b1), .val (.ref b21), .val (.int vg31), .val (.int vg32), .val (.int vg33), .val (.int vg34), .val (.ref b35), .val (.int (1 : Int32)), .unset] [(.int vg34), (.int (own_Fat (((vg31 + (1 : Int32)) + (1 : Int32)) + (1 : Int32)) vg32))]))
            refine own_via (fun t k => XS.iload X85.here hx rfl (hb hby at_202) rfl k) ?_
            show own_G p e below _ (T85.setTop (mkF m 204 #[.val (.int p0), .val (.int p1), .val (.int p2), .val (.int p3), .val (.ref b1), .val (.ref b21), .val (.int vg31), .val (.int vg32), .val (.int vg33), .val (.int vg34), .val (.ref b35), .val (.int (1 : Int32)), .unset] [(.int vg33), (.int vg34), (.int (own_Fat (((vg31 + (1 : Int32)) + (1 : Int32)) + (1 : Int32)) vg32))]))
            have J86 : ∀ (TJ86 : State) (XJ86 : Stand p l e room_1 s m #[(.int p0), (.int p1), (.int p2), (.int p3)] below meth c TJ86 L80 7 64) (EJ86 : TJ86.heap = h80) (zj87 : Int32), zj87 = (if vg34 = vg33 then (1 : Int32) else (0 : Int32)) → own_G p e below (own_P s (own_W n0 (fun v _ => v = some (.int 1))) room_1.cells room_1.slots) (TJ86.setTop (mkF m 212 #[.val (.int p0), .val (.int p1), .val (.int p2), .val (.int p3), .val (.ref b1), .val (.ref b21), .val (.int vg31), .val (.int vg32), .val (.int vg33), .val (.int vg34), .val (.ref b35), .val (.int (1 : Int32)), .unset] [(.int zj87), (.int (own_Fat (((vg31 + (1 : Int32)) + (1 : Int32)) + (1 : Int32)) vg32))])) := by
              intro TJ86 XJ86 EJ86 zj87 hzj87
              refine own_via (fun t k => XS.icmpNo XJ86.here hx rfl (hb hby at_212) rfl (teq (by subst hzj87; exact own_aft 3 hvg33 (own_kj 3 3 (own_b2 hc75) (own_b1 hc84) rfl) (own_p3 _))).2 k) ?_
              show own_G p e below _ (TJ86.setTop (mkF m 215 #[.val (.int p0), .val (.int p1), .val (.int p2), .val (.int p3), .val (.ref b1), .val (.ref b21), .val (.int vg31), .val (.int vg32), .val (.int vg33), .val (.int vg34), .val (.ref b35), .val (.int (1 : Int32)), .unset] []))
              refine own_via (fun t k => XS.iconst XJ86.here hx rfl (hb hby at_215) k) ?_
              show own_G p e below _ (TJ86.setTop (mkF m 216 #[.val (.int p0), .val (.int p1), .val (.int p2), .val (.int p3), .val (.ref b1), .val (.ref b21), .val (.int vg31), .val (.int vg32), .val (.int vg33), .val (.int vg34), .val (.ref b35), .val (.int (1 : Int32)), .unset] [(.int (1 : Int32))]))
              refine own_via (fun t k => XS.goto XJ86.here hx rfl (pc0 := 216) (pc' := 220) rfl (hb hby at_216) (by decide) (by decide) k) ?_
              show own_G p e below _ (TJ86.setTop (mkF m 220 #[.val (.int p0), .val (.int p1), .val (.int p2), .val (.int p3), .val (.ref b1), .val (.ref b21), .val (.int vg31), .val (.int vg32), .val (.int vg33), .val (.int vg34), .val (.ref b35), .val (.int (1 : Int32)), .unset] [(.int (1 : Int32))]))
              refine own_via (fun t k => XS.istore XJ86.here hx rfl (hb hby at_220) rfl (l' := #[.val (.int p0), .val (.int p1), .val (.int p2), .val (.int p3), .val (.ref b1), .val (.ref b21), .val (.int vg31), .val (.int vg32), .val (.int vg33), .val (.int vg34), .val (.ref b35), .val (.int (1 : Int32)), .val (.int (1 : Int32))]) rfl k) ?_
              show own_G p e below _ (TJ86.setTop (mkF m 222 #[.val (.int p0), .val (.int p1), .val (.int p2), .val (.int p3), .val (.ref b1), .val (.ref b21), .val (.int vg31), .val (.int vg32), .val (.int vg33), .val (.int vg34), .val (.ref b35), .val (.int (1 : Int32)), .val (.int (1 : Int32))] []))
              refine own_via (fun t k => XS.iload XJ86.here hx rfl (hb hby at_222) rfl k) ?_
              show own_G p e below _ (TJ86.setTop (mkF m 224 #[.val (.int p0), .val (.int p1), .val (.int p2), .val (.int p3), .val (.ref b1), .val (.ref b21), .val (.int vg31), .val (.int vg32), .val (.int vg33), .val (.int vg34), .val (.ref b35), .val (.int (1 : Int32)), .val (.int (1 : Int32))] [(.int (1 : Int32))]))
              refine own_via (fun t k => XS.ifNo XJ86.here hx rfl (hb hby at_224) rfl ((if0 _ _).trans (feq (by decide : ¬ ((1 : Int32) = (0 : Int32)))).1) k) ?_
              show own_G p e below _ (TJ86.setTop (mkF m 227 #[.val (.int p0), .val (.int p1), .val (.int p2), .val (.int p3), .val (.ref b1), .val (.ref b21), .val (.int vg31), .val (.int vg32), .val (.int vg33), .val (.int vg34), .val (.ref b35), .val (.int (1 : Int32)), .val (.int (1 : Int32))] []))
              refine own_via (fun t k => XS.iload XJ86.here hx rfl (hb hby at_227) rfl k) ?_
              show own_G p e below _ (TJ86.setTop (mkF m 229 #[.val (.int p0), .val (.int p1), .val (.int p2), .val (.int p3), .val (.ref b1), .val (.ref b21), .val (.int vg31), .val (.int vg32), .val (.int vg33), .val (.int vg34), .val (.ref b35), .val (.int (1 : Int32)), .val (.int (1 : Int32))] [(.int (1 : Int32))]))
              refine own_via (fun t k => XS.ifNo XJ86.here hx rfl (hb hby at_229) rfl ((if0 _ _).trans (feq (by decide : ¬ ((1 : Int32) = (0 : Int32)))).1) k) ?_
              show own_G p e below _ (TJ86.setTop (mkF m 232 #[.val (.int p0), .val (.int p1), .val (.int p2), .val (.int p3), .val (.ref b1), .val (.ref b21), .val (.int vg31), .val (.int vg32), .val (.int vg33), .val (.int vg34), .val (.ref b35), .val (.int (1 : Int32)), .val (.int (1 : Int32))] []))
              refine own_via (fun t k => XS.iconst XJ86.here hx rfl (hb hby at_232) k) ?_
              show own_G p e below _ (TJ86.setTop (mkF m 233 #[.val (.int p0), .val (.int p1), .val (.int p2), .val (.int p3), .val (.ref b1), .val (.ref b21), .val (.int vg31), .val (.int vg32), .val (.int vg33), .val (.int vg34), .val (.ref b35), .val (.int (1 : Int32)), .val (.int (1 : Int32))] [(.int (1 : Int32))]))
              refine own_via (fun t k => XS.goto XJ86.here hx rfl (pc0 := 233) (pc' := 237) rfl (hb hby at_233) (by decide) (by decide) k) ?_
              show own_G p e below _ (TJ86.setTop (mkF m 237 #[.val (.int p0), .val (.int p1), .val (.int p2), .val (.int p3), .val (.ref b1), .val (.ref b21), .val (.int vg31), .val (.int vg32), .val (.int vg33), .val (.int vg34), .val (.ref b35), .val (.int (1 : Int32)), .val (.int (1 : Int32))] [(.int (1 : Int32))]))
              exact own_retN (t := .boolean) XJ86 hx Bd.returns (by simp) Bd.notSynchronized (hb hby at_237) ⟨N80, rfl⟩ (by decide) (by decide)
            by_cases hc88 : vg34 = vg33
            ·
              refine own_via (fun t k => XS.icmpNo X85.here hx rfl (hb hby at_204) rfl (teq hc88).2 k) ?_
              show own_G p e below _ (T85.setTop (mkF m 207 #[.val (.int p0), .val (.int p1), .val (.int p2), .val (.int p3), .val (.ref b1), .val (.ref b21), .val (.int vg31), .val (.int vg32), .val (.int vg33), .val (.int vg34), .val (.ref b35), .val (.int (1 : Int32)), .unset] [(.int (own_Fat (((vg31 + (1 : Int32)) + (1 : Int32)) + (1 : Int32)) vg32))]))
              refine own_via (fun t k => XS.iconst X85.here hx rfl (hb hby at_207) k) ?_
              show own_G p e below _ (T85.setTop (mkF m 208 #[.val (.int p0), .val (.int p1), .val (.int p2), .val (.int p3), .val (.ref b1), .val (.ref b21), .val (.int vg31), .val (.int vg32), .val (.int vg33), .val (.int vg34), .val (.ref b35), .val (.int (1 : Int32)), .unset] [(.int (1 : Int32)), (.int (own_Fat (((vg31 + (1 : Int32)) + (1 : Int32)) + (1 : Int32)) vg32))]))
              refine own_via (fun t k => XS.goto X85.here hx rfl (pc0 := 208) (pc' := 212) rfl (hb hby at_208) (by decide) (by decide) k) ?_
              show own_G p e below _ (T85.setTop (mkF m 212 #[.val (.int p0), .val (.int p1), .val (.int p2), .val (.int p3), .val (.ref b1), .val (.ref b21), .val (.int vg31), .val (.int vg32), .val (.int vg33), .val (.int vg34), .val (.ref b35), .val (.int (1 : Int32)), .unset] [(.int (1 : Int32)), (.int (own_Fat (((vg31 + (1 : Int32)) + (1 : Int32)) + (1 : Int32)) vg32))]))
              exact J86 _ X85 e85 _ (by simp only [if_pos hc88])
            ·
              refine own_via (fun t k => XS.icmpYes X85.here hx rfl (pc0 := 204) (pc' := 211) rfl (hb hby at_204) rfl (feq hc88).2 (by decide) (by decide) k) ?_
              show own_G p e below _ (T85.setTop (mkF m 211 #[.val (.int p0), .val (.int p1), .val (.int p2), .val (.int p3), .val (.ref b1), .val (.ref b21), .val (.int vg31), .val (.int vg32), .val (.int vg33), .val (.int vg34), .val (.ref b35), .val (.int (1 : Int32)), .unset] [(.int (own_Fat (((vg31 + (1 : Int32)) + (1 : Int32)) + (1 : Int32)) vg32))]))
              refine own_via (fun t k => XS.iconst X85.here hx rfl (hb hby at_211) k) ?_
              show own_G p e below _ (T85.setTop (mkF m 212 #[.val (.int p0), .val (.int p1), .val (.int p2), .val (.int p3), .val (.ref b1), .val (.ref b21), .val (.int vg31), .val (.int vg32), .val (.int vg33), .val (.int vg34), .val (.ref b35), .val (.int (1 : Int32)), .unset] [(.int (0 : Int32)), (.int (own_Fat (((vg31 + (1 : Int32)) + (1 : Int32)) + (1 : Int32)) vg32))]))
              exact J86 _ X85 e85 _ (by simp only [if_neg hc88])
          ·
            refine own_via (fun t k => XS.icmpNo X80.here hx rfl (hb hby at_187) rfl (flt hc84).1 k) ?_
            show own_G p e below _ (T80.setTop (mkF m 190 #[.val (.int p0), .val (.int p1), .val (.int p2), .val (.int p3), .val (.ref b1), .val (.ref b21), .val (.int vg31), .val (.int vg32), .val (.int vg33), .val (.int vg34), .val (.ref b35), .val (.int (1 : Int32)), .unset] []))
            refine own_via (fun t k => XS.aload X80.here hx rfl (hb hby at_190) rfl rfl k) ?_
            show own_G p e below _ (T80.setTop (mkF m 192 #[.val (.int p0), .val (.int p1), .val (.int p2), .val (.int p3), .val (.ref b1), .val (.ref b21), .val (.int vg31), .val (.int vg32), .val (.int vg33), .val (.int vg34), .val (.ref b35), .val (.int (1 : Int32)), .unset] [(.ref b35)]))
            obtain ⟨v89, T89, h89, L89, X89, N89, e89, hq89, st89⟩ := own_callV (y := (⟨"com/example/valbonne/valbonne/exposition/TextFormat$Cursor", "advance", "()V"⟩ : MethodName)) (z := (⟨"com/example/valbonne/valbonne/exposition/TextFormat$Cursor", "advance", "()V"⟩ : MethodName)) (W := 0) (a := b35) X80 N80 hx hZ hown (hw _ (List.mem_of_getElem? (i := 76) rfl)) (hw _ (List.mem_of_getElem? (i := 77) rfl)) (notFace_of_selects (args := #[]) (mvT hZ (hw _ (List.mem_of_getElem? (i := 79) rfl)))) (hw _ (List.mem_of_getElem? (i := 79) rfl)) (hw _ (List.mem_of_getElem? (i := 78) rfl)) (hw _ (List.mem_of_getElem? (i := 33) rfl)) (hw _ (List.mem_of_getElem? (i := 80) rfl)) (by decide) (own_adv l Z a0 hw [] b35 (((vg31 + (1 : Int32)) + (1 : Int32)) + (1 : Int32)) vg32 h80 n0 Zs83 o80_0 o80_1 o80_2 g_b35) (by decide) (by decide) (by decide) (by decide) e80 o80_0 (pc := 192) (Ls := #[.val (.int p0), .val (.int p1), .val (.int p2), .val (.int p3), .val (.ref b1), .val (.ref b21), .val (.int vg31), .val (.int vg32), .val (.int vg33), .val (.int vg34), .val (.ref b35), .val (.int (1 : Int32)), .unset]) (st := [(.ref b35)]) (argsL := []) (rest := []) (by rw [hml]; rfl) (lenOf own_pd5 rfl) rfl rfl (Nat.le_of_eq rfl) (hb hby at_192)
            obtain ⟨rfl, K89, o89_0, o89_1, o89_2⟩ := hq89
            refine own_via st89 ?_
            have f90 : Exa Z h89 b21 "java/lang/String" := f81.keep K89
            have f91 : Exa Z h89 b35 "com/example/valbonne/valbonne/exposition/TextFormat$Cursor" := o80_0.keep K89
            have Zs92 : n0 ≤ h89.size := Nat.le_trans Zs83 K89.1
            show own_G p e below _ (T89.setTop (mkF m 195 #[.val (.int p0), .val (.int p1), .val (.int p2), .val (.int p3), .val (.ref b1), .val (.ref b21), .val (.int vg31), .val (.int vg32), .val (.int vg33), .val (.int vg34), .val (.ref b35), .val (.int (1 : Int32)), .unset] []))
            refine own_via (fun t k => XS.aload X89.here hx rfl (hb hby at_195) rfl rfl k) ?_
            show own_G p e below _ (T89.setTop (mkF m 197 #[.val (.int p0), .val (.int p1), .val (.int p2), .val (.int p3), .val (.ref b1), .val (.ref b21), .val (.int vg31), .val (.int vg32), .val (.int vg33), .val (.int vg34), .val (.ref b35), .val (.int (1 : Int32)), .unset] [(.ref b35)]))
            obtain ⟨T93, X93, e93, st93⟩ := own_callVP (y := (⟨"com/example/valbonne/valbonne/exposition/TextFormat$Cursor", "atEnd", "()Z"⟩ : MethodName)) (z := (⟨"com/example/valbonne/valbonne/exposition/TextFormat$Cursor", "atEnd", "()Z"⟩ : MethodName)) (W := 0) (a := b35) X89 hx hZ hown (hw _ (List.mem_of_getElem? (i := 71) rfl)) (hw _ (List.mem_of_getElem? (i := 72) rfl)) (notFace_of_selects (args := #[]) (mvT hZ (hw _ (List.mem_of_getElem? (i := 74) rfl)))) (hw _ (List.mem_of_getElem? (i := 74) rfl)) (hw _ (List.mem_of_getElem? (i := 73) rfl)) (hw _ (List.mem_of_getElem? (i := 33) rfl)) (hw _ (List.mem_of_getElem? (i := 75) rfl)) (by decide) (own_at l Z a0 hw [] b35 ((((vg31 + (1 : Int32)) + (1 : Int32)) + (1 : Int32)) + (1 : Int32)) vg32 h89 o89_1 o89_2) (by decide) (by decide) rfl rfl (by decide) (by decide) e89 o89_0 (pc := 197) (Ls := #[.val (.int p0), .val (.int p1), .val (.int p2), .val (.int p3), .val (.ref b1), .val (.ref b21), .val (.int vg31), .val (.int vg32), .val (.int vg33), .val (.int vg34), .val (.ref b35), .val (.int (1 : Int32)), .unset]) (st := [(.ref b35)]) (argsL := []) (rest := []) (by rw [hml]; rfl) (lenOf own_pd4 rfl) rfl rfl (Nat.le_of_eq rfl) (hb hby at_197)
            refine own_via st93 ?_
            show own_G p e below _ (T93.setTop (mkF m 200 #[.val (.int p0), .val (.int p1), .val (.int p2), .val (.int p3), .val (.ref b1), .val (.ref b21), .val (.int vg31), .val (.int vg32), .val (.int vg33), .val (.int vg34), .val (.ref b35), .val (.int (1 : Int32)), .unset] [(.int (own_Fat ((((vg31 + (1 : Int32)) + (1 : Int32)) + (1 : Int32)) + (1 : Int32)) vg32))]))
            refine own_via (fun t k => XS.iload X93.here hx rfl (hb hby at_200) rfl k) ?_
            show own_G p e below _ (T93.setTop (mkF m 202 #[.val (.int p0), .val (.int p1), .val (.int p2), .val (.int p3), .val (.ref b1), .val (.ref b21), .val (.int vg31), .val (.int vg32), .val (.int vg33), .val (.int vg34), .val (.ref b35), .val (.int (1 : Int32)), .unset] [(.int vg34), (.int (own_Fat ((((vg31 + (1 : Int32)) + (1 : Int32)) + (1 : Int32)) + (1 : Int32)) vg32))]))
            refine own_via (fun t k => XS.iload X93.here hx rfl (hb hby at_202) rfl k) ?_
            show own_G p e below _ (T93.setTop (mkF m 204 #[.val (.int p0), .val (.int p1), .val (.int p2), .val (.int p3), .val (.ref b1), .val (.ref b21), .val (.int vg31), .val (.int vg32), .val (.int vg33), .val (.int vg34), .val (.ref b35), .val (.int (1 : Int32)), .unset] [(.int vg33), (.int vg34), (.int (own_Fat ((((vg31 + (1 : Int32)) + (1 : Int32)) + (1 : Int32)) + (1 : Int32)) vg32))]))
            have J94 : ∀ (TJ94 : State) (XJ94 : Stand p l e room_1 s m #[(.int p0), (.int p1), (.int p2), (.int p3)] below meth c TJ94 L89 7 64) (EJ94 : TJ94.heap = h89) (zj95 : Int32), zj95 = (if vg34 = vg33 then (1 : Int32) else (0 : Int32)) → own_G p e below (own_P s (own_W n0 (fun v _ => v = some (.int 1))) room_1.cells room_1.slots) (TJ94.setTop (mkF m 212 #[.val (.int p0), .val (.int p1), .val (.int p2), .val (.int p3), .val (.ref b1), .val (.ref b21), .val (.int vg31), .val (.int vg32), .val (.int vg33), .val (.int vg34), .val (.ref b35), .val (.int (1 : Int32)), .unset] [(.int zj95), (.int (own_Fat ((((vg31 + (1 : Int32)) + (1 : Int32)) + (1 : Int32)) + (1 : Int32)) vg32))])) := by
              intro TJ94 XJ94 EJ94 zj95 hzj95
              refine own_via (fun t k => XS.icmpNo XJ94.here hx rfl (hb hby at_212) rfl (teq (by subst hzj95; exact own_aft 4 hvg33 (own_kj 4 4 (own_b2 hc84) (own_k ⟨(own_l (own_s hvg31) (own_e (own_s hvg31) hvg32) hvg33).1, (own_l (own_s hvg31) (own_e (own_s hvg31) hvg32) hvg33).2.1⟩ hvg34).2 rfl) (own_p4 _))).2 k) ?_
              show own_G p e below _ (TJ94.setTop (mkF m 215 #[.val (.int p0), .val (.int p1), .val (.int p2), .val (.int p3), .val (.ref b1), .val (.ref b21), .val (.int vg31), .val (.int vg32), .val (.int vg33), .val (.int vg34), .val (.ref b35), .val (.int (1 : Int32)), .unset] []))
              refine own_via (fun t k => XS.iconst XJ94.here hx rfl (hb hby at_215) k) ?_
              show own_G p e below _ (TJ94.setTop (mkF m 216 #[.val (.int p0), .val (.int p1), .val (.int p2), .val (.int p3), .val (.ref b1), .val (.ref b21), .val (.int vg31), .val (.int vg32), .val (.int vg33), .val (.int vg34), .val (.ref b35), .val (.int (1 : Int32)), .unset] [(.int (1 : Int32))]))
              refine own_via (fun t k => XS.goto XJ94.here hx rfl (pc0 := 216) (pc' := 220) rfl (hb hby at_216) (by decide) (by decide) k) ?_
              show own_G p e below _ (TJ94.setTop (mkF m 220 #[.val (.int p0), .val (.int p1), .val (.int p2), .val (.int p3), .val (.ref b1), .val (.ref b21), .val (.int vg31), .val (.int vg32), .val (.int vg33), .val (.int vg34), .val (.ref b35), .val (.int (1 : Int32)), .unset] [(.int (1 : Int32))]))
              refine own_via (fun t k => XS.istore XJ94.here hx rfl (hb hby at_220) rfl (l' := #[.val (.int p0), .val (.int p1), .val (.int p2), .val (.int p3), .val (.ref b1), .val (.ref b21), .val (.int vg31), .val (.int vg32), .val (.int vg33), .val (.int vg34), .val (.ref b35), .val (.int (1 : Int32)), .val (.int (1 : Int32))]) rfl k) ?_
              show own_G p e below _ (TJ94.setTop (mkF m 222 #[.val (.int p0), .val (.int p1), .val (.int p2), .val (.int p3), .val (.ref b1), .val (.ref b21), .val (.int vg31), .val (.int vg32), .val (.int vg33), .val (.int vg34), .val (.ref b35), .val (.int (1 : Int32)), .val (.int (1 : Int32))] []))
              refine own_via (fun t k => XS.iload XJ94.here hx rfl (hb hby at_222) rfl k) ?_
              show own_G p e below _ (TJ94.setTop (mkF m 224 #[.val (.int p0), .val (.int p1), .val (.int p2), .val (.int p3), .val (.ref b1), .val (.ref b21), .val (.int vg31), .val (.int vg32), .val (.int vg33), .val (.int vg34), .val (.ref b35), .val (.int (1 : Int32)), .val (.int (1 : Int32))] [(.int (1 : Int32))]))
              refine own_via (fun t k => XS.ifNo XJ94.here hx rfl (hb hby at_224) rfl ((if0 _ _).trans (feq (by decide : ¬ ((1 : Int32) = (0 : Int32)))).1) k) ?_
              show own_G p e below _ (TJ94.setTop (mkF m 227 #[.val (.int p0), .val (.int p1), .val (.int p2), .val (.int p3), .val (.ref b1), .val (.ref b21), .val (.int vg31), .val (.int vg32), .val (.int vg33), .val (.int vg34), .val (.ref b35), .val (.int (1 : Int32)), .val (.int (1 : Int32))] []))
              refine own_via (fun t k => XS.iload XJ94.here hx rfl (hb hby at_227) rfl k) ?_
              show own_G p e below _ (TJ94.setTop (mkF m 229 #[.val (.int p0), .val (.int p1), .val (.int p2), .val (.int p3), .val (.ref b1), .val (.ref b21), .val (.int vg31), .val (.int vg32), .val (.int vg33), .val (.int vg34), .val (.ref b35), .val (.int (1 : Int32)), .val (.int (1 : Int32))] [(.int (1 : Int32))]))
              refine own_via (fun t k => XS.ifNo XJ94.here hx rfl (hb hby at_229) rfl ((if0 _ _).trans (feq (by decide : ¬ ((1 : Int32) = (0 : Int32)))).1) k) ?_
              show own_G p e below _ (TJ94.setTop (mkF m 232 #[.val (.int p0), .val (.int p1), .val (.int p2), .val (.int p3), .val (.ref b1), .val (.ref b21), .val (.int vg31), .val (.int vg32), .val (.int vg33), .val (.int vg34), .val (.ref b35), .val (.int (1 : Int32)), .val (.int (1 : Int32))] []))
              refine own_via (fun t k => XS.iconst XJ94.here hx rfl (hb hby at_232) k) ?_
              show own_G p e below _ (TJ94.setTop (mkF m 233 #[.val (.int p0), .val (.int p1), .val (.int p2), .val (.int p3), .val (.ref b1), .val (.ref b21), .val (.int vg31), .val (.int vg32), .val (.int vg33), .val (.int vg34), .val (.ref b35), .val (.int (1 : Int32)), .val (.int (1 : Int32))] [(.int (1 : Int32))]))
              refine own_via (fun t k => XS.goto XJ94.here hx rfl (pc0 := 233) (pc' := 237) rfl (hb hby at_233) (by decide) (by decide) k) ?_
              show own_G p e below _ (TJ94.setTop (mkF m 237 #[.val (.int p0), .val (.int p1), .val (.int p2), .val (.int p3), .val (.ref b1), .val (.ref b21), .val (.int vg31), .val (.int vg32), .val (.int vg33), .val (.int vg34), .val (.ref b35), .val (.int (1 : Int32)), .val (.int (1 : Int32))] [(.int (1 : Int32))]))
              exact own_retN (t := .boolean) XJ94 hx Bd.returns (by simp) Bd.notSynchronized (hb hby at_237) ⟨N89, rfl⟩ (by decide) (by decide)
            by_cases hc96 : vg34 = vg33
            ·
              refine own_via (fun t k => XS.icmpNo X93.here hx rfl (hb hby at_204) rfl (teq hc96).2 k) ?_
              show own_G p e below _ (T93.setTop (mkF m 207 #[.val (.int p0), .val (.int p1), .val (.int p2), .val (.int p3), .val (.ref b1), .val (.ref b21), .val (.int vg31), .val (.int vg32), .val (.int vg33), .val (.int vg34), .val (.ref b35), .val (.int (1 : Int32)), .unset] [(.int (own_Fat ((((vg31 + (1 : Int32)) + (1 : Int32)) + (1 : Int32)) + (1 : Int32)) vg32))]))
              refine own_via (fun t k => XS.iconst X93.here hx rfl (hb hby at_207) k) ?_
              show own_G p e below _ (T93.setTop (mkF m 208 #[.val (.int p0), .val (.int p1), .val (.int p2), .val (.int p3), .val (.ref b1), .val (.ref b21), .val (.int vg31), .val (.int vg32), .val (.int vg33), .val (.int vg34), .val (.ref b35), .val (.int (1 : Int32)), .unset] [(.int (1 : Int32)), (.int (own_Fat ((((vg31 + (1 : Int32)) + (1 : Int32)) + (1 : Int32)) + (1 : Int32)) vg32))]))
              refine own_via (fun t k => XS.goto X93.here hx rfl (pc0 := 208) (pc' := 212) rfl (hb hby at_208) (by decide) (by decide) k) ?_
              show own_G p e below _ (T93.setTop (mkF m 212 #[.val (.int p0), .val (.int p1), .val (.int p2), .val (.int p3), .val (.ref b1), .val (.ref b21), .val (.int vg31), .val (.int vg32), .val (.int vg33), .val (.int vg34), .val (.ref b35), .val (.int (1 : Int32)), .unset] [(.int (1 : Int32)), (.int (own_Fat ((((vg31 + (1 : Int32)) + (1 : Int32)) + (1 : Int32)) + (1 : Int32)) vg32))]))
              exact J94 _ X93 e93 _ (by simp only [if_pos hc96])
            ·
              refine own_via (fun t k => XS.icmpYes X93.here hx rfl (pc0 := 204) (pc' := 211) rfl (hb hby at_204) rfl (feq hc96).2 (by decide) (by decide) k) ?_
              show own_G p e below _ (T93.setTop (mkF m 211 #[.val (.int p0), .val (.int p1), .val (.int p2), .val (.int p3), .val (.ref b1), .val (.ref b21), .val (.int vg31), .val (.int vg32), .val (.int vg33), .val (.int vg34), .val (.ref b35), .val (.int (1 : Int32)), .unset] [(.int (own_Fat ((((vg31 + (1 : Int32)) + (1 : Int32)) + (1 : Int32)) + (1 : Int32)) vg32))]))
              refine own_via (fun t k => XS.iconst X93.here hx rfl (hb hby at_211) k) ?_
              show own_G p e below _ (T93.setTop (mkF m 212 #[.val (.int p0), .val (.int p1), .val (.int p2), .val (.int p3), .val (.ref b1), .val (.ref b21), .val (.int vg31), .val (.int vg32), .val (.int vg33), .val (.int vg34), .val (.ref b35), .val (.int (1 : Int32)), .unset] [(.int (0 : Int32)), (.int (own_Fat ((((vg31 + (1 : Int32)) + (1 : Int32)) + (1 : Int32)) + (1 : Int32)) vg32))]))
              exact J94 _ X93 e93 _ (by simp only [if_neg hc96])
  by_cases hc97 : vg33 = (0 : Int32)
  ·
    refine own_via (fun t k => XS.ifNo X54.here hx rfl (hb hby at_133) rfl ((if0 _ _).trans (teq hc97).2) k) ?_
    show own_G p e below _ (T54.setTop (mkF m 136 #[.val (.int p0), .val (.int p1), .val (.int p2), .val (.int p3), .val (.ref b1), .val (.ref b21), .val (.int vg31), .val (.int vg32), .val (.int vg33), .val (.int vg34), .val (.ref b35), .unset, .unset] [(.int (own_Fat vg31 vg32))]))
    refine own_via (fun t k => XS.iconst X54.here hx rfl (hb hby at_136) k) ?_
    show own_G p e below _ (T54.setTop (mkF m 137 #[.val (.int p0), .val (.int p1), .val (.int p2), .val (.int p3), .val (.ref b1), .val (.ref b21), .val (.int vg31), .val (.int vg32), .val (.int vg33), .val (.int vg34), .val (.ref b35), .unset, .unset] [(.int (1 : Int32)), (.int (own_Fat vg31 vg32))]))
    refine own_via (fun t k => XS.goto X54.here hx rfl (pc0 := 137) (pc' := 141) rfl (hb hby at_137) (by decide) (by decide) k) ?_
    show own_G p e below _ (T54.setTop (mkF m 141 #[.val (.int p0), .val (.int p1), .val (.int p2), .val (.int p3), .val (.ref b1), .val (.ref b21), .val (.int vg31), .val (.int vg32), .val (.int vg33), .val (.int vg34), .val (.ref b35), .unset, .unset] [(.int (1 : Int32)), (.int (own_Fat vg31 vg32))]))
    exact J55 _ X54 e54 _ (by simp only [if_pos hc97])
  ·
    refine own_via (fun t k => XS.ifYes X54.here hx rfl (pc0 := 133) (pc' := 140) rfl (hb hby at_133) rfl ((if0 _ _).trans (feq hc97).2) (by decide) (by decide) k) ?_
    show own_G p e below _ (T54.setTop (mkF m 140 #[.val (.int p0), .val (.int p1), .val (.int p2), .val (.int p3), .val (.ref b1), .val (.ref b21), .val (.int vg31), .val (.int vg32), .val (.int vg33), .val (.int vg34), .val (.ref b35), .unset, .unset] [(.int (own_Fat vg31 vg32))]))
    refine own_via (fun t k => XS.iconst X54.here hx rfl (hb hby at_140) k) ?_
    show own_G p e below _ (T54.setTop (mkF m 141 #[.val (.int p0), .val (.int p1), .val (.int p2), .val (.int p3), .val (.ref b1), .val (.ref b21), .val (.int vg31), .val (.int vg32), .val (.int vg33), .val (.int vg34), .val (.ref b35), .unset, .unset] [(.int (0 : Int32)), (.int (own_Fat vg31 vg32))]))
    exact J55 _ X54 e54 _ (by simp only [if_neg hc97])
set_option maxRecDepth 65536 in
set_option maxHeartbeats 40000000 in
theorem comes_1 {Post : Tables → Env → Array Value → State → Outcome → State → Prop} (hpost : ∀ tb e args s v u, (limb_1_1.after args s (.returned v) u = true ∧ limb_1_2.after args s (.returned v) u = true) → FrameEnd s (.returned v) u (Jvm.fieldLocs frame_1_writes args s ++ Jvm.arrayLocs frame_1_arrays args s ++ Jvm.staticLocs frame_1_statics s) 24 192 → Post tb e args s (.returned v) u) :
    ArmFor flags0 classFile x code maxLocals ret World_1 tables_1 room_1 Calls_1 rest_1 Pre_1 Post := by
  intro l hfl _ _ p e ha hc hk s m args below hf hA hF happ hP
  obtain ⟨hcalls, hrest, hpre⟩ := hP
  obtain ⟨-, -, -, hnamed, -, -, -, hat⟩ := (Spec.applies_iff hf).mp happ
  obtain ⟨hg, hn⟩ := and_e (Cond.before_iff.mp (show (Jvm.Cond.and given_1 narrow_1).before args s = true from hpre))
  obtain ⟨g1, g2⟩ := and_e hg
  obtain ⟨g3, g4⟩ := and_e g2
  obtain ⟨g5, g6⟩ := and_e g4
  obtain ⟨g7, g8⟩ := and_e g6
  obtain ⟨w0, w1, w2, w3, rfl⟩ : ∃ w0 w1 w2 w3 : Value, args = #[w0, w1, w2, w3] := by
    have hs : args.size = 4 := by simpa [Cond.value, given_1] using g1
    obtain ⟨L⟩ := args
    match L, hs with
    | [w0, w1, w2, w3], _ => exact ⟨w0, w1, w2, w3, rfl⟩
  have hw := fun d (hd : d ∈ tables_1) => atoms_spec (ws := Jvm.Cond.code x code maxLocals ret :: tables_1) hat d (List.mem_cons_of_mem _ hd)
  obtain ⟨i0, ei0⟩ := is_v g3
  obtain rfl : w0 = (.int i0) := Option.some.inj ei0
  obtain ⟨i1, ei1⟩ := is_v g5
  obtain rfl : w1 = (.int i1) := Option.some.inj ei1
  obtain ⟨i2, ei2⟩ := is_v g7
  obtain rfl : w2 = (.int i2) := Option.some.inj ei2
  obtain ⟨i3, ei3⟩ := is_v g8
  obtain rfl : w3 = (.int i3) := Option.some.inj ei3
  obtain ⟨hsets, hown0⟩ := atoms_of _ (rest_1_c_eq ▸ (show rest_1_c.before _ s = true from hrest))
  obtain ⟨zc, ez⟩ := is_v (Cond.before_iff.mp (hsets _ (List.mem_of_getElem? (i := 1) rfl)))
  have S1 := Sta.start ez (Or.inl (hsets _ (List.mem_of_getElem? (i := 0) rfl)))
  have hz : ¬ zc = 0 := own_notz (Cond.before_iff.mp (hsets _ (List.mem_of_getElem? (i := 2) rfl))) ez
  obtain ⟨n, o, h1, h2, h3, _, L, rfl, ⟨N, rfl⟩, hq⟩ := own_rm0 l s _ hw tables_1 i0 i1 i2 i3 zc s.heap s.heap.size (Nat.le_refl _) S1 hz p e ha hc hk s m _ below hf ((Spec.applies_iff_loose hf).mp happ).1 ⟨rfl, State.Warmed39.refl s, rfl⟩ trivial
  refine ⟨n, _, h1, h2, h3, hpost _ _ _ _ _ _ ⟨Cond.after_iff.mpr rfl, Cond.after_iff.mpr (eq_i res_at (Term.int_eval (1)) rfl)⟩ ⟨hq.1, hq.2.1, (hq.2.2.sift fun y hy => Or.inr (N y hy)).mono (by decide) (by decide)⟩⟩
theorem main_1_1 : Claimed_1_1 := comes_1 fun _ _ _ _ _ _ h hF => ⟨h.1, hF⟩
theorem main_1_2 : Claimed_1_2 := comes_1 fun _ _ _ _ _ _ h hF => ⟨h.2, hF⟩
end Jvm.Pilot.@@N@@
namespace Jvm.Pilot.@@N@@
open Jvm Jvm.ClassFile Sem Op Lib Jvm.Free Jvm.Stand Jvm.Pilot.@@N@@.Jvm.D
/-! MADE BY PROGRAM (witnessworld.py) out of the Statement's table words and the real class files: 22 classes; the members and pool entries that the words name. The judged class is class 1, her method 1. -/
namespace start1
open Jvm.ClassFile
def u (s : String) : CpInfo := .utf8 (stringToUtf16 s)
/-- a pool by its gaps: so many unusable entries, then the entry; so many at the end -/
def gap : Nat → List CpInfo → List CpInfo
  | 0, r => r
  | n + 1, r => .unusable :: gap n r
def poolList (es : List (Nat × CpInfo)) (last : Nat) : List CpInfo := es.foldr (fun e r => gap e.1 (e.2 :: r)) (gap last [])
def pool (es : List (Nat × CpInfo)) (last : Nat) : Array CpInfo := ⟨poolList es last⟩
def fileOf (pool : Array CpInfo) (this : Nat) (attrs : Array Attribute := #[]) (ms : Array MethodInfo := #[]) (fl : Nat := 33) (sup : Nat := 0) (ifs : Array Nat := #[]) (fds : Array FieldInfo := #[]) : ClassFile where
  minorVersion := 0
  majorVersion := 65
  constantPool := pool
  accessFlags := fl
  thisClass := this
  superClass := sup
  interfaces := ifs
  fields := fds
  methods := ms
  attributes := attrs
def plain (name : String) (sup : Option ClassId) : Class where
  name := name
  kind := .ordinary
  loader := none
  accessFlags := 33
  super := sup
  interfaces := #[]
  cf := none
  fields := #[]
  methods := #[]
  instanceTypes := #[]
  staticTypes := #[]
  resolved := #[]
  callSites := []
  init := .initialized
  statics := none
  mirror := none

def pool0 : Array CpInfo := pool [(5, u "<init>"), (0, u "()V"), (1, .class_ 10), (1, u "java/lang/Object")] 113

def k0c0 : Code := { maxStack := 0, maxLocals := 1, code := object_method_1_code, exceptionTable := #[], attributes := #[] }
def k0m0 : Method := { name := "<init>", desc := "()V", sig := { parameters := [], returnType := none }, accessFlags := 1, code := some k0c0 }
/-- java/lang/Object -/
def k0 : Class := { plain "java/lang/Object" none with
  accessFlags := 33
  interfaces := #[]
  cf := some (fileOf pool0 8 #[] #[{ accessFlags := 1, nameIndex := 5, descriptorIndex := 6, attributes := #[] }] 33 0 #[] #[])
  fields := #[]
  methods := #[k0m0]
  instanceTypes := #[]
  staticTypes := #[]
  resolved := Array.replicate 124 none
  statics := none }

def pool1 : Array CpInfo := pool [(2, .class_ 4), (1, u "java/lang/Object"), (0, u "<init>"), (0, u "()V"), (0, .class_ 8), (0, u "java/lang/String"), (0, .methodref 7 10), (0, .nameAndType 5 11), (0, u "([C)V"), (0, .integer 2147483647), (0, .class_ 14), (0, u "com/example/valbonne/valbonne/exposition/TextFormat$Cursor"), (0, .methodref 13 16), (0, .nameAndType 5 17), (0, u "(Ljava/lang/String;)V"), (0, .methodref 13 19), (0, .nameAndType 20 21), (0, u "line"), (0, u "(II)Lcom/example/valbonne/valbonne/exposition/TextFormat$Cursor;"), (0, .methodref 13 23), (0, .nameAndType 24 25), (0, u "atEnd"), (0, u "()Z"), (0, .methodref 13 27), (0, .nameAndType 28 6), (0, u "advance"), (0, .class_ 30), (0, u "com/example/valbonne/valbonne/exposition/CursorAtEndPinLaw"), (2, u "law"), (0, u "(IIII)Z")] 9

def k1m0 : Method := { name := "<init>", desc := "()V", sig := { parameters := [], returnType := none }, accessFlags := 2, code := none }
def k1c1 : Code := { maxStack := 4, maxLocals := 13, code := code, exceptionTable := #[], attributes := #[] }
def k1m1 : Method := { name := "law", desc := "(IIII)Z", sig := { parameters := [.int, .int, .int, .int], returnType := some .boolean }, accessFlags := 9, code := some k1c1 }
/-- com/example/valbonne/valbonne/exposition/CursorAtEndPinLaw -/
def k1 : Class := { plain "com/example/valbonne/valbonne/exposition/CursorAtEndPinLaw" (some 0) with
  accessFlags := 49
  interfaces := #[]
  cf := some (fileOf pool1 29 #[] #[{ accessFlags := 2, nameIndex := 5, descriptorIndex := 6, attributes := #[] }, { accessFlags := 9, nameIndex := 33, descriptorIndex := 34, attributes := #[] }] 49 2 #[] #[])
  fields := #[]
  methods := #[k1m0, k1m1]
  instanceTypes := #[]
  staticTypes := #[]
  resolved := Array.replicate 44 none
  statics := none }

def pool2 : Array CpInfo := pool [(1, .class_ 2), (0, u "java/io/Serializable"), (0, .class_ 4), (0, u "java/lang/Object")] 2

/-- java/io/Serializable -/
def k2 : Class := { plain "java/io/Serializable" (some 0) with
  accessFlags := 1537
  interfaces := #[]
  cf := some (fileOf pool2 1 #[] #[] 1537 3 #[] #[])
  fields := #[]
  methods := #[]
  instanceTypes := #[]
  staticTypes := #[]
  resolved := Array.replicate 7 none
  statics := none }

def pool3 : Array CpInfo := pool [(1, .class_ 2), (0, u "java/lang/Comparable"), (0, .class_ 4), (0, u "java/lang/Object")] 7

/-- java/lang/Comparable -/
def k3 : Class := { plain "java/lang/Comparable" (some 0) with
  accessFlags := 1537
  interfaces := #[]
  cf := some (fileOf pool3 1 #[] #[] 1537 3 #[] #[])
  fields := #[]
  methods := #[]
  instanceTypes := #[]
  staticTypes := #[]
  resolved := Array.replicate 12 none
  statics := none }

def pool4 : Array CpInfo := pool [(2, .class_ 4), (1, u "java/lang/CharSequence"), (42, .class_ 48), (0, u "java/lang/CharSequence$1CodePointIterator"), (10, .class_ 60), (0, u "java/lang/CharSequence$1CharIterator"), (5, .class_ 67), (0, u "java/lang/Object")] 63

/-- java/lang/CharSequence -/
def k4 : Class := { plain "java/lang/CharSequence" (some 0) with
  accessFlags := 1537
  interfaces := #[]
  cf := some (fileOf pool4 2 #[.nestMembers #[47, 59]] #[] 1537 66 #[] #[])
  fields := #[]
  methods := #[]
  instanceTypes := #[]
  staticTypes := #[]
  resolved := Array.replicate 131 none
  statics := none }

def pool5 : Array CpInfo := pool [(1, .class_ 2), (0, u "java/lang/constant/Constable"), (0, .class_ 4), (0, u "java/lang/Object")] 6

/-- java/lang/constant/Constable -/
def k5 : Class := { plain "java/lang/constant/Constable" (some 0) with
  accessFlags := 1537
  interfaces := #[]
  cf := some (fileOf pool5 1 #[] #[] 1537 3 #[] #[])
  fields := #[]
  methods := #[]
  instanceTypes := #[]
  staticTypes := #[]
  resolved := Array.replicate 11 none
  statics := none }

def pool6 : Array CpInfo := pool [(1, .class_ 2), (0, u "java/lang/constant/ConstantDesc"), (0, .class_ 4), (0, u "java/lang/Object")] 32

/-- java/lang/constant/ConstantDesc -/
def k6 : Class := { plain "java/lang/constant/ConstantDesc" (some 0) with
  accessFlags := 1537
  interfaces := #[]
  cf := some (fileOf pool6 1 #[] #[] 1537 3 #[] #[])
  fields := #[]
  methods := #[]
  instanceTypes := #[]
  staticTypes := #[]
  resolved := Array.replicate 37 none
  statics := none }

def pool7 : Array CpInfo := pool [(1, .methodref 2 3), (0, .class_ 4), (0, .nameAndType 5 6), (0, u "java/lang/Object"), (0, u "<init>"), (0, u "()V"), (2, .fieldref 10 11), (0, .class_ 12), (0, .nameAndType 13 14), (0, u "java/lang/String"), (0, u "value"), (0, u "[B"), (0, .fieldref 10 16), (0, .nameAndType 17 18), (0, u "coder"), (0, u "B"), (2, u "hash"), (0, u "I"), (2, u "hashIsZero"), (0, u "Z"), (0, .methodref 10 28), (0, .nameAndType 5 29), (0, u "([CIILjava/lang/Void;)V"), (8, .fieldref 10 39), (0, .nameAndType 40 26), (0, u "COMPACT_STRINGS"), (1, .class_ 44), (1, u "java/lang/StringUTF16"), (0, u "compress"), (1, .methodref 42 48), (0, .nameAndType 49 50), (0, u "coderFromArrayLen"), (0, u "([BI)B"), (126, .methodref 42 178), (0, .nameAndType 45 179), (0, u "([CII)[B"), (395, .class_ 576), (0, u "java/lang/CharSequence"), (22, u "CASE_INSENSITIVE_ORDER"), (0, u "Ljava/util/Comparator;"), (409, u "([C)V"), (90, u "serialPersistentFields"), (0, u "[Ljava/io/ObjectStreamField;"), (0, .class_ 1104), (0, u "java/lang/String$CaseInsensitiveComparator"), (1, .class_ 1107), (0, u "java/io/Serializable"), (0, .class_ 1109), (0, u "java/lang/Comparable"), (0, .class_ 1111), (0, u "java/lang/constant/Constable"), (0, .class_ 1113), (0, u "java/lang/constant/ConstantDesc"), (2, u "serialVersionUID"), (0, u "J"), (3, u "REPL"), (0, u "C"), (2, u "LATIN1"), (1, u "UTF16")] 323

def k7m0 : Method := { name := "<init>", desc := "()V", sig := { parameters := [], returnType := none }, accessFlags := 1, code := none }
def k7c1 : Code := { maxStack := 5, maxLocals := 2, code := jdk_42_method_3_code, exceptionTable := #[], attributes := #[] }
def k7m1 : Method := { name := "<init>", desc := "([C)V", sig := { parameters := [(.array .char)], returnType := none }, accessFlags := 1, code := some k7c1 }
def k7c2 : Code := { maxStack := 4, maxLocals := 6, code := jdk_42_method_149_code, exceptionTable := #[], attributes := #[] }
def k7m2 : Method := { name := "<init>", desc := "([CIILjava/lang/Void;)V", sig := { parameters := [(.array .char), .int, .int, (.object "java/lang/Void")], returnType := none }, accessFlags := 2, code := some k7c2 }
/-- java/lang/String -/
def k7 : Class := { plain "java/lang/String" (some 0) with
  accessFlags := 49
  interfaces := #[2, 3, 4, 5, 6]
  cf := some (fileOf pool7 10 #[.nestMembers #[1103]] #[{ accessFlags := 1, nameIndex := 5, descriptorIndex := 6, attributes := #[] }, { accessFlags := 1, nameIndex := 5, descriptorIndex := 1010, attributes := #[] }, { accessFlags := 2, nameIndex := 5, descriptorIndex := 29, attributes := #[] }] 49 2 #[1106, 1108, 575, 1110, 1112] #[{ accessFlags := 18, nameIndex := 13, descriptorIndex := 14, attributes := #[] }, { accessFlags := 18, nameIndex := 17, descriptorIndex := 18, attributes := #[] }, { accessFlags := 2, nameIndex := 21, descriptorIndex := 22, attributes := #[] }, { accessFlags := 2, nameIndex := 25, descriptorIndex := 26, attributes := #[] }, { accessFlags := 26, nameIndex := 1116, descriptorIndex := 1117, attributes := #[] }, { accessFlags := 24, nameIndex := 40, descriptorIndex := 26, attributes := #[] }, { accessFlags := 26, nameIndex := 1101, descriptorIndex := 1102, attributes := #[] }, { accessFlags := 26, nameIndex := 1121, descriptorIndex := 1122, attributes := #[] }, { accessFlags := 25, nameIndex := 599, descriptorIndex := 600, attributes := #[] }, { accessFlags := 24, nameIndex := 1125, descriptorIndex := 18, attributes := #[] }, { accessFlags := 24, nameIndex := 1127, descriptorIndex := 18, attributes := #[] }])
  fields := #[{ name := "value", type := (.array .byte), accessFlags := 18, slot := 0, constantValue := 0 }, { name := "coder", type := .byte, accessFlags := 18, slot := 1, constantValue := 0 }, { name := "hash", type := .int, accessFlags := 2, slot := 2, constantValue := 0 }, { name := "hashIsZero", type := .boolean, accessFlags := 2, slot := 3, constantValue := 0 }, { name := "serialVersionUID", type := .long, accessFlags := 26, slot := 0, constantValue := 0 }, { name := "COMPACT_STRINGS", type := .boolean, accessFlags := 24, slot := 1, constantValue := 0 }, { name := "serialPersistentFields", type := (.array (.object "java/io/ObjectStreamField")), accessFlags := 26, slot := 2, constantValue := 0 }, { name := "REPL", type := .char, accessFlags := 26, slot := 3, constantValue := 0 }, { name := "CASE_INSENSITIVE_ORDER", type := (.object "java/util/Comparator"), accessFlags := 25, slot := 4, constantValue := 0 }, { name := "LATIN1", type := .byte, accessFlags := 24, slot := 5, constantValue := 0 }, { name := "UTF16", type := .byte, accessFlags := 24, slot := 6, constantValue := 0 }]
  methods := #[k7m0, k7m1, k7m2]
  instanceTypes := #[(.array .byte), .byte, .int, .boolean]
  staticTypes := #[.long, .boolean, (.array (.object "java/io/ObjectStreamField")), .char, (.object "java/util/Comparator"), .byte, .byte]
  resolved := Array.replicate 1451 none
  statics := some 0 }

def pool8 : Array CpInfo := pool [(6, .class_ 8), (1, u "java/lang/Object"), (0, u "<init>"), (0, u "()V"), (1, .class_ 14), (1, u "java/lang/StringUTF16"), (31, u "$assertionsDisabled"), (0, u "Z"), (13, u "HI_BYTE_SHIFT"), (0, u "I"), (2, u "LO_BYTE_SHIFT"), (49, .methodref 12 116), (0, .nameAndType 117 118), (0, u "compress"), (0, u "([CI[BII)I"), (3, u "([CII)[B"), (138, u "coderFromArrayLen"), (0, u "([BI)B"), (106, .class_ 371), (1, u "java/lang/StringUTF16$LinesSpliterator"), (58, u "MAX_LENGTH"), (196, .class_ 628), (0, u "java/lang/StringUTF16$CodePointsSpliterator"), (0, .class_ 630), (0, u "java/lang/StringUTF16$CharsSpliterator")] 4

def k8m0 : Method := { name := "<init>", desc := "()V", sig := { parameters := [], returnType := none }, accessFlags := 0, code := none }
def k8c1 : Code := { maxStack := 2, maxLocals := 2, code := jdk_52_method_15_code, exceptionTable := #[], attributes := #[] }
def k8m1 : Method := { name := "coderFromArrayLen", desc := "([BI)B", sig := { parameters := [(.array .byte), .int], returnType := some .byte }, accessFlags := 8, code := some k8c1 }
def k8c2 : Code := { maxStack := 5, maxLocals := 6, code := jdk_52_method_16_code, exceptionTable := #[], attributes := #[] }
def k8m2 : Method := { name := "compress", desc := "([CII)[B", sig := { parameters := [(.array .char), .int, .int], returnType := some (.array .byte) }, accessFlags := 9, code := some k8c2 }
def k8c3 : Code := { maxStack := 3, maxLocals := 7, code := jdk_52_method_21_code, exceptionTable := #[], attributes := #[] }
def k8m3 : Method := { name := "compress", desc := "([CI[BII)I", sig := { parameters := [(.array .char), .int, (.array .byte), .int, .int], returnType := some .int }, accessFlags := 9, code := some k8c3 }
/-- java/lang/StringUTF16 -/
def k8 : Class := { plain "java/lang/StringUTF16" (some 0) with
  accessFlags := 48
  interfaces := #[]
  cf := some (fileOf pool8 12 #[.nestMembers #[627, 629, 369]] #[{ accessFlags := 0, nameIndex := 9, descriptorIndex := 10, attributes := #[] }, { accessFlags := 8, nameIndex := 261, descriptorIndex := 262, attributes := #[] }, { accessFlags := 9, nameIndex := 117, descriptorIndex := 122, attributes := #[] }, { accessFlags := 9, nameIndex := 117, descriptorIndex := 118, attributes := #[] }] 48 6 #[] #[{ accessFlags := 26, nameIndex := 61, descriptorIndex := 62, attributes := #[] }, { accessFlags := 26, nameIndex := 65, descriptorIndex := 62, attributes := #[] }, { accessFlags := 24, nameIndex := 430, descriptorIndex := 62, attributes := #[] }, { accessFlags := 4120, nameIndex := 46, descriptorIndex := 47, attributes := #[] }])
  fields := #[{ name := "HI_BYTE_SHIFT", type := .int, accessFlags := 26, slot := 0, constantValue := 0 }, { name := "LO_BYTE_SHIFT", type := .int, accessFlags := 26, slot := 1, constantValue := 0 }, { name := "MAX_LENGTH", type := .int, accessFlags := 24, slot := 2, constantValue := 0 }, { name := "$assertionsDisabled", type := .boolean, accessFlags := 4120, slot := 3, constantValue := 0 }]
  methods := #[k8m0, k8m1, k8m2, k8m3]
  instanceTypes := #[]
  staticTypes := #[.int, .int, .int, .boolean]
  resolved := Array.replicate 635 none
  statics := none }

def pool9 : Array CpInfo := pool [(1, .class_ 2), (0, u "com/example/valbonne/valbonne/exposition/TextFormat"), (0, .methodref 4 5), (0, .class_ 6), (0, .nameAndType 7 8), (0, u "java/lang/Object"), (0, u "<init>"), (0, u "()V"), (0, .class_ 10), (0, u "com/example/valbonne/valbonne/exposition/TextFormat$LabelNames"), (0, .methodref 9 12), (0, .nameAndType 7 13), (0, u "(Lcom/example/valbonne/valbonne/exposition/TextFormat$Cursor;)V"), (0, .fieldref 15 16), (0, .class_ 17), (0, .nameAndType 18 19), (0, u "com/example/valbonne/valbonne/exposition/TextFormat$Cursor"), (0, u "labelNames"), (0, u "Lcom/example/valbonne/valbonne/exposition/TextFormat$LabelNames;"), (0, .class_ 21), (0, u "java/lang/String"), (0, .fieldref 15 23), (0, .nameAndType 24 25), (0, u "shared"), (0, u "[Ljava/lang/String;"), (0, .fieldref 15 27), (0, .nameAndType 28 29), (0, u "backslash"), (0, u "I"), (0, .fieldref 15 31), (0, .nameAndType 32 33), (0, u "text"), (0, u "Ljava/lang/String;"), (0, .fieldref 15 35), (0, .nameAndType 36 29), (0, u "start"), (0, .fieldref 15 38), (0, .nameAndType 39 29), (0, u "end"), (0, .fieldref 15 41), (0, .nameAndType 42 29), (0, u "position"), (30, u "sharedCount"), (14, u "atEnd"), (0, u "()Z"), (16, u "SHARED"), (2, u "(Ljava/lang/String;)V"), (2, u "line"), (0, u "(II)Lcom/example/valbonne/valbonne/exposition/TextFormat$Cursor;"), (5, u "advance")] 19

def k9c0 : Code := { maxStack := 4, maxLocals := 2, code := prog_28_method_1_code, exceptionTable := #[], attributes := #[] }
def k9m0 : Method := { name := "<init>", desc := "(Ljava/lang/String;)V", sig := { parameters := [(.object "java/lang/String")], returnType := none }, accessFlags := 0, code := some k9c0 }
def k9c1 : Code := { maxStack := 2, maxLocals := 3, code := prog_28_method_2_code, exceptionTable := #[], attributes := #[] }
def k9m1 : Method := { name := "line", desc := "(II)Lcom/example/valbonne/valbonne/exposition/TextFormat$Cursor;", sig := { parameters := [.int, .int], returnType := some (.object "com/example/valbonne/valbonne/exposition/TextFormat$Cursor") }, accessFlags := 0, code := some k9c1 }
def k9c2 : Code := { maxStack := 2, maxLocals := 1, code := prog_28_method_6_code, exceptionTable := #[], attributes := #[] }
def k9m2 : Method := { name := "atEnd", desc := "()Z", sig := { parameters := [], returnType := some .boolean }, accessFlags := 0, code := some k9c2 }
def k9c3 : Code := { maxStack := 3, maxLocals := 1, code := prog_28_method_9_code, exceptionTable := #[], attributes := #[] }
def k9m3 : Method := { name := "advance", desc := "()V", sig := { parameters := [], returnType := none }, accessFlags := 0, code := some k9c3 }
/-- com/example/valbonne/valbonne/exposition/TextFormat$Cursor -/
def k9 : Class := { plain "com/example/valbonne/valbonne/exposition/TextFormat$Cursor" (some 0) with
  accessFlags := 32
  interfaces := #[]
  cf := some (fileOf pool9 15 #[.nestHost 1] #[{ accessFlags := 0, nameIndex := 7, descriptorIndex := 109, attributes := #[] }, { accessFlags := 0, nameIndex := 112, descriptorIndex := 113, attributes := #[] }, { accessFlags := 0, nameIndex := 88, descriptorIndex := 89, attributes := #[] }, { accessFlags := 0, nameIndex := 119, descriptorIndex := 8, attributes := #[] }] 32 4 #[] #[{ accessFlags := 26, nameIndex := 106, descriptorIndex := 29, attributes := #[] }, { accessFlags := 18, nameIndex := 32, descriptorIndex := 33, attributes := #[] }, { accessFlags := 18, nameIndex := 18, descriptorIndex := 19, attributes := #[] }, { accessFlags := 18, nameIndex := 24, descriptorIndex := 25, attributes := #[] }, { accessFlags := 2, nameIndex := 73, descriptorIndex := 29, attributes := #[] }, { accessFlags := 2, nameIndex := 36, descriptorIndex := 29, attributes := #[] }, { accessFlags := 2, nameIndex := 39, descriptorIndex := 29, attributes := #[] }, { accessFlags := 2, nameIndex := 42, descriptorIndex := 29, attributes := #[] }, { accessFlags := 2, nameIndex := 28, descriptorIndex := 29, attributes := #[] }])
  fields := #[{ name := "SHARED", type := .int, accessFlags := 26, slot := 0, constantValue := 0 }, { name := "text", type := (.object "java/lang/String"), accessFlags := 18, slot := 0, constantValue := 0 }, { name := "labelNames", type := (.object "com/example/valbonne/valbonne/exposition/TextFormat$LabelNames"), accessFlags := 18, slot := 1, constantValue := 0 }, { name := "shared", type := (.array (.object "java/lang/String")), accessFlags := 18, slot := 2, constantValue := 0 }, { name := "sharedCount", type := .int, accessFlags := 2, slot := 3, constantValue := 0 }, { name := "start", type := .int, accessFlags := 2, slot := 4, constantValue := 0 }, { name := "end", type := .int, accessFlags := 2, slot := 5, constantValue := 0 }, { name := "position", type := .int, accessFlags := 2, slot := 6, constantValue := 0 }, { name := "backslash", type := .int, accessFlags := 2, slot := 7, constantValue := 0 }]
  methods := #[k9m0, k9m1, k9m2, k9m3]
  instanceTypes := #[(.object "java/lang/String"), (.object "com/example/valbonne/valbonne/exposition/TextFormat$LabelNames"), (.array (.object "java/lang/String")), .int, .int, .int, .int, .int]
  staticTypes := #[.int]
  resolved := Array.replicate 139 none
  statics := none }

def pool10 : Array CpInfo := pool [(1, .methodref 2 3), (0, .class_ 4), (0, .nameAndType 5 6), (0, u "java/lang/Object"), (0, u "<init>"), (0, u "()V"), (0, .fieldref 8 9), (0, .class_ 10), (0, .nameAndType 11 12), (0, u "com/example/valbonne/valbonne/exposition/TextFormat$LabelNames"), (0, u "bounds"), (0, u "[I"), (0, .fieldref 8 14), (0, .nameAndType 15 16), (0, u "cursor"), (0, u "Lcom/example/valbonne/valbonne/exposition/TextFormat$Cursor;"), (2, u "count"), (0, u "I"), (2, u "many"), (0, u "Ljava/util/Set;"), (30, u "COMPARED"), (4, u "(Lcom/example/valbonne/valbonne/exposition/TextFormat$Cursor;)V"), (8, .class_ 70), (0, u "com/example/valbonne/valbonne/exposition/TextFormat")] 3

def k10c0 : Code := { maxStack := 2, maxLocals := 2, code := prog_29_method_1_code, exceptionTable := #[], attributes := #[] }
def k10m0 : Method := { name := "<init>", desc := "(Lcom/example/valbonne/valbonne/exposition/TextFormat$Cursor;)V", sig := { parameters := [(.object "com/example/valbonne/valbonne/exposition/TextFormat$Cursor")], returnType := none }, accessFlags := 0, code := some k10c0 }
/-- com/example/valbonne/valbonne/exposition/TextFormat$LabelNames -/
def k10 : Class := { plain "com/example/valbonne/valbonne/exposition/TextFormat$LabelNames" (some 0) with
  accessFlags := 32
  interfaces := #[]
  cf := some (fileOf pool10 8 #[.nestHost 69] #[{ accessFlags := 0, nameIndex := 5, descriptorIndex := 60, attributes := #[] }] 32 2 #[] #[{ accessFlags := 26, nameIndex := 55, descriptorIndex := 20, attributes := #[] }, { accessFlags := 18, nameIndex := 15, descriptorIndex := 16, attributes := #[] }, { accessFlags := 2, nameIndex := 11, descriptorIndex := 12, attributes := #[] }, { accessFlags := 2, nameIndex := 19, descriptorIndex := 20, attributes := #[] }, { accessFlags := 2, nameIndex := 23, descriptorIndex := 24, attributes := #[] }])
  fields := #[{ name := "COMPARED", type := .int, accessFlags := 26, slot := 0, constantValue := 0 }, { name := "cursor", type := (.object "com/example/valbonne/valbonne/exposition/TextFormat$Cursor"), accessFlags := 18, slot := 0, constantValue := 0 }, { name := "bounds", type := (.array .int), accessFlags := 2, slot := 1, constantValue := 0 }, { name := "count", type := .int, accessFlags := 2, slot := 2, constantValue := 0 }, { name := "many", type := (.object "java/util/Set"), accessFlags := 2, slot := 3, constantValue := 0 }]
  methods := #[k10m0]
  instanceTypes := #[(.object "com/example/valbonne/valbonne/exposition/TextFormat$Cursor"), (.array .int), .int, (.object "java/util/Set")]
  staticTypes := #[.int]
  resolved := Array.replicate 74 none
  statics := none }

def pool11 : Array CpInfo := pool [(4, .class_ 6), (1, u "java/lang/Object"), (0, u "<init>"), (0, u "()V"), (5, .class_ 16), (1, u "java/lang/StringLatin1"), (104, u "$assertionsDisabled"), (0, u "Z"), (98, .class_ 223), (1, u "java/lang/StringLatin1$LinesSpliterator"), (166, .class_ 391), (0, u "java/lang/StringLatin1$CharsSpliterator")] 3

def k11m0 : Method := { name := "<init>", desc := "()V", sig := { parameters := [], returnType := none }, accessFlags := 0, code := none }
/-- java/lang/StringLatin1 -/
def k11 : Class := { plain "java/lang/StringLatin1" (some 0) with
  accessFlags := 48
  interfaces := #[]
  cf := some (fileOf pool11 14 #[.nestMembers #[390, 221]] #[{ accessFlags := 0, nameIndex := 7, descriptorIndex := 8, attributes := #[] }] 48 4 #[] #[{ accessFlags := 4120, nameIndex := 121, descriptorIndex := 122, attributes := #[] }])
  fields := #[{ name := "$assertionsDisabled", type := .boolean, accessFlags := 4120, slot := 0, constantValue := 0 }]
  methods := #[k11m0]
  instanceTypes := #[]
  staticTypes := #[.boolean]
  resolved := Array.replicate 395 none
  statics := none }

def pool12 : Array CpInfo := pool [(2, .class_ 4), (1, u "java/lang/Object"), (0, u "<init>"), (0, u "()V"), (17, .class_ 26), (1, u "jdk/internal/util/Preconditions"), (28, .class_ 56), (0, u "jdk/internal/util/Preconditions$4"), (57, .class_ 115), (0, u "jdk/internal/util/Preconditions$1"), (7, u "SIOOBE_FORMATTER"), (0, u "Ljava/util/function/BiFunction;"), (0, .class_ 126), (0, u "jdk/internal/util/Preconditions$2"), (3, u "AIOOBE_FORMATTER"), (0, .class_ 132), (0, u "jdk/internal/util/Preconditions$3"), (3, u "IOOBE_FORMATTER")] 57

def k12m0 : Method := { name := "<init>", desc := "()V", sig := { parameters := [], returnType := none }, accessFlags := 1, code := none }
/-- jdk/internal/util/Preconditions -/
def k12 : Class := { plain "jdk/internal/util/Preconditions" (some 0) with
  accessFlags := 33
  interfaces := #[]
  cf := some (fileOf pool12 24 #[.nestMembers #[55, 131, 125, 114]] #[{ accessFlags := 1, nameIndex := 5, descriptorIndex := 6, attributes := #[] }] 33 2 #[] #[{ accessFlags := 25, nameIndex := 123, descriptorIndex := 124, attributes := #[] }, { accessFlags := 25, nameIndex := 130, descriptorIndex := 124, attributes := #[] }, { accessFlags := 25, nameIndex := 136, descriptorIndex := 124, attributes := #[] }])
  fields := #[{ name := "SIOOBE_FORMATTER", type := (.object "java/util/function/BiFunction"), accessFlags := 25, slot := 0, constantValue := 0 }, { name := "AIOOBE_FORMATTER", type := (.object "java/util/function/BiFunction"), accessFlags := 25, slot := 1, constantValue := 0 }, { name := "IOOBE_FORMATTER", type := (.object "java/util/function/BiFunction"), accessFlags := 25, slot := 2, constantValue := 0 }]
  methods := #[k12m0]
  instanceTypes := #[]
  staticTypes := #[(.object "java/util/function/BiFunction"), (.object "java/util/function/BiFunction"), (.object "java/util/function/BiFunction")]
  resolved := Array.replicate 194 none
  statics := some 1 }

def pool13 : Array CpInfo := pool [(9, u "<init>"), (6, .class_ 18), (1, u "java/lang/Object"), (0, u "()V"), (1, .class_ 23), (1, u "jdk/internal/util/ArraysSupport"), (0, u "LOG2_ARRAY_LONG_INDEX_SCALE"), (0, u "I"), (2, u "U"), (0, u "Ljdk/internal/misc/Unsafe;"), (8, u "BIG_ENDIAN"), (0, u "Z"), (8, u "LOG2_BYTE_BIT_SIZE"), (4, u "LOG2_ARRAY_INT_INDEX_SCALE"), (54, u "JLA"), (0, u "Ljdk/internal/access/JavaLangAccess;"), (11, u "LOG2_ARRAY_BOOLEAN_INDEX_SCALE"), (9, u "LOG2_ARRAY_BYTE_INDEX_SCALE"), (5, u "LOG2_ARRAY_CHAR_INDEX_SCALE"), (5, u "LOG2_ARRAY_SHORT_INDEX_SCALE"), (18, u "LOG2_ARRAY_FLOAT_INDEX_SCALE"), (24, u "LOG2_ARRAY_DOUBLE_INDEX_SCALE"), (89, u "T_BOOLEAN"), (2, u "T_CHAR"), (1, u "T_FLOAT"), (1, u "T_DOUBLE"), (1, u "T_BYTE"), (1, u "T_SHORT"), (1, u "T_INT"), (1, u "T_LONG"), (1, u "SOFT_MAX_ARRAY_LENGTH")] 83

def k13m0 : Method := { name := "<init>", desc := "()V", sig := { parameters := [], returnType := none }, accessFlags := 2, code := none }
/-- jdk/internal/util/ArraysSupport -/
def k13 : Class := { plain "jdk/internal/util/ArraysSupport" (some 0) with
  accessFlags := 33
  interfaces := #[]
  cf := some (fileOf pool13 21 #[] #[{ accessFlags := 2, nameIndex := 9, descriptorIndex := 19, attributes := #[] }] 33 16 #[] #[{ accessFlags := 24, nameIndex := 28, descriptorIndex := 29, attributes := #[] }, { accessFlags := 26, nameIndex := 38, descriptorIndex := 39, attributes := #[] }, { accessFlags := 25, nameIndex := 121, descriptorIndex := 25, attributes := #[] }, { accessFlags := 25, nameIndex := 131, descriptorIndex := 25, attributes := #[] }, { accessFlags := 25, nameIndex := 137, descriptorIndex := 25, attributes := #[] }, { accessFlags := 25, nameIndex := 143, descriptorIndex := 25, attributes := #[] }, { accessFlags := 25, nameIndex := 53, descriptorIndex := 25, attributes := #[] }, { accessFlags := 25, nameIndex := 24, descriptorIndex := 25, attributes := #[] }, { accessFlags := 25, nameIndex := 162, descriptorIndex := 25, attributes := #[] }, { accessFlags := 25, nameIndex := 187, descriptorIndex := 25, attributes := #[] }, { accessFlags := 26, nameIndex := 48, descriptorIndex := 25, attributes := #[] }, { accessFlags := 25, nameIndex := 277, descriptorIndex := 25, attributes := #[] }, { accessFlags := 25, nameIndex := 280, descriptorIndex := 25, attributes := #[] }, { accessFlags := 25, nameIndex := 282, descriptorIndex := 25, attributes := #[] }, { accessFlags := 25, nameIndex := 284, descriptorIndex := 25, attributes := #[] }, { accessFlags := 25, nameIndex := 286, descriptorIndex := 25, attributes := #[] }, { accessFlags := 25, nameIndex := 288, descriptorIndex := 25, attributes := #[] }, { accessFlags := 25, nameIndex := 290, descriptorIndex := 25, attributes := #[] }, { accessFlags := 25, nameIndex := 292, descriptorIndex := 25, attributes := #[] }, { accessFlags := 26, nameIndex := 108, descriptorIndex := 109, attributes := #[] }, { accessFlags := 25, nameIndex := 294, descriptorIndex := 25, attributes := #[] }])
  fields := #[{ name := "U", type := (.object "jdk/internal/misc/Unsafe"), accessFlags := 24, slot := 0, constantValue := 0 }, { name := "BIG_ENDIAN", type := .boolean, accessFlags := 26, slot := 1, constantValue := 0 }, { name := "LOG2_ARRAY_BOOLEAN_INDEX_SCALE", type := .int, accessFlags := 25, slot := 2, constantValue := 0 }, { name := "LOG2_ARRAY_BYTE_INDEX_SCALE", type := .int, accessFlags := 25, slot := 3, constantValue := 0 }, { name := "LOG2_ARRAY_CHAR_INDEX_SCALE", type := .int, accessFlags := 25, slot := 4, constantValue := 0 }, { name := "LOG2_ARRAY_SHORT_INDEX_SCALE", type := .int, accessFlags := 25, slot := 5, constantValue := 0 }, { name := "LOG2_ARRAY_INT_INDEX_SCALE", type := .int, accessFlags := 25, slot := 6, constantValue := 0 }, { name := "LOG2_ARRAY_LONG_INDEX_SCALE", type := .int, accessFlags := 25, slot := 7, constantValue := 0 }, { name := "LOG2_ARRAY_FLOAT_INDEX_SCALE", type := .int, accessFlags := 25, slot := 8, constantValue := 0 }, { name := "LOG2_ARRAY_DOUBLE_INDEX_SCALE", type := .int, accessFlags := 25, slot := 9, constantValue := 0 }, { name := "LOG2_BYTE_BIT_SIZE", type := .int, accessFlags := 26, slot := 10, constantValue := 0 }, { name := "T_BOOLEAN", type := .int, accessFlags := 25, slot := 11, constantValue := 0 }, { name := "T_CHAR", type := .int, accessFlags := 25, slot := 12, constantValue := 0 }, { name := "T_FLOAT", type := .int, accessFlags := 25, slot := 13, constantValue := 0 }, { name := "T_DOUBLE", type := .int, accessFlags := 25, slot := 14, constantValue := 0 }, { name := "T_BYTE", type := .int, accessFlags := 25, slot := 15, constantValue := 0 }, { name := "T_SHORT", type := .int, accessFlags := 25, slot := 16, constantValue := 0 }, { name := "T_INT", type := .int, accessFlags := 25, slot := 17, constantValue := 0 }, { name := "T_LONG", type := .int, accessFlags := 25, slot := 18, constantValue := 0 }, { name := "JLA", type := (.object "jdk/internal/access/JavaLangAccess"), accessFlags := 26, slot := 19, constantValue := 0 }, { name := "SOFT_MAX_ARRAY_LENGTH", type := .int, accessFlags := 25, slot := 20, constantValue := 0 }]
  methods := #[k13m0]
  instanceTypes := #[]
  staticTypes := #[(.object "jdk/internal/misc/Unsafe"), .boolean, .int, .int, .int, .int, .int, .int, .int, .int, .int, .int, .int, .int, .int, .int, .int, .int, .int, (.object "jdk/internal/access/JavaLangAccess"), .int]
  resolved := Array.replicate 378 none
  statics := none }

def pool14 : Array CpInfo := pool [(1, u "java/lang/Cloneable"), (0, .class_ 1), (0, u "java/lang/Object"), (0, .class_ 3)] 3

/-- java/lang/Cloneable -/
def k14 : Class := { plain "java/lang/Cloneable" (some 0) with
  accessFlags := 1537
  interfaces := #[]
  cf := some (fileOf pool14 2 #[] #[] 1537 4 #[] #[])
  fields := #[]
  methods := #[]
  instanceTypes := #[]
  staticTypes := #[]
  resolved := Array.replicate 8 none
  statics := none }

/-- the primitive byte -/
def k15 : Class := { plain "byte" none with kind := .primitive 'B', accessFlags := 0x411 }
/-- [B -/
def k16 : Class := { plain "[B" (some 0) with kind := .array 15 .byte, interfaces := #[14, 2], accessFlags := 1041 }

/-- the primitive char -/
def k17 : Class := { plain "char" none with kind := .primitive 'C', accessFlags := 0x411 }
/-- [C -/
def k18 : Class := { plain "[C" (some 0) with kind := .array 17 .char, interfaces := #[14, 2], accessFlags := 1041 }

/-- the primitive int -/
def k19 : Class := { plain "int" none with kind := .primitive 'I', accessFlags := 0x411 }
/-- [I -/
def k20 : Class := { plain "[I" (some 0) with kind := .array 19 .int, interfaces := #[14, 2], accessFlags := 1041 }

/-- [Ljava/lang/String; -/
def k21 : Class := { plain "[Ljava/lang/String;" (some 0) with kind := .array 7 (.object "java/lang/String"), interfaces := #[14, 2], accessFlags := 1041 }

def heap : Heap := #[{ cls := 7, slots := #[.long 0, .int 1, .null, .int 0, .null, .int 0, .int 0], vm := .statics 7 },
  { cls := 12, slots := #[.null, .null, .null], vm := .statics 12 }]
def classes : Array Class := #[k0, k1, k2, k3, k4, k5, k6, k7, k8, k9, k10, k11, k12, k13, k14, k15, k16, k17, k18, k19, k20, k21]
def interned : List (Array UInt16 × Addr) := []
def slotsUsed : Nat := 10
def theMethod : MethodId := ⟨1, 1⟩
def args0 : Array Value := #[.int 5, .int 300, .int 7, .int 2]
def aboutOver (below : List Frame) : State where
  vm := { classes := classes, interned := interned.toArray }
  heap := heap
  slotsUsed := slotsUsed
  threads := #[{ frames := .invoking theMethod args0 :: below }]
def below0 : List Frame := [.native { method := ⟨0, 0⟩, args := #[] }]
def about1 : State := aboutOver below0
def p0 : Program := .bare "" "" ""
def e0 : Env := launch0.env 0 0 0
theorem w_frames : about1.frames = Frame.invoking theMethod args0 :: below0 := rfl
set_option maxRecDepth 65536 in
theorem w_args : argsFit about1.vm theMethod args0 = true := by decide +kernel
set_option maxRecDepth 65536 in
theorem w_heap : heapFits about1 = true := by decide +kernel
set_option maxRecDepth 65536 in
theorem w_runnable : about1.curStatus? = some .runnable := by decide +kernel
set_option maxRecDepth 65536 in
theorem w_alone : about1.alone = true := by decide +kernel
set_option maxRecDepth 65536 in
theorem w_named : about1.methodNamed? x = some theMethod := by decide +kernel
set_option maxRecDepth 65536 in
theorem w_hears : about1.hears theMethod below0 = true := by decide +kernel
set_option maxRecDepth 65536 in
theorem w_ripe : about1.ripe theMethod args0 below0 = true := by decide +kernel
theorem w_running : about1.status = .running := rfl
set_option maxRecDepth 65536 in
theorem w_room : about1.hasRoom e0.platform room_1 = true :=
  launch0.hasRoom_least _ room_1 (by decide +kernel) (by decide +kernel) (by decide +kernel) (by decide +kernel) (by decide +kernel) (by decide +kernel)
theorem allAtoms_all (ts : List Jvm.Cond) (a : Array Jvm.Value) (st : Jvm.State) : (allAtoms ts).before a st = ts.all (fun c => c.before a st) := by
  induction ts with
  | nil => rfl
  | cons c t ih =>
    show (Jvm.Cond.and c (allAtoms t)).before a st = _
    rw [Jvm.Cond.before_and, ih, List.all_cons]
def words1 : List Jvm.Cond := Jvm.Cond.code x code maxLocals ret :: tables_1
/-- a 'code' word, met by the world's own term for the bytes: nothing is compared byte by byte -/
theorem code_word {y : MethodName} {bytes : ByteArray} {mx : Nat} {rt : Option FieldType} {a : Array Value} {s : State} {m : MethodId} {meth : Method} {c : Code} (h1 : s.methodNamed? y = some m) (h2 : s.vm.method? m = some meth) (h3 : meth.code = some c) (h4 : c.code = bytes)
    (h5 : (c.maxLocals == mx && c.exceptionTable.isEmpty && decide (c.maxStack ≤ mostOperands) && decide (meth.sig.returnType = rt) && !meth.locks && decide (parseMethodDescriptor y.desc = some meth.sig)) = true) : (Jvm.Cond.code y bytes mx rt).before a s = true := by
  simp only [Bool.and_eq_true, beq_iff_eq, Bool.not_eq_true', decide_eq_true_eq] at h5
  obtain ⟨⟨⟨⟨⟨g1, g2⟩, g3⟩, g4⟩, g5⟩, g6⟩ := h5
  simp [Cond.before, Cond.holds, Cond.value, h1, h2, h3, h4, g1, g2, g3, g4, g5, g6]
def isCode : Jvm.Cond → Bool
  | .code _ _ _ _ => true
  | _ => false
theorem all_split {L : List Jvm.Cond} {P : Jvm.Cond → Bool} (h1 : L.all (fun c => isCode c || P c) = true) (h2 : ∀ c ∈ L.filter isCode, P c = true) : L.all P = true := by
  refine List.all_eq_true.mpr fun c hc => ?_
  have h := List.all_eq_true.mp h1 c hc
  rcases Bool.eq_false_or_eq_true (isCode c) with hi | hi
  · exact h2 c (List.mem_filter.mpr ⟨hc, hi⟩)
  · simpa [hi] using h
set_option maxRecDepth 65536 in
theorem w_c0 : (Jvm.Cond.code x code maxLocals ret).before args0 about1 = true := code_word (m := ⟨1, 1⟩) (meth := k1m1) (c := k1c1) (by decide +kernel) rfl rfl rfl (by decide +kernel)
set_option maxRecDepth 65536 in
theorem w_c1 : (Jvm.Cond.code ({ cls := "java/lang/String", name := "<init>", desc := "([C)V" } : Jvm.MethodName) jdk_42_method_3_code (2 : Nat) (Option.none : Option Jvm.ClassFile.FieldType)).before args0 about1 = true := code_word (m := ⟨7, 1⟩) (meth := k7m1) (c := k7c1) (by decide +kernel) rfl rfl rfl (by decide +kernel)
set_option maxRecDepth 65536 in
theorem w_c2 : (Jvm.Cond.code ({ cls := "java/lang/String", name := "<init>", desc := "([CIILjava/lang/Void;)V" } : Jvm.MethodName) jdk_42_method_149_code (6 : Nat) (Option.none : Option Jvm.ClassFile.FieldType)).before args0 about1 = true := code_word (m := ⟨7, 2⟩) (meth := k7m2) (c := k7c2) (by decide +kernel) rfl rfl rfl (by decide +kernel)
set_option maxRecDepth 65536 in
theorem w_c3 : (Jvm.Cond.code ({ cls := "java/lang/Object", name := "<init>", desc := "()V" } : Jvm.MethodName) object_method_1_code (1 : Nat) (Option.none : Option Jvm.ClassFile.FieldType)).before args0 about1 = true := code_word (m := ⟨0, 0⟩) (meth := k0m0) (c := k0c0) (by decide +kernel) rfl rfl rfl (by decide +kernel)
set_option maxRecDepth 65536 in
theorem w_c4 : (Jvm.Cond.code ({ cls := "java/lang/StringUTF16", name := "compress", desc := "([CII)[B" } : Jvm.MethodName) jdk_52_method_16_code (6 : Nat) (Option.some (Jvm.ClassFile.FieldType.array Jvm.ClassFile.FieldType.byte))).before args0 about1 = true := code_word (m := ⟨8, 2⟩) (meth := k8m2) (c := k8c2) (by decide +kernel) rfl rfl rfl (by decide +kernel)
set_option maxRecDepth 65536 in
theorem w_c5 : (Jvm.Cond.code ({ cls := "java/lang/StringUTF16", name := "compress", desc := "([CI[BII)I" } : Jvm.MethodName) jdk_52_method_21_code (7 : Nat) (Option.some Jvm.ClassFile.FieldType.int)).before args0 about1 = true := code_word (m := ⟨8, 3⟩) (meth := k8m3) (c := k8c3) (by decide +kernel) rfl rfl rfl (by decide +kernel)
set_option maxRecDepth 65536 in
theorem w_c6 : (Jvm.Cond.code ({ cls := "java/lang/StringUTF16", name := "coderFromArrayLen", desc := "([BI)B" } : Jvm.MethodName) jdk_52_method_15_code (2 : Nat) (Option.some Jvm.ClassFile.FieldType.byte)).before args0 about1 = true := code_word (m := ⟨8, 1⟩) (meth := k8m1) (c := k8c1) (by decide +kernel) rfl rfl rfl (by decide +kernel)
set_option maxRecDepth 65536 in
theorem w_c7 : (Jvm.Cond.code ({ cls := "com/example/valbonne/valbonne/exposition/TextFormat$Cursor", name := "<init>", desc := "(Ljava/lang/String;)V" } : Jvm.MethodName) prog_28_method_1_code (2 : Nat) (Option.none : Option Jvm.ClassFile.FieldType)).before args0 about1 = true := code_word (m := ⟨9, 0⟩) (meth := k9m0) (c := k9c0) (by decide +kernel) rfl rfl rfl (by decide +kernel)
set_option maxRecDepth 65536 in
theorem w_c8 : (Jvm.Cond.code ({ cls := "com/example/valbonne/valbonne/exposition/TextFormat$LabelNames", name := "<init>", desc := "(Lcom/example/valbonne/valbonne/exposition/TextFormat$Cursor;)V" } : Jvm.MethodName) prog_29_method_1_code (2 : Nat) (Option.none : Option Jvm.ClassFile.FieldType)).before args0 about1 = true := code_word (m := ⟨10, 0⟩) (meth := k10m0) (c := k10c0) (by decide +kernel) rfl rfl rfl (by decide +kernel)
set_option maxRecDepth 65536 in
theorem w_c9 : (Jvm.Cond.code ({ cls := "com/example/valbonne/valbonne/exposition/TextFormat$Cursor", name := "line", desc := "(II)Lcom/example/valbonne/valbonne/exposition/TextFormat$Cursor;" } : Jvm.MethodName) prog_28_method_2_code (3 : Nat) (Option.some (Jvm.ClassFile.FieldType.object "com/example/valbonne/valbonne/exposition/TextFormat$Cursor"))).before args0 about1 = true := code_word (m := ⟨9, 1⟩) (meth := k9m1) (c := k9c1) (by decide +kernel) rfl rfl rfl (by decide +kernel)
set_option maxRecDepth 65536 in
theorem w_c10 : (Jvm.Cond.code ({ cls := "com/example/valbonne/valbonne/exposition/TextFormat$Cursor", name := "atEnd", desc := "()Z" } : Jvm.MethodName) prog_28_method_6_code (1 : Nat) (Option.some Jvm.ClassFile.FieldType.boolean)).before args0 about1 = true := code_word (m := ⟨9, 2⟩) (meth := k9m2) (c := k9c2) (by decide +kernel) rfl rfl rfl (by decide +kernel)
set_option maxRecDepth 65536 in
theorem w_c11 : (Jvm.Cond.code ({ cls := "com/example/valbonne/valbonne/exposition/TextFormat$Cursor", name := "advance", desc := "()V" } : Jvm.MethodName) prog_28_method_9_code (1 : Nat) (Option.none : Option Jvm.ClassFile.FieldType)).before args0 about1 = true := code_word (m := ⟨9, 3⟩) (meth := k9m3) (c := k9c3) (by decide +kernel) rfl rfl rfl (by decide +kernel)
def codes1 : List Jvm.Cond := [Jvm.Cond.code x code maxLocals ret, Jvm.Cond.code ({ cls := "java/lang/String", name := "<init>", desc := "([C)V" } : Jvm.MethodName) jdk_42_method_3_code (2 : Nat) (Option.none : Option Jvm.ClassFile.FieldType), Jvm.Cond.code ({ cls := "java/lang/String", name := "<init>", desc := "([CIILjava/lang/Void;)V" } : Jvm.MethodName) jdk_42_method_149_code (6 : Nat) (Option.none : Option Jvm.ClassFile.FieldType), Jvm.Cond.code ({ cls := "java/lang/Object", name := "<init>", desc := "()V" } : Jvm.MethodName) object_method_1_code (1 : Nat) (Option.none : Option Jvm.ClassFile.FieldType), Jvm.Cond.code ({ cls := "java/lang/StringUTF16", name := "compress", desc := "([CII)[B" } : Jvm.MethodName) jdk_52_method_16_code (6 : Nat) (Option.some (Jvm.ClassFile.FieldType.array Jvm.ClassFile.FieldType.byte)), Jvm.Cond.code ({ cls := "java/lang/StringUTF16", name := "compress", desc := "([CI[BII)I" } : Jvm.MethodName) jdk_52_method_21_code (7 : Nat) (Option.some Jvm.ClassFile.FieldType.int), Jvm.Cond.code ({ cls := "java/lang/StringUTF16", name := "coderFromArrayLen", desc := "([BI)B" } : Jvm.MethodName) jdk_52_method_15_code (2 : Nat) (Option.some Jvm.ClassFile.FieldType.byte), Jvm.Cond.code ({ cls := "com/example/valbonne/valbonne/exposition/TextFormat$Cursor", name := "<init>", desc := "(Ljava/lang/String;)V" } : Jvm.MethodName) prog_28_method_1_code (2 : Nat) (Option.none : Option Jvm.ClassFile.FieldType), Jvm.Cond.code ({ cls := "com/example/valbonne/valbonne/exposition/TextFormat$LabelNames", name := "<init>", desc := "(Lcom/example/valbonne/valbonne/exposition/TextFormat$Cursor;)V" } : Jvm.MethodName) prog_29_method_1_code (2 : Nat) (Option.none : Option Jvm.ClassFile.FieldType), Jvm.Cond.code ({ cls := "com/example/valbonne/valbonne/exposition/TextFormat$Cursor", name := "line", desc := "(II)Lcom/example/valbonne/valbonne/exposition/TextFormat$Cursor;" } : Jvm.MethodName) prog_28_method_2_code (3 : Nat) (Option.some (Jvm.ClassFile.FieldType.object "com/example/valbonne/valbonne/exposition/TextFormat$Cursor")), Jvm.Cond.code ({ cls := "com/example/valbonne/valbonne/exposition/TextFormat$Cursor", name := "atEnd", desc := "()Z" } : Jvm.MethodName) prog_28_method_6_code (1 : Nat) (Option.some Jvm.ClassFile.FieldType.boolean), Jvm.Cond.code ({ cls := "com/example/valbonne/valbonne/exposition/TextFormat$Cursor", name := "advance", desc := "()V" } : Jvm.MethodName) prog_28_method_9_code (1 : Nat) (Option.none : Option Jvm.ClassFile.FieldType)]
set_option maxRecDepth 65536 in
theorem codes_eq : words1.filter isCode = codes1 := rfl
theorem w_codes : ∀ c ∈ words1.filter isCode, c.before args0 about1 = true := by
  rw [codes_eq]
  intro c hc
  simp only [codes1, List.mem_cons, List.not_mem_nil, or_false] at hc
  rcases hc with rfl | rfl | rfl | rfl | rfl | rfl | rfl | rfl | rfl | rfl | rfl | rfl
  · exact w_c0
  · exact w_c1
  · exact w_c2
  · exact w_c3
  · exact w_c4
  · exact w_c5
  · exact w_c6
  · exact w_c7
  · exact w_c8
  · exact w_c9
  · exact w_c10
  · exact w_c11
set_option maxRecDepth 65536 in
theorem w_t1 : (words1.take 24).all (fun c => isCode c || c.before args0 about1) = true := by decide +kernel
set_option maxRecDepth 65536 in
theorem w_t2 : ((words1.drop 24).take 24).all (fun c => isCode c || c.before args0 about1) = true := by decide +kernel
set_option maxRecDepth 65536 in
theorem w_t3 : (((words1.drop 24).drop 24).take 24).all (fun c => isCode c || c.before args0 about1) = true := by decide +kernel
set_option maxRecDepth 65536 in
theorem w_t4 : (((words1.drop 24).drop 24).drop 24).all (fun c => isCode c || c.before args0 about1) = true := by decide +kernel
theorem w_tables : (allAtoms (Jvm.Cond.code x code maxLocals ret :: tables_1)).before args0 about1 = true := by
  rw [allAtoms_all]
  show words1.all (fun c => c.before args0 about1) = true
  refine all_split ?_ w_codes
  rw [← List.take_append_drop 24 words1, List.all_append, w_t1, ← List.take_append_drop 24 (words1.drop 24), List.all_append, w_t2, ← List.take_append_drop 24 ((words1.drop 24).drop 24), List.all_append, w_t3, w_t4]
  rfl
set_option maxRecDepth 65536 in
theorem w_rest : rest_1_c.before args0 about1 = true := by decide +kernel
set_option maxRecDepth 65536 in
theorem w_case : (Jvm.Cond.and given_1 narrow_1).before args0 about1 = true := by decide +kernel
theorem w_applies : (headSpec (Jvm.Cond.code x code maxLocals ret :: tables_1) room_1).applies x e0.platform about1 = true :=
  (Spec.applies_iff w_frames).mpr ⟨w_running, w_runnable, w_alone, w_named, w_hears, w_ripe, w_room, w_tables⟩
theorem atStart : AtStart classFile x code maxLocals ret World_1 tables_1 room_1 Calls_1 rest_1 Pre_1 launch0 p0 e0 about1 theMethod args0 below0 :=
  ⟨lists_1, trivial, launch0.admits_env _ _ _, launch0.least_env, fairChoices_fair.cas, fairChoices_fair.clock, w_frames, w_args, w_heap, w_applies, trivial, w_rest, w_case⟩
end start1
theorem witness_1 : WitnessClaimed_1 := ⟨start1.p0, start1.e0, start1.about1, start1.theMethod, start1.args0, start1.below0, start1.atStart⟩
end Jvm.Pilot.@@N@@
