import JvmDerived
import JvmDerived.Pilot.@@N@@Statement
import JvmDerived.Pilot.@@N@@Code
set_option linter.unusedVariables false
set_option linter.unusedSimpArgs false
/- laws to paste: Road.backV (cut by pick.py; bodies as the Statement names them) -/
namespace Jvm.Pilot.@@N@@
namespace StrChars
open Jvm Sem ClassFile Op Lib Jvm.Stand Jvm.Free.XT Jvm.Free.ALB Jvm.Free.JM Jvm.Free
open Jvm.Lib.Cold (StaticIs)
/-- a char array whose places are chars -/
def Ch (a : Addr) (A : Cell) (U : State) : Prop := Arr .char a A U ∧ Typed .char A
theorem Ch.mv {a : Addr} {A : Cell} {U U' : State} (h : Ch a A U) (hal : U.vm.Alike U'.vm) (hh : U'.heap = U.heap) : Ch a A U' := ⟨h.1.mv hal hh, h.2⟩
theorem Ch.keep {a : Addr} {A : Cell} {U U' : State} (h : Ch a A U) (hal : U.vm.Alike U'.vm) (hk : U'.heap[a]? = some A) : Ch a A U' := ⟨h.1.keep hal hk, h.2⟩
/-- what place i of a char[]'s cell holds -/
def cv (A : Cell) (i : Nat) : Int32 := match A.slots[i]? with | some (.int x) => x | _ => 0
theorem Ch.get {a : Addr} {A : Cell} {U : State} (h : Ch a A U) {i : Nat} (hi : i < A.slots.size) : A.slots[i]? = some (.int (cv A i)) := by
  have e := Array.getElem?_eq_getElem hi
  have f := h.2 i _ e
  unfold cv; rw [e]
  generalize A.slots[i] = v at f
  cases v <;> simp [fits] at f ⊢
/-- the byte that i2b leaves of a char -/
def lo8 (x : Int32) : Int32 := x.toInt8.toInt32
theorem fits_lo8 (y : Int32) : fits .byte (.int (lo8 y)) = true := by
  have h1 := y.toInt8.le_toInt
  have h2 := y.toInt8.toInt_lt
  simp only [lo8, fits, Bool.and_eq_true, decide_eq_true_eq, Int32.le_iff_toInt_le, Int8.toInt_toInt32, show (-128 : Int32).toInt = -128 from by decide, show (127 : Int32).toInt = 127 from by decide]
  omega
/-- A' is A but that each place j of lo .. hi - 1 holds f j -/
def Laid (A A' : Cell) (lo hi : Nat) (f : Nat → Value) : Prop := A'.cls = A.cls ∧ A'.vm = A.vm ∧ A'.slots.size = A.slots.size ∧ ∀ i, A'.slots[i]? = if lo ≤ i ∧ i < hi then some (f i) else A.slots[i]?
theorem Laid.zero (A : Cell) (lo : Nat) (f : Nat → Value) : Laid A A lo (lo + 0) f := ⟨rfl, rfl, rfl, fun i => by rw [if_neg (by omega)]⟩
theorem Laid.step {A Ak : Cell} {lo k : Nat} {f : Nat → Value} {v : Value} (h : Laid A Ak lo k f) (hlo : lo ≤ k) (hk : k < Ak.slots.size) (hv : v = f k) : Laid A (Ak.setSlot k v) lo (k + 1) f := by
  refine ⟨h.1, h.2.1, by simpa [Cell.setSlot] using h.2.2.1, fun i => ?_⟩
  by_cases e : k = i
  · subst e; rw [Cell.slots_setSlot_self v hk, if_pos (by omega), hv]
  · rw [Cell.slots_setSlot_ne v e, h.2.2.2 i]
    by_cases q : lo ≤ i ∧ i < k
    · rw [if_pos q, if_pos (by omega)]
    · rw [if_neg q, if_neg (by omega)]
def U16 : String := "java/lang/StringUTF16"
namespace Cmp5
def yN : MethodName := ⟨"java/lang/StringUTF16", "compress", "([CI[BII)I"⟩
abbrev yB : ByteArray := jdk_52_method_21_code
theorem d0 : decode yB 0 = .ok (.iconst 0, 1) := by decide +kernel
theorem d1 : decode yB 1 = .ok (.istore 5, 2) := by decide +kernel
theorem d3 : decode yB 3 = .ok (.iload 5, 2) := by decide +kernel
theorem d5 : decode yB 5 = .ok (.iload 4, 2) := by decide +kernel
theorem d7 : decode yB 7 = .ok (.if_icmp (.ge) 37, 3) := by decide +kernel
theorem d10 : decode yB 10 = .ok (.aload_n 0, 1) := by decide +kernel
theorem d11 : decode yB 11 = .ok (.iload_n 1, 1) := by decide +kernel
theorem d12 : decode yB 12 = .ok (.caload, 1) := by decide +kernel
theorem d13 : decode yB 13 = .ok (.istore 6, 2) := by decide +kernel
theorem d15 : decode yB 15 = .ok (.iload 6, 2) := by decide +kernel
theorem d17 : decode yB 17 = .ok (.sipush 255, 3) := by decide +kernel
theorem d20 : decode yB 20 = .ok (.if_icmp (.le) 6, 3) := by decide +kernel
theorem d26 : decode yB 26 = .ok (.aload_n 2, 1) := by decide +kernel
theorem d27 : decode yB 27 = .ok (.iload_n 3, 1) := by decide +kernel
theorem d28 : decode yB 28 = .ok (.iload 6, 2) := by decide +kernel
theorem d30 : decode yB 30 = .ok (.i2b, 1) := by decide +kernel
theorem d31 : decode yB 31 = .ok (.bastore, 1) := by decide +kernel
theorem d32 : decode yB 32 = .ok (.iinc 1 1, 3) := by decide +kernel
theorem d35 : decode yB 35 = .ok (.iinc 3 1, 3) := by decide +kernel
theorem d38 : decode yB 38 = .ok (.iinc 5 1, 3) := by decide +kernel
theorem d41 : decode yB 41 = .ok (.goto (-38), 3) := by decide +kernel
theorem d44 : decode yB 44 = .ok (.iload 4, 2) := by decide +kernel
theorem d46 : decode yB 46 = .ok (.ireturn, 1) := by decide +kernel
def site : List Cond := []
def tab : Cond := tabOf yN yB 7 (some .int) site
def P (b : Addr) (A : Cell) (d : Addr) (B : Cell) (o q len : Nat) (args : Array Value) (s : State) : Prop := args = #[.ref b, .int (Int32.ofNat o), .ref d, .int (Int32.ofNat q), .int (Int32.ofNat len)] ∧ Ch b A s ∧ Arr .byte d B s ∧ b ≠ d ∧ o + len ≤ A.slots.size ∧ q + len ≤ B.slots.size ∧ ∀ i, i < len → ¬ 255 < cv A (o + i)
def E (b : Addr) (A : Cell) (d : Addr) (B : Cell) (o q len : Nat) (r : Option Value) (s u : State) : Prop := r = some (.int (Int32.ofNat len)) ∧ ∃ B', Put d B' s u ∧ Laid B B' q (q + len) (fun j => Value.int (lo8 (cv A (o + (j - q)))))
/-- no char of the range above 255: len; the places written hold each char's low byte -/
theorem law (l : Launch) (b : Addr) (A : Cell) (d : Addr) (B : Cell) (o q len : Nat) : Law l yN 5 5 0 0 yB 7 (some .int) site (P b A d B o q len) (E b A d B o q len) (copyLocs d q len) 0 0 := by
  refine Law.of_walk (plainFor_of_name (by decide +kernel)) (by decide +kernel) (by decide +kernel) (by decide) (fun _ _ h => by rw [h.1]; rfl) (fun _ U U' hal hh h => ⟨h.1, h.2.1.mv hal hh, h.2.2.1.mv hal hh, h.2.2.2⟩) (fun r U U' V V' h1 hal h2 h => ⟨h.1, h.2.elim fun B' q => ⟨B', q.1.mv h1 h2, q.2⟩⟩) ?_
  intro p e s m args below meth c s₁ X0 hexec hbytes hml hret hlk hnm hown hh0 W hP
  obtain ⟨rfl, hA, hB, hne, l1, l2, hp⟩ := hP
  have c1 : Steps p.tables e below (s₁.setTop (entryFrame m #[.ref b, .int (Int32.ofNat o), .ref d, .int (Int32.ofNat q), .int (Int32.ofNat len)] 7)) (s₁.setTop (mkF m 0 #[.val (.ref b), .val (.int (Int32.ofNat o)), .val (.ref d), .val (.int (Int32.ofNat q)), .val (.int (Int32.ofNat len)), .unset, .unset] [])) := entry rfl
  have hA0 := hA.1.mv X0.warmed.alike hh0
  have hB0 := hB.mv X0.warmed.alike hh0
  have a31 := hA.1.2.2.2
  have c2 : Steps p.tables e below (s₁.setTop (entryFrame m #[.ref b, .int (Int32.ofNat o), .ref d, .int (Int32.ofNat q), .int (Int32.ofNat len)] 7)) (s₁.setTop (mkF m 3 #[.val (.ref b), .val (.int (Int32.ofNat o)), .val (.ref d), .val (.int (Int32.ofNat q)), .val (.int (Int32.ofNat len)), .val (.int 0), .unset] [])) := c1.trans (by
    refine iconstV X0.here hexec rfl 0 (hb hbytes d0) (by decide) ?_
    refine XS.istore X0.here hexec rfl (hb hbytes d1) rfl rfl ?_
    exact Steps.refl _)
  have loop : ∀ (r i : Nat), i + r = len → ∀ (z : Slot), (z = .unset ∨ ∃ w, z = .val w ∧ w.category = 1) → ∀ (Tl : State) (Bk : Cell), Stand p l e { frames := 0, locals := 0, cells := 0, slots := 0 } s m #[.ref b, .int (Int32.ofNat o), .ref d, .int (Int32.ofNat q), .int (Int32.ofNat len)] below meth c Tl ([] ++ copyLocs d q i) 0 0 → Put d Bk s₁ Tl → Laid B Bk q (q + i) (fun j => Value.int (lo8 (cv A (o + (j - q))))) →
      Steps p.tables e below (s₁.setTop (entryFrame m #[.ref b, .int (Int32.ofNat o), .ref d, .int (Int32.ofNat q), .int (Int32.ofNat len)] 7)) (Tl.setTop (mkF m 3 #[.val (.ref b), .val (.int (Int32.ofNat (o + i))), .val (.ref d), .val (.int (Int32.ofNat (q + i))), .val (.int (Int32.ofNat len)), .val (.int (Int32.ofNat i)), z] [])) → ∃ (T' : State) (B' : Cell) (z' : Slot), Stand p l e { frames := 0, locals := 0, cells := 0, slots := 0 } s m #[.ref b, .int (Int32.ofNat o), .ref d, .int (Int32.ofNat q), .int (Int32.ofNat len)] below meth c T' ([] ++ copyLocs d q len) 0 0 ∧ Put d B' s₁ T' ∧ Laid B B' q (q + len) (fun j => Value.int (lo8 (cv A (o + (j - q))))) ∧
      Steps p.tables e below (s₁.setTop (entryFrame m #[.ref b, .int (Int32.ofNat o), .ref d, .int (Int32.ofNat q), .int (Int32.ofNat len)] 7)) (T'.setTop (mkF m 3 #[.val (.ref b), .val (.int (Int32.ofNat (o + len))), .val (.ref d), .val (.int (Int32.ofNat (q + len))), .val (.int (Int32.ofNat len)), .val (.int (Int32.ofNat len)), z'] [])) := by
    intro r
    induction r with
    | zero =>
      intro i hi z hz Tl Bk Xl pl fl cl
      have hil : i = len := by omega
      rw [hil] at Xl fl cl
      exact ⟨Tl, Bk, z, Xl, pl, fl, cl⟩
    | succ r ih =>
      intro i hi z hz Tl Bk Xl pl fl cl
      have all := X0.warmed.alike.symm.trans Xl.warmed.alike
      have hAl := hA0.keep all (pl.other hne hA0.1)
      have hBk := hB0.like all pl.1 fl.1 fl.2.1 fl.2.2.1
      have hlt : q + i < Bk.slots.size := by rw [fl.2.2.1]; omega
      have c3 : Steps p.tables e below (s₁.setTop (entryFrame m #[.ref b, .int (Int32.ofNat o), .ref d, .int (Int32.ofNat q), .int (Int32.ofNat len)] 7)) (Tl.setTop (mkF m 12 #[.val (.ref b), .val (.int (Int32.ofNat (o + i))), .val (.ref d), .val (.int (Int32.ofNat (q + i))), .val (.int (Int32.ofNat len)), .val (.int (Int32.ofNat i)), z] [.int (Int32.ofNat (o + i)), .ref b])) := cl.trans (by
        refine XS.iload Xl.here hexec rfl (hb hbytes d3) rfl ?_
        refine XS.iload Xl.here hexec rfl (hb hbytes d5) rfl ?_
        refine XS.icmpNo Xl.here hexec rfl (hb hbytes d7) rfl (ii_ge_f (lt32 (by omega) (by omega))) ?_
        refine XS.aloadN Xl.here hexec rfl (hb hbytes d10) rfl rfl ?_
        refine XS.iloadN Xl.here hexec rfl (hb hbytes d11) rfl ?_
        exact Steps.refl _)
      have c4 : Steps p.tables e below (s₁.setTop (entryFrame m #[.ref b, .int (Int32.ofNat o), .ref d, .int (Int32.ofNat q), .int (Int32.ofNat len)] 7)) (Tl.setTop (mkF m 13 #[.val (.ref b), .val (.int (Int32.ofNat (o + i))), .val (.ref d), .val (.int (Int32.ofNat (q + i))), .val (.int (Int32.ofNat len)), .val (.int (Int32.ofNat i)), z] [.int (cv A (o + i))])) := c3.trans (by
        refine Xl.aget hexec hAl rfl (hA.get (i := o + i) (by omega)) rfl rfl (hb hbytes d12) ?_
        exact Steps.refl _)
      have c5 : Steps p.tables e below (s₁.setTop (entryFrame m #[.ref b, .int (Int32.ofNat o), .ref d, .int (Int32.ofNat q), .int (Int32.ofNat len)] 7)) (Tl.setTop (mkF m 15 #[.val (.ref b), .val (.int (Int32.ofNat (o + i))), .val (.ref d), .val (.int (Int32.ofNat (q + i))), .val (.int (Int32.ofNat len)), .val (.int (Int32.ofNat i)), .val (.int (cv A (o + i)))] [])) := c4.trans (by
        refine XS.istoreS Xl.here hexec rfl (hb hbytes d13) rfl rfl hz ?_
        exact Steps.refl _)
      have c6 : Steps p.tables e below (s₁.setTop (entryFrame m #[.ref b, .int (Int32.ofNat o), .ref d, .int (Int32.ofNat q), .int (Int32.ofNat len)] 7)) (Tl.setTop (mkF m 31 #[.val (.ref b), .val (.int (Int32.ofNat (o + i))), .val (.ref d), .val (.int (Int32.ofNat (q + i))), .val (.int (Int32.ofNat len)), .val (.int (Int32.ofNat i)), .val (.int (cv A (o + i)))] [.int (lo8 (cv A (o + i))), .int (Int32.ofNat (q + i)), .ref d])) := c5.trans (by
        refine XS.iload Xl.here hexec rfl (hb hbytes d15) rfl ?_
        refine sipushV Xl.here hexec rfl 255 (hb hbytes d17) (by decide) ?_
        refine XS.icmpYes Xl.here hexec rfl (pc0 := 20) rfl (hb hbytes d20) rfl (ii_le_t (hp i (by omega))) (by decide) rfl ?_
        refine XS.aloadN Xl.here hexec rfl (hb hbytes d26) rfl rfl ?_
        refine XS.iloadN Xl.here hexec rfl (hb hbytes d27) rfl ?_
        refine XS.iload Xl.here hexec rfl (hb hbytes d28) rfl ?_
        refine i2b Xl.here hexec rfl (hb hbytes d30) rfl ?_
        exact Steps.refl _)
      obtain ⟨T7, X7, p7, st7⟩ := Xl.aput hexec hBk rfl hlt rfl (fits_lo8 (cv A (o + i))) (g := (mkF m 31 #[.val (.ref b), .val (.int (Int32.ofNat (o + i))), .val (.ref d), .val (.int (Int32.ofNat (q + i))), .val (.int (Int32.ofNat len)), .val (.int (Int32.ofNat i)), .val (.int (cv A (o + i)))] [.int (lo8 (cv A (o + i))), .int (Int32.ofNat (q + i)), .ref d])) rfl (rest := []) rfl (hb hbytes d31)
      have c8 : Steps p.tables e below (s₁.setTop (entryFrame m #[.ref b, .int (Int32.ofNat o), .ref d, .int (Int32.ofNat q), .int (Int32.ofNat len)] 7)) (T7.setTop (mkF m 32 #[.val (.ref b), .val (.int (Int32.ofNat (o + i))), .val (.ref d), .val (.int (Int32.ofNat (q + i))), .val (.int (Int32.ofNat len)), .val (.int (Int32.ofNat i)), .val (.int (cv A (o + i)))] [])) := c6.trans (st7 _ (Steps.refl _))
      have c9 : Steps p.tables e below (s₁.setTop (entryFrame m #[.ref b, .int (Int32.ofNat o), .ref d, .int (Int32.ofNat q), .int (Int32.ofNat len)] 7)) (T7.setTop (mkF m 3 #[.val (.ref b), .val (.int (Int32.ofNat (o + i) + 1)), .val (.ref d), .val (.int (Int32.ofNat (q + i) + 1)), .val (.int (Int32.ofNat len)), .val (.int (Int32.ofNat i + 1)), .val (.int (cv A (o + i)))] [])) := c8.trans (by
        refine iincV X7.here hexec rfl 1 (hb hbytes d32) (by decide) rfl rfl ?_
        refine iincV X7.here hexec rfl 1 (hb hbytes d35) (by decide) rfl rfl ?_
        refine iincV X7.here hexec rfl 1 (hb hbytes d38) (by decide) rfl rfl ?_
        refine XS.goto X7.here hexec rfl (pc0 := 41) rfl (hb hbytes d41) (by decide) rfl ?_
        exact Steps.refl _)
      have c10 : Steps p.tables e below (s₁.setTop (entryFrame m #[.ref b, .int (Int32.ofNat o), .ref d, .int (Int32.ofNat q), .int (Int32.ofNat len)] 7)) (T7.setTop (mkF m 3 #[.val (.ref b), .val (.int (Int32.ofNat (o + (i + 1)))), .val (.ref d), .val (.int (Int32.ofNat (q + (i + 1)))), .val (.int (Int32.ofNat len)), .val (.int (Int32.ofNat (i + 1))), .val (.int (cv A (o + i)))] [])) := by
        have := c9
        rw [succ32, succ32, succ32] at this
        exact this
      exact ih (i + 1) (by omega) _ (Or.inr ⟨_, rfl, rfl⟩) T7 _ (by rw [copyLocs_step, ← List.append_assoc]; exact X7) (pl.trans p7) (fl.step (by omega) hlt (by simp)) c10
  obtain ⟨T9, B9, z9, X9, p9, f9, g9⟩ := loop len 0 (by omega) .unset (Or.inl rfl) s₁ B (by simpa [copyLocs] using X0) ⟨hB0.1, fun _ _ => rfl, rfl⟩ (Laid.zero _ _ _) c2
  have c11 : Steps p.tables e below (s₁.setTop (entryFrame m #[.ref b, .int (Int32.ofNat o), .ref d, .int (Int32.ofNat q), .int (Int32.ofNat len)] 7)) (T9.setTop (mkF m 46 #[.val (.ref b), .val (.int (Int32.ofNat (o + len))), .val (.ref d), .val (.int (Int32.ofNat (q + len))), .val (.int (Int32.ofNat len)), .val (.int (Int32.ofNat len)), z9] [.int (Int32.ofNat len)])) := g9.trans (by
    refine XS.iload X9.here hexec rfl (hb hbytes d3) rfl ?_
    refine XS.iload X9.here hexec rfl (hb hbytes d5) rfl ?_
    refine XS.icmpYes X9.here hexec rfl (pc0 := 7) rfl (hb hbytes d7) rfl (ii_ge_t (nlt32 (by omega) (Nat.le_refl _))) (by decide) rfl ?_
    refine XS.iload X9.here hexec rfl (hb hbytes d44) rfl ?_
    exact Steps.refl _)
  exact ⟨T9, some (.int (Int32.ofNat len)), _, _, _, X9, by simp, rfl, rfl, (fun h => by cases h), ⟨rfl, B9, p9.from hh0, f9⟩, fun fs hl => c11.trans (X9.ireturnOut hexec hret rfl (Or.inl rfl) (hb hbytes d46) hl)⟩
end Cmp5
namespace Cmp3
def yN : MethodName := ⟨"java/lang/StringUTF16", "compress", "([CII)[B"⟩
abbrev yB : ByteArray := jdk_52_method_16_code
theorem d0 : decode yB 0 = .ok (.iload_n 2, 1) := by decide +kernel
theorem d1 : decode yB 1 = .ok (.newarray .byte, 2) := by decide +kernel
theorem d3 : decode yB 3 = .ok (.astore_n 3, 1) := by decide +kernel
theorem d4 : decode yB 4 = .ok (.aload_n 0, 1) := by decide +kernel
theorem d5 : decode yB 5 = .ok (.iload_n 1, 1) := by decide +kernel
theorem d6 : decode yB 6 = .ok (.aload_n 3, 1) := by decide +kernel
theorem d7 : decode yB 7 = .ok (.iconst 0, 1) := by decide +kernel
theorem d8 : decode yB 8 = .ok (.iload_n 2, 1) := by decide +kernel
theorem d9 : decode yB 9 = .ok (.invokestatic 115, 3) := by decide +kernel
theorem d12 : decode yB 12 = .ok (.istore 4, 2) := by decide +kernel
theorem d14 : decode yB 14 = .ok (.iload 4, 2) := by decide +kernel
theorem d16 : decode yB 16 = .ok (.iload_n 2, 1) := by decide +kernel
theorem d17 : decode yB 17 = .ok (.if_icmp (.eq) 40, 3) := by decide +kernel
theorem d57 : decode yB 57 = .ok (.aload_n 3, 1) := by decide +kernel
theorem d58 : decode yB 58 = .ok (.areturn, 1) := by decide +kernel
def site : List Cond := [.arrayClass .byte, Cmp5.tab] ++ staticW U16 115 Cmp5.yN
def tab : Cond := tabOf yN yB 6 (some (.array .byte)) site
def P (b : Addr) (A : Cell) (o len : Nat) (args : Array Value) (s : State) : Prop := args = #[.ref b, .int (Int32.ofNat o), .int (Int32.ofNat len)] ∧ Ch b A s ∧ o + len ≤ A.slots.size ∧ len ≤ 536870912 ∧ ∀ i, i < len → ¬ 255 < cv A (o + i)
def E (b : Addr) (A : Cell) (o len : Nat) (r : Option Value) (s u : State) : Prop := NewArr .byte "[B" len (fun j => .int (lo8 (cv A (o + j)))) r s u ∧ u.heap.size = s.heap.size + 1
/-- no char of the range above 255: a new byte[] of their low bytes -/
theorem law (l : Launch) (b : Addr) (A : Cell) (o len : Nat) : Law l yN 3 3 1 18 yB 6 (some (.array .byte)) site (P b A o len) (E b A o len) [] 1 len := by
  refine Law.of_walk (plainFor_of_name (by decide +kernel)) (by decide +kernel) (by decide +kernel) (by decide) (fun _ _ h => by rw [h.1]; rfl) (fun _ U U' hal hh h => ⟨h.1, h.2.1.mv hal hh, h.2.2⟩) (fun r U U' V V' h1 hal h2 h => ⟨NewArr.mv r U U' V V' h1 hal h2 h.1, by rw [h1, h2]; exact h.2⟩) ?_
  intro p e s m args below meth c s₁ X0 hexec hbytes hml hret hlk hnm hown hh0 W hP
  obtain ⟨rfl, hA, l1, l2, hp⟩ := hP
  have a31 := hA.1.2.2.2
  have c1 : Steps p.tables e below (s₁.setTop (entryFrame m #[.ref b, .int (Int32.ofNat o), .int (Int32.ofNat len)] 6)) (s₁.setTop (mkF m 0 #[.val (.ref b), .val (.int (Int32.ofNat o)), .val (.int (Int32.ofNat len)), .unset, .unset, .unset] [])) := entry rfl
  have c2 : Steps p.tables e below (s₁.setTop (entryFrame m #[.ref b, .int (Int32.ofNat o), .int (Int32.ofNat len)] 6)) (s₁.setTop (mkF m 1 #[.val (.ref b), .val (.int (Int32.ofNat o)), .val (.int (Int32.ofNat len)), .unset, .unset, .unset] [.int (Int32.ofNat len)])) := c1.trans (by
    refine XS.iloadN X0.here hexec rfl (hb hbytes d0) rfl ?_
    exact Steps.refl _)
  obtain ⟨T3, B3, X3, ba3, bs3, bv3, bh3, bf3, st3⟩ := X0.anew hexec (atype := .byte) (wk W (.arrayClass .byte)) rfl (by show len * 1 ≤ _; omega) (by omega) (g := (mkF m 1 #[.val (.ref b), .val (.int (Int32.ofNat o)), .val (.int (Int32.ofNat len)), .unset, .unset, .unset] [.int (Int32.ofNat len)])) rfl (hb hbytes d1) (rest := []) rfl (Nat.le_refl _) (by show 0 + len ≤ len; omega)
  rw [hh0] at ba3 st3
  have kp3 : XT.Kept s T3 := (XT.Kept.of_eq hh0).push bh3
  have hA3 := hA.keep X3.warmed.alike (kp3 _ _ hA.1.1)
  have hne : b ≠ s.heap.size := hA.1.ne
  have c4 : Steps p.tables e below (s₁.setTop (entryFrame m #[.ref b, .int (Int32.ofNat o), .int (Int32.ofNat len)] 6)) (T3.setTop (mkF m 3 #[.val (.ref b), .val (.int (Int32.ofNat o)), .val (.int (Int32.ofNat len)), .unset, .unset, .unset] [.ref s.heap.size])) := c2.trans (st3 _ (Steps.refl _))
  have c5 : Steps p.tables e below (s₁.setTop (entryFrame m #[.ref b, .int (Int32.ofNat o), .int (Int32.ofNat len)] 6)) (T3.setTop (mkF m 9 #[.val (.ref b), .val (.int (Int32.ofNat o)), .val (.int (Int32.ofNat len)), .val (.ref s.heap.size), .unset, .unset] [.int (Int32.ofNat len), .int 0, .ref s.heap.size, .int (Int32.ofNat o), .ref b])) := c4.trans (by
    refine XS.astoreN X3.here hexec rfl (hb hbytes d3) rfl rfl rfl ?_
    refine XS.aloadN X3.here hexec rfl (hb hbytes d4) rfl rfl ?_
    refine XS.iloadN X3.here hexec rfl (hb hbytes d5) rfl ?_
    refine XS.aloadN X3.here hexec rfl (hb hbytes d6) rfl rfl ?_
    refine iconstV X3.here hexec rfl 0 (hb hbytes d7) (by decide) ?_
    refine XS.iloadN X3.here hexec rfl (hb hbytes d8) rfl ?_
    exact Steps.refl _)
  obtain ⟨v6, T6, X6, E6, g6⟩ := X3.callS hexec (Cmp5.law l b A s.heap.size B3 o 0 len) hown (wks W (staticW U16 115 Cmp5.yN)) (wk W Cmp5.tab) (W := 0) (Nat.le_of_ble_eq_true rfl) (Nat.le_of_ble_eq_true rfl) (Nat.le_refl _) (by show 0 + len + 0 ≤ len; omega) (g := (mkF m 9 #[.val (.ref b), .val (.int (Int32.ofNat o)), .val (.int (Int32.ofNat len)), .val (.ref s.heap.size), .unset, .unset] [.int (Int32.ofNat len), .int (Int32.ofNat 0), .ref s.heap.size, .int (Int32.ofNat o), .ref b])) rfl (by rw [hml]; rfl) c5 (argsL := [.ref b, .int (Int32.ofNat o), .ref s.heap.size, .int (Int32.ofNat 0), .int (Int32.ofNat len)]) (rest := []) rfl rfl (by show 2 * 0 + 0 ≤ _; decide) (hb hbytes d9) (⟨rfl, hA3, ba3, hne, l1, by rw [bs3]; simp, hp⟩)
  obtain ⟨rfl, B6, p6, f6⟩ := E6
  have c7 : Steps p.tables e below (s₁.setTop (entryFrame m #[.ref b, .int (Int32.ofNat o), .int (Int32.ofNat len)] 6)) (T6.setTop (mkF m 12 #[.val (.ref b), .val (.int (Int32.ofNat o)), .val (.int (Int32.ofNat len)), .val (.ref s.heap.size), .unset, .unset] [.int (Int32.ofNat len)])) := g6
  have c8 : Steps p.tables e below (s₁.setTop (entryFrame m #[.ref b, .int (Int32.ofNat o), .int (Int32.ofNat len)] 6)) (T6.setTop (mkF m 58 #[.val (.ref b), .val (.int (Int32.ofNat o)), .val (.int (Int32.ofNat len)), .val (.ref s.heap.size), .val (.int (Int32.ofNat len)), .unset] [.ref s.heap.size])) := c7.trans (by
    refine XS.istore X6.here hexec rfl (hb hbytes d12) rfl rfl ?_
    refine XS.iload X6.here hexec rfl (hb hbytes d14) rfl ?_
    refine XS.iloadN X6.here hexec rfl (hb hbytes d16) rfl ?_
    refine XS.icmpYes X6.here hexec rfl (pc0 := 17) rfl (hb hbytes d17) rfl (ii_eq_t rfl) (by decide) rfl ?_
    refine XS.aloadN X6.here hexec rfl (hb hbytes d57) rfl rfl ?_
    exact Steps.refl _)
  have X8 := X6.wide (L' := []) (cells' := 1) (slots' := len) (fun x hx hlt => by
    simp only [List.nil_append, copyLocs, List.mem_map, List.mem_range] at hx
    obtain ⟨i, -, rfl⟩ := hx
    exact absurd hlt (Nat.lt_irrefl _)) (Nat.le_refl _) (by omega)
  exact ⟨T6, some (.ref s.heap.size), _, _, _, X8, rfl, rfl, rfl, (fun h => by cases h), ⟨⟨rfl, B6, ba3.like (X3.warmed.alike.symm.trans X6.warmed.alike) p6.1 f6.1 f6.2.1 f6.2.2.1, f6.2.1.trans bv3, by rw [X6.warmed.alike.findClass, f6.1]; exact bf3, by rw [f6.2.2.1, bs3]; simp, fun j hj => by rw [f6.2.2.2 j, if_pos (by omega)]; rfl, kp3.put p6 (Nat.le_refl _)⟩, by rw [p6.2.2, bh3, hh0]; simp⟩, fun fs hl => c8.trans (X8.areturnOut hexec rfl hret rfl (hb hbytes d58) hl)⟩
end Cmp3
namespace CodL
def yN : MethodName := ⟨"java/lang/StringUTF16", "coderFromArrayLen", "([BI)B"⟩
abbrev yB : ByteArray := jdk_52_method_15_code
theorem d0 : decode yB 0 = .ok (.iload_n 1, 1) := by decide +kernel
theorem d1 : decode yB 1 = .ok (.aload_n 0, 1) := by decide +kernel
theorem d2 : decode yB 2 = .ok (.arraylength, 1) := by decide +kernel
theorem d3 : decode yB 3 = .ok (.isub, 1) := by decide +kernel
theorem d4 : decode yB 4 = .ok (.bipush 31, 2) := by decide +kernel
theorem d6 : decode yB 6 = .ok (.iushr, 1) := by decide +kernel
theorem d7 : decode yB 7 = .ok (.i2b, 1) := by decide +kernel
theorem d8 : decode yB 8 = .ok (.ireturn, 1) := by decide +kernel
def site : List Cond := []
def tab : Cond := tabOf yN yB 2 (some .byte) site
def P (d : Addr) (B : Cell) (args : Array Value) (s : State) : Prop := args = #[.ref d, .int (Int32.ofNat B.slots.size)] ∧ Arr .byte d B s
def E (r : Option Value) (s u : State) : Prop := XT.PureE (some (.int 0)) r s u
/-- an array as long as the number of chars: LATIN1 -/
theorem law (l : Launch) (d : Addr) (B : Cell) : Law l yN 2 2 0 0 yB 2 (some .byte) site (P d B) E [] 0 0 := by
  refine Law.of_walk (plainFor_of_name (by decide +kernel)) (by decide +kernel) (by decide +kernel) (by decide) (fun _ _ h => by rw [h.1]; rfl) (fun _ U U' hal hh h => ⟨h.1, h.2.mv hal hh⟩) (fun r U U' V V' h1 hal h2 h => XT.PureE.mv r U U' V V' h1 hal h2 h) ?_
  intro p e s m args below meth c s₁ X0 hexec hbytes hml hret hlk hnm hown hh0 W hP
  obtain ⟨rfl, hB⟩ := hP
  have hB0 := hB.mv X0.warmed.alike hh0
  have c1 : Steps p.tables e below (s₁.setTop (entryFrame m #[.ref d, .int (Int32.ofNat B.slots.size)] 2)) (s₁.setTop (mkF m 0 #[.val (.ref d), .val (.int (Int32.ofNat B.slots.size))] [])) := entry rfl
  have c2 : Steps p.tables e below (s₁.setTop (entryFrame m #[.ref d, .int (Int32.ofNat B.slots.size)] 2)) (s₁.setTop (mkF m 2 #[.val (.ref d), .val (.int (Int32.ofNat B.slots.size))] [.ref d, .int (Int32.ofNat B.slots.size)])) := c1.trans (by
    refine XS.iloadN X0.here hexec rfl (hb hbytes d0) rfl ?_
    refine XS.aloadN X0.here hexec rfl (hb hbytes d1) rfl rfl ?_
    exact Steps.refl _)
  have c3 : Steps p.tables e below (s₁.setTop (entryFrame m #[.ref d, .int (Int32.ofNat B.slots.size)] 2)) (s₁.setTop (mkF m 8 #[.val (.ref d), .val (.int (Int32.ofNat B.slots.size))] [.int (lo8 (ushr (Int32.ofNat B.slots.size - Int32.ofNat B.slots.size) 31))])) := c2.trans (by
    refine X0.alen hexec hB0 rfl rfl (hb hbytes d2) ?_
    refine XS.isub X0.here hexec rfl (hb hbytes d3) rfl ?_
    refine bipushV X0.here hexec rfl 31 (hb hbytes d4) (by decide) ?_
    refine iushr X0.here hexec rfl (hb hbytes d6) rfl ?_
    refine i2b X0.here hexec rfl (hb hbytes d7) rfl ?_
    exact Steps.refl _)
  have e0 : lo8 (ushr (Int32.ofNat B.slots.size - Int32.ofNat B.slots.size) 31) = 0 := by rw [Int32.sub_self]; decide
  rw [e0] at c3
  exact ⟨s₁, some (.int 0), _, _, _, X0, rfl, rfl, rfl, (fun h => by cases h), ⟨rfl, hh0⟩, fun fs hl => c3.trans (X0.ireturnOut hexec hret rfl (Or.inr (Or.inr (Or.inl rfl))) (hb hbytes d8) hl)⟩
end CodL
/-- the String at a is Latin-1 over a new byte[] (the heap's one new cell): the low bytes of the len chars of A from o on; every cell but a is kept -/
def Got (a : Addr) (D : Cell) (fV fC : Field) (A : Cell) (o len : Nat) (r : Option Value) (s u : State) : Prop := r = none ∧ ∃ D' V : Cell, Blank "java/lang/String" a D' u ∧ Same D D' [fV.slot, fC.slot] ∧ D'.slots[fV.slot]? = some (.ref s.heap.size) ∧ D'.slots[fC.slot]? = some (.int 0) ∧ Arr .byte s.heap.size V u ∧ V.vm = .none ∧ u.vm.findClass "[B" = some V.cls ∧ V.slots.size = len ∧ (∀ j, j < len → V.slots[j]? = some (.int (lo8 (cv A (o + j))))) ∧ (∀ (y : Addr) (c : Cell), y ≠ a → s.heap[y]? = some c → u.heap[y]? = some c) ∧ u.heap.size = s.heap.size + 1
theorem Got.mv {a : Addr} {D A : Cell} {fV fC : Field} {o len : Nat} : ∀ r (U U' V V' : State), U'.heap = U.heap → V.vm.Alike V'.vm → V'.heap = V.heap → Got a D fV fC A o len r U V → Got a D fV fC A o len r U' V' :=
  fun r U U' V V' h1 hal h2 ⟨e0, D', X, a1, a2, a3, a4, a5, a6, a7, a8, a9, a10, a11⟩ => ⟨e0, D', X, a1.mv hal h2, a2, by rw [h1]; exact a3, a4, by rw [h1]; exact a5.mv hal h2, a6, by rw [hal.findClass]; exact a7, a8, a9, by rw [h1, h2]; exact a10, by rw [h1, h2]; exact a11⟩
namespace New4
def yN : MethodName := ⟨"java/lang/String", "<init>", "([CIILjava/lang/Void;)V"⟩
abbrev yB : ByteArray := jdk_42_method_149_code
theorem d0 : decode yB 0 = .ok (.aload_n 0, 1) := by decide +kernel
theorem d1 : decode yB 1 = .ok (.invokespecial 1, 3) := by decide +kernel
theorem d4 : decode yB 4 = .ok (.iload_n 3, 1) := by decide +kernel
theorem d5 : decode yB 5 = .ok (.ifCond (.ne) 22, 3) := by decide +kernel
theorem d27 : decode yB 27 = .ok (.getstatic 38, 3) := by decide +kernel
theorem d30 : decode yB 30 = .ok (.ifCond (.eq) 28, 3) := by decide +kernel
theorem d33 : decode yB 33 = .ok (.aload_n 1, 1) := by decide +kernel
theorem d34 : decode yB 34 = .ok (.iload_n 2, 1) := by decide +kernel
theorem d35 : decode yB 35 = .ok (.iload_n 3, 1) := by decide +kernel
theorem d36 : decode yB 36 = .ok (.invokestatic 177, 3) := by decide +kernel
theorem d39 : decode yB 39 = .ok (.astore 5, 2) := by decide +kernel
theorem d41 : decode yB 41 = .ok (.aload_n 0, 1) := by decide +kernel
theorem d42 : decode yB 42 = .ok (.aload 5, 2) := by decide +kernel
theorem d44 : decode yB 44 = .ok (.iload_n 3, 1) := by decide +kernel
theorem d45 : decode yB 45 = .ok (.invokestatic 47, 3) := by decide +kernel
theorem d48 : decode yB 48 = .ok (.putfield 15, 3) := by decide +kernel
theorem d51 : decode yB 51 = .ok (.aload_n 0, 1) := by decide +kernel
theorem d52 : decode yB 52 = .ok (.aload 5, 2) := by decide +kernel
theorem d54 : decode yB 54 = .ok (.putfield 9, 3) := by decide +kernel
theorem d57 : decode yB 57 = .ok (.return_, 1) := by decide +kernel
def site : List Cond := [.fieldLink "java/lang/String" 38 "java/lang/String" "COMPACT_STRINGS" "Z", Cmp3.tab, CodL.tab, .laysFinal "java/lang/String" "java/lang/String" "value" "[B", .fieldLink "java/lang/String" 9 "java/lang/String" "value" "[B", .laysFinal "java/lang/String" "java/lang/String" "coder" "B", .fieldLink "java/lang/String" 15 "java/lang/String" "coder" "B"] ++ objW "java/lang/String" 1 ++ staticW "java/lang/String" 177 Cmp3.yN ++ staticW "java/lang/String" 47 CodL.yN
def tab : Cond := tabOf yN yB 6 none site
def P (a : Addr) (D : Cell) (fV fC : Field) (b : Addr) (A : Cell) (z : Int32) (o len : Nat) (args : Array Value) (s : State) : Prop := args = #[.ref a, .ref b, .int (Int32.ofNat o), .int (Int32.ofNat len), .null] ∧ Blank "java/lang/String" a D s ∧ Found "java/lang/String" "value" "[B" fV s ∧ Found "java/lang/String" "coder" "B" fC s ∧ Ch b A s ∧ StaticIs s "java/lang/String" "COMPACT_STRINGS" "Z" (.int z) ∧ ¬ z = 0 ∧ 0 < len ∧ o + len ≤ A.slots.size ∧ len ≤ 536870912 ∧ ∀ i, i < len → ¬ 255 < cv A (o + i)
def E (a : Addr) (D : Cell) (fV fC : Field) (A : Cell) (o len : Nat) (r : Option Value) (s u : State) : Prop := Got a D fV fC A o len r s u
/-- len > 0, no char of the range above 255: a Latin-1 String of their low bytes -/
theorem law (l : Launch) (a : Addr) (D : Cell) (fV fC : Field) (b : Addr) (A : Cell) (z : Int32) (o len : Nat) : Law l yN 5 4 2 35 yB 6 none site (P a D fV fC b A z o len) (E a D fV fC A o len) [⟨a, fC.slot⟩, ⟨a, fV.slot⟩] 1 len := by
  refine Law.of_walk (plainFor_of_name (by decide +kernel)) (by decide +kernel) (by decide +kernel) (by decide) (fun _ _ h => by rw [h.1]; rfl) (fun _ U U' hal hh h => ⟨h.1, h.2.1.mv hal hh, h.2.2.1.al hal, h.2.2.2.1.al hal, h.2.2.2.2.1.mv hal hh, h.2.2.2.2.2.1.there hal hh, h.2.2.2.2.2.2⟩) (fun r U U' V V' h1 hal h2 h => Got.mv r U U' V V' h1 hal h2 h) ?_
  intro p e s m args below meth c s₁ X0 hexec hbytes hml hret hlk hnm hown hh0 W hP
  obtain ⟨rfl, hB, f1, f2, hA, s1, hz, l0, l1, l2, hp⟩ := hP
  have a31 := hA.1.2.2.2
  have c1 : Steps p.tables e below (s₁.setTop (entryFrame m #[.ref a, .ref b, .int (Int32.ofNat o), .int (Int32.ofNat len), .null] 6)) (s₁.setTop (mkF m 0 #[.val (.ref a), .val (.ref b), .val (.int (Int32.ofNat o)), .val (.int (Int32.ofNat len)), .val .null, .unset] [])) := entry rfl
  have c2 : Steps p.tables e below (s₁.setTop (entryFrame m #[.ref a, .ref b, .int (Int32.ofNat o), .int (Int32.ofNat len), .null] 6)) (s₁.setTop (mkF m 1 #[.val (.ref a), .val (.ref b), .val (.int (Int32.ofNat o)), .val (.int (Int32.ofNat len)), .val .null, .unset] [.ref a])) := c1.trans (by
    refine XS.aloadN X0.here hexec rfl (hb hbytes d0) rfl rfl ?_
    exact Steps.refl _)
  obtain ⟨T3, X3, q3, st3⟩ := X0.oinit hexec hown (wks W (objW "java/lang/String" 1)) (g := (mkF m 1 #[.val (.ref a), .val (.ref b), .val (.int (Int32.ofNat o)), .val (.int (Int32.ofNat len)), .val .null, .unset] [.ref a])) rfl (by rw [hml]; rfl) (rest := []) rfl (hb hbytes d1) (W := 0) (by show 2 * 0 + 0 ≤ _; decide) (Nat.le_of_ble_eq_true rfl) (Nat.le_of_ble_eq_true rfl)
  have hh3 := q3.trans hh0
  have c4 : Steps p.tables e below (s₁.setTop (entryFrame m #[.ref a, .ref b, .int (Int32.ofNat o), .int (Int32.ofNat len), .null] 6)) (T3.setTop (mkF m 27 #[.val (.ref a), .val (.ref b), .val (.int (Int32.ofNat o)), .val (.int (Int32.ofNat len)), .val .null, .unset] [])) := (c2.trans (st3 _ (Steps.refl _))).trans (by
    refine XS.iloadN X3.here hexec rfl (hb hbytes d4) rfl ?_
    refine XS.ifYes X3.here hexec rfl (pc0 := 5) rfl (hb hbytes d5) rfl (i0_ne_t (nz32 (by omega) l0)) (by decide) rfl ?_
    exact Steps.refl _)
  obtain ⟨T5, X5, q5, st5⟩ := X3.sget hexec hown (wk W (.fieldLink "java/lang/String" 38 "java/lang/String" "COMPACT_STRINGS" "Z")) s1 (fun _ _ h => by rw [hh3]; exact h) (g := (mkF m 27 #[.val (.ref a), .val (.ref b), .val (.int (Int32.ofNat o)), .val (.int (Int32.ofNat len)), .val .null, .unset] [])) rfl (hb hbytes d27)
  have hh5 := q5.trans hh3
  have c6 : Steps p.tables e below (s₁.setTop (entryFrame m #[.ref a, .ref b, .int (Int32.ofNat o), .int (Int32.ofNat len), .null] 6)) (T5.setTop (mkF m 30 #[.val (.ref a), .val (.ref b), .val (.int (Int32.ofNat o)), .val (.int (Int32.ofNat len)), .val .null, .unset] [.int z])) := c4.trans (st5 _ (Steps.refl _))
  have c7 : Steps p.tables e below (s₁.setTop (entryFrame m #[.ref a, .ref b, .int (Int32.ofNat o), .int (Int32.ofNat len), .null] 6)) (T5.setTop (mkF m 36 #[.val (.ref a), .val (.ref b), .val (.int (Int32.ofNat o)), .val (.int (Int32.ofNat len)), .val .null, .unset] [.int (Int32.ofNat len), .int (Int32.ofNat o), .ref b])) := c6.trans (by
    refine XS.ifNo X5.here hexec rfl (hb hbytes d30) rfl (i0_eq_f hz) ?_
    refine XS.aloadN X5.here hexec rfl (hb hbytes d33) rfl rfl ?_
    refine XS.iloadN X5.here hexec rfl (hb hbytes d34) rfl ?_
    refine XS.iloadN X5.here hexec rfl (hb hbytes d35) rfl ?_
    exact Steps.refl _)
  obtain ⟨v8, T8, X8, E8, g8⟩ := X5.callS hexec (Cmp3.law l b A o len) hown (wks W (staticW "java/lang/String" 177 Cmp3.yN)) (wk W Cmp3.tab) (W := 0) (Nat.le_of_ble_eq_true rfl) (Nat.le_of_ble_eq_true rfl) (Nat.le_refl _) (by show 0 + len ≤ len; omega) (g := (mkF m 36 #[.val (.ref a), .val (.ref b), .val (.int (Int32.ofNat o)), .val (.int (Int32.ofNat len)), .val .null, .unset] [.int (Int32.ofNat len), .int (Int32.ofNat o), .ref b])) rfl (by rw [hml]; rfl) c7 (argsL := [.ref b, .int (Int32.ofNat o), .int (Int32.ofNat len)]) (rest := []) rfl rfl (by show 2 * 0 + 0 ≤ _; decide) (hb hbytes d36) (⟨rfl, hA.mv X5.warmed.alike hh5, l1, l2, hp⟩)
  obtain ⟨e8, z8⟩ := E8
  obtain ⟨rfl, N, n1, n2, n3, n4, n5, n6⟩ := NewArr.mv _ T5 s _ _ hh5.symm (Vm.Alike.refl _) rfl e8
  rw [hh5] at z8
  have hB1 := hB.keep X8.warmed.alike (n6 _ _ hB.1)
  have hne : s.heap.size ≠ a := (Nat.ne_of_lt (Array.getElem?_eq_some_iff.mp hB.1).1).symm
  have c9 : Steps p.tables e below (s₁.setTop (entryFrame m #[.ref a, .ref b, .int (Int32.ofNat o), .int (Int32.ofNat len), .null] 6)) (T8.setTop (mkF m 39 #[.val (.ref a), .val (.ref b), .val (.int (Int32.ofNat o)), .val (.int (Int32.ofNat len)), .val .null, .unset] [.ref s.heap.size])) := g8
  have c10 : Steps p.tables e below (s₁.setTop (entryFrame m #[.ref a, .ref b, .int (Int32.ofNat o), .int (Int32.ofNat len), .null] 6)) (T8.setTop (mkF m 45 #[.val (.ref a), .val (.ref b), .val (.int (Int32.ofNat o)), .val (.int (Int32.ofNat len)), .val .null, .val (.ref s.heap.size)] [.int (Int32.ofNat N.slots.size), .ref s.heap.size, .ref a])) := by
    have hc : Steps p.tables e below (s₁.setTop (entryFrame m #[.ref a, .ref b, .int (Int32.ofNat o), .int (Int32.ofNat len), .null] 6)) (T8.setTop (mkF m 45 #[.val (.ref a), .val (.ref b), .val (.int (Int32.ofNat o)), .val (.int (Int32.ofNat len)), .val .null, .val (.ref s.heap.size)] [.int (Int32.ofNat len), .ref s.heap.size, .ref a])) := c9.trans (by
      refine XS.astore X8.here hexec rfl (hb hbytes d39) rfl rfl rfl ?_
      refine XS.aloadN X8.here hexec rfl (hb hbytes d41) rfl rfl ?_
      refine XS.aload X8.here hexec rfl (hb hbytes d42) rfl rfl ?_
      refine XS.iloadN X8.here hexec rfl (hb hbytes d44) rfl ?_
      exact Steps.refl _)
    rw [n4]; exact hc
  obtain ⟨v11, T11, X11, E11, g11⟩ := X8.callS hexec (CodL.law l s.heap.size N) hown (wks W (staticW "java/lang/String" 47 CodL.yN)) (wk W CodL.tab) (W := 1) (Nat.le_of_ble_eq_true rfl) (Nat.le_of_ble_eq_true rfl) (Nat.le_refl _) (by show 0 + len + 0 ≤ len; omega) (g := (mkF m 45 #[.val (.ref a), .val (.ref b), .val (.int (Int32.ofNat o)), .val (.int (Int32.ofNat len)), .val .null, .val (.ref s.heap.size)] [.int (Int32.ofNat N.slots.size), .ref s.heap.size, .ref a])) rfl (by rw [hml]; rfl) c10 (argsL := [.ref s.heap.size, .int (Int32.ofNat N.slots.size)]) (rest := [.ref a]) rfl rfl (by show 2 * 0 + (1 + 0) ≤ _; decide) (hb hbytes d45) (⟨rfl, n1⟩)
  obtain ⟨rfl, q11⟩ := E11
  have hB11 := hB1.mv (X8.warmed.alike.symm.trans X11.warmed.alike) q11
  have c12 : Steps p.tables e below (s₁.setTop (entryFrame m #[.ref a, .ref b, .int (Int32.ofNat o), .int (Int32.ofNat len), .null] 6)) (T11.setTop (mkF m 48 #[.val (.ref a), .val (.ref b), .val (.int (Int32.ofNat o)), .val (.int (Int32.ofNat len)), .val .null, .val (.ref s.heap.size)] [.int 0, .ref a])) := g11
  obtain ⟨T13, X13, p13, bl13, sl13, st13⟩ := X11.finit hexec hown (wk W (.fieldLink "java/lang/String" 15 "java/lang/String" "coder" "B")) (Or.inr ⟨_, (wk W (.laysFinal "java/lang/String" "java/lang/String" "coder" "B"))⟩) (Or.inl ⟨rfl, hnm⟩) f2 (Or.inl rfl) hB11 (t := .byte) (by decide +kernel) rfl (g := (mkF m 48 #[.val (.ref a), .val (.ref b), .val (.int (Int32.ofNat o)), .val (.int (Int32.ofNat len)), .val .null, .val (.ref s.heap.size)] [.int 0, .ref a])) rfl (rest := []) rfl (hb hbytes d48)
  have c14 : Steps p.tables e below (s₁.setTop (entryFrame m #[.ref a, .ref b, .int (Int32.ofNat o), .int (Int32.ofNat len), .null] 6)) (T13.setTop (mkF m 54 #[.val (.ref a), .val (.ref b), .val (.int (Int32.ofNat o)), .val (.int (Int32.ofNat len)), .val .null, .val (.ref s.heap.size)] [.ref s.heap.size, .ref a])) := (c12.trans (st13 _ (Steps.refl _))).trans (by
    refine XS.aloadN X13.here hexec rfl (hb hbytes d51) rfl rfl ?_
    refine XS.aload X13.here hexec rfl (hb hbytes d52) rfl rfl ?_
    exact Steps.refl _)
  obtain ⟨T15, X15, p15, bl15, sl15, st15⟩ := X13.finit hexec hown (wk W (.fieldLink "java/lang/String" 9 "java/lang/String" "value" "[B")) (Or.inr ⟨_, (wk W (.laysFinal "java/lang/String" "java/lang/String" "value" "[B"))⟩) (Or.inl ⟨rfl, hnm⟩) f1 (Or.inl rfl) bl13 (t := (.array .byte)) (by decide +kernel) rfl (g := (mkF m 54 #[.val (.ref a), .val (.ref b), .val (.int (Int32.ofNat o)), .val (.int (Int32.ofNat len)), .val .null, .val (.ref s.heap.size)] [.ref s.heap.size, .ref a])) rfl (rest := []) rfl (hb hbytes d54)
  have c16 : Steps p.tables e below (s₁.setTop (entryFrame m #[.ref a, .ref b, .int (Int32.ofNat o), .int (Int32.ofNat len), .null] 6)) (T15.setTop (mkF m 57 #[.val (.ref a), .val (.ref b), .val (.int (Int32.ofNat o)), .val (.int (Int32.ofNat len)), .val .null, .val (.ref s.heap.size)] [])) := c14.trans (st15 _ (Steps.refl _))
  have ap := apart (Or.inr ⟨_, (wk W (.laysFinal "java/lang/String" "java/lang/String" "value" "[B"))⟩) (Or.inr ⟨_, (wk W (.laysFinal "java/lang/String" "java/lang/String" "coder" "B"))⟩) f1 f2 (t₁ := .array .byte) (t₂ := .byte) (by decide +kernel) (by decide +kernel) (by decide)
  have al := X8.warmed.alike.symm.trans X15.warmed.alike
  have n7 : T11.heap[s.heap.size]? = some N := by rw [q11]; exact n1.1
  exact ⟨T15, none, _, _, _, X15, by simp, rfl, by omega, (fun _ => rfl), ⟨rfl, _, N, bl15, ((Same.refl D _).set _ (by simp)).set _ (by simp), sl15, (Cell.slots_setSlot_ne _ ap).trans sl13, n1.keep al (p15.other hne (p13.other hne n7)), n2, by rw [al.findClass]; exact n3, n4, n5, fun y c h1 h2 => p15.other h1 (p13.other h1 (by rw [q11]; exact n6 y c h2)), by rw [p15.2.2, p13.2.2, q11]; exact z8⟩, fun fs hl => c16.trans (X15.returnOut hexec hret (hb hbytes d57) hl)⟩
end New4
namespace New1
def yN : MethodName := ⟨"java/lang/String", "<init>", "([C)V"⟩
abbrev yB : ByteArray := jdk_42_method_3_code
theorem d0 : decode yB 0 = .ok (.aload_n 0, 1) := by decide +kernel
theorem d1 : decode yB 1 = .ok (.aload_n 1, 1) := by decide +kernel
theorem d2 : decode yB 2 = .ok (.iconst 0, 1) := by decide +kernel
theorem d3 : decode yB 3 = .ok (.aload_n 1, 1) := by decide +kernel
theorem d4 : decode yB 4 = .ok (.arraylength, 1) := by decide +kernel
theorem d5 : decode yB 5 = .ok (.aconst_null, 1) := by decide +kernel
theorem d6 : decode yB 6 = .ok (.invokespecial 27, 3) := by decide +kernel
theorem d9 : decode yB 9 = .ok (.return_, 1) := by decide +kernel
def site : List Cond := [New4.tab] ++ initW "java/lang/String" 27 New4.yN
def tab : Cond := tabOf yN yB 2 none site
def P (a : Addr) (D : Cell) (fV fC : Field) (b : Addr) (A : Cell) (z : Int32) (args : Array Value) (s : State) : Prop := args = #[.ref a, .ref b] ∧ Blank "java/lang/String" a D s ∧ Found "java/lang/String" "value" "[B" fV s ∧ Found "java/lang/String" "coder" "B" fC s ∧ Ch b A s ∧ StaticIs s "java/lang/String" "COMPACT_STRINGS" "Z" (.int z) ∧ ¬ z = 0 ∧ 0 < A.slots.size ∧ A.slots.size ≤ 536870912 ∧ ∀ i, i < A.slots.size → ¬ 255 < cv A i
def E (a : Addr) (D : Cell) (fV fC : Field) (A : Cell) (r : Option Value) (s u : State) : Prop := Got a D fV fC A 0 A.slots.size r s u
/-- new String(chars), not empty, no char above 255: a Latin-1 String of their low bytes -/
theorem law (l : Launch) (a : Addr) (D : Cell) (fV fC : Field) (b : Addr) (A : Cell) (z : Int32) : Law l yN 2 1 3 52 yB 2 none site (P a D fV fC b A z) (E a D fV fC A) [⟨a, fC.slot⟩, ⟨a, fV.slot⟩] 1 A.slots.size := by
  refine Law.of_walk (plainFor_of_name (by decide +kernel)) (by decide +kernel) (by decide +kernel) (by decide) (fun _ _ h => by rw [h.1]; rfl) (fun _ U U' hal hh h => ⟨h.1, h.2.1.mv hal hh, h.2.2.1.al hal, h.2.2.2.1.al hal, h.2.2.2.2.1.mv hal hh, h.2.2.2.2.2.1.there hal hh, h.2.2.2.2.2.2⟩) (fun r U U' V V' h1 hal h2 h => Got.mv r U U' V V' h1 hal h2 h) ?_
  intro p e s m args below meth c s₁ X0 hexec hbytes hml hret hlk hnm hown hh0 W hP
  obtain ⟨rfl, hB, f1, f2, hA, s1, hz, l0, l2, hp⟩ := hP
  have c1 : Steps p.tables e below (s₁.setTop (entryFrame m #[.ref a, .ref b] 2)) (s₁.setTop (mkF m 0 #[.val (.ref a), .val (.ref b)] [])) := entry rfl
  have c2 : Steps p.tables e below (s₁.setTop (entryFrame m #[.ref a, .ref b] 2)) (s₁.setTop (mkF m 6 #[.val (.ref a), .val (.ref b)] [.null, .int (Int32.ofNat A.slots.size), .int 0, .ref b, .ref a])) := c1.trans (by
    refine XS.aloadN X0.here hexec rfl (hb hbytes d0) rfl rfl ?_
    refine XS.aloadN X0.here hexec rfl (hb hbytes d1) rfl rfl ?_
    refine iconstV X0.here hexec rfl 0 (hb hbytes d2) (by decide) ?_
    refine XS.aloadN X0.here hexec rfl (hb hbytes d3) rfl rfl ?_
    refine X0.alen hexec (hA.1.mv X0.warmed.alike hh0) rfl rfl (hb hbytes d4) ?_
    refine XS.aconstNull X0.here hexec rfl (hb hbytes d5) ?_
    exact Steps.refl _)
  obtain ⟨v3, T3, X3, E3, g3⟩ := X0.callN hexec (New4.law l a D fV fC b A z 0 A.slots.size) rfl hown (wks W (initW "java/lang/String" 27 New4.yN)) (W New4.tab (by simp only [site, List.mem_cons, List.mem_append, true_or, or_true])) (W := 0) (Nat.le_of_ble_eq_true rfl) (Nat.le_of_ble_eq_true rfl) (Nat.le_refl _) (by show 0 + A.slots.size ≤ A.slots.size; omega) (g := (mkF m 6 #[.val (.ref a), .val (.ref b)] [.null, .int (Int32.ofNat A.slots.size), .int (Int32.ofNat 0), .ref b, .ref a])) rfl (by rw [hml]; rfl) c2 (argsL := [.ref b, .int (Int32.ofNat 0), .int (Int32.ofNat A.slots.size), .null]) (rest := []) rfl rfl (by show 2 * 0 + 0 ≤ _; decide) (hb hbytes d6) (⟨rfl, hB.mv X0.warmed.alike hh0, f1.al X0.warmed.alike, f2.al X0.warmed.alike, hA.mv X0.warmed.alike hh0, s1.there X0.warmed.alike hh0, hz, l0, by omega, l2, fun i hi => by rw [Nat.zero_add]; exact hp i hi⟩)
  have e0 := Got.mv _ s₁ s _ _ hh0.symm (Vm.Alike.refl _) rfl E3
  obtain rfl := e0.1
  have c4 : Steps p.tables e below (s₁.setTop (entryFrame m #[.ref a, .ref b] 2)) (T3.setTop (mkF m 9 #[.val (.ref a), .val (.ref b)] [])) := g3
  exact ⟨T3, none, _, _, _, X3, by simp, rfl, by omega, (fun _ => rfl), e0, fun fs hl => c4.trans (X3.returnOut hexec hret (hb hbytes d9) hl)⟩
theorem pays {l : Launch} {R : Room} {p : Program} {e : Env} {below : List Frame} {s : State} {sargs : Array Value} {len W : Nat} (a : Addr) (D : Cell) (fV fC : Field) (b : Addr) (A : Cell) (z : Int32) (htab : tab.before sargs s = true) (hfr : 4 ≤ R.frames) (hlo : W + 65 ≤ R.locals) :
    Back l R p e below s sargs yN len W (fun A₁ a₁ => A₁.cells + 1 ≤ R.cells ∧ A₁.slots + A.slots.size ≤ R.slots ∧ P a D fV fC b A z a₁ A₁.U) (fun A₁ _ v₁ B₁ => E a D fV fC A v₁ A₁.U B₁.U ∧ B₁.locs = A₁.locs ++ [⟨a, fC.slot⟩, ⟨a, fV.slot⟩] ∧ B₁.cells = A₁.cells + 1 ∧ B₁.slots = A₁.slots + A.slots.size) :=
  (law l a D fV fC b A z).pays htab hfr (by omega)
end New1
end StrChars
namespace StrChars.Road
open Jvm Sem ClassFile Op Lib Jvm.Stand Jvm.Free Jvm.Free.XT
open Jvm.Lib.Cold (StaticIs)
abbrev ST : String := "java/lang/String"
/-- every table word that New1's law asks, flat -/
abbrev words : List Jvm.Cond := [.code New1.yN New1.yB 2 none, .initialized ST, .methodLink ST 27 New4.yN, .instanceMethod New4.yN,
  .code New4.yN New4.yB 6 none, .fieldLink ST 38 ST "COMPACT_STRINGS" "Z", .laysFinal ST ST "value" "[B", .fieldLink ST 9 ST "value" "[B", .laysFinal ST ST "coder" "B", .fieldLink ST 15 ST "coder" "B",
  .methodLink ST 1 Lib.objectInit, .instanceMethod Lib.objectInit, .code Lib.objectInit ⟨#[0xb1]⟩ 1 none, .methodLink ST 177 Cmp3.yN, .static Cmp3.yN, .methodLink ST 47 CodL.yN, .static CodL.yN,
  .code Cmp3.yN Cmp3.yB 6 (some (.array .byte)), .initialized U16, .arrayClass .byte, .methodLink U16 115 Cmp5.yN, .static Cmp5.yN, .code Cmp5.yN Cmp5.yB 7 (some .int), .code CodL.yN CodL.yB 2 (some .byte)]
theorem tab_of {a : Array Value} {s : State} (h : ∀ w ∈ words, w.before a s = true) : New1.tab.before a s = true := by
  have h5 : Cmp5.tab.before a s = true := unparts (wk h (.code Cmp5.yN Cmp5.yB 7 (some .int))) (wks h (.initialized Cmp5.yN.cls :: Cmp5.site))
  have hc : CodL.tab.before a s = true := unparts (wk h (.code CodL.yN CodL.yB 2 (some .byte))) (wks h (.initialized CodL.yN.cls :: CodL.site))
  have q5 : ∀ w ∈ Cmp5.tab :: words, w.before a s = true := fun w hw => (List.mem_cons.mp hw).elim (fun e => e ▸ h5) (h w)
  have h3 : Cmp3.tab.before a s = true := unparts (wk q5 (.code Cmp3.yN Cmp3.yB 6 (some (.array .byte)))) (wks q5 (.initialized Cmp3.yN.cls :: Cmp3.site))
  have q3 : ∀ w ∈ Cmp3.tab :: CodL.tab :: words, w.before a s = true := fun w hw => (List.mem_cons.mp hw).elim (fun e => e ▸ h3) fun hw => (List.mem_cons.mp hw).elim (fun e => e ▸ hc) (h w)
  have h4 : New4.tab.before a s = true := unparts (wk q3 (.code New4.yN New4.yB 6 none)) (wks q3 (.initialized New4.yN.cls :: New4.site))
  have q4 : ∀ w ∈ New4.tab :: words, w.before a s = true := fun w hw => (List.mem_cons.mp hw).elim (fun e => e ▸ h4) (h w)
  exact unparts (wk q4 (.code New1.yN New1.yB 2 none)) (wks q4 (.initialized New1.yN.cls :: New1.site))
/-- the words ride from the start Z to the walk's own state -/
theorem moved {Z s : State} {a0 args : Array Value} (hZ : Z.Warmed39 s.vm) (hw : ∀ d ∈ words, d.before a0 Z = true) : ∀ d ∈ words, d.before args s = true := fun d hd => by
  have q := hw d hd
  have t : ∀ d ∈ words, d = .arrayClass .byte ∨ (d.onTables && d.keepsFace) = true := by decide +kernel
  rcases t d hd with rfl | t
  · exact RoadKit.mvA hZ q
  · exact RoadKit.mv hZ q t
/-- WHAT COMES BACK, over the tables of the start Z: h the heap at the call, h' behind it -/
def Q (Z : State) (x : Addr) (A : Cell) (h : Heap) (v : Option Value) (h' : Heap) (L : List Loc) : Prop := v = none ∧ (∀ y ∈ L, y.base = x) ∧ RoadKit.Keep h h' [x] ∧ h'.size = h.size + 1 ∧ RoadKit.Exa Z h' x ST ∧ RoadKit.Fld Z h' x ST "value" "[B" (.ref h.size) ∧ RoadKit.Fld Z h' x ST "coder" "B" (.int 0) ∧
  (∃ V : Cell, RoadKit.Arr Z h' h.size V .byte ∧ V.vm = .none ∧ Z.vm.findClass "[B" = some V.cls ∧ V.slots.size = A.slots.size ∧ ∀ j, j < A.slots.size → V.slots[j]? = some (.int (lo8 (cv A j)))) ∧
  ∀ (O n d : String) (w : Value), RoadKit.Fld Z h x O n d w → RoadKit.slotOf Z O n d ≠ RoadKit.slotOf Z ST "value" "[B" → RoadKit.slotOf Z O n d ≠ RoadKit.slotOf Z ST "coder" "B" → RoadKit.Fld Z h' x O n d w
/-- **new String(chars) AT A CALL, IN THE ROAD'S FORM**: for specialBack behind newO: x the fresh String, b the char[] with the cell A -/
theorem back {p : Program} {l : Launch} {e : Env} {R : Room} {s : State} {args : Array Value} {below : List Frame} {len W : Nat} {Z : State} {a0 : Array Value} {h : Heap} (hZ : Z.Warmed39 s.vm) (hw : ∀ d ∈ words, d.before a0 Z = true) {kI : Nat} (wi : (Jvm.Cond.instantiable ST kI).before a0 Z = true)
    {x b : Addr} {A : Cell} {z : Int32} {v0 c0 : Value} (E : RoadKit.Exa Z h x ST) (V : RoadKit.Fld Z h x ST "value" "[B" v0) (C : RoadKit.Fld Z h x ST "coder" "B" c0) (K : RoadKit.Arr Z h b A .char) (hty : Typed .char A) (S : RoadKit.Sta Z h ST "COMPACT_STRINGS" "Z" (.int z)) (hz : ¬ z = 0)
    (l0 : 0 < A.slots.size) (l2 : A.slots.size ≤ 536870912) (hp : ∀ i, i < A.slots.size → ¬ 255 < cv A i) (hfr : 4 ≤ R.frames) (hlo : W + 65 ≤ R.locals) :
    Back l R p e below s args New1.yN len W (fun P a => a = #[.ref x, .ref b] ∧ P.U.heap = h ∧ P.cells + 1 ≤ R.cells ∧ P.slots + A.slots.size ≤ R.slots)
      (fun P _ v B => ∃ L, Q Z x A h v B.U.heap L ∧ B.locs = P.locs ++ L ∧ B.cells = P.cells + 1 ∧ B.slots = P.slots + A.slots.size) := by
  intro m meth c P g ig mk a X hg hsize hdg hW hn hp'
  obtain ⟨rfl, rfl, r1, r2⟩ := hp'
  have al : Z.vm.Alike P.U.vm := hZ.alike.trans X.warmed.alike
  obtain ⟨D, cfV, kV, iV, fV, hD, gV, stV, knV, obV, asV, slV⟩ := id V
  obtain ⟨D', cfC, kC, iC, fC, hD', gC, stC, -, -, asC, slC⟩ := id C
  cases hD.symm.trans hD'
  obtain ⟨D2, kD, e1, e2, e3, e4, e5⟩ := id E
  cases hD.symm.trans e1
  obtain ⟨c2, k2, i1, i2, i3, -⟩ := Cond.instantiable_spec wi
  cases e2.symm.trans i1
  cases e3.symm.trans i2
  obtain ⟨kU, u1, u2⟩ := al.2.2 _ _ e3
  have hB : Blank ST x D P.U := ⟨hD, ⟨knV, fun q hq => by rw [hq] at obV; cases obV⟩, by rw [al.findClass]; exact e2, kU, u1, by rw [u2]; exact i3, by rw [u2]; exact e5 i3⟩
  have F1 : Found ST "value" "[B" fV P.U := ⟨SBG.found_only al ⟨cfV, kV, iV, gV⟩, stV⟩
  have F2 : Found ST "coder" "B" fC P.U := ⟨SBG.found_only al ⟨cfC, kC, iC, gC⟩, stC⟩
  have hA : Ch b A P.U := ⟨⟨K.1, State.isArrayOf_alike al K.2.1, K.2.2, by omega⟩, hty⟩
  have hS : StaticIs P.U ST "COMPACT_STRINGS" "Z" (.int z) := by
    obtain ⟨cfS, iS, kS, fS, st, cS, t1, t2, t3, t4, t5, t6, t7⟩ := S
    exact StaticIs.there (s := { Z with heap := P.U.heap }) ⟨cfS, iS, kS, fS, st, cS, t1, t2, t3, t4, t5, (fun q => by rw [q] at t6; cases t6), t7⟩ al rfl
  obtain ⟨v, B, X', ⟨⟨hv, E', V', q1, q2, q3, q4, q5, q6, q7, q8, q9, q10, q11⟩, hl, hc, hs⟩, st⟩ := New1.pays x D fV fC b A z (tab_of (moved hZ hw)) hfr hlo m meth c P g ig mk _ X hg hsize hdg hW hn ⟨r1, r2, rfl, hB, F1, F2, hA, hS, hz, l0, l2, hp⟩
  have al' : Z.vm.Alike B.U.vm := hZ.alike.trans X'.warmed.alike
  have hsz : E'.slots.size = D.slots.size := by
    obtain ⟨-, -, -, kB, w1, w2, w3⟩ := q1
    obtain ⟨kB', y1, y2⟩ := al'.2.2 _ _ e3
    rw [q2.2.1] at w1
    cases w1.symm.trans y1
    rw [w3, e5 i3, y2]
  refine ⟨v, B, X', ⟨_, ⟨hv, ?_, ⟨by omega, fun y cy hy hn' => q10 y cy (by simpa using hn') hy, fun y cy hy => ?_⟩, q11, ⟨E', _, q1.1, by rw [q2.2.1]; exact e2, by rw [q2.2.1]; exact e3, by rw [q2.1]; exact obV, fun _ => by rw [hsz]; exact e5 i3⟩,
    ⟨E', cfV, kV, iV, fV, q1.1, gV, stV, by rw [q2.1]; exact knV, by rw [q2.1]; exact obV, by rw [q2.2.1]; exact asV, q3⟩, ⟨E', cfC, kC, iC, fC, q1.1, gC, stC, by rw [q2.1]; exact knV, by rw [q2.1]; exact obV, by rw [q2.2.1]; exact asC, q4⟩,
    ⟨V', ⟨q5.1, State.isArrayOf_alike al'.symm q5.2.1, q5.2.2.1⟩, q6, by rw [← al'.findClass]; exact q7, q8, fun j hj => by have := q9 j hj; rwa [Nat.zero_add] at this⟩, fun O n d w F n1 n2 => ?_⟩, hl, hc, hs⟩, st⟩
  · intro y hy
    simp only [List.mem_cons, List.not_mem_nil, or_false] at hy
    rcases hy with rfl | rfl <;> rfl
  · by_cases q : y = x
    · subst q
      cases hD.symm.trans hy
      exact ⟨E', q1.1, q2.2.1, q2.1, hsz⟩
    · exact ⟨cy, q10 y cy q hy, rfl, rfl, rfl⟩
  · obtain ⟨D3, cf, k, i, f, g1, g2, g3, g4, g5, g6, g7⟩ := F
    cases hD.symm.trans g1
    simp only [RoadKit.slotOf, g2, gV, gC, Option.map_some, Option.getD_some] at n1 n2
    exact ⟨E', cf, k, i, f, q1.1, g2, g3, by rw [q2.1]; exact g4, by rw [q2.1]; exact g5, by rw [q2.2.1]; exact g6, by rw [q2.2.2 f.slot (by simp [n1, n2])]; exact g7⟩
end StrChars.Road
namespace StrChars.Road
open Jvm Sem ClassFile Op Lib Jvm.Stand Jvm.Free Jvm.Free.XT
/-- WHAT COMES BACK, the byte[] as a list of values -/
def QA (Z : State) (x : Addr) (zn : Int32) (cs : List Int32) (h : Heap) (v : Option Value) (h' : Heap) (L : List Loc) : Prop := v = none ∧ (∀ y ∈ L, y.base = x) ∧ RoadKit.Keep h h' [x] ∧ h'.size = h.size + 1 ∧ RoadKit.Exa Z h' x ST ∧ RoadKit.Fld Z h' x ST "value" "[B" (.ref h.size) ∧ RoadKit.Fld Z h' x ST "coder" "B" (.int 0) ∧
  (∃ kb, Z.vm.findClass "[B" = some kb ∧ RoadKit.Arv Z h' h.size kb .byte zn (cs.map fun c => .int (lo8 c)) (.int 0)) ∧
  ∀ (O n d : String) (w : Value), RoadKit.Fld Z h x O n d w → RoadKit.slotOf Z O n d ≠ RoadKit.slotOf Z ST "value" "[B" → RoadKit.slotOf Z O n d ≠ RoadKit.slotOf Z ST "coder" "B" → RoadKit.Fld Z h' x O n d w
/-- **new String(chars) AT A CALL, THE ARRAYS AS LISTS**: the char[] at b holds cs, not empty, no char above 255 -/
theorem backArv {p : Program} {l : Launch} {e : Env} {R : Room} {s : State} {args : Array Value} {below : List Frame} {len W : Nat} {Z : State} {a0 : Array Value} {h : Heap} (hZ : Z.Warmed39 s.vm) (hw : ∀ d ∈ words, d.before a0 Z = true) {kI : Nat} (wi : (Jvm.Cond.instantiable ST kI).before a0 Z = true)
    {x b : Addr} {k : ClassId} {zn z : Int32} {cs : List Int32} {dv v0 c0 : Value} (E : RoadKit.Exa Z h x ST) (V : RoadKit.Fld Z h x ST "value" "[B" v0) (C : RoadKit.Fld Z h x ST "coder" "B" c0) (K : RoadKit.Arv Z h b k .char zn (cs.map Value.int) dv) (S : RoadKit.Sta Z h ST "COMPACT_STRINGS" "Z" (.int z)) (hz : ¬ z = 0)
    (hlen : zn.toNatClampNeg = cs.length) (h0 : 0 < cs.length) (hbig : cs.length ≤ 536870912) (hall : ∀ c ∈ cs, ¬ 255 < c) (hfr : 4 ≤ R.frames) (hlo : W + 65 ≤ R.locals) :
    Back l R p e below s args New1.yN len W (fun P a => a = #[.ref x, .ref b] ∧ P.U.heap = h ∧ P.cells + 1 ≤ R.cells ∧ P.slots + cs.length ≤ R.slots)
      (fun P _ v B => ∃ L, QA Z x zn cs h v B.U.heap L ∧ B.locs = P.locs ++ L ∧ B.cells = P.cells + 1 ∧ B.slots = P.slots + cs.length) := by
  obtain ⟨A, K1, K2, K3, K4, K5, K6⟩ := K
  have e : A.slots.size = cs.length := K3.trans hlen
  have hat : ∀ (i : Nat) (hi : i < cs.length), A.slots[i]? = some (.int cs[i]) := fun i hi => by rw [K5 i (by omega)]; simp [List.getD_eq_getElem?_getD, hi]
  have hcv : ∀ (i : Nat) (hi : i < cs.length), cv A i = cs[i] := fun i hi => by unfold cv; rw [hat i hi]
  have hty : Typed .char A := fun i v hv => by
    have hi : i < A.slots.size := (Array.getElem?_eq_some_iff.mp hv).1
    have q := K5 i hi
    rw [hv] at q
    rw [Option.some.inj q]
    exact K6 i hi
  refine Back.mono (back hZ hw wi E V C K1 hty S hz (by omega) (by omega) (fun i hi => by rw [hcv i (by omega)]; exact hall _ (List.getElem_mem _)) hfr hlo) (fun P a hp => ⟨hp.1, hp.2.1, hp.2.2.1, by rw [e]; exact hp.2.2.2⟩) (fun P a v B hp hq => ?_)
  obtain ⟨L, ⟨q1, q2, q3, q4, q5, q6, q7, ⟨V', v1, v2, v3, v4, v5⟩, q9⟩, hl, hc, hs⟩ := hq
  refine ⟨L, ⟨q1, q2, q3, q4, q5, q6, q7, ⟨V'.cls, v3, V', v1, rfl, by rw [v4, e, hlen], K4, fun i hi => ?_, fun i hi => ?_⟩, q9⟩, hl, hc, by rw [hs, e]⟩
  · have hi' : i < cs.length := by omega
    rw [v5 i (by omega), hcv i hi']; simp [List.getD_eq_getElem?_getD, hi']
  · have hi' : i < cs.length := by omega
    simp only [List.getD_eq_getElem?_getD, List.getElem?_map, List.getElem?_eq_getElem hi', Option.map_some, Option.getD_some]
    exact fits_lo8 _
end StrChars.Road
namespace StrChars.Road
open Jvm Sem ClassFile Op Lib Jvm.Stand Jvm.Free Jvm.Free.XT
/-- WHAT COMES BACK, in the writer's own shape -/
def QV (Z : State) (x : Addr) (N : Int32) (bs : List Int32) (h : Heap) (n0 : Nat) (v : Option Value) (h' : Heap) (L : List Loc) : Prop := v = none ∧ RoadKit.Fr n0 L ∧ RoadKit.Keep h h' [x] ∧ RoadKit.Exa Z h' x ST ∧ RoadKit.Fld Z h' x ST "coder" "B" (.int 0) ∧
  ∃ (t : Addr) (kb : ClassId), n0 ≤ t ∧ h.size ≤ t ∧ ¬ t = x ∧ RoadKit.Fld Z h' x ST "value" "[B" (.ref t) ∧ RoadKit.Arv Z h' t kb .byte N (bs.map Value.int) (.int 0)
/-- **new String(chars) AT A CALL, FOR THE WRITER**: a char[] of n known ints, each 0 to 255 -/
theorem backV {p : Program} {l : Launch} {e : Env} {R : Room} {s : State} {args : Array Value} {below : List Frame} {len W : Nat} {Z : State} {a0 : Array Value} {h : Heap} (hZ : Z.Warmed39 s.vm) (hw : ∀ d ∈ words, d.before a0 Z = true) {kI : Nat} (wi : (Jvm.Cond.instantiable ST kI).before a0 Z = true)
    {x b : Addr} {kC : ClassId} {cs bs : List Int32} {d v0 c0 : Value} {z N : Int32} {n n0 : Nat} (hx0 : n0 ≤ x) (hh0 : n0 ≤ h.size) (E : RoadKit.Exa Z h x ST) (V : RoadKit.Fld Z h x ST "value" "[B" v0) (C : RoadKit.Fld Z h x ST "coder" "B" c0) (K : RoadKit.Arv Z h b kC .char N (cs.map Value.int) d) (S : RoadKit.Sta Z h ST "COMPACT_STRINGS" "Z" (.int z)) (hz : ¬ z = 0)
    (hn : cs.length = n) (hN : N = Int32.ofNat n) (l0 : 0 < n) (l2 : n ≤ 4000) (hp : ∀ c ∈ cs, ¬ c < 0 ∧ ¬ (255 : Int32) < c) (hb : bs = cs.map (fun c => c.toInt8.toInt32)) (hfr : 4 ≤ R.frames) (hlo : W + 65 ≤ R.locals) :
    Back l R p e below s args (⟨"java/lang/String", "<init>", "([C)V"⟩ : MethodName) len W (fun P a => a = #[.ref x, .ref b] ∧ P.U.heap = h ∧ P.cells + 1 ≤ R.cells ∧ P.slots + n ≤ R.slots)
      (fun P _ v B => ∃ L, QV Z x N bs h n0 v B.U.heap L ∧ B.locs = P.locs ++ L ∧ B.cells = P.cells + 1 ∧ B.slots = P.slots + n) := by
  subst hn hN hb
  refine Back.mono (backArv hZ hw wi E V C K S hz (n32 (by omega)) l0 (by omega) (fun c hc => (hp c hc).2) hfr hlo) (fun P a hp => hp) (fun P a v B hp hq => ?_)
  obtain ⟨L, ⟨q1, q2, q3, q4, q5, q6, q7, ⟨kb, v1, v2⟩, q9⟩, hl, hc, hs⟩ := hq
  exact ⟨L, ⟨q1, fun y hy => by rw [q2 y hy]; exact hx0, q3, q5, q7, h.size, kb, hh0, Nat.le_refl _, Nat.ne_of_gt E.lt, q6, by rw [List.map_map]; exact v2⟩, hl, hc, hs⟩
end StrChars.Road
end Jvm.Pilot.@@N@@
namespace Jvm.Pilot.@@N@@
open Jvm Jvm.ClassFile Sem Op Lib Jvm.Free Jvm.Stand Jvm.LawKit Jvm.RoadKit Bundle Jvm.Pilot.@@N@@.Jvm.D
/-- the run from u comes to an end that P holds of -/
def Go (p : Program) (e : Env) (below : List Frame) (P : State → Outcome → Prop) (u : State) : Prop := ∃ t o, Steps p.tables e below u t ∧ t.status = .running ∧ Ended t below o ∧ P t o
section Own
variable {p : Program} {l : Launch} {e : Env} {R : Room} {s : State} {m : MethodId} {args : Array Value} {below : List Frame} {meth : Method} {c : Code} {T : State} {locs : List Loc} {cells slots : Nat} {Z : State} {a0 : Array Value} {h h' : Heap} {vm : Vm} {P : State → Outcome → Prop} {u w : State}
theorem Go.on (st : ∀ t, Steps p.tables e below w t → Steps p.tables e below u t) (k : Go p e below P w) : Go p e below P u := by
  obtain ⟨t, o, h, r⟩ := k; exact ⟨t, o, st t h, r⟩
theorem Go.fin {vm1 : Vm} {n : Nat} (X : Stand p l e R (s.setVm vm1) m args below meth c T locs cells slots) (hS : s.Since vm1 n) (hn : n ≤ T.heap.size) (hlk : meth.locks = false) {v : Option Value} (hv : meth.sig.returnType = none → v = none)
    (st : ∀ fs, (∀ (f : JFrame) (acts : List Action), f.method = m → f.locked = none → f.entered = [] → (doReturn e (T.setTop f) acts v).1 = T.setFrames fs) → Steps p.tables e below u (T.setFrames fs))
    (hP : ∀ fs, ReturnedEndW s (.returned v) (T.setFrames fs) locs cells slots → P (T.setFrames fs) (.returned v)) : Go p e below P u := by
  obtain ⟨fs, h1, h2, h3, h4⟩ := X.leaveW hS hn hv (hlocks := hlk)
  exact ⟨_, _, st fs h1, h2, h3, hP fs h4⟩
theorem Go.finH (X : Stand p l e R s m args below meth c T locs cells slots) (hlk : meth.locks = false) {v : Option Value} (hv : meth.sig.returnType = none → v = none)
    (st : ∀ fs, (∀ (f : JFrame) (acts : List Action), f.method = m → f.locked = none → f.entered = [] → (doReturn e (T.setTop f) acts v).1 = T.setFrames fs) → Steps p.tables e below u (T.setFrames fs))
    (hP : ∀ fs, FrameEnd s (.returned v) (T.setFrames fs) locs cells slots → P (T.setFrames fs) (.returned v)) : Go p e below P u := by
  obtain ⟨fs, h1, h2, h3, h4, h5⟩ := X.leave hv (hlocks := hlk)
  exact ⟨_, _, st fs h1, h2, h3, hP fs ⟨⟨v, rfl⟩, h4, h5⟩⟩
theorem endP {Q : Option Value → Heap → List Loc → Prop} {EL : List (String × Nat)} {v : Option Value} {k n : Nat} (q : Q v T.heap locs) (r : CHr Z EL s.vm s.heap T.vm T.heap) (hc : cells ≤ k) (hs : slots ≤ n) :
    ∀ fs, ReturnedEndW s (.returned v) (T.setFrames fs) locs cells slots → ∃ v' L, Outcome.returned v = .returned v' ∧ Q v' (T.setFrames fs).heap L ∧ CHr Z EL s.vm s.heap (T.setFrames fs).vm (T.setFrames fs).heap ∧ ReturnedEndW s (.returned v) (T.setFrames fs) L k n :=
  fun fs h => ⟨v, locs, rfl, q, r, h.1, h.2.1, h.2.2.1, h.2.2.2.mono hc hs⟩
theorem endH {Q : Option Value → Heap → List Loc → Prop} {v : Option Value} {k n : Nat} (q : Q v T.heap locs) (hc : cells ≤ k) (hs : slots ≤ n) :
    ∀ fs, FrameEnd s (.returned v) (T.setFrames fs) locs cells slots → ∃ v' L, Outcome.returned v = .returned v' ∧ Q v' (T.setFrames fs).heap L ∧ FrameEnd s (.returned v) (T.setFrames fs) L k n :=
  fun fs h => ⟨v, locs, rfl, q, h.1, h.2.1, h.2.2.mono hc hs⟩
/-- a String whose value is still null is no booked constant -/
theorem own_safeNull {EL : List (String × Nat)} {x : Addr} (hal : Z.vm.Alike vm) (E : Exa Z h x "java/lang/String") (F : Fld Z h x "java/lang/String" "value" "[B" .null) : Safe Z EL vm h x := fun B => by
  obtain ⟨cell, k, e1, e2, e3, -, -⟩ := E
  obtain ⟨p, -, u, a, -, q, -, G, rfl | rfl⟩ := B
  · obtain ⟨cell', cf, kf, i, f, f1, f2, -, -, -, -, f7⟩ := F
    obtain ⟨cS, ⟨⟨s1, -, -, ⟨c1, k1, i1, v1, -⟩, -, -, -, v2, -⟩, -⟩, -⟩ := G
    obtain ⟨k3, q3, -⟩ := State.fieldFound?_setVm (s := Z) (vm' := vm) hal f2
    have e4 := (show (Wst Z vm h).fieldFound? _ _ _ = _ from q3).symm.trans v1
    simp only [Option.some.injEq, Prod.mk.injEq] at e4
    cases (show h[q.sa]? = some q.sC from s1).symm.trans f1
    rw [← e4.2.2.2, f7] at v2
    cases v2
  · cases (show h[q.sd]? = some q.SA from G.hd).symm.trans e1
    obtain ⟨cS, -, -, f, -⟩ := G
    rw [show (Wst Z vm h).vm.findClass "[B" = Z.vm.findClass "[B" from hal.findClass _ _] at f
    obtain ⟨k1, q1, q2⟩ := Vm.findClass_spec f
    obtain ⟨k2, q3, q4⟩ := Vm.findClass_spec e2
    cases q1.symm.trans q3
    exact absurd (q2.symm.trans q4) (by decide)
end Own
theorem own_chr (x : Int32) : ∃ z : Int32, (x &&& (255 : Int32)).toUInt32.toUInt16.toUInt32.toInt32 = z ∧ ¬ z < 0 ∧ ¬ (255 : Int32) < z := by
  refine ⟨_, rfl, ?_⟩
  have t : ∀ k : Fin 256, ¬ ((Int32.ofNat k.val).toUInt32.toUInt16.toUInt32.toInt32) < 0 ∧ ¬ (255 : Int32) < ((Int32.ofNat k.val).toUInt32.toUInt16.toUInt32.toInt32) := by decide +kernel
  have h : (x &&& 255).toBitVec.toNat < 256 := by
    simp only [Int32.toBitVec_and, BitVec.toNat_and]
    exact Nat.lt_succ_of_le Nat.and_le_right
  have e : (x &&& 255) = Int32.ofNat (x &&& 255).toBitVec.toNat := by
    apply Int32.toBitVec_inj.mp
    show _ = BitVec.ofNat 32 _
    rw [BitVec.ofNat_toNat]; simp
  rw [e]
  exact t ⟨_, h⟩
theorem own_small {z : Int32} (h0 : ¬ z < 0) (h1 : ¬ (255 : Int32) < z) : ∃ k : Fin 256, z = Int32.ofNat k.val := by
  have a : z.toInt ≤ 255 := by rw [Int32.lt_iff_toInt_lt] at h1; have e1 : (255 : Int32).toInt = 255 := rfl; omega
  have b : 0 ≤ z.toInt := by rw [Int32.lt_iff_toInt_lt] at h0; have e1 : (0 : Int32).toInt = 0 := rfl; omega
  refine ⟨⟨z.toInt.toNat, by omega⟩, Int32.toInt_inj.mp ?_⟩
  show z.toInt = (Int32.ofNat z.toInt.toNat).toInt
  rw [Int32.toInt_ofNat_of_lt (by omega)]; omega
theorem own_nar {z : Int32} (h0 : ¬ z < 0) (h1 : ¬ (255 : Int32) < z) : nar .char z = z := by
  have t : ∀ k : Fin 256, nar .char (Int32.ofNat k.val) = Int32.ofNat k.val := by decide +kernel
  obtain ⟨k, rfl⟩ := own_small h0 h1
  exact t k
theorem own_and3 (x : Int32) : x &&& (3 : Int32) = 0 ∨ x &&& (3 : Int32) = 1 ∨ x &&& (3 : Int32) = 2 ∨ x &&& (3 : Int32) = 3 := by
  have t : ∀ k : Fin 4, Int32.ofNat k.val = 0 ∨ Int32.ofNat k.val = 1 ∨ Int32.ofNat k.val = 2 ∨ Int32.ofNat k.val = 3 := by decide +kernel
  have h : (x &&& 3).toBitVec.toNat < 4 := by
    simp only [Int32.toBitVec_and, BitVec.toNat_and]
    exact Nat.lt_succ_of_le Nat.and_le_right
  have e : (x &&& 3) = Int32.ofNat (x &&& 3).toBitVec.toNat := by
    apply Int32.toBitVec_inj.mp
    show _ = BitVec.ofNat 32 _
    rw [BitVec.ofNat_toNat]; simp
  rw [e]
  exact t ⟨_, h⟩
theorem own_up {cs : List Int32} (h : ∀ c ∈ cs, ¬ c < 0 ∧ ¬ (255 : Int32) < c) : ∀ c ∈ cs, ¬ c < 0 ∧ ¬ (65535 : Int32) < c := fun c hc => ⟨(h c hc).1, fun q => (h c hc).2 (by rw [Int32.lt_iff_toInt_lt] at q ⊢; have e1 : (65535 : Int32).toInt = 65535 := rfl; have e2 : (255 : Int32).toInt = 255 := rfl; omega)⟩
theorem own_nar8 (c : Int32) : nar .byte (c.toInt8.toInt32) = c.toInt8.toInt32 := by
  show ((c.toInt8.toInt32).toInt8).toInt32 = _
  rw [Int8.toInt8_toInt32]
/-- the chars of a String of n signs -/
def own_cs (n c0 c1 : Int32) : List Int32 := if n = 0 then [] else if n = 1 then [c0] else [c0, c1]
theorem own_cs0 (c0 c1 : Int32) : own_cs 0 c0 c1 = [] := rfl
theorem own_cs1 (c0 c1 : Int32) : own_cs 1 c0 c1 = [c0] := by simp [own_cs]
theorem own_cs2 (c0 c1 : Int32) : own_cs 2 c0 c1 = [c0, c1] := by simp [own_cs]
theorem own_all1 {a : Int32} (h : ¬ a < 0 ∧ ¬ (255 : Int32) < a) : ∀ c ∈ [a], ¬ c < 0 ∧ ¬ (255 : Int32) < c := fun c hc => by simp only [List.mem_cons, List.not_mem_nil, or_false] at hc; subst hc; exact h
theorem own_all2 {a b : Int32} (h : ¬ a < 0 ∧ ¬ (255 : Int32) < a) (h' : ¬ b < 0 ∧ ¬ (255 : Int32) < b) : ∀ c ∈ [a, b], ¬ c < 0 ∧ ¬ (255 : Int32) < c := fun c hc => by
  simp only [List.mem_cons, List.not_mem_nil, or_false] at hc
  rcases hc with rfl | rfl
  · exact h
  · exact h'
theorem own_len {n c0 c1 : Int32} {cs : List Int32} (e : cs = own_cs n c0 c1) : cs.length ≤ 4000 := by
  subst e; unfold own_cs; split
  · simp
  · split <;> simp
theorem own_eqv {v : Option Value} {A : Prop} (h : (v = some (.int 1) ∧ A) ∨ (v = some (.int 0) ∧ ¬ A)) : ∃ r : Int32, v = some (.int r) ∧ ((r = 1 ∧ A) ∨ (r = 0 ∧ ¬ A)) := by
  rcases h with ⟨h, a⟩ | ⟨h, a⟩
  · exact ⟨1, h, Or.inl ⟨rfl, a⟩⟩
  · exact ⟨0, h, Or.inr ⟨rfl, a⟩⟩
/-- two such Strings are alike just where the law says so -/
theorem own_csEq {n k c0 c1 d0 d1 : Int32} (hn : n = 0 ∨ n = 1 ∨ n = 2) (hk : k = 0 ∨ k = 1 ∨ k = 2) : own_cs n c0 c1 = own_cs k d0 d1 ↔ (n = k ∧ (n < 1 ∨ c0 = d0) ∧ (n < 2 ∨ c1 = d1)) := by
  rcases hn with rfl | rfl | rfl <;> rcases hk with rfl | rfl | rfl <;> simp [own_cs] <;> decide
theorem own_if01 {r : Int32} {A B : Prop} (h : (r = 1 ∧ A) ∨ (r = 0 ∧ ¬ A)) (e : A ↔ B) [Decidable B] : r = if B then 1 else 0 := by
  rcases h with ⟨rfl, a⟩ | ⟨rfl, a⟩
  · rw [if_pos (e.mp a)]
  · rw [if_neg (fun b => a (e.mpr b))]
theorem own_exaRef {args : Array Value} {s : State} {t : Term} {C : String} (h : (Jvm.Cond.exactly t C).value args s none s [] = some true) : ∃ a, t.eval args s none [] s = some (.ref a) := by
  obtain ⟨a, c, cell, k, h1, -⟩ := Cond.exactly_spec (Cond.before_iff.mpr h)
  exact ⟨a, h1⟩
theorem own_ord {args : Array Value} {s : State} {t : Term} {a : Addr} {C f d : String} {i : Int32} (ea : t.eval args s none [] s = some (.ref a)) (h1 : (Jvm.Cond.eq (.field t C f d) (.int i)).value args s none s [] = some true) : s.fieldOf? a C f d = some (.int i) := by
  have e1 : (Term.field t C f d).eval args s none [] s = s.fieldOf? a C f d := by simp [Term.eval, ea]
  simp only [Cond.value, e1, Term.int_eval] at h1
  cases hq : s.fieldOf? a C f d with
  | none => simp [hq] at h1
  | some v =>
    rw [hq] at h1
    cases v <;> simp at h1
    rw [h1]
def EL : List (String × Nat) := [("java/lang/String", 7)]
theorem w_0 {a0 : Array Value} {Z : State} (hw : ∀ d ∈ tables_1, d.before a0 Z = true) : (Jvm.Cond.arrayClass Jvm.ClassFile.FieldType.char).before a0 Z = true := hw _ (List.mem_of_getElem? (i := 0) rfl)
theorem w_1 {a0 : Array Value} {Z : State} (hw : ∀ d ∈ tables_1, d.before a0 Z = true) : (Jvm.Cond.classLink "com/example/hierarchy_grants/hierarchygrants/SubjectGroupPinLaw" (7 : Nat) "java/lang/String").before a0 Z = true := hw _ (List.mem_of_getElem? (i := 1) rfl)
theorem w_2 {a0 : Array Value} {Z : State} (hw : ∀ d ∈ tables_1, d.before a0 Z = true) : (Jvm.Cond.instantiable "java/lang/String" (4 : Nat)).before a0 Z = true := hw _ (List.mem_of_getElem? (i := 2) rfl)
theorem w_3 {a0 : Array Value} {Z : State} (hw : ∀ d ∈ tables_1, d.before a0 Z = true) : (Jvm.Cond.initialized "java/lang/String").before a0 Z = true := hw _ (List.mem_of_getElem? (i := 3) rfl)
theorem w_4 {a0 : Array Value} {Z : State} (hw : ∀ d ∈ tables_1, d.before a0 Z = true) : (Jvm.Cond.methodLink "com/example/hierarchy_grants/hierarchygrants/SubjectGroupPinLaw" (9 : Nat) ({ cls := "java/lang/String", name := "<init>", desc := "([C)V" } : Jvm.MethodName)).before a0 Z = true := hw _ (List.mem_of_getElem? (i := 4) rfl)
theorem w_5 {a0 : Array Value} {Z : State} (hw : ∀ d ∈ tables_1, d.before a0 Z = true) : (Jvm.Cond.instanceMethod ({ cls := "java/lang/String", name := "<init>", desc := "([C)V" } : Jvm.MethodName)).before a0 Z = true := hw _ (List.mem_of_getElem? (i := 5) rfl)
theorem w_6 {a0 : Array Value} {Z : State} (hw : ∀ d ∈ tables_1, d.before a0 Z = true) : (Jvm.Cond.code ({ cls := "java/lang/String", name := "<init>", desc := "([C)V" } : Jvm.MethodName) jdk_42_method_3_code (2 : Nat) (Option.none : Option Jvm.ClassFile.FieldType)).before a0 Z = true := hw _ (List.mem_of_getElem? (i := 6) rfl)
theorem w_7 {a0 : Array Value} {Z : State} (hw : ∀ d ∈ tables_1, d.before a0 Z = true) : (Jvm.Cond.methodLink "java/lang/String" (27 : Nat) ({ cls := "java/lang/String", name := "<init>", desc := "([CIILjava/lang/Void;)V" } : Jvm.MethodName)).before a0 Z = true := hw _ (List.mem_of_getElem? (i := 7) rfl)
theorem w_8 {a0 : Array Value} {Z : State} (hw : ∀ d ∈ tables_1, d.before a0 Z = true) : (Jvm.Cond.instanceMethod ({ cls := "java/lang/String", name := "<init>", desc := "([CIILjava/lang/Void;)V" } : Jvm.MethodName)).before a0 Z = true := hw _ (List.mem_of_getElem? (i := 8) rfl)
theorem w_10 {a0 : Array Value} {Z : State} (hw : ∀ d ∈ tables_1, d.before a0 Z = true) : (Jvm.Cond.code ({ cls := "java/lang/String", name := "<init>", desc := "([CIILjava/lang/Void;)V" } : Jvm.MethodName) jdk_42_method_149_code (6 : Nat) (Option.none : Option Jvm.ClassFile.FieldType)).before a0 Z = true := hw _ (List.mem_of_getElem? (i := 10) rfl)
theorem w_11 {a0 : Array Value} {Z : State} (hw : ∀ d ∈ tables_1, d.before a0 Z = true) : (Jvm.Cond.methodLink "java/lang/String" (1 : Nat) ({ cls := "java/lang/Object", name := "<init>", desc := "()V" } : Jvm.MethodName)).before a0 Z = true := hw _ (List.mem_of_getElem? (i := 11) rfl)
theorem w_12 {a0 : Array Value} {Z : State} (hw : ∀ d ∈ tables_1, d.before a0 Z = true) : (Jvm.Cond.instanceMethod ({ cls := "java/lang/Object", name := "<init>", desc := "()V" } : Jvm.MethodName)).before a0 Z = true := hw _ (List.mem_of_getElem? (i := 12) rfl)
theorem w_13 {a0 : Array Value} {Z : State} (hw : ∀ d ∈ tables_1, d.before a0 Z = true) : (Jvm.Cond.code ({ cls := "java/lang/Object", name := "<init>", desc := "()V" } : Jvm.MethodName) object_method_1_code (1 : Nat) (Option.none : Option Jvm.ClassFile.FieldType)).before a0 Z = true := hw _ (List.mem_of_getElem? (i := 13) rfl)
theorem w_14 {a0 : Array Value} {Z : State} (hw : ∀ d ∈ tables_1, d.before a0 Z = true) : (Jvm.Cond.stringLink "java/lang/String" (7 : Nat) "").before a0 Z = true := hw _ (List.mem_of_getElem? (i := 14) rfl)
theorem w_15 {a0 : Array Value} {Z : State} (hw : ∀ d ∈ tables_1, d.before a0 Z = true) : (Jvm.Cond.arrayClass Jvm.ClassFile.FieldType.byte).before a0 Z = true := hw _ (List.mem_of_getElem? (i := 15) rfl)
theorem w_16 {a0 : Array Value} {Z : State} (hw : ∀ d ∈ tables_1, d.before a0 Z = true) : (Jvm.Cond.laysFinal "java/lang/String" "java/lang/String" "value" "[B").before a0 Z = true := hw _ (List.mem_of_getElem? (i := 16) rfl)
theorem w_17 {a0 : Array Value} {Z : State} (hw : ∀ d ∈ tables_1, d.before a0 Z = true) : (Jvm.Cond.laysFinal "java/lang/String" "java/lang/String" "coder" "B").before a0 Z = true := hw _ (List.mem_of_getElem? (i := 17) rfl)
theorem w_20 {a0 : Array Value} {Z : State} (hw : ∀ d ∈ tables_1, d.before a0 Z = true) : (Jvm.Cond.fieldLink "java/lang/String" (9 : Nat) "java/lang/String" "value" "[B").before a0 Z = true := hw _ (List.mem_of_getElem? (i := 20) rfl)
theorem w_21 {a0 : Array Value} {Z : State} (hw : ∀ d ∈ tables_1, d.before a0 Z = true) : (Jvm.Cond.fieldLink "java/lang/String" (15 : Nat) "java/lang/String" "coder" "B").before a0 Z = true := hw _ (List.mem_of_getElem? (i := 21) rfl)
theorem w_22 {a0 : Array Value} {Z : State} (hw : ∀ d ∈ tables_1, d.before a0 Z = true) : (Jvm.Cond.methodLink "com/example/hierarchy_grants/hierarchygrants/SubjectGroupPinLaw" (12 : Nat) ({ cls := "com/example/hierarchy_grants/hierarchygrants/Subject", name := "group", desc := "(Ljava/lang/String;)Lcom/example/hierarchy_grants/hierarchygrants/Subject;" } : Jvm.MethodName)).before a0 Z = true := hw _ (List.mem_of_getElem? (i := 22) rfl)
theorem w_23 {a0 : Array Value} {Z : State} (hw : ∀ d ∈ tables_1, d.before a0 Z = true) : (Jvm.Cond.static ({ cls := "com/example/hierarchy_grants/hierarchygrants/Subject", name := "group", desc := "(Ljava/lang/String;)Lcom/example/hierarchy_grants/hierarchygrants/Subject;" } : Jvm.MethodName)).before a0 Z = true := hw _ (List.mem_of_getElem? (i := 23) rfl)
theorem w_24 {a0 : Array Value} {Z : State} (hw : ∀ d ∈ tables_1, d.before a0 Z = true) : (Jvm.Cond.initialized "com/example/hierarchy_grants/hierarchygrants/Subject").before a0 Z = true := hw _ (List.mem_of_getElem? (i := 24) rfl)
theorem w_25 {a0 : Array Value} {Z : State} (hw : ∀ d ∈ tables_1, d.before a0 Z = true) : (Jvm.Cond.code ({ cls := "com/example/hierarchy_grants/hierarchygrants/Subject", name := "group", desc := "(Ljava/lang/String;)Lcom/example/hierarchy_grants/hierarchygrants/Subject;" } : Jvm.MethodName) prog_22_method_3_code (1 : Nat) (Option.some (Jvm.ClassFile.FieldType.object "com/example/hierarchy_grants/hierarchygrants/Subject"))).before a0 Z = true := hw _ (List.mem_of_getElem? (i := 25) rfl)
theorem w_26 {a0 : Array Value} {Z : State} (hw : ∀ d ∈ tables_1, d.before a0 Z = true) : (Jvm.Cond.classLink "com/example/hierarchy_grants/hierarchygrants/Subject" (18 : Nat) "com/example/hierarchy_grants/hierarchygrants/Subject").before a0 Z = true := hw _ (List.mem_of_getElem? (i := 26) rfl)
theorem w_27 {a0 : Array Value} {Z : State} (hw : ∀ d ∈ tables_1, d.before a0 Z = true) : (Jvm.Cond.instantiable "com/example/hierarchy_grants/hierarchygrants/Subject" (2 : Nat)).before a0 Z = true := hw _ (List.mem_of_getElem? (i := 27) rfl)
theorem w_28 {a0 : Array Value} {Z : State} (hw : ∀ d ∈ tables_1, d.before a0 Z = true) : (Jvm.Cond.fieldLink "com/example/hierarchy_grants/hierarchygrants/Subject" (33 : Nat) "com/example/hierarchy_grants/hierarchygrants/Subject$Kind" "GROUP" "Lcom/example/hierarchy_grants/hierarchygrants/Subject$Kind;").before a0 Z = true := hw _ (List.mem_of_getElem? (i := 28) rfl)
theorem w_29 {a0 : Array Value} {Z : State} (hw : ∀ d ∈ tables_1, d.before a0 Z = true) : (Jvm.Cond.initialized "com/example/hierarchy_grants/hierarchygrants/Subject$Kind").before a0 Z = true := hw _ (List.mem_of_getElem? (i := 29) rfl)
theorem w_30 {a0 : Array Value} {Z : State} (hw : ∀ d ∈ tables_1, d.before a0 Z = true) : (Jvm.Cond.laysStatic "com/example/hierarchy_grants/hierarchygrants/Subject$Kind" "GROUP" "Lcom/example/hierarchy_grants/hierarchygrants/Subject$Kind;").before a0 Z = true := hw _ (List.mem_of_getElem? (i := 30) rfl)
theorem w_31 {a0 : Array Value} {Z : State} (hw : ∀ d ∈ tables_1, d.before a0 Z = true) : (Jvm.Cond.methodLink "com/example/hierarchy_grants/hierarchygrants/Subject" (30 : Nat) ({ cls := "com/example/hierarchy_grants/hierarchygrants/Subject", name := "<init>", desc := "(Lcom/example/hierarchy_grants/hierarchygrants/Subject$Kind;Ljava/lang/String;)V" } : Jvm.MethodName)).before a0 Z = true := hw _ (List.mem_of_getElem? (i := 31) rfl)
theorem w_32 {a0 : Array Value} {Z : State} (hw : ∀ d ∈ tables_1, d.before a0 Z = true) : (Jvm.Cond.instanceMethod ({ cls := "com/example/hierarchy_grants/hierarchygrants/Subject", name := "<init>", desc := "(Lcom/example/hierarchy_grants/hierarchygrants/Subject$Kind;Ljava/lang/String;)V" } : Jvm.MethodName)).before a0 Z = true := hw _ (List.mem_of_getElem? (i := 32) rfl)
theorem w_33 {a0 : Array Value} {Z : State} (hw : ∀ d ∈ tables_1, d.before a0 Z = true) : (Jvm.Cond.code ({ cls := "com/example/hierarchy_grants/hierarchygrants/Subject", name := "<init>", desc := "(Lcom/example/hierarchy_grants/hierarchygrants/Subject$Kind;Ljava/lang/String;)V" } : Jvm.MethodName) prog_22_method_1_code (3 : Nat) (Option.none : Option Jvm.ClassFile.FieldType)).before a0 Z = true := hw _ (List.mem_of_getElem? (i := 33) rfl)
theorem w_34 {a0 : Array Value} {Z : State} (hw : ∀ d ∈ tables_1, d.before a0 Z = true) : (Jvm.Cond.methodLink "com/example/hierarchy_grants/hierarchygrants/Subject" (1 : Nat) ({ cls := "java/lang/Record", name := "<init>", desc := "()V" } : Jvm.MethodName)).before a0 Z = true := hw _ (List.mem_of_getElem? (i := 34) rfl)
theorem w_35 {a0 : Array Value} {Z : State} (hw : ∀ d ∈ tables_1, d.before a0 Z = true) : (Jvm.Cond.instanceMethod ({ cls := "java/lang/Record", name := "<init>", desc := "()V" } : Jvm.MethodName)).before a0 Z = true := hw _ (List.mem_of_getElem? (i := 35) rfl)
theorem w_37 {a0 : Array Value} {Z : State} (hw : ∀ d ∈ tables_1, d.before a0 Z = true) : (Jvm.Cond.initialized "java/lang/Record").before a0 Z = true := hw _ (List.mem_of_getElem? (i := 37) rfl)
theorem w_38 {a0 : Array Value} {Z : State} (hw : ∀ d ∈ tables_1, d.before a0 Z = true) : (Jvm.Cond.code ({ cls := "java/lang/Record", name := "<init>", desc := "()V" } : Jvm.MethodName) jdk_30_method_1_code (1 : Nat) (Option.none : Option Jvm.ClassFile.FieldType)).before a0 Z = true := hw _ (List.mem_of_getElem? (i := 38) rfl)
theorem w_39 {a0 : Array Value} {Z : State} (hw : ∀ d ∈ tables_1, d.before a0 Z = true) : (Jvm.Cond.methodLink "java/lang/Record" (1 : Nat) ({ cls := "java/lang/Object", name := "<init>", desc := "()V" } : Jvm.MethodName)).before a0 Z = true := hw _ (List.mem_of_getElem? (i := 39) rfl)
theorem w_40 {a0 : Array Value} {Z : State} (hw : ∀ d ∈ tables_1, d.before a0 Z = true) : (Jvm.Cond.stringLink "com/example/hierarchy_grants/hierarchygrants/Subject" (7 : Nat) "kind").before a0 Z = true := hw _ (List.mem_of_getElem? (i := 40) rfl)
theorem w_41 {a0 : Array Value} {Z : State} (hw : ∀ d ∈ tables_1, d.before a0 Z = true) : (Jvm.Cond.methodLink "com/example/hierarchy_grants/hierarchygrants/Subject" (9 : Nat) ({ cls := "java/util/Objects", name := "requireNonNull", desc := "(Ljava/lang/Object;Ljava/lang/String;)Ljava/lang/Object;" } : Jvm.MethodName)).before a0 Z = true := hw _ (List.mem_of_getElem? (i := 41) rfl)
theorem w_42 {a0 : Array Value} {Z : State} (hw : ∀ d ∈ tables_1, d.before a0 Z = true) : (Jvm.Cond.static ({ cls := "java/util/Objects", name := "requireNonNull", desc := "(Ljava/lang/Object;Ljava/lang/String;)Ljava/lang/Object;" } : Jvm.MethodName)).before a0 Z = true := hw _ (List.mem_of_getElem? (i := 42) rfl)
theorem w_43 {a0 : Array Value} {Z : State} (hw : ∀ d ∈ tables_1, d.before a0 Z = true) : (Jvm.Cond.initialized "java/util/Objects").before a0 Z = true := hw _ (List.mem_of_getElem? (i := 43) rfl)
theorem w_44 {a0 : Array Value} {Z : State} (hw : ∀ d ∈ tables_1, d.before a0 Z = true) : (Jvm.Cond.code ({ cls := "java/util/Objects", name := "requireNonNull", desc := "(Ljava/lang/Object;Ljava/lang/String;)Ljava/lang/Object;" } : Jvm.MethodName) jdk_31_method_11_code (2 : Nat) (Option.some (Jvm.ClassFile.FieldType.object "java/lang/Object"))).before a0 Z = true := hw _ (List.mem_of_getElem? (i := 44) rfl)
theorem w_45 {a0 : Array Value} {Z : State} (hw : ∀ d ∈ tables_1, d.before a0 Z = true) : (Jvm.Cond.stringLink "com/example/hierarchy_grants/hierarchygrants/Subject" (15 : Nat) "id").before a0 Z = true := hw _ (List.mem_of_getElem? (i := 45) rfl)
theorem w_46 {a0 : Array Value} {Z : State} (hw : ∀ d ∈ tables_1, d.before a0 Z = true) : (Jvm.Cond.fieldLink "com/example/hierarchy_grants/hierarchygrants/Subject" (17 : Nat) "com/example/hierarchy_grants/hierarchygrants/Subject" "kind" "Lcom/example/hierarchy_grants/hierarchygrants/Subject$Kind;").before a0 Z = true := hw _ (List.mem_of_getElem? (i := 46) rfl)
theorem w_47 {a0 : Array Value} {Z : State} (hw : ∀ d ∈ tables_1, d.before a0 Z = true) : (Jvm.Cond.laysFinal "com/example/hierarchy_grants/hierarchygrants/Subject" "com/example/hierarchy_grants/hierarchygrants/Subject" "kind" "Lcom/example/hierarchy_grants/hierarchygrants/Subject$Kind;").before a0 Z = true := hw _ (List.mem_of_getElem? (i := 47) rfl)
theorem w_48 {a0 : Array Value} {Z : State} (hw : ∀ d ∈ tables_1, d.before a0 Z = true) : (Jvm.Cond.fieldLink "com/example/hierarchy_grants/hierarchygrants/Subject" (22 : Nat) "com/example/hierarchy_grants/hierarchygrants/Subject" "id" "Ljava/lang/String;").before a0 Z = true := hw _ (List.mem_of_getElem? (i := 48) rfl)
theorem w_49 {a0 : Array Value} {Z : State} (hw : ∀ d ∈ tables_1, d.before a0 Z = true) : (Jvm.Cond.laysFinal "com/example/hierarchy_grants/hierarchygrants/Subject" "com/example/hierarchy_grants/hierarchygrants/Subject" "id" "Ljava/lang/String;").before a0 Z = true := hw _ (List.mem_of_getElem? (i := 49) rfl)
theorem w_50 {a0 : Array Value} {Z : State} (hw : ∀ d ∈ tables_1, d.before a0 Z = true) : (Jvm.Cond.methodLink "com/example/hierarchy_grants/hierarchygrants/SubjectGroupPinLaw" (18 : Nat) ({ cls := "com/example/hierarchy_grants/hierarchygrants/Subject", name := "kind", desc := "()Lcom/example/hierarchy_grants/hierarchygrants/Subject$Kind;" } : Jvm.MethodName)).before a0 Z = true := hw _ (List.mem_of_getElem? (i := 50) rfl)
theorem w_51 {a0 : Array Value} {Z : State} (hw : ∀ d ∈ tables_1, d.before a0 Z = true) : (Jvm.Cond.declares ({ cls := "com/example/hierarchy_grants/hierarchygrants/Subject", name := "kind", desc := "()Lcom/example/hierarchy_grants/hierarchygrants/Subject$Kind;" } : Jvm.MethodName)).before a0 Z = true := hw _ (List.mem_of_getElem? (i := 51) rfl)
theorem w_52 {a0 : Array Value} {Z : State} (hw : ∀ d ∈ tables_1, d.before a0 Z = true) : (Jvm.Cond.instanceMethod ({ cls := "com/example/hierarchy_grants/hierarchygrants/Subject", name := "kind", desc := "()Lcom/example/hierarchy_grants/hierarchygrants/Subject$Kind;" } : Jvm.MethodName)).before a0 Z = true := hw _ (List.mem_of_getElem? (i := 52) rfl)
theorem w_53 {a0 : Array Value} {Z : State} (hw : ∀ d ∈ tables_1, d.before a0 Z = true) : (Jvm.Cond.selects "com/example/hierarchy_grants/hierarchygrants/Subject" ({ cls := "com/example/hierarchy_grants/hierarchygrants/Subject", name := "kind", desc := "()Lcom/example/hierarchy_grants/hierarchygrants/Subject$Kind;" } : Jvm.MethodName) ({ cls := "com/example/hierarchy_grants/hierarchygrants/Subject", name := "kind", desc := "()Lcom/example/hierarchy_grants/hierarchygrants/Subject$Kind;" } : Jvm.MethodName)).before a0 Z = true := hw _ (List.mem_of_getElem? (i := 53) rfl)
theorem w_54 {a0 : Array Value} {Z : State} (hw : ∀ d ∈ tables_1, d.before a0 Z = true) : (Jvm.Cond.code ({ cls := "com/example/hierarchy_grants/hierarchygrants/Subject", name := "kind", desc := "()Lcom/example/hierarchy_grants/hierarchygrants/Subject$Kind;" } : Jvm.MethodName) prog_22_method_7_code (1 : Nat) (Option.some (Jvm.ClassFile.FieldType.object "com/example/hierarchy_grants/hierarchygrants/Subject$Kind"))).before a0 Z = true := hw _ (List.mem_of_getElem? (i := 54) rfl)
theorem w_55 {a0 : Array Value} {Z : State} (hw : ∀ d ∈ tables_1, d.before a0 Z = true) : (Jvm.Cond.fieldLink "com/example/hierarchy_grants/hierarchygrants/SubjectGroupPinLaw" (22 : Nat) "com/example/hierarchy_grants/hierarchygrants/Subject$Kind" "GROUP" "Lcom/example/hierarchy_grants/hierarchygrants/Subject$Kind;").before a0 Z = true := hw _ (List.mem_of_getElem? (i := 55) rfl)
theorem w_56 {a0 : Array Value} {Z : State} (hw : ∀ d ∈ tables_1, d.before a0 Z = true) : (Jvm.Cond.methodLink "com/example/hierarchy_grants/hierarchygrants/SubjectGroupPinLaw" (28 : Nat) ({ cls := "com/example/hierarchy_grants/hierarchygrants/Subject", name := "id", desc := "()Ljava/lang/String;" } : Jvm.MethodName)).before a0 Z = true := hw _ (List.mem_of_getElem? (i := 56) rfl)
theorem w_57 {a0 : Array Value} {Z : State} (hw : ∀ d ∈ tables_1, d.before a0 Z = true) : (Jvm.Cond.declares ({ cls := "com/example/hierarchy_grants/hierarchygrants/Subject", name := "id", desc := "()Ljava/lang/String;" } : Jvm.MethodName)).before a0 Z = true := hw _ (List.mem_of_getElem? (i := 57) rfl)
theorem w_58 {a0 : Array Value} {Z : State} (hw : ∀ d ∈ tables_1, d.before a0 Z = true) : (Jvm.Cond.instanceMethod ({ cls := "com/example/hierarchy_grants/hierarchygrants/Subject", name := "id", desc := "()Ljava/lang/String;" } : Jvm.MethodName)).before a0 Z = true := hw _ (List.mem_of_getElem? (i := 58) rfl)
theorem w_59 {a0 : Array Value} {Z : State} (hw : ∀ d ∈ tables_1, d.before a0 Z = true) : (Jvm.Cond.selects "com/example/hierarchy_grants/hierarchygrants/Subject" ({ cls := "com/example/hierarchy_grants/hierarchygrants/Subject", name := "id", desc := "()Ljava/lang/String;" } : Jvm.MethodName) ({ cls := "com/example/hierarchy_grants/hierarchygrants/Subject", name := "id", desc := "()Ljava/lang/String;" } : Jvm.MethodName)).before a0 Z = true := hw _ (List.mem_of_getElem? (i := 59) rfl)
theorem w_60 {a0 : Array Value} {Z : State} (hw : ∀ d ∈ tables_1, d.before a0 Z = true) : (Jvm.Cond.code ({ cls := "com/example/hierarchy_grants/hierarchygrants/Subject", name := "id", desc := "()Ljava/lang/String;" } : Jvm.MethodName) prog_22_method_8_code (1 : Nat) (Option.some (Jvm.ClassFile.FieldType.object "java/lang/String"))).before a0 Z = true := hw _ (List.mem_of_getElem? (i := 60) rfl)
theorem w_61 {a0 : Array Value} {Z : State} (hw : ∀ d ∈ tables_1, d.before a0 Z = true) : (Jvm.Cond.methodLink "com/example/hierarchy_grants/hierarchygrants/SubjectGroupPinLaw" (32 : Nat) ({ cls := "java/lang/String", name := "equals", desc := "(Ljava/lang/Object;)Z" } : Jvm.MethodName)).before a0 Z = true := hw _ (List.mem_of_getElem? (i := 61) rfl)
theorem w_62 {a0 : Array Value} {Z : State} (hw : ∀ d ∈ tables_1, d.before a0 Z = true) : (Jvm.Cond.declares ({ cls := "java/lang/String", name := "equals", desc := "(Ljava/lang/Object;)Z" } : Jvm.MethodName)).before a0 Z = true := hw _ (List.mem_of_getElem? (i := 62) rfl)
theorem w_63 {a0 : Array Value} {Z : State} (hw : ∀ d ∈ tables_1, d.before a0 Z = true) : (Jvm.Cond.instanceMethod ({ cls := "java/lang/String", name := "equals", desc := "(Ljava/lang/Object;)Z" } : Jvm.MethodName)).before a0 Z = true := hw _ (List.mem_of_getElem? (i := 63) rfl)
theorem w_64 {a0 : Array Value} {Z : State} (hw : ∀ d ∈ tables_1, d.before a0 Z = true) : (Jvm.Cond.selects "java/lang/String" ({ cls := "java/lang/String", name := "equals", desc := "(Ljava/lang/Object;)Z" } : Jvm.MethodName) ({ cls := "java/lang/String", name := "equals", desc := "(Ljava/lang/Object;)Z" } : Jvm.MethodName)).before a0 Z = true := hw _ (List.mem_of_getElem? (i := 64) rfl)
theorem w_65 {a0 : Array Value} {Z : State} (hw : ∀ d ∈ tables_1, d.before a0 Z = true) : (Jvm.Cond.code ({ cls := "java/lang/String", name := "equals", desc := "(Ljava/lang/Object;)Z" } : Jvm.MethodName) jdk_42_method_66_code (3 : Nat) (Option.some Jvm.ClassFile.FieldType.boolean)).before a0 Z = true := hw _ (List.mem_of_getElem? (i := 65) rfl)
theorem w_66 {a0 : Array Value} {Z : State} (hw : ∀ d ∈ tables_1, d.before a0 Z = true) : (Jvm.Cond.methodLink "com/example/hierarchy_grants/hierarchygrants/SubjectGroupPinLaw" (36 : Nat) ({ cls := "com/example/hierarchy_grants/hierarchygrants/Subject", name := "user", desc := "(Ljava/lang/String;)Lcom/example/hierarchy_grants/hierarchygrants/Subject;" } : Jvm.MethodName)).before a0 Z = true := hw _ (List.mem_of_getElem? (i := 66) rfl)
theorem w_67 {a0 : Array Value} {Z : State} (hw : ∀ d ∈ tables_1, d.before a0 Z = true) : (Jvm.Cond.static ({ cls := "com/example/hierarchy_grants/hierarchygrants/Subject", name := "user", desc := "(Ljava/lang/String;)Lcom/example/hierarchy_grants/hierarchygrants/Subject;" } : Jvm.MethodName)).before a0 Z = true := hw _ (List.mem_of_getElem? (i := 67) rfl)
theorem w_68 {a0 : Array Value} {Z : State} (hw : ∀ d ∈ tables_1, d.before a0 Z = true) : (Jvm.Cond.code ({ cls := "com/example/hierarchy_grants/hierarchygrants/Subject", name := "user", desc := "(Ljava/lang/String;)Lcom/example/hierarchy_grants/hierarchygrants/Subject;" } : Jvm.MethodName) prog_22_method_2_code (1 : Nat) (Option.some (Jvm.ClassFile.FieldType.object "com/example/hierarchy_grants/hierarchygrants/Subject"))).before a0 Z = true := hw _ (List.mem_of_getElem? (i := 68) rfl)
theorem w_69 {a0 : Array Value} {Z : State} (hw : ∀ d ∈ tables_1, d.before a0 Z = true) : (Jvm.Cond.fieldLink "com/example/hierarchy_grants/hierarchygrants/Subject" (25 : Nat) "com/example/hierarchy_grants/hierarchygrants/Subject$Kind" "USER" "Lcom/example/hierarchy_grants/hierarchygrants/Subject$Kind;").before a0 Z = true := hw _ (List.mem_of_getElem? (i := 69) rfl)
theorem w_70 {a0 : Array Value} {Z : State} (hw : ∀ d ∈ tables_1, d.before a0 Z = true) : (Jvm.Cond.laysStatic "com/example/hierarchy_grants/hierarchygrants/Subject$Kind" "USER" "Lcom/example/hierarchy_grants/hierarchygrants/Subject$Kind;").before a0 Z = true := hw _ (List.mem_of_getElem? (i := 70) rfl)
theorem d0_0 : decode jdk_30_method_1_code 0 = .ok (.aload_n 0, 1) := by decide +kernel
theorem d0_1 : decode jdk_30_method_1_code 1 = .ok (.invokespecial 1, 3) := by decide +kernel
theorem d0_4 : decode jdk_30_method_1_code 4 = .ok (.return_, 1) := by decide +kernel
theorem d1_0 : decode jdk_31_method_11_code 0 = .ok (.aload_n 0, 1) := by decide +kernel
theorem d1_1 : decode jdk_31_method_11_code 1 = .ok (.ifnonnull 12, 3) := by decide +kernel
theorem d1_13 : decode jdk_31_method_11_code 13 = .ok (.aload_n 0, 1) := by decide +kernel
theorem d1_14 : decode jdk_31_method_11_code 14 = .ok (.areturn, 1) := by decide +kernel
theorem d2_0 : decode jdk_42_method_149_code 0 = .ok (.aload_n 0, 1) := by decide +kernel
theorem d2_1 : decode jdk_42_method_149_code 1 = .ok (.invokespecial 1, 3) := by decide +kernel
theorem d2_4 : decode jdk_42_method_149_code 4 = .ok (.iload_n 3, 1) := by decide +kernel
theorem d2_5 : decode jdk_42_method_149_code 5 = .ok (.ifCond .ne 22, 3) := by decide +kernel
theorem d2_8 : decode jdk_42_method_149_code 8 = .ok (.aload_n 0, 1) := by decide +kernel
theorem d2_9 : decode jdk_42_method_149_code 9 = .ok (.ldc 7, 2) := by decide +kernel
theorem d2_11 : decode jdk_42_method_149_code 11 = .ok (.getfield 9, 3) := by decide +kernel
theorem d2_14 : decode jdk_42_method_149_code 14 = .ok (.putfield 9, 3) := by decide +kernel
theorem d2_17 : decode jdk_42_method_149_code 17 = .ok (.aload_n 0, 1) := by decide +kernel
theorem d2_18 : decode jdk_42_method_149_code 18 = .ok (.ldc 7, 2) := by decide +kernel
theorem d2_20 : decode jdk_42_method_149_code 20 = .ok (.getfield 15, 3) := by decide +kernel
theorem d2_23 : decode jdk_42_method_149_code 23 = .ok (.putfield 15, 3) := by decide +kernel
theorem d2_26 : decode jdk_42_method_149_code 26 = .ok (.return_, 1) := by decide +kernel
theorem d3_0 : decode jdk_42_method_3_code 0 = .ok (.aload_n 0, 1) := by decide +kernel
theorem d3_1 : decode jdk_42_method_3_code 1 = .ok (.aload_n 1, 1) := by decide +kernel
theorem d3_2 : decode jdk_42_method_3_code 2 = .ok (.iconst 0, 1) := by decide +kernel
theorem d3_3 : decode jdk_42_method_3_code 3 = .ok (.aload_n 1, 1) := by decide +kernel
theorem d3_4 : decode jdk_42_method_3_code 4 = .ok (.arraylength, 1) := by decide +kernel
theorem d3_5 : decode jdk_42_method_3_code 5 = .ok (.aconst_null, 1) := by decide +kernel
theorem d3_6 : decode jdk_42_method_3_code 6 = .ok (.invokespecial 27, 3) := by decide +kernel
theorem d3_9 : decode jdk_42_method_3_code 9 = .ok (.return_, 1) := by decide +kernel
theorem d9_0 : decode jdk_42_method_66_code 0 = .ok (.aload_n 0, 1) := by decide +kernel
theorem d9_1 : decode jdk_42_method_66_code 1 = .ok (.aload_n 1, 1) := by decide +kernel
theorem d9_2 : decode jdk_42_method_66_code 2 = .ok (.if_acmp .ne 5, 3) := by decide +kernel
theorem d9_5 : decode jdk_42_method_66_code 5 = .ok (.iconst 1, 1) := by decide +kernel
theorem d9_6 : decode jdk_42_method_66_code 6 = .ok (.ireturn, 1) := by decide +kernel
theorem d4_0 : decode prog_22_method_1_code 0 = .ok (.aload_n 0, 1) := by decide +kernel
theorem d4_1 : decode prog_22_method_1_code 1 = .ok (.invokespecial 1, 3) := by decide +kernel
theorem d4_4 : decode prog_22_method_1_code 4 = .ok (.aload_n 1, 1) := by decide +kernel
theorem d4_5 : decode prog_22_method_1_code 5 = .ok (.ldc 7, 2) := by decide +kernel
theorem d4_7 : decode prog_22_method_1_code 7 = .ok (.invokestatic 9, 3) := by decide +kernel
theorem d4_10 : decode prog_22_method_1_code 10 = .ok (.pop, 1) := by decide +kernel
theorem d4_11 : decode prog_22_method_1_code 11 = .ok (.aload_n 2, 1) := by decide +kernel
theorem d4_12 : decode prog_22_method_1_code 12 = .ok (.ldc 15, 2) := by decide +kernel
theorem d4_14 : decode prog_22_method_1_code 14 = .ok (.invokestatic 9, 3) := by decide +kernel
theorem d4_17 : decode prog_22_method_1_code 17 = .ok (.pop, 1) := by decide +kernel
theorem d4_18 : decode prog_22_method_1_code 18 = .ok (.aload_n 0, 1) := by decide +kernel
theorem d4_19 : decode prog_22_method_1_code 19 = .ok (.aload_n 1, 1) := by decide +kernel
theorem d4_20 : decode prog_22_method_1_code 20 = .ok (.putfield 17, 3) := by decide +kernel
theorem d4_23 : decode prog_22_method_1_code 23 = .ok (.aload_n 0, 1) := by decide +kernel
theorem d4_24 : decode prog_22_method_1_code 24 = .ok (.aload_n 2, 1) := by decide +kernel
theorem d4_25 : decode prog_22_method_1_code 25 = .ok (.putfield 22, 3) := by decide +kernel
theorem d4_28 : decode prog_22_method_1_code 28 = .ok (.return_, 1) := by decide +kernel
theorem d6_0 : decode prog_22_method_2_code 0 = .ok (.new 18, 3) := by decide +kernel
theorem d6_3 : decode prog_22_method_2_code 3 = .ok (.dup, 1) := by decide +kernel
theorem d6_4 : decode prog_22_method_2_code 4 = .ok (.getstatic 25, 3) := by decide +kernel
theorem d6_7 : decode prog_22_method_2_code 7 = .ok (.aload_n 0, 1) := by decide +kernel
theorem d6_8 : decode prog_22_method_2_code 8 = .ok (.invokespecial 30, 3) := by decide +kernel
theorem d6_11 : decode prog_22_method_2_code 11 = .ok (.areturn, 1) := by decide +kernel
theorem d5_0 : decode prog_22_method_3_code 0 = .ok (.new 18, 3) := by decide +kernel
theorem d5_3 : decode prog_22_method_3_code 3 = .ok (.dup, 1) := by decide +kernel
theorem d5_4 : decode prog_22_method_3_code 4 = .ok (.getstatic 33, 3) := by decide +kernel
theorem d5_7 : decode prog_22_method_3_code 7 = .ok (.aload_n 0, 1) := by decide +kernel
theorem d5_8 : decode prog_22_method_3_code 8 = .ok (.invokespecial 30, 3) := by decide +kernel
theorem d5_11 : decode prog_22_method_3_code 11 = .ok (.areturn, 1) := by decide +kernel
theorem d7_0 : decode prog_22_method_7_code 0 = .ok (.aload_n 0, 1) := by decide +kernel
theorem d7_1 : decode prog_22_method_7_code 1 = .ok (.getfield 17, 3) := by decide +kernel
theorem d7_4 : decode prog_22_method_7_code 4 = .ok (.areturn, 1) := by decide +kernel
theorem d8_0 : decode prog_22_method_8_code 0 = .ok (.aload_n 0, 1) := by decide +kernel
theorem d8_1 : decode prog_22_method_8_code 1 = .ok (.getfield 22, 3) := by decide +kernel
theorem d8_4 : decode prog_22_method_8_code 4 = .ok (.areturn, 1) := by decide +kernel
theorem pd_0 : parseMethodDescriptor "([CIILjava/lang/Void;)V" = some ⟨[(.array .char), .int, .int, (.object "java/lang/Void")], none⟩ := by decide +kernel
theorem pd_1 : parseMethodDescriptor "()V" = some ⟨[], none⟩ := by decide +kernel
theorem pd_2 : parseMethodDescriptor "(Ljava/lang/Object;Ljava/lang/String;)Ljava/lang/Object;" = some ⟨[(.object "java/lang/Object"), (.object "java/lang/String")], some (.object "java/lang/Object")⟩ := by decide +kernel
theorem pd_3 : parseMethodDescriptor "(Lcom/example/hierarchy_grants/hierarchygrants/Subject$Kind;Ljava/lang/String;)V" = some ⟨[(.object "com/example/hierarchy_grants/hierarchygrants/Subject$Kind"), (.object "java/lang/String")], none⟩ := by decide +kernel
theorem pd_4 : parseMethodDescriptor "([C)V" = some ⟨[(.array .char)], none⟩ := by decide +kernel
theorem pd_5 : parseMethodDescriptor "(Ljava/lang/String;)Lcom/example/hierarchy_grants/hierarchygrants/Subject;" = some ⟨[(.object "java/lang/String")], some (.object "com/example/hierarchy_grants/hierarchygrants/Subject")⟩ := by decide +kernel
theorem pd_6 : parseMethodDescriptor "()Lcom/example/hierarchy_grants/hierarchygrants/Subject$Kind;" = some ⟨[], some (.object "com/example/hierarchy_grants/hierarchygrants/Subject$Kind")⟩ := by decide +kernel
theorem pd_7 : parseMethodDescriptor "()Ljava/lang/String;" = some ⟨[], some (.object "java/lang/String")⟩ := by decide +kernel
theorem pd_8 : parseMethodDescriptor "(Ljava/lang/Object;)Z" = some ⟨[(.object "java/lang/Object")], some .boolean⟩ := by decide +kernel
theorem sAt {a0 : Array Value} {Z : State} (hw : ∀ d ∈ tables_1, d.before a0 Z = true) : ∀ d ∈ Bundle.stringAtoms, d.before a0 Z = true := fun d hd => hw d ((by decide +kernel : ∀ d ∈ Bundle.stringAtoms, d ∈ tables_1) d hd)
theorem hStrW {a0 : Array Value} {Z : State} (hw : ∀ d ∈ tables_1, d.before a0 Z = true) : ∀ d ∈ StrChars.Road.words, d.before a0 Z = true := fun d hd => hw d ((by decide +kernel : ∀ d ∈ StrChars.Road.words, d ∈ tables_1) d hd)
def Q_rmRec (Z : State) (a1 : Addr) (h0 : Heap) (vv : Option Value) (h : Heap) (L : List Loc) : Prop := vv = none ∧ Fr Z.heap.size L ∧ h = h0
theorem ef_rmRec (m : MethodId) (x0 : Addr)   : entryFrame m #[(.ref x0)] 1 = mkF m 0 #[.val (.ref x0)] [] := by first | rfl | (simp [entryFrame, mkF, argsToLocals, Value.category]; done)
set_option maxRecDepth 65536 in
set_option maxHeartbeats 40000000 in
theorem rmRec (l : Launch) (Z : State) (a0 : Array Value) (hw : ∀ d ∈ tables_1, d.before a0 Z = true) (ws : List Jvm.Cond) (a1 : Addr) (h0 : Heap) :
    MetFree l (⟨"java/lang/Record", "<init>", "()V"⟩ : MethodName) (head1 (Jvm.Cond.code (⟨"java/lang/Record", "<init>", "()V"⟩ : MethodName) jdk_30_method_1_code 1 none :: ws) ({ frames := 1, cells := 0, slots := 0, locals := 12 } : Room)) (fun a U => a = #[(.ref a1)] ∧ Z.Warmed39 U.vm ∧ U.heap = h0) (fun _ _ _ _ _ => True) (fun _ U o U' => ∃ v L, o = .returned v ∧ Q_rmRec Z a1 h0 v U'.heap L ∧ FrameEnd U o U' L ({ frames := 1, cells := 0, slots := 0, locals := 12 } : Room).cells ({ frames := 1, cells := 0, slots := 0, locals := 12 } : Room).slots) := by
  refine MetFree.of_bodySF (plainFor_of_name (by first | (simp [plainName, overriddenIn]; done) | decide +kernel)) hisR ?_
  intro p e s m args below meth c s₁ Bd hml0 hP hK
  obtain ⟨rfl, hZ0', hh⟩ := hP
  have hx := Bd.exec
  have hby := Bd.bytes
  have hml : c.maxLocals = 1 := hml0
  have hZ0 : Z.Warmed39 s.vm := hZ0'
  have hown0 : s.vm.findClass "java/lang/Record" = some m.cls := findClass_of_methodNamed Bd.named
  have hnm := (name_of_methodNamed Bd.named Bd.method).1
  have hlk : meth.locks = false := Bd.notSynchronized
  have X0 : Stand p l e ({ frames := 1, cells := 0, slots := 0, locals := 12 } : Room) s m #[(.ref a1)] below meth c s₁ [] 0 0 := Stand.of_body Bd
  have e0 : s₁.heap = h0 := by rw [← hh, Bd.state]; rfl
  have N0 := Fr.nil Z.heap.size
  have KP0 : Keep h0 h0 ([] : List Addr) := Keep.refl _ _
  show Go p e below (fun t o => ∃ v L, o = .returned v ∧ Q_rmRec Z a1 h0 v t.heap L ∧ FrameEnd s o t L ({ frames := 1, cells := 0, slots := 0, locals := 12 } : Room).cells ({ frames := 1, cells := 0, slots := 0, locals := 12 } : Room).slots) (s₁.setTop (entryFrame m #[(.ref a1)] 1))
  refine Go.on (w := s₁.setTop (mkF m 0 #[rv a1] [])) (fun t k => castTop (ef_rmRec m a1) k) ?_
  obtain ⟨T1, X1, e1, st1⟩ := initO X0 hx hZ0 hown0 (w_39 hw) (w_12 hw) (w_13 hw) e0 (g := (mkF m 1 #[rv a1] [(.ref a1)])) rfl (by rw [hml]; rfl) rfl (hb hby d0_1) (by decide) (W := 0) (by show 2 * 0 + _ ≤ _; exact Nat.le_of_eq rfl) (by decide)
  refine Go.on (w := T1.setTop (mkF m 4 #[rv a1] [])) (fun t k => XS.aloadN X0.here hx rfl (hb hby d0_0) rfl rfl (st1 _ k)) ?_
  refine Go.finH X1 hlk (v := none) (fun _ => rfl) (fun fs hr => ?_) (endH (Q := Q_rmRec Z a1 h0) (by rw [e1]; exact ⟨rfl, N0, rfl⟩) (by decide) (by decide))
  exact X1.returnOut hx Bd.returns (hb hby d0_4) hr
def Q_rmRnn (Z : State) (a1 : Addr) (a2 : Addr) (h0 : Heap) (vv : Option Value) (h : Heap) (L : List Loc) : Prop := vv = some (.ref a1) ∧ Fr Z.heap.size L ∧ h = h0
theorem ef_rmRnn (m : MethodId) (x0 : Addr) (x1 : Addr)   : entryFrame m #[(.ref x0), (.ref x1)] 2 = mkF m 0 #[.val (.ref x0), .val (.ref x1)] [] := by first | rfl | (simp [entryFrame, mkF, argsToLocals, Value.category]; done)
set_option maxRecDepth 65536 in
set_option maxHeartbeats 40000000 in
theorem rmRnn (l : Launch) (Z : State) (a0 : Array Value) (hw : ∀ d ∈ tables_1, d.before a0 Z = true) (ws : List Jvm.Cond) (a1 : Addr) (a2 : Addr) (h0 : Heap) :
    MetFree l (⟨"java/util/Objects", "requireNonNull", "(Ljava/lang/Object;Ljava/lang/String;)Ljava/lang/Object;"⟩ : MethodName) (head1 (Jvm.Cond.code (⟨"java/util/Objects", "requireNonNull", "(Ljava/lang/Object;Ljava/lang/String;)Ljava/lang/Object;"⟩ : MethodName) jdk_31_method_11_code 2 (some (.object "java/lang/Object")) :: ws) ({ frames := 0, cells := 0, slots := 0, locals := 0 } : Room)) (fun a U => a = #[(.ref a1), (.ref a2)] ∧ Z.Warmed39 U.vm ∧ U.heap = h0) (fun _ _ _ _ _ => True) (fun _ U o U' => ∃ v L, o = .returned v ∧ Q_rmRnn Z a1 a2 h0 v U'.heap L ∧ FrameEnd U o U' L ({ frames := 0, cells := 0, slots := 0, locals := 0 } : Room).cells ({ frames := 0, cells := 0, slots := 0, locals := 0 } : Room).slots) := by
  refine MetFree.of_bodySF (plainFor_of_name (by first | (simp [plainName, overriddenIn]; done) | decide +kernel)) hisR ?_
  intro p e s m args below meth c s₁ Bd hml0 hP hK
  obtain ⟨rfl, hZ0', hh⟩ := hP
  have hx := Bd.exec
  have hby := Bd.bytes
  have hml : c.maxLocals = 2 := hml0
  have hZ0 : Z.Warmed39 s.vm := hZ0'
  have hown0 : s.vm.findClass "java/util/Objects" = some m.cls := findClass_of_methodNamed Bd.named
  have hnm := (name_of_methodNamed Bd.named Bd.method).1
  have hlk : meth.locks = false := Bd.notSynchronized
  have X0 : Stand p l e ({ frames := 0, cells := 0, slots := 0, locals := 0 } : Room) s m #[(.ref a1), (.ref a2)] below meth c s₁ [] 0 0 := Stand.of_body Bd
  have e0 : s₁.heap = h0 := by rw [← hh, Bd.state]; rfl
  have N0 := Fr.nil Z.heap.size
  have KP0 : Keep h0 h0 ([] : List Addr) := Keep.refl _ _
  show Go p e below (fun t o => ∃ v L, o = .returned v ∧ Q_rmRnn Z a1 a2 h0 v t.heap L ∧ FrameEnd s o t L ({ frames := 0, cells := 0, slots := 0, locals := 0 } : Room).cells ({ frames := 0, cells := 0, slots := 0, locals := 0 } : Room).slots) (s₁.setTop (entryFrame m #[(.ref a1), (.ref a2)] 2))
  refine Go.on (w := s₁.setTop (mkF m 0 #[rv a1, rv a2] [])) (fun t k => castTop (ef_rmRnn m a1 a2) k) ?_
  refine Go.on (w := s₁.setTop (mkF m 14 #[rv a1, rv a2] [(.ref a1)])) (fun t k => XS.aloadN X0.here hx rfl (hb hby d1_0) rfl rfl (XS.ifnonnullYes X0.here hx rfl (pc0 := 1) (pc' := 13) rfl (hb hby d1_1) rfl (by decide) (by decide) (XS.aloadN X0.here hx rfl (hb hby d1_13) rfl rfl k))) ?_
  refine Go.finH X0 hlk (v := some (.ref a1)) (fun h => by rw [Bd.returns] at h; cases h) (fun fs hr => ?_) (endH (Q := Q_rmRnn Z a1 a2 h0) (by rw [e0]; exact ⟨rfl, N0, rfl⟩) (by decide) (by decide))
  exact retOut X0 hx Bd.returns rfl (Or.inr (Or.inr (Or.inr (Or.inr ⟨rfl, rfl, rfl⟩)))) (hb hby d1_14) hr
def Q_rmNew4 (Z : State) (a1 : Addr) (a2 : Addr) (h0 : Heap) (vv : Option Value) (h : Heap) (L : List Loc) : Prop := ∃ (t : Addr) (kb : ClassId), vv = none ∧ Fr Z.heap.size L ∧ Keep h0 h [a1] ∧ Exa Z h a1 "java/lang/String" ∧ Fld Z h a1 "java/lang/String" "coder" "B" (.int 0) ∧ Fld Z h a1 "java/lang/String" "value" "[B" (.ref t) ∧ Arv Z h t kb .byte (0 : Int32) [] (.int 0)
theorem ef_rmNew4 (m : MethodId) (x0 : Addr) (x1 : Addr) (x2 : Int32) (x3 : Int32)   : entryFrame m #[(.ref x0), (.ref x1), (.int x2), (.int x3), .null] 6 = mkF m 0 #[.val (.ref x0), .val (.ref x1), .val (.int x2), .val (.int x3), .val .null, .unset] [] := by first | rfl | (simp [entryFrame, mkF, argsToLocals, Value.category]; done)
set_option maxRecDepth 65536 in
set_option maxHeartbeats 40000000 in
theorem rmNew4 (l : Launch) (Z : State) (a0 : Array Value) (hw : ∀ d ∈ tables_1, d.before a0 Z = true) (ws : List Jvm.Cond) (a1 : Addr) (a2 : Addr) (h0 : Heap) (hEL : EW Z a0 EL) (Z0 : Z.heap.size ≤ h0.size) (lo_a1 : Z.heap.size ≤ a1) (E_a1 : Exa Z h0 a1 "java/lang/String") (Fc : Fld Z h0 a1 "java/lang/String" "coder" "B" (.int 0)) (Fv : Fld Z h0 a1 "java/lang/String" "value" "[B" .null) :
    MetFree l (⟨"java/lang/String", "<init>", "([CIILjava/lang/Void;)V"⟩ : MethodName) (head1 (Jvm.Cond.code (⟨"java/lang/String", "<init>", "([CIILjava/lang/Void;)V"⟩ : MethodName) jdk_42_method_149_code 6 none :: ws) ({ frames := 1, cells := 4, slots := 8, locals := 12 } : Room)) (fun a U => a = #[(.ref a1), (.ref a2), (.int 0), (.int 0), .null] ∧ Z.Warmed39 U.vm ∧ U.heap = h0 ∧ CHv Z EL U.vm h0) (fun _ _ _ _ _ => True) (fun _ U o U' => ∃ v L, o = .returned v ∧ Q_rmNew4 Z a1 a2 h0 v U'.heap L ∧ CHr Z EL U.vm U.heap U'.vm U'.heap ∧ ReturnedEndW U o U' L ({ frames := 1, cells := 4, slots := 8, locals := 12 } : Room).cells ({ frames := 1, cells := 4, slots := 8, locals := 12 } : Room).slots) := by
  refine MetFree.of_bodySF (plainFor_of_name (by first | (simp [plainName, overriddenIn]; done) | decide +kernel)) hisR ?_
  intro p e s m args below meth c s₁ Bd hml0 hP hK
  obtain ⟨rfl, hZ0', hh, hC0⟩ := hP
  have hx := Bd.exec
  have hby := Bd.bytes
  have hml : c.maxLocals = 6 := hml0
  have hZ0 : Z.Warmed39 (s.setVm s.vm).vm := hZ0'
  have hown0 : (s.setVm s.vm).vm.findClass "java/lang/String" = some m.cls := findClass_of_methodNamed Bd.named
  have hnm := (name_of_methodNamed Bd.named Bd.method).1
  have hlk : meth.locks = false := Bd.notSynchronized
  have X0 : Stand p l e ({ frames := 1, cells := 4, slots := 8, locals := 12 } : Room) (s.setVm s.vm) m #[(.ref a1), (.ref a2), (.int 0), (.int 0), .null] below meth c s₁ [] 0 0 := Stand.of_body Bd
  have e0 : s₁.heap = h0 := by rw [← hh, Bd.state]; rfl
  have hS0 : s.Since s.vm s.heap.size := (State.WarmedH.refl s).since _
  have hk0 : s.heap.size ≤ h0.size := by rw [hh]; exact Nat.le_refl _
  have CR0 : CHr Z EL s.vm s.heap s.vm h0 := by rw [hh]; exact CHr.refl hC0
  have N0 := Fr.nil Z.heap.size
  have KP0 : Keep h0 h0 ([a1] : List Addr) := Keep.refl _ _
  show Go p e below (fun t o => ∃ v L, o = .returned v ∧ Q_rmNew4 Z a1 a2 h0 v t.heap L ∧ CHr Z EL s.vm s.heap t.vm t.heap ∧ ReturnedEndW s o t L ({ frames := 1, cells := 4, slots := 8, locals := 12 } : Room).cells ({ frames := 1, cells := 4, slots := 8, locals := 12 } : Room).slots) (s₁.setTop (entryFrame m #[(.ref a1), (.ref a2), (.int 0), (.int 0), .null] 6))
  refine Go.on (w := s₁.setTop (mkF m 0 #[rv a1, rv a2, iv 0, iv 0, .val .null, .unset] [])) (fun t k => castTop (ef_rmNew4 m a1 a2 (0 : Int32) (0 : Int32)) k) ?_
  have u_a1 : h0.size > a1 := E_a1.lt
  have Sf0 : Safe Z EL s.vm h0 a1 := own_safeNull hZ0.alike E_a1 Fv
  obtain ⟨T2, X2, e2, st2⟩ := initO X0 hx hZ0 hown0 (w_11 hw) (w_12 hw) (w_13 hw) e0 (g := (mkF m 1 #[rv a1, rv a2, iv 0, iv 0, .val .null, .unset] [(.ref a1)])) rfl (by rw [hml]; rfl) rfl (hb hby d2_1) (by decide) (W := 0) (by show 2 * 0 + _ ≤ _; exact Nat.le_of_eq rfl) (by decide)
  obtain ⟨b3, T3, h3, j3, t3, k3, X3, e3, E3, hS3, hk3, hZ3, hown3, Ex3, Fc3, Fv3, Av3, ua3, ub3, C3, Li3, sf3, st3⟩ := ldcCH X2 hx hZ0 hown0 (w_14 hw) (sAt hw) e2 hS0 (by omega) hEL (by simp [EL]) CR0.1 (vs := []) (z := (0 : Int32)) (by decide) (by decide) (by decide) (g := (mkF m 9 #[rv a1, rv a2, iv 0, iv 0, .val .null, .unset] [(.ref a1)])) rfl (hb hby d2_9) (n := 0) (by decide) (by decide) (by decide) (by decide)
  have z3 : h0.size ≤ h3.size := E3.1
  have CR3 := CR0.trans C3
  have KP3 : Keep h0 h3 ([a1] : List Addr) := KP0.ext E3
  have va3 : h3.size > b3 := ua3
  have vb3 : h3.size > t3 := ub3
  have F4 := (C3.safe (show @LT.lt Nat _ a1 h0.size by omega) Sf0)
  obtain ⟨T5, X5, e5, st5⟩ := getF X3 hx hZ3 hown3 (host := "") (Or.inl (w_20 hw)) Via.refl e3 Fv3 (g := (mkF m 11 #[rv a1, rv a2, iv 0, iv 0, .val .null, .unset] [(.ref b3), (.ref a1)])) rfl rfl (hb hby d2_11)
  have F6 := (E_a1.ext E3)
  have F7 := (Fv.ext E3)
  obtain ⟨T8, h8, X8, e8, W8, st8⟩ := putF X5 hx hZ3 hown3 (host := "") (Or.inl (w_20 hw)) Via.refl e5 F7 F6 (Or.inr ⟨(w_16 hw), rfl, hnm⟩) (w_2 hw) (ty := (.array .byte)) (by decide) rfl rfl (g := (mkF m 14 #[rv a1, rv a2, iv 0, iv 0, .val .null, .unset] [(.ref t3), (.ref a1)])) rfl rfl (hb hby d2_14)
  have CR8 := CR3.trans (CHr.wr W8 F4 CR3.1)
  have z8 : h3.size ≤ h8.size := Nat.le_of_eq W8.size.symm
  have KP8 : Keep h0 h8 ([a1] : List Addr) := KP3.wr W8 (Or.inl (List.mem_of_getElem? (i := 0) rfl))
  have N8 := Fr.snoc X8 N0 (by omega)
  have Fw8 := F7.same W8
  obtain ⟨b9, T9, h9, j9, t9, k9, X9, e9, E9, hS9, hk9, hZ9, hown9, Ex9, Fc9, Fv9, Av9, ua9, ub9, C9, Li9, sf9, st9⟩ := ldcCH X8 hx hZ3 hown3 (w_14 hw) (sAt hw) e8 hS3 (by omega) hEL (by simp [EL]) CR8.1 (vs := []) (z := (0 : Int32)) (by decide) (by decide) (by decide) (g := (mkF m 18 #[rv a1, rv a2, iv 0, iv 0, .val .null, .unset] [(.ref a1)])) rfl (hb hby d2_18) (n := 0) (by decide) (by decide) (by decide) (by decide)
  have z9 : h8.size ≤ h9.size := E9.1
  have CR9 := CR8.trans C9
  have KP9 : Keep h0 h9 ([a1] : List Addr) := KP8.ext E9
  have va9 : h9.size > b9 := ua9
  have vb9 : h9.size > t9 := ub9
  have F10 := (C9.safe (show @LT.lt Nat _ a1 h8.size by omega) (Safe.wr W8 F4 CR3.1 F4))
  obtain ⟨T11, X11, e11, st11⟩ := getF X9 hx hZ9 hown9 (host := "") (Or.inl (w_21 hw)) Via.refl e9 Fc9 (g := (mkF m 20 #[rv a1, rv a2, iv 0, iv 0, .val .null, .unset] [(.ref b9), (.ref a1)])) rfl rfl (hb hby d2_20)
  have F12 := ((F6.wr W8).ext E9)
  have F13 := (((Fc.ext E3).other W8 (Or.inr (slot_ne (Or.inr (w_17 hw)) (Or.inr (w_16 hw)) (by decide) (t := .byte) (t' := (.array .byte)) (by decide) (by decide)))).ext E9)
  obtain ⟨T14, h14, X14, e14, W14, st14⟩ := putFN X11 hx hZ9 hown9 (w_21 hw) Via.refl e11 F13 F12 (Or.inr ⟨(w_17 hw), rfl, hnm⟩) (w_2 hw) (ty := .byte) (v' := (.int 0)) (by decide) rfl rfl (g := (mkF m 23 #[rv a1, rv a2, iv 0, iv 0, .val .null, .unset] [(.int 0), (.ref a1)])) rfl rfl (hb hby d2_23)
  have CR14 := CR9.trans (CHr.wr W14 F10 CR9.1)
  have z14 : h9.size ≤ h14.size := Nat.le_of_eq W14.size.symm
  have KP14 : Keep h0 h14 ([a1] : List Addr) := KP9.wr W14 (Or.inl (List.mem_of_getElem? (i := 0) rfl))
  have N14 := Fr.snoc X14 N8 (by omega)
  have Fw14 := F13.same W14
  have F15 := (F12.wr W14)
  have F16 := ((Fw8.ext E9).other W14 (Or.inr (slot_ne (Or.inr (w_16 hw)) (Or.inr (w_17 hw)) (by decide) (t := (.array .byte)) (t' := .byte) (by decide) (by decide))))
  have F17 := (((Av3.other W8 (Ne.symm (sf3 _ F4).2)).ext E9).other W14 (Ne.symm (sf3 _ F4).2))
  refine Go.on (w := T14.setTop (mkF m 26 #[rv a1, rv a2, iv 0, iv 0, .val .null, .unset] [])) (fun t k => XS.aloadN X0.here hx rfl (hb hby d2_0) rfl rfl (st2 _ (XS.iloadN X2.here hx rfl (hb hby d2_4) rfl (XS.ifNo X2.here hx rfl (hb hby d2_5) rfl ((if0 _ _).trans (teq (by decide : (0 : Int32) = (0 : Int32))).2) (XS.aloadN X2.here hx rfl (hb hby d2_8) rfl rfl (st3 _ (st5 _ (st8 _ (XS.aloadN X8.here hx rfl (hb hby d2_17) rfl rfl (st9 _ (st11 _ (st14 _ k)))))))))))) ?_
  have CE18 := CR14.trans (CHv.at X14 hZ9 hEL CR14.1)
  refine Go.fin X14 hS9 (by rw [e14]; omega) hlk (v := none) (fun _ => rfl) (fun fs hr => ?_) (endP (Q := Q_rmNew4 Z a1 a2 h0) (by rw [e14]; exact ⟨t3, k3, rfl, N14, KP14, F15, Fw14, F16, F17⟩) (by rw [e14]; exact CE18) (by decide) (by decide))
  exact X14.returnOut hx Bd.returns (hb hby d2_26) hr
def Q_rmNew1 (Z : State) (a1 : Addr) (a2 : Addr) (kc : ClassId) (h0 : Heap) (vv : Option Value) (h : Heap) (L : List Loc) : Prop := ∃ (t : Addr) (kb : ClassId), vv = none ∧ Fr Z.heap.size L ∧ Keep h0 h [a1] ∧ Exa Z h a1 "java/lang/String" ∧ Fld Z h a1 "java/lang/String" "coder" "B" (.int 0) ∧ Fld Z h a1 "java/lang/String" "value" "[B" (.ref t) ∧ Arv Z h t kb .byte (0 : Int32) [] (.int 0)
theorem ef_rmNew1 (m : MethodId) (x0 : Addr) (x1 : Addr)   : entryFrame m #[(.ref x0), (.ref x1)] 2 = mkF m 0 #[.val (.ref x0), .val (.ref x1)] [] := by first | rfl | (simp [entryFrame, mkF, argsToLocals, Value.category]; done)
set_option maxRecDepth 65536 in
set_option maxHeartbeats 40000000 in
theorem rmNew1 (l : Launch) (Z : State) (a0 : Array Value) (hw : ∀ d ∈ tables_1, d.before a0 Z = true) (ws : List Jvm.Cond) (a1 : Addr) (a2 : Addr) (kc : ClassId) (h0 : Heap) (hEL : EW Z a0 EL) (Z0 : Z.heap.size ≤ h0.size) (lo_a1 : Z.heap.size ≤ a1) (E_a1 : Exa Z h0 a1 "java/lang/String") (Fc : Fld Z h0 a1 "java/lang/String" "coder" "B" (.int 0)) (Fv : Fld Z h0 a1 "java/lang/String" "value" "[B" .null) (Va : Arv Z h0 a2 kc .char (0 : Int32) [] (.int 0)) :
    MetFree l (⟨"java/lang/String", "<init>", "([C)V"⟩ : MethodName) (head1 (Jvm.Cond.code (⟨"java/lang/String", "<init>", "([C)V"⟩ : MethodName) jdk_42_method_3_code 2 none :: ws) ({ frames := 2, cells := 4, slots := 8, locals := 29 } : Room)) (fun a U => a = #[(.ref a1), (.ref a2)] ∧ Z.Warmed39 U.vm ∧ U.heap = h0 ∧ CHv Z EL U.vm h0) (fun _ _ _ _ _ => True) (fun _ U o U' => ∃ v L, o = .returned v ∧ Q_rmNew1 Z a1 a2 kc h0 v U'.heap L ∧ CHr Z EL U.vm U.heap U'.vm U'.heap ∧ ReturnedEndW U o U' L ({ frames := 2, cells := 4, slots := 8, locals := 29 } : Room).cells ({ frames := 2, cells := 4, slots := 8, locals := 29 } : Room).slots) := by
  refine MetFree.of_bodySF (plainFor_of_name (by first | (simp [plainName, overriddenIn]; done) | decide +kernel)) hisR ?_
  intro p e s m args below meth c s₁ Bd hml0 hP hK
  obtain ⟨rfl, hZ0', hh, hC0⟩ := hP
  have hx := Bd.exec
  have hby := Bd.bytes
  have hml : c.maxLocals = 2 := hml0
  have hZ0 : Z.Warmed39 (s.setVm s.vm).vm := hZ0'
  have hown0 : (s.setVm s.vm).vm.findClass "java/lang/String" = some m.cls := findClass_of_methodNamed Bd.named
  have hnm := (name_of_methodNamed Bd.named Bd.method).1
  have hlk : meth.locks = false := Bd.notSynchronized
  have X0 : Stand p l e ({ frames := 2, cells := 4, slots := 8, locals := 29 } : Room) (s.setVm s.vm) m #[(.ref a1), (.ref a2)] below meth c s₁ [] 0 0 := Stand.of_body Bd
  have e0 : s₁.heap = h0 := by rw [← hh, Bd.state]; rfl
  have hS0 : s.Since s.vm s.heap.size := (State.WarmedH.refl s).since _
  have hk0 : s.heap.size ≤ h0.size := by rw [hh]; exact Nat.le_refl _
  have CR0 : CHr Z EL s.vm s.heap s.vm h0 := by rw [hh]; exact CHr.refl hC0
  have N0 := Fr.nil Z.heap.size
  have KP0 : Keep h0 h0 ([a1] : List Addr) := Keep.refl _ _
  show Go p e below (fun t o => ∃ v L, o = .returned v ∧ Q_rmNew1 Z a1 a2 kc h0 v t.heap L ∧ CHr Z EL s.vm s.heap t.vm t.heap ∧ ReturnedEndW s o t L ({ frames := 2, cells := 4, slots := 8, locals := 29 } : Room).cells ({ frames := 2, cells := 4, slots := 8, locals := 29 } : Room).slots) (s₁.setTop (entryFrame m #[(.ref a1), (.ref a2)] 2))
  refine Go.on (w := s₁.setTop (mkF m 0 #[rv a1, rv a2] [])) (fun t k => castTop (ef_rmNew1 m a1 a2) k) ?_
  have u_a1 : h0.size > a1 := E_a1.lt
  obtain ⟨cl19, Ar19, q19, S19, M19, H19, U19⟩ := id Va
  refine Go.on (w := s₁.setTop (mkF m 4 #[rv a1, rv a2] [(.ref a2), (.int 0), (.ref a2), (.ref a1)])) (fun t k => XS.aloadN X0.here hx rfl (hb hby d3_0) rfl rfl (XS.aloadN X0.here hx rfl (hb hby d3_1) rfl rfl (XS.iconst X0.here hx rfl (hb hby d3_2) (XS.aloadN X0.here hx rfl (hb hby d3_3) rfl rfl k)))) ?_
  refine Go.on (w := s₁.setTop (mkF m 5 #[rv a1, rv a2] [(.int 0), (.int 0), (.ref a2), (.ref a1)])) (fun t k => X0.arraylength hx (by rw [e0]; exact Ar19.1) (State.isArrayOf_alike hZ0.alike Ar19.2.1) (g := (mkF m 4 #[rv a1, rv a2] [(.ref a2), (.int 0), (.ref a2), (.ref a1)])) rfl rfl (hb hby d3_4) _ (by rw [len_of S19 M19]; exact k)) ?_
  obtain ⟨v20, _, ⟨T20, L20, k20, n20⟩, -, X20', hs20, hg20, ⟨Lc20, hQ20, l20, y20, z20, C20⟩, st20⟩ := X0.specialBackS hx (y := (⟨"java/lang/String", "<init>", "([CIILjava/lang/Void;)V"⟩ : MethodName)) rfl hown0 (mvT hZ0 (w_7 hw)) (mvT hZ0 (w_8 hw)) (mvT hZ0 (w_10 hw)) (by decide) (backOfSH (s := s) (W := 0) (rmNew4 l Z a0 hw [] a1 a2 h0 hEL (by omega) (by omega) E_a1 Fc Fv) hZ0 (w_10 hw) (w_3 hw) (by decide) (by decide) hEL CR0.1) (g := (mkF m 6 #[rv a1, rv a2] [.null, (.int 0), (.int 0), (.ref a2), (.ref a1)])) rfl (by rw [hml]; rfl) (Steps.refl _) (a := a1) (argsL := [(.ref a2), (.int 0), (.int 0), .null]) (rest := []) (lenOf pd_0 rfl) rfl (by show 2 * 0 + _ ≤ _; exact Nat.le_of_eq rfl) (hb hby d3_6) (fun _ _ => ⟨rfl, e0, (by decide : 0 + 4 ≤ _), (by decide : 0 + 8 ≤ _)⟩)
  dsimp only [Pt.U, Pt.locs, Pt.cells, Pt.slots] at X20' l20 y20 z20 st20 hQ20 hs20 hg20 C20
  subst l20 y20 z20
  obtain ⟨X20, hS20, hZ20, hown20⟩ := rebS hS0 (n1 := s₁.heap.size) (by rw [e0]; omega) X20' hs20 hg20 hZ0 hown0
  have hj20 : T20.heap.size ≤ T20.heap.size := Nat.le_refl _
  obtain ⟨t_20, kb_20, rfl, Nq20, K20, f20_0, f20_1, f20_2, f20_3⟩ := hQ20
  have N20 := Fr.app N0 Nq20
  have eK20 : T20.heap = T20.heap := rfl
  have CR20 := CR0.trans C20
  have z20 : h0.size ≤ T20.heap.size := K20.1
  have KP20 : Keep h0 T20.heap ([a1] : List Addr) := KP0.trans K20 (allS (P := fun x => x ∈ ([a1] : List Addr) ∨ h0.size ≤ x) (Or.inl (List.mem_of_getElem? (i := 0) rfl)) all0)
  have u20_3 : T20.heap.size > t_20 := f20_3.lt
  refine Go.on (w := T20.setTop (mkF m 9 #[rv a1, rv a2] [])) (fun t k => XS.aconstNull X0.here hx rfl (hb hby d3_5) (st20.trans k)) ?_
  have CE21 := CR20.trans (CHv.at X20 hZ20 hEL CR20.1)
  refine Go.fin X20 hS20 (by rw [eK20]; omega) hlk (v := none) (fun _ => rfl) (fun fs hr => ?_) (endP (Q := Q_rmNew1 Z a1 a2 kc h0) (by rw [eK20]; exact ⟨t_20, kb_20, rfl, N20, KP20, f20_0, f20_1, f20_2, f20_3⟩) (by rw [eK20]; exact CE21) (by decide) (by decide))
  exact X20.returnOut hx Bd.returns (hb hby d3_9) hr
def Q_rmInit (Z : State) (a1 : Addr) (a2 : Addr) (a3 : Addr) (h0 : Heap) (vv : Option Value) (h : Heap) (L : List Loc) : Prop := vv = none ∧ Fr Z.heap.size L ∧ Keep h0 h [a1] ∧ Exa Z h a1 "com/example/hierarchy_grants/hierarchygrants/Subject" ∧ Fld Z h a1 "com/example/hierarchy_grants/hierarchygrants/Subject" "kind" "Lcom/example/hierarchy_grants/hierarchygrants/Subject$Kind;" (.ref a2) ∧ Fld Z h a1 "com/example/hierarchy_grants/hierarchygrants/Subject" "id" "Ljava/lang/String;" (.ref a3)
theorem ef_rmInit (m : MethodId) (x0 : Addr) (x1 : Addr) (x2 : Addr)   : entryFrame m #[(.ref x0), (.ref x1), (.ref x2)] 3 = mkF m 0 #[.val (.ref x0), .val (.ref x1), .val (.ref x2)] [] := by first | rfl | (simp [entryFrame, mkF, argsToLocals, Value.category]; done)
set_option maxRecDepth 65536 in
set_option maxHeartbeats 40000000 in
theorem rmInit (l : Launch) (Z : State) (a0 : Array Value) (hw : ∀ d ∈ tables_1, d.before a0 Z = true) (ws : List Jvm.Cond) (a1 : Addr) (a2 : Addr) (a3 : Addr) (h0 : Heap) (hEL : EW Z a0 EL) (Z0 : Z.heap.size ≤ h0.size) (lo_a1 : Z.heap.size ≤ a1) (E_a1 : Exa Z h0 a1 "com/example/hierarchy_grants/hierarchygrants/Subject") (Fk : Fld Z h0 a1 "com/example/hierarchy_grants/hierarchygrants/Subject" "kind" "Lcom/example/hierarchy_grants/hierarchygrants/Subject$Kind;" .null) (Fi : Fld Z h0 a1 "com/example/hierarchy_grants/hierarchygrants/Subject" "id" "Ljava/lang/String;" .null) :
    MetFree l (⟨"com/example/hierarchy_grants/hierarchygrants/Subject", "<init>", "(Lcom/example/hierarchy_grants/hierarchygrants/Subject$Kind;Ljava/lang/String;)V"⟩ : MethodName) (head1 (Jvm.Cond.code (⟨"com/example/hierarchy_grants/hierarchygrants/Subject", "<init>", "(Lcom/example/hierarchy_grants/hierarchygrants/Subject$Kind;Ljava/lang/String;)V"⟩ : MethodName) prog_22_method_1_code 3 none :: ws) ({ frames := 2, cells := 4, slots := 32, locals := 24 } : Room)) (fun a U => a = #[(.ref a1), (.ref a2), (.ref a3)] ∧ Z.Warmed39 U.vm ∧ U.heap = h0 ∧ CHv Z EL U.vm h0) (fun _ _ _ _ _ => True) (fun _ U o U' => ∃ v L, o = .returned v ∧ Q_rmInit Z a1 a2 a3 h0 v U'.heap L ∧ CHr Z EL U.vm U.heap U'.vm U'.heap ∧ ReturnedEndW U o U' L ({ frames := 2, cells := 4, slots := 32, locals := 24 } : Room).cells ({ frames := 2, cells := 4, slots := 32, locals := 24 } : Room).slots) := by
  refine MetFree.of_bodySF (plainFor_of_name (by first | (simp [plainName, overriddenIn]; done) | decide +kernel)) hisR ?_
  intro p e s m args below meth c s₁ Bd hml0 hP hK
  obtain ⟨rfl, hZ0', hh, hC0⟩ := hP
  have hx := Bd.exec
  have hby := Bd.bytes
  have hml : c.maxLocals = 3 := hml0
  have hZ0 : Z.Warmed39 (s.setVm s.vm).vm := hZ0'
  have hown0 : (s.setVm s.vm).vm.findClass "com/example/hierarchy_grants/hierarchygrants/Subject" = some m.cls := findClass_of_methodNamed Bd.named
  have hnm := (name_of_methodNamed Bd.named Bd.method).1
  have hlk : meth.locks = false := Bd.notSynchronized
  have X0 : Stand p l e ({ frames := 2, cells := 4, slots := 32, locals := 24 } : Room) (s.setVm s.vm) m #[(.ref a1), (.ref a2), (.ref a3)] below meth c s₁ [] 0 0 := Stand.of_body Bd
  have e0 : s₁.heap = h0 := by rw [← hh, Bd.state]; rfl
  have hS0 : s.Since s.vm s.heap.size := (State.WarmedH.refl s).since _
  have hk0 : s.heap.size ≤ h0.size := by rw [hh]; exact Nat.le_refl _
  have CR0 : CHr Z EL s.vm s.heap s.vm h0 := by rw [hh]; exact CHr.refl hC0
  have N0 := Fr.nil Z.heap.size
  have KP0 : Keep h0 h0 ([a1] : List Addr) := Keep.refl _ _
  show Go p e below (fun t o => ∃ v L, o = .returned v ∧ Q_rmInit Z a1 a2 a3 h0 v t.heap L ∧ CHr Z EL s.vm s.heap t.vm t.heap ∧ ReturnedEndW s o t L ({ frames := 2, cells := 4, slots := 32, locals := 24 } : Room).cells ({ frames := 2, cells := 4, slots := 32, locals := 24 } : Room).slots) (s₁.setTop (entryFrame m #[(.ref a1), (.ref a2), (.ref a3)] 3))
  refine Go.on (w := s₁.setTop (mkF m 0 #[rv a1, rv a2, rv a3] [])) (fun t k => castTop (ef_rmInit m a1 a2 a3) k) ?_
  have u_a1 : h0.size > a1 := E_a1.lt
  obtain ⟨v22, _, ⟨T22, L22, k22, n22⟩, -, X22, ⟨Lc22, hQ22, l22, y22, z22⟩, st22⟩ := X0.specialBack hx (y := (⟨"java/lang/Record", "<init>", "()V"⟩ : MethodName)) rfl hown0 (mvT hZ0 (w_34 hw)) (mvT hZ0 (w_35 hw)) (mvT hZ0 (w_38 hw)) (by decide) (backOf (W := 0) (rmRec l Z a0 hw [] a1 h0 ) hZ0 (w_38 hw) (w_37 hw) (by decide) (by decide)) (g := (mkF m 1 #[rv a1, rv a2, rv a3] [(.ref a1)])) rfl (by rw [hml]; rfl) (Steps.refl _) (a := a1) (argsL := []) (rest := []) (lenOf pd_1 rfl) rfl (by show 2 * 0 + _ ≤ _; exact Nat.le_of_eq rfl) (hb hby d4_1) (fun _ _ => ⟨rfl, e0, (by decide : 0 + 0 ≤ _), (by decide : 0 + 0 ≤ _)⟩)
  dsimp only [Pt.U, Pt.locs, Pt.cells, Pt.slots] at X22 l22 y22 z22 st22 hQ22
  subst l22 y22 z22
  obtain ⟨rfl, Nq22, eh22⟩ := hQ22
  have N22 := Fr.app N0 Nq22
  obtain ⟨b23, T23, h23, j23, X23, e23, E23, hS23, hk23, hZ23, hown23, C23, Li23, st23⟩ := ldcOH X22 hx hZ0 hown0 (w_40 hw) (sAt hw) eh22 hS0 (by omega) hEL CR0.1 (g := (mkF m 5 #[rv a1, rv a2, rv a3] [(.ref a2)])) rfl (hb hby d4_5) (n := 16) (by decide) (by decide) (by decide) (by decide)
  have z23 : h0.size ≤ h23.size := E23.1
  have CR23 := CR0.trans C23
  have KP23 : Keep h0 h23 ([a1] : List Addr) := KP0.ext E23
  obtain ⟨v24, _, ⟨T24, L24, k24, n24⟩, -, X24, ⟨Lc24, hQ24, l24, y24, z24⟩, st24⟩ := Jvm.LawKit.callS X23 hx (y := (⟨"java/util/Objects", "requireNonNull", "(Ljava/lang/Object;Ljava/lang/String;)Ljava/lang/Object;"⟩ : MethodName)) hown23 (mvT hZ23 (w_41 hw)) (mvT hZ23 (w_42 hw)) (mvT hZ23 (w_43 hw)) (mvT hZ23 (w_44 hw)) (by decide) (backOf (W := 0) (rmRnn l Z a0 hw [] a2 b23 h23 ) hZ23 (w_44 hw) (w_43 hw) (by decide) (by decide)) (g := (mkF m 7 #[rv a1, rv a2, rv a3] [(.ref b23), (.ref a2)])) rfl (by rw [hml]; rfl) (argsL := [(.ref a2), (.ref b23)]) (rest := []) (lenOf pd_2 rfl) rfl (by show 2 * 0 + _ ≤ _; exact Nat.le_of_eq rfl) (hb hby d4_7) (fun _ _ => ⟨rfl, e23, (by decide : 2 + 0 ≤ _), (by decide : 20 + 0 ≤ _)⟩)
  dsimp only [Pt.U, Pt.locs, Pt.cells, Pt.slots] at X24 l24 y24 z24 st24 hQ24
  subst l24 y24 z24
  obtain ⟨rfl, Nq24, eh24⟩ := hQ24
  have N24 := Fr.app N22 Nq24
  obtain ⟨b25, T25, h25, j25, X25, e25, E25, hS25, hk25, hZ25, hown25, C25, Li25, st25⟩ := ldcOH X24 hx hZ23 hown23 (w_45 hw) (sAt hw) eh24 hS23 (by omega) hEL CR23.1 (g := (mkF m 12 #[rv a1, rv a2, rv a3] [(.ref a3)])) rfl (hb hby d4_12) (n := 8) (by decide) (by decide) (by decide) (by decide)
  have z25 : h23.size ≤ h25.size := E25.1
  have CR25 := CR23.trans C25
  have KP25 : Keep h0 h25 ([a1] : List Addr) := KP23.ext E25
  obtain ⟨v26, _, ⟨T26, L26, k26, n26⟩, -, X26, ⟨Lc26, hQ26, l26, y26, z26⟩, st26⟩ := Jvm.LawKit.callS X25 hx (y := (⟨"java/util/Objects", "requireNonNull", "(Ljava/lang/Object;Ljava/lang/String;)Ljava/lang/Object;"⟩ : MethodName)) hown25 (mvT hZ25 (w_41 hw)) (mvT hZ25 (w_42 hw)) (mvT hZ25 (w_43 hw)) (mvT hZ25 (w_44 hw)) (by decide) (backOf (W := 0) (rmRnn l Z a0 hw [] a3 b25 h25 ) hZ25 (w_44 hw) (w_43 hw) (by decide) (by decide)) (g := (mkF m 14 #[rv a1, rv a2, rv a3] [(.ref b25), (.ref a3)])) rfl (by rw [hml]; rfl) (argsL := [(.ref a3), (.ref b25)]) (rest := []) (lenOf pd_2 rfl) rfl (by show 2 * 0 + _ ≤ _; exact Nat.le_of_eq rfl) (hb hby d4_14) (fun _ _ => ⟨rfl, e25, (by decide : 4 + 0 ≤ _), (by decide : 32 + 0 ≤ _)⟩)
  dsimp only [Pt.U, Pt.locs, Pt.cells, Pt.slots] at X26 l26 y26 z26 st26 hQ26
  subst l26 y26 z26
  obtain ⟨rfl, Nq26, eh26⟩ := hQ26
  have N26 := Fr.app N24 Nq26
  have F27 := ((E_a1.ext E23).ext E25)
  have F28 := ((Fk.ext E23).ext E25)
  obtain ⟨T29, h29, X29, e29, W29, st29⟩ := putF X26 hx hZ25 hown25 (host := "") (Or.inl (w_46 hw)) Via.refl eh26 F28 F27 (Or.inr ⟨(w_47 hw), rfl, hnm⟩) (w_27 hw) (ty := (.object "com/example/hierarchy_grants/hierarchygrants/Subject$Kind")) (by decide) rfl rfl (g := (mkF m 20 #[rv a1, rv a2, rv a3] [(.ref a2), (.ref a1)])) rfl rfl (hb hby d4_20)
  have CR29 := CR25.trans (CHr.wr W29 (Safe.exa hZ25.alike F27 (by decide) (by decide)) CR25.1)
  have z29 : h25.size ≤ h29.size := Nat.le_of_eq W29.size.symm
  have KP29 : Keep h0 h29 ([a1] : List Addr) := KP25.wr W29 (Or.inl (List.mem_of_getElem? (i := 0) rfl))
  have N29 := Fr.snoc X29 N26 (by omega)
  have Fw29 := F28.same W29
  have F30 := (F27.wr W29)
  have F31 := (((Fi.ext E23).ext E25).other W29 (Or.inr (slot_ne (Or.inr (w_49 hw)) (Or.inr (w_47 hw)) (by decide) (t := (.object "java/lang/String")) (t' := (.object "com/example/hierarchy_grants/hierarchygrants/Subject$Kind")) (by decide) (by decide))))
  obtain ⟨T32, h32, X32, e32, W32, st32⟩ := putF X29 hx hZ25 hown25 (host := "") (Or.inl (w_48 hw)) Via.refl e29 F31 F30 (Or.inr ⟨(w_49 hw), rfl, hnm⟩) (w_27 hw) (ty := (.object "java/lang/String")) (by decide) rfl rfl (g := (mkF m 25 #[rv a1, rv a2, rv a3] [(.ref a3), (.ref a1)])) rfl rfl (hb hby d4_25)
  have CR32 := CR29.trans (CHr.wr W32 (Safe.exa hZ25.alike F30 (by decide) (by decide)) CR29.1)
  have z32 : h29.size ≤ h32.size := Nat.le_of_eq W32.size.symm
  have KP32 : Keep h0 h32 ([a1] : List Addr) := KP29.wr W32 (Or.inl (List.mem_of_getElem? (i := 0) rfl))
  have N32 := Fr.snoc X32 N29 (by omega)
  have Fw32 := F31.same W32
  have F33 := (F30.wr W32)
  have F34 := (Fw29.other W32 (Or.inr (slot_ne (Or.inr (w_47 hw)) (Or.inr (w_49 hw)) (by decide) (t := (.object "com/example/hierarchy_grants/hierarchygrants/Subject$Kind")) (t' := (.object "java/lang/String")) (by decide) (by decide))))
  refine Go.on (w := T32.setTop (mkF m 28 #[rv a1, rv a2, rv a3] [])) (fun t k => XS.aloadN X0.here hx rfl (hb hby d4_0) rfl rfl (st22.trans (XS.aloadN X22.here hx rfl (hb hby d4_4) rfl rfl (st23 _ (st24 _ (XS.pop X24.here hx rfl (hb hby d4_10) rfl rfl (XS.aloadN X24.here hx rfl (hb hby d4_11) rfl rfl (st25 _ (st26 _ (XS.pop X26.here hx rfl (hb hby d4_17) rfl rfl (XS.aloadN X26.here hx rfl (hb hby d4_18) rfl rfl (XS.aloadN X26.here hx rfl (hb hby d4_19) rfl rfl (st29 _ (XS.aloadN X29.here hx rfl (hb hby d4_23) rfl rfl (XS.aloadN X29.here hx rfl (hb hby d4_24) rfl rfl (st32 _ k)))))))))))))))) ?_
  have CE35 := CR32.trans (CHv.at X32 hZ25 hEL CR32.1)
  refine Go.fin X32 hS25 (by rw [e32]; omega) hlk (v := none) (fun _ => rfl) (fun fs hr => ?_) (endP (Q := Q_rmInit Z a1 a2 a3 h0) (by rw [e32]; exact ⟨rfl, N32, KP32, F33, F34, Fw32⟩) (by rw [e32]; exact CE35) (by decide) (by decide))
  exact X32.returnOut hx Bd.returns (hb hby d4_28) hr
def Q_rm_group (Z : State) (a1 : Addr) (kg : Addr) (h0 : Heap) (vv : Option Value) (h : Heap) (L : List Loc) : Prop := ∃ (r : Addr), vv = some (.ref r) ∧ Fr Z.heap.size L ∧ Keep h0 h [] ∧ (h0.size ≤ r) ∧ Exa Z h r "com/example/hierarchy_grants/hierarchygrants/Subject" ∧ Fld Z h r "com/example/hierarchy_grants/hierarchygrants/Subject" "kind" "Lcom/example/hierarchy_grants/hierarchygrants/Subject$Kind;" (.ref kg) ∧ Fld Z h r "com/example/hierarchy_grants/hierarchygrants/Subject" "id" "Ljava/lang/String;" (.ref a1)
theorem ef_rm_group (m : MethodId) (x0 : Addr)   : entryFrame m #[(.ref x0)] 1 = mkF m 0 #[.val (.ref x0)] [] := by first | rfl | (simp [entryFrame, mkF, argsToLocals, Value.category]; done)
set_option maxRecDepth 65536 in
set_option maxHeartbeats 40000000 in
theorem rm_group (l : Launch) (Z : State) (a0 : Array Value) (hw : ∀ d ∈ tables_1, d.before a0 Z = true) (ws : List Jvm.Cond) (a1 : Addr) (kg : Addr) (h0 : Heap) (hEL : EW Z a0 EL) (Z0 : Z.heap.size ≤ h0.size) (OL : Old Z Z.heap.size h0) (O6 : Sta Z Z.heap "com/example/hierarchy_grants/hierarchygrants/Subject$Kind" "GROUP" "Lcom/example/hierarchy_grants/hierarchygrants/Subject$Kind;" (.ref kg)) :
    MetFree l (⟨"com/example/hierarchy_grants/hierarchygrants/Subject", "group", "(Ljava/lang/String;)Lcom/example/hierarchy_grants/hierarchygrants/Subject;"⟩ : MethodName) (head1 (Jvm.Cond.code (⟨"com/example/hierarchy_grants/hierarchygrants/Subject", "group", "(Ljava/lang/String;)Lcom/example/hierarchy_grants/hierarchygrants/Subject;"⟩ : MethodName) prog_22_method_3_code 1 (some (.object "com/example/hierarchy_grants/hierarchygrants/Subject")) :: ws) ({ frames := 3, cells := 5, slots := 34, locals := 39 } : Room)) (fun a U => a = #[(.ref a1)] ∧ Z.Warmed39 U.vm ∧ U.heap = h0 ∧ CHv Z EL U.vm h0) (fun _ _ _ _ _ => True) (fun _ U o U' => ∃ v L, o = .returned v ∧ Q_rm_group Z a1 kg h0 v U'.heap L ∧ CHr Z EL U.vm U.heap U'.vm U'.heap ∧ ReturnedEndW U o U' L ({ frames := 3, cells := 5, slots := 34, locals := 39 } : Room).cells ({ frames := 3, cells := 5, slots := 34, locals := 39 } : Room).slots) := by
  refine MetFree.of_bodySF (plainFor_of_name (by first | (simp [plainName, overriddenIn]; done) | decide +kernel)) hisR ?_
  intro p e s m args below meth c s₁ Bd hml0 hP hK
  obtain ⟨rfl, hZ0', hh, hC0⟩ := hP
  have hx := Bd.exec
  have hby := Bd.bytes
  have hml : c.maxLocals = 1 := hml0
  have hZ0 : Z.Warmed39 (s.setVm s.vm).vm := hZ0'
  have hown0 : (s.setVm s.vm).vm.findClass "com/example/hierarchy_grants/hierarchygrants/Subject" = some m.cls := findClass_of_methodNamed Bd.named
  have hnm := (name_of_methodNamed Bd.named Bd.method).1
  have hlk : meth.locks = false := Bd.notSynchronized
  have X0 : Stand p l e ({ frames := 3, cells := 5, slots := 34, locals := 39 } : Room) (s.setVm s.vm) m #[(.ref a1)] below meth c s₁ [] 0 0 := Stand.of_body Bd
  have e0 : s₁.heap = h0 := by rw [← hh, Bd.state]; rfl
  have hS0 : s.Since s.vm s.heap.size := (State.WarmedH.refl s).since _
  have hk0 : s.heap.size ≤ h0.size := by rw [hh]; exact Nat.le_refl _
  have CR0 : CHr Z EL s.vm s.heap s.vm h0 := by rw [hh]; exact CHr.refl hC0
  have N0 := Fr.nil Z.heap.size
  have KP0 : Keep h0 h0 ([] : List Addr) := Keep.refl _ _
  show Go p e below (fun t o => ∃ v L, o = .returned v ∧ Q_rm_group Z a1 kg h0 v t.heap L ∧ CHr Z EL s.vm s.heap t.vm t.heap ∧ ReturnedEndW s o t L ({ frames := 3, cells := 5, slots := 34, locals := 39 } : Room).cells ({ frames := 3, cells := 5, slots := 34, locals := 39 } : Room).slots) (s₁.setTop (entryFrame m #[(.ref a1)] 1))
  refine Go.on (w := s₁.setTop (mkF m 0 #[rv a1] [])) (fun t k => castTop (ef_rm_group m a1) k) ?_
  obtain ⟨T36, h36, X36, e36, E36, A36, D36, -, st36⟩ := newO X0 hx hZ0 hown0 (w_26 hw) (w_27 hw) (w_24 hw) e0 (g := (mkF m 0 #[rv a1] [])) rfl (hb hby d5_0) (by decide) (by decide)
  obtain ⟨b36, g36⟩ : ∃ z, z = h0.size := ⟨_, rfl⟩
  rw [← g36] at A36 D36 st36
  have u36 : h36.size > b36 := A36.lt
  have z36 : h0.size ≤ h36.size := E36.1
  have CR36 := CR0.trans (CHr.ext E36 CR0.1)
  have KP36 : Keep h0 h36 ([] : List Addr) := KP0.ext E36
  have Fn36_47 : Fld Z h36 b36 "com/example/hierarchy_grants/hierarchygrants/Subject" "kind" "Lcom/example/hierarchy_grants/hierarchygrants/Subject$Kind;" .null := D36 (Or.inr (w_47 hw)) (ty := (.object "com/example/hierarchy_grants/hierarchygrants/Subject$Kind")) (by decide)
  have Fn36_49 : Fld Z h36 b36 "com/example/hierarchy_grants/hierarchygrants/Subject" "id" "Ljava/lang/String;" .null := D36 (Or.inr (w_49 hw)) (ty := (.object "java/lang/String")) (by decide)
  have F38 := (OL.ext E36)
  obtain ⟨T37, X37, e37, st37⟩ := getS2 X36 hx hZ0 hown0 (host := "") (Or.inl (w_28 hw)) Via.refl e36 (O6.ext F38.2) (g := (mkF m 4 #[rv a1] [(.ref b36), (.ref b36)])) rfl (hb hby d5_4)
  obtain ⟨v39, _, ⟨T39, L39, k39, n39⟩, -, X39', hs39, hg39, ⟨Lc39, hQ39, l39, y39, z39, C39⟩, st39⟩ := X37.specialBackS hx (y := (⟨"com/example/hierarchy_grants/hierarchygrants/Subject", "<init>", "(Lcom/example/hierarchy_grants/hierarchygrants/Subject$Kind;Ljava/lang/String;)V"⟩ : MethodName)) rfl hown0 (mvT hZ0 (w_31 hw)) (mvT hZ0 (w_32 hw)) (mvT hZ0 (w_33 hw)) (by decide) (backOfSH (s := s) (W := 1) (rmInit l Z a0 hw [] b36 kg a1 h36 hEL (by omega) (by omega) A36 Fn36_47 Fn36_49) hZ0 (w_33 hw) (w_24 hw) (by decide) (by decide) hEL CR36.1) (g := (mkF m 8 #[rv a1] [(.ref a1), (.ref kg), (.ref b36), (.ref b36)])) rfl (by rw [hml]; rfl) (Steps.refl _) (a := b36) (argsL := [(.ref kg), (.ref a1)]) (rest := [(.ref b36)]) (lenOf pd_3 rfl) rfl (by show 2 * 0 + _ ≤ _; exact Nat.le_of_eq rfl) (hb hby d5_8) (fun _ _ => ⟨rfl, e37, (by decide : 1 + 4 ≤ _), (by decide : 2 + 32 ≤ _)⟩)
  dsimp only [Pt.U, Pt.locs, Pt.cells, Pt.slots] at X39' l39 y39 z39 st39 hQ39 hs39 hg39 C39
  subst l39 y39 z39
  obtain ⟨X39, hS39, hZ39, hown39⟩ := rebS hS0 (n1 := T37.heap.size) (by rw [e37]; omega) X39' hs39 hg39 hZ0 hown0
  have hj39 : T39.heap.size ≤ T39.heap.size := Nat.le_refl _
  obtain ⟨rfl, Nq39, K39, f39_0, f39_1, f39_2⟩ := hQ39
  have N39 := Fr.app N0 Nq39
  have eK39 : T39.heap = T39.heap := rfl
  have CR39 := CR36.trans C39
  have z39 : h36.size ≤ T39.heap.size := K39.1
  have KP39 : Keep h0 T39.heap ([] : List Addr) := KP36.trans K39 (allS (P := fun x => x ∈ ([] : List Addr) ∨ h0.size ≤ x) (Or.inr (by omega)) all0)
  refine Go.on (w := T39.setTop (mkF m 11 #[rv a1] [(.ref b36)])) (fun t k => st36 _ (XS.dup X36.here hx rfl (hb hby d5_3) rfl rfl (st37 _ (XS.aloadN X37.here hx rfl (hb hby d5_7) rfl rfl (st39.trans k))))) ?_
  have CE40 := CR39.trans (CHv.at X39 hZ39 hEL CR39.1)
  refine Go.fin X39 hS39 (by rw [eK39]; omega) hlk (v := some (.ref b36)) (fun h => by rw [Bd.returns] at h; cases h) (fun fs hr => ?_) (endP (Q := Q_rm_group Z a1 kg h0) (by rw [eK39]; exact ⟨b36, rfl, N39, KP39, (by omega), f39_0, f39_1, f39_2⟩) (by rw [eK39]; exact CE40) (by decide) (by decide))
  exact retOut X39 hx Bd.returns rfl (Or.inr (Or.inr (Or.inr (Or.inr ⟨rfl, rfl, rfl⟩)))) (hb hby d5_11) hr
def Q_rm_user (Z : State) (a1 : Addr) (ku : Addr) (h0 : Heap) (vv : Option Value) (h : Heap) (L : List Loc) : Prop := ∃ (r : Addr), vv = some (.ref r) ∧ Fr Z.heap.size L ∧ Keep h0 h [] ∧ (h0.size ≤ r) ∧ Exa Z h r "com/example/hierarchy_grants/hierarchygrants/Subject" ∧ Fld Z h r "com/example/hierarchy_grants/hierarchygrants/Subject" "kind" "Lcom/example/hierarchy_grants/hierarchygrants/Subject$Kind;" (.ref ku) ∧ Fld Z h r "com/example/hierarchy_grants/hierarchygrants/Subject" "id" "Ljava/lang/String;" (.ref a1)
theorem ef_rm_user (m : MethodId) (x0 : Addr)   : entryFrame m #[(.ref x0)] 1 = mkF m 0 #[.val (.ref x0)] [] := by first | rfl | (simp [entryFrame, mkF, argsToLocals, Value.category]; done)
set_option maxRecDepth 65536 in
set_option maxHeartbeats 40000000 in
theorem rm_user (l : Launch) (Z : State) (a0 : Array Value) (hw : ∀ d ∈ tables_1, d.before a0 Z = true) (ws : List Jvm.Cond) (a1 : Addr) (ku : Addr) (h0 : Heap) (hEL : EW Z a0 EL) (Z0 : Z.heap.size ≤ h0.size) (OL : Old Z Z.heap.size h0) (O7 : Sta Z Z.heap "com/example/hierarchy_grants/hierarchygrants/Subject$Kind" "USER" "Lcom/example/hierarchy_grants/hierarchygrants/Subject$Kind;" (.ref ku)) :
    MetFree l (⟨"com/example/hierarchy_grants/hierarchygrants/Subject", "user", "(Ljava/lang/String;)Lcom/example/hierarchy_grants/hierarchygrants/Subject;"⟩ : MethodName) (head1 (Jvm.Cond.code (⟨"com/example/hierarchy_grants/hierarchygrants/Subject", "user", "(Ljava/lang/String;)Lcom/example/hierarchy_grants/hierarchygrants/Subject;"⟩ : MethodName) prog_22_method_2_code 1 (some (.object "com/example/hierarchy_grants/hierarchygrants/Subject")) :: ws) ({ frames := 3, cells := 5, slots := 34, locals := 39 } : Room)) (fun a U => a = #[(.ref a1)] ∧ Z.Warmed39 U.vm ∧ U.heap = h0 ∧ CHv Z EL U.vm h0) (fun _ _ _ _ _ => True) (fun _ U o U' => ∃ v L, o = .returned v ∧ Q_rm_user Z a1 ku h0 v U'.heap L ∧ CHr Z EL U.vm U.heap U'.vm U'.heap ∧ ReturnedEndW U o U' L ({ frames := 3, cells := 5, slots := 34, locals := 39 } : Room).cells ({ frames := 3, cells := 5, slots := 34, locals := 39 } : Room).slots) := by
  refine MetFree.of_bodySF (plainFor_of_name (by first | (simp [plainName, overriddenIn]; done) | decide +kernel)) hisR ?_
  intro p e s m args below meth c s₁ Bd hml0 hP hK
  obtain ⟨rfl, hZ0', hh, hC0⟩ := hP
  have hx := Bd.exec
  have hby := Bd.bytes
  have hml : c.maxLocals = 1 := hml0
  have hZ0 : Z.Warmed39 (s.setVm s.vm).vm := hZ0'
  have hown0 : (s.setVm s.vm).vm.findClass "com/example/hierarchy_grants/hierarchygrants/Subject" = some m.cls := findClass_of_methodNamed Bd.named
  have hnm := (name_of_methodNamed Bd.named Bd.method).1
  have hlk : meth.locks = false := Bd.notSynchronized
  have X0 : Stand p l e ({ frames := 3, cells := 5, slots := 34, locals := 39 } : Room) (s.setVm s.vm) m #[(.ref a1)] below meth c s₁ [] 0 0 := Stand.of_body Bd
  have e0 : s₁.heap = h0 := by rw [← hh, Bd.state]; rfl
  have hS0 : s.Since s.vm s.heap.size := (State.WarmedH.refl s).since _
  have hk0 : s.heap.size ≤ h0.size := by rw [hh]; exact Nat.le_refl _
  have CR0 : CHr Z EL s.vm s.heap s.vm h0 := by rw [hh]; exact CHr.refl hC0
  have N0 := Fr.nil Z.heap.size
  have KP0 : Keep h0 h0 ([] : List Addr) := Keep.refl _ _
  show Go p e below (fun t o => ∃ v L, o = .returned v ∧ Q_rm_user Z a1 ku h0 v t.heap L ∧ CHr Z EL s.vm s.heap t.vm t.heap ∧ ReturnedEndW s o t L ({ frames := 3, cells := 5, slots := 34, locals := 39 } : Room).cells ({ frames := 3, cells := 5, slots := 34, locals := 39 } : Room).slots) (s₁.setTop (entryFrame m #[(.ref a1)] 1))
  refine Go.on (w := s₁.setTop (mkF m 0 #[rv a1] [])) (fun t k => castTop (ef_rm_user m a1) k) ?_
  obtain ⟨T41, h41, X41, e41, E41, A41, D41, -, st41⟩ := newO X0 hx hZ0 hown0 (w_26 hw) (w_27 hw) (w_24 hw) e0 (g := (mkF m 0 #[rv a1] [])) rfl (hb hby d6_0) (by decide) (by decide)
  obtain ⟨b41, g41⟩ : ∃ z, z = h0.size := ⟨_, rfl⟩
  rw [← g41] at A41 D41 st41
  have u41 : h41.size > b41 := A41.lt
  have z41 : h0.size ≤ h41.size := E41.1
  have CR41 := CR0.trans (CHr.ext E41 CR0.1)
  have KP41 : Keep h0 h41 ([] : List Addr) := KP0.ext E41
  have Fn41_47 : Fld Z h41 b41 "com/example/hierarchy_grants/hierarchygrants/Subject" "kind" "Lcom/example/hierarchy_grants/hierarchygrants/Subject$Kind;" .null := D41 (Or.inr (w_47 hw)) (ty := (.object "com/example/hierarchy_grants/hierarchygrants/Subject$Kind")) (by decide)
  have Fn41_49 : Fld Z h41 b41 "com/example/hierarchy_grants/hierarchygrants/Subject" "id" "Ljava/lang/String;" .null := D41 (Or.inr (w_49 hw)) (ty := (.object "java/lang/String")) (by decide)
  have F43 := (OL.ext E41)
  obtain ⟨T42, X42, e42, st42⟩ := getS2 X41 hx hZ0 hown0 (host := "") (Or.inl (w_69 hw)) Via.refl e41 (O7.ext F43.2) (g := (mkF m 4 #[rv a1] [(.ref b41), (.ref b41)])) rfl (hb hby d6_4)
  obtain ⟨v44, _, ⟨T44, L44, k44, n44⟩, -, X44', hs44, hg44, ⟨Lc44, hQ44, l44, y44, z44, C44⟩, st44⟩ := X42.specialBackS hx (y := (⟨"com/example/hierarchy_grants/hierarchygrants/Subject", "<init>", "(Lcom/example/hierarchy_grants/hierarchygrants/Subject$Kind;Ljava/lang/String;)V"⟩ : MethodName)) rfl hown0 (mvT hZ0 (w_31 hw)) (mvT hZ0 (w_32 hw)) (mvT hZ0 (w_33 hw)) (by decide) (backOfSH (s := s) (W := 1) (rmInit l Z a0 hw [] b41 ku a1 h41 hEL (by omega) (by omega) A41 Fn41_47 Fn41_49) hZ0 (w_33 hw) (w_24 hw) (by decide) (by decide) hEL CR41.1) (g := (mkF m 8 #[rv a1] [(.ref a1), (.ref ku), (.ref b41), (.ref b41)])) rfl (by rw [hml]; rfl) (Steps.refl _) (a := b41) (argsL := [(.ref ku), (.ref a1)]) (rest := [(.ref b41)]) (lenOf pd_3 rfl) rfl (by show 2 * 0 + _ ≤ _; exact Nat.le_of_eq rfl) (hb hby d6_8) (fun _ _ => ⟨rfl, e42, (by decide : 1 + 4 ≤ _), (by decide : 2 + 32 ≤ _)⟩)
  dsimp only [Pt.U, Pt.locs, Pt.cells, Pt.slots] at X44' l44 y44 z44 st44 hQ44 hs44 hg44 C44
  subst l44 y44 z44
  obtain ⟨X44, hS44, hZ44, hown44⟩ := rebS hS0 (n1 := T42.heap.size) (by rw [e42]; omega) X44' hs44 hg44 hZ0 hown0
  have hj44 : T44.heap.size ≤ T44.heap.size := Nat.le_refl _
  obtain ⟨rfl, Nq44, K44, f44_0, f44_1, f44_2⟩ := hQ44
  have N44 := Fr.app N0 Nq44
  have eK44 : T44.heap = T44.heap := rfl
  have CR44 := CR41.trans C44
  have z44 : h41.size ≤ T44.heap.size := K44.1
  have KP44 : Keep h0 T44.heap ([] : List Addr) := KP41.trans K44 (allS (P := fun x => x ∈ ([] : List Addr) ∨ h0.size ≤ x) (Or.inr (by omega)) all0)
  refine Go.on (w := T44.setTop (mkF m 11 #[rv a1] [(.ref b41)])) (fun t k => st41 _ (XS.dup X41.here hx rfl (hb hby d6_3) rfl rfl (st42 _ (XS.aloadN X42.here hx rfl (hb hby d6_7) rfl rfl (st44.trans k))))) ?_
  have CE45 := CR44.trans (CHv.at X44 hZ44 hEL CR44.1)
  refine Go.fin X44 hS44 (by rw [eK44]; omega) hlk (v := some (.ref b41)) (fun h => by rw [Bd.returns] at h; cases h) (fun fs hr => ?_) (endP (Q := Q_rm_user Z a1 ku h0) (by rw [eK44]; exact ⟨b41, rfl, N44, KP44, (by omega), f44_0, f44_1, f44_2⟩) (by rw [eK44]; exact CE45) (by decide) (by decide))
  exact retOut X44 hx Bd.returns rfl (Or.inr (Or.inr (Or.inr (Or.inr ⟨rfl, rfl, rfl⟩)))) (hb hby d6_11) hr
def Q_rm_kind (Z : State) (a1 : Addr) (a2 : Addr) (h0 : Heap) (vv : Option Value) (h : Heap) (L : List Loc) : Prop := vv = some (.ref a2) ∧ Fr Z.heap.size L ∧ h = h0
theorem ef_rm_kind (m : MethodId) (x0 : Addr)   : entryFrame m #[(.ref x0)] 1 = mkF m 0 #[.val (.ref x0)] [] := by first | rfl | (simp [entryFrame, mkF, argsToLocals, Value.category]; done)
set_option maxRecDepth 65536 in
set_option maxHeartbeats 40000000 in
theorem rm_kind (l : Launch) (Z : State) (a0 : Array Value) (hw : ∀ d ∈ tables_1, d.before a0 Z = true) (ws : List Jvm.Cond) (a1 : Addr) (a2 : Addr) (h0 : Heap) (F1 : Fld Z h0 a1 "com/example/hierarchy_grants/hierarchygrants/Subject" "kind" "Lcom/example/hierarchy_grants/hierarchygrants/Subject$Kind;" (.ref a2)) :
    MetFree l (⟨"com/example/hierarchy_grants/hierarchygrants/Subject", "kind", "()Lcom/example/hierarchy_grants/hierarchygrants/Subject$Kind;"⟩ : MethodName) (head1 (Jvm.Cond.code (⟨"com/example/hierarchy_grants/hierarchygrants/Subject", "kind", "()Lcom/example/hierarchy_grants/hierarchygrants/Subject$Kind;"⟩ : MethodName) prog_22_method_7_code 1 (some (.object "com/example/hierarchy_grants/hierarchygrants/Subject$Kind")) :: ws) ({ frames := 0, cells := 0, slots := 0, locals := 0 } : Room)) (fun a U => a = #[(.ref a1)] ∧ Z.Warmed39 U.vm ∧ U.heap = h0) (fun _ _ _ _ _ => True) (fun _ U o U' => ∃ v L, o = .returned v ∧ Q_rm_kind Z a1 a2 h0 v U'.heap L ∧ FrameEnd U o U' L ({ frames := 0, cells := 0, slots := 0, locals := 0 } : Room).cells ({ frames := 0, cells := 0, slots := 0, locals := 0 } : Room).slots) := by
  refine MetFree.of_bodySF (plainFor_of_name (by first | (simp [plainName, overriddenIn]; done) | decide +kernel)) hisR ?_
  intro p e s m args below meth c s₁ Bd hml0 hP hK
  obtain ⟨rfl, hZ0', hh⟩ := hP
  have hx := Bd.exec
  have hby := Bd.bytes
  have hml : c.maxLocals = 1 := hml0
  have hZ0 : Z.Warmed39 s.vm := hZ0'
  have hown0 : s.vm.findClass "com/example/hierarchy_grants/hierarchygrants/Subject" = some m.cls := findClass_of_methodNamed Bd.named
  have hnm := (name_of_methodNamed Bd.named Bd.method).1
  have hlk : meth.locks = false := Bd.notSynchronized
  have X0 : Stand p l e ({ frames := 0, cells := 0, slots := 0, locals := 0 } : Room) s m #[(.ref a1)] below meth c s₁ [] 0 0 := Stand.of_body Bd
  have e0 : s₁.heap = h0 := by rw [← hh, Bd.state]; rfl
  have N0 := Fr.nil Z.heap.size
  have KP0 : Keep h0 h0 ([] : List Addr) := Keep.refl _ _
  show Go p e below (fun t o => ∃ v L, o = .returned v ∧ Q_rm_kind Z a1 a2 h0 v t.heap L ∧ FrameEnd s o t L ({ frames := 0, cells := 0, slots := 0, locals := 0 } : Room).cells ({ frames := 0, cells := 0, slots := 0, locals := 0 } : Room).slots) (s₁.setTop (entryFrame m #[(.ref a1)] 1))
  refine Go.on (w := s₁.setTop (mkF m 0 #[rv a1] [])) (fun t k => castTop (ef_rm_kind m a1) k) ?_
  obtain ⟨T46, X46, e46, st46⟩ := getF X0 hx hZ0 hown0 (host := "") (Or.inl (w_46 hw)) Via.refl e0 F1 (g := (mkF m 1 #[rv a1] [(.ref a1)])) rfl rfl (hb hby d7_1)
  refine Go.on (w := T46.setTop (mkF m 4 #[rv a1] [(.ref a2)])) (fun t k => XS.aloadN X0.here hx rfl (hb hby d7_0) rfl rfl (st46 _ k)) ?_
  refine Go.finH X46 hlk (v := some (.ref a2)) (fun h => by rw [Bd.returns] at h; cases h) (fun fs hr => ?_) (endH (Q := Q_rm_kind Z a1 a2 h0) (by rw [e46]; exact ⟨rfl, N0, rfl⟩) (by decide) (by decide))
  exact retOut X46 hx Bd.returns rfl (Or.inr (Or.inr (Or.inr (Or.inr ⟨rfl, rfl, rfl⟩)))) (hb hby d7_4) hr
def Q_rm_id (Z : State) (a1 : Addr) (a2 : Addr) (h0 : Heap) (vv : Option Value) (h : Heap) (L : List Loc) : Prop := vv = some (.ref a2) ∧ Fr Z.heap.size L ∧ h = h0
theorem ef_rm_id (m : MethodId) (x0 : Addr)   : entryFrame m #[(.ref x0)] 1 = mkF m 0 #[.val (.ref x0)] [] := by first | rfl | (simp [entryFrame, mkF, argsToLocals, Value.category]; done)
set_option maxRecDepth 65536 in
set_option maxHeartbeats 40000000 in
theorem rm_id (l : Launch) (Z : State) (a0 : Array Value) (hw : ∀ d ∈ tables_1, d.before a0 Z = true) (ws : List Jvm.Cond) (a1 : Addr) (a2 : Addr) (h0 : Heap) (F1 : Fld Z h0 a1 "com/example/hierarchy_grants/hierarchygrants/Subject" "id" "Ljava/lang/String;" (.ref a2)) :
    MetFree l (⟨"com/example/hierarchy_grants/hierarchygrants/Subject", "id", "()Ljava/lang/String;"⟩ : MethodName) (head1 (Jvm.Cond.code (⟨"com/example/hierarchy_grants/hierarchygrants/Subject", "id", "()Ljava/lang/String;"⟩ : MethodName) prog_22_method_8_code 1 (some (.object "java/lang/String")) :: ws) ({ frames := 0, cells := 0, slots := 0, locals := 0 } : Room)) (fun a U => a = #[(.ref a1)] ∧ Z.Warmed39 U.vm ∧ U.heap = h0) (fun _ _ _ _ _ => True) (fun _ U o U' => ∃ v L, o = .returned v ∧ Q_rm_id Z a1 a2 h0 v U'.heap L ∧ FrameEnd U o U' L ({ frames := 0, cells := 0, slots := 0, locals := 0 } : Room).cells ({ frames := 0, cells := 0, slots := 0, locals := 0 } : Room).slots) := by
  refine MetFree.of_bodySF (plainFor_of_name (by first | (simp [plainName, overriddenIn]; done) | decide +kernel)) hisR ?_
  intro p e s m args below meth c s₁ Bd hml0 hP hK
  obtain ⟨rfl, hZ0', hh⟩ := hP
  have hx := Bd.exec
  have hby := Bd.bytes
  have hml : c.maxLocals = 1 := hml0
  have hZ0 : Z.Warmed39 s.vm := hZ0'
  have hown0 : s.vm.findClass "com/example/hierarchy_grants/hierarchygrants/Subject" = some m.cls := findClass_of_methodNamed Bd.named
  have hnm := (name_of_methodNamed Bd.named Bd.method).1
  have hlk : meth.locks = false := Bd.notSynchronized
  have X0 : Stand p l e ({ frames := 0, cells := 0, slots := 0, locals := 0 } : Room) s m #[(.ref a1)] below meth c s₁ [] 0 0 := Stand.of_body Bd
  have e0 : s₁.heap = h0 := by rw [← hh, Bd.state]; rfl
  have N0 := Fr.nil Z.heap.size
  have KP0 : Keep h0 h0 ([] : List Addr) := Keep.refl _ _
  show Go p e below (fun t o => ∃ v L, o = .returned v ∧ Q_rm_id Z a1 a2 h0 v t.heap L ∧ FrameEnd s o t L ({ frames := 0, cells := 0, slots := 0, locals := 0 } : Room).cells ({ frames := 0, cells := 0, slots := 0, locals := 0 } : Room).slots) (s₁.setTop (entryFrame m #[(.ref a1)] 1))
  refine Go.on (w := s₁.setTop (mkF m 0 #[rv a1] [])) (fun t k => castTop (ef_rm_id m a1) k) ?_
  obtain ⟨T47, X47, e47, st47⟩ := getF X0 hx hZ0 hown0 (host := "") (Or.inl (w_48 hw)) Via.refl e0 F1 (g := (mkF m 1 #[rv a1] [(.ref a1)])) rfl rfl (hb hby d8_1)
  refine Go.on (w := T47.setTop (mkF m 4 #[rv a1] [(.ref a2)])) (fun t k => XS.aloadN X0.here hx rfl (hb hby d8_0) rfl rfl (st47 _ k)) ?_
  refine Go.finH X47 hlk (v := some (.ref a2)) (fun h => by rw [Bd.returns] at h; cases h) (fun fs hr => ?_) (endH (Q := Q_rm_id Z a1 a2 h0) (by rw [e47]; exact ⟨rfl, N0, rfl⟩) (by decide) (by decide))
  exact retOut X47 hx Bd.returns rfl (Or.inr (Or.inr (Or.inr (Or.inr ⟨rfl, rfl, rfl⟩)))) (hb hby d8_4) hr
def Q_rmEqs (Z : State) (a1 : Addr) (h0 : Heap) (vv : Option Value) (h : Heap) (L : List Loc) : Prop := vv = some (.int 1) ∧ Fr Z.heap.size L ∧ h = h0
theorem ef_rmEqs (m : MethodId) (x0 : Addr) (x1 : Addr)   : entryFrame m #[(.ref x0), (.ref x1)] 3 = mkF m 0 #[.val (.ref x0), .val (.ref x1), .unset] [] := by first | rfl | (simp [entryFrame, mkF, argsToLocals, Value.category]; done)
set_option maxRecDepth 65536 in
set_option maxHeartbeats 40000000 in
theorem rmEqs (l : Launch) (Z : State) (a0 : Array Value) (hw : ∀ d ∈ tables_1, d.before a0 Z = true) (ws : List Jvm.Cond) (a1 : Addr) (h0 : Heap) :
    MetFree l (⟨"java/lang/String", "equals", "(Ljava/lang/Object;)Z"⟩ : MethodName) (head1 (Jvm.Cond.code (⟨"java/lang/String", "equals", "(Ljava/lang/Object;)Z"⟩ : MethodName) jdk_42_method_66_code 3 (some .boolean) :: ws) ({ frames := 0, cells := 0, slots := 0, locals := 0 } : Room)) (fun a U => a = #[(.ref a1), (.ref a1)] ∧ Z.Warmed39 U.vm ∧ U.heap = h0) (fun _ _ _ _ _ => True) (fun _ U o U' => ∃ v L, o = .returned v ∧ Q_rmEqs Z a1 h0 v U'.heap L ∧ FrameEnd U o U' L ({ frames := 0, cells := 0, slots := 0, locals := 0 } : Room).cells ({ frames := 0, cells := 0, slots := 0, locals := 0 } : Room).slots) := by
  refine MetFree.of_bodySF (plainFor_of_name (by first | (simp [plainName, overriddenIn]; done) | decide +kernel)) hisR ?_
  intro p e s m args below meth c s₁ Bd hml0 hP hK
  obtain ⟨rfl, hZ0', hh⟩ := hP
  have hx := Bd.exec
  have hby := Bd.bytes
  have hml : c.maxLocals = 3 := hml0
  have hZ0 : Z.Warmed39 s.vm := hZ0'
  have hown0 : s.vm.findClass "java/lang/String" = some m.cls := findClass_of_methodNamed Bd.named
  have hnm := (name_of_methodNamed Bd.named Bd.method).1
  have hlk : meth.locks = false := Bd.notSynchronized
  have X0 : Stand p l e ({ frames := 0, cells := 0, slots := 0, locals := 0 } : Room) s m #[(.ref a1), (.ref a1)] below meth c s₁ [] 0 0 := Stand.of_body Bd
  have e0 : s₁.heap = h0 := by rw [← hh, Bd.state]; rfl
  have N0 := Fr.nil Z.heap.size
  have KP0 : Keep h0 h0 ([] : List Addr) := Keep.refl _ _
  show Go p e below (fun t o => ∃ v L, o = .returned v ∧ Q_rmEqs Z a1 h0 v t.heap L ∧ FrameEnd s o t L ({ frames := 0, cells := 0, slots := 0, locals := 0 } : Room).cells ({ frames := 0, cells := 0, slots := 0, locals := 0 } : Room).slots) (s₁.setTop (entryFrame m #[(.ref a1), (.ref a1)] 3))
  refine Go.on (w := s₁.setTop (mkF m 0 #[rv a1, rv a1, .unset] [])) (fun t k => castTop (ef_rmEqs m a1 a1) k) ?_
  refine Go.on (w := s₁.setTop (mkF m 6 #[rv a1, rv a1, .unset] [(.int 1)])) (fun t k => XS.aloadN X0.here hx rfl (hb hby d9_0) rfl rfl (XS.aloadN X0.here hx rfl (hb hby d9_1) rfl rfl (Jvm.RoadKit.acmp (g := (mkF m 2 #[rv a1, rv a1, .unset] [(.ref a1), (.ref a1)])) X0 hx rfl rfl rfl (pc0 := 2) (pc' := 5) (same := true) rfl (hb hby d9_2) rfl (decide_eq_true rfl) (by decide) (by decide) (XS.iconst X0.here hx rfl (hb hby d9_5) k)))) ?_
  refine Go.finH X0 hlk (v := some (.int 1)) (fun h => by rw [Bd.returns] at h; cases h) (fun fs hr => ?_) (endH (Q := Q_rmEqs Z a1 h0) (by rw [e0]; exact ⟨rfl, N0, rfl⟩) (by decide) (by decide))
  exact retN X0 hx (t := .boolean) Bd.returns (by simp) (hb hby d9_6) hr
def Q_rm0 (Z : State) (p0 : Int32) (p1 : Int32) (p2 : Int32) (p3 : Int32) (G1 : Int32) (kg : Addr) (ku : Addr) (h0 : Heap) (vv : Option Value) (h : Heap) (L : List Loc) : Prop := vv = some (.int 1) ∧ Fr Z.heap.size L ∧ Keep h0 h []
theorem ef_rm0 (m : MethodId) (x0 : Int32) (x1 : Int32) (x2 : Int32) (x3 : Int32)   : entryFrame m #[(.int x0), (.int x1), (.int x2), (.int x3)] maxLocals = mkF m 0 #[.val (.int x0), .val (.int x1), .val (.int x2), .val (.int x3), .unset, .unset, .unset, .unset, .unset] [] := by first | (simp [entryFrame, mkF, argsToLocals, Value.category, maxLocals]; done) | rfl
set_option maxRecDepth 65536 in
set_option maxHeartbeats 40000000 in
theorem rm0 (l : Launch) (Z : State) (a0 : Array Value) (hw : ∀ d ∈ tables_1, d.before a0 Z = true) (ws : List Jvm.Cond) (p0 : Int32) (p1 : Int32) (p2 : Int32) (p3 : Int32) (G1 : Int32) (kg : Addr) (ku : Addr) (h0 : Heap) (hEL : EW Z a0 EL) (Z0 : Z.heap.size ≤ h0.size) (OL : Old Z Z.heap.size h0) (O2 : Sta Z Z.heap "java/lang/String" "COMPACT_STRINGS" "Z" (.int G1)) (P5 : ¬ (G1 = (0 : Int32))) (O6 : Sta Z Z.heap "com/example/hierarchy_grants/hierarchygrants/Subject$Kind" "GROUP" "Lcom/example/hierarchy_grants/hierarchygrants/Subject$Kind;" (.ref kg)) (O7 : Sta Z Z.heap "com/example/hierarchy_grants/hierarchygrants/Subject$Kind" "USER" "Lcom/example/hierarchy_grants/hierarchygrants/Subject$Kind;" (.ref ku)) (hne : ¬ (ku = kg)) :
    MetFree l x (head1 (Jvm.Cond.code x code maxLocals ret :: ws) room_1) (fun a U => a = #[(.int p0), (.int p1), (.int p2), (.int p3)] ∧ Z.Warmed39 U.vm ∧ U.heap = h0 ∧ CHv Z EL U.vm h0) (fun _ _ _ _ _ => True) (fun _ U o U' => ∃ v L, o = .returned v ∧ Q_rm0 Z p0 p1 p2 p3 G1 kg ku h0 v U'.heap L ∧ CHr Z EL U.vm U.heap U'.vm U'.heap ∧ ReturnedEndW U o U' L room_1.cells room_1.slots) := by
  refine MetFree.of_bodySF (plainFor_of_name (by first | (simp [plainName, overriddenIn]; done) | decide +kernel)) hisR ?_
  intro p e s m args below meth c s₁ Bd hml0 hP hK
  obtain ⟨rfl, hZ0', hh, hC0⟩ := hP
  have hx := Bd.exec
  have hby := Bd.bytes
  have hml : c.maxLocals = 9 := hml0
  have hZ0 : Z.Warmed39 (s.setVm s.vm).vm := hZ0'
  have hown0 : (s.setVm s.vm).vm.findClass "com/example/hierarchy_grants/hierarchygrants/SubjectGroupPinLaw" = some m.cls := findClass_of_methodNamed Bd.named
  have hnm := (name_of_methodNamed Bd.named Bd.method).1
  have hlk : meth.locks = false := Bd.notSynchronized
  have X0 : Stand p l e room_1 (s.setVm s.vm) m #[(.int p0), (.int p1), (.int p2), (.int p3)] below meth c s₁ [] 0 0 := Stand.of_body Bd
  have e0 : s₁.heap = h0 := by rw [← hh, Bd.state]; rfl
  have hS0 : s.Since s.vm s.heap.size := (State.WarmedH.refl s).since _
  have hk0 : s.heap.size ≤ h0.size := by rw [hh]; exact Nat.le_refl _
  have CR0 : CHr Z EL s.vm s.heap s.vm h0 := by rw [hh]; exact CHr.refl hC0
  have N0 := Fr.nil Z.heap.size
  have KP0 : Keep h0 h0 ([] : List Addr) := Keep.refl _ _
  show Go p e below (fun t o => ∃ v L, o = .returned v ∧ Q_rm0 Z p0 p1 p2 p3 G1 kg ku h0 v t.heap L ∧ CHr Z EL s.vm s.heap t.vm t.heap ∧ ReturnedEndW s o t L room_1.cells room_1.slots) (s₁.setTop (entryFrame m #[(.int p0), (.int p1), (.int p2), (.int p3)] maxLocals))
  refine Go.on (w := s₁.setTop (mkF m 0 #[iv p0, iv p1, iv p2, iv p3, .unset, .unset, .unset, .unset, .unset] [])) (fun t k => castTop (ef_rm0 m p0 p1 p2 p3) k) ?_
  obtain ⟨c1, hc1, l1, r1⟩ := own_chr p1
  obtain ⟨c2, hc2, l2, r2⟩ := own_chr p2
  obtain ⟨c3, hc3, l3, r3⟩ := own_chr p3
  rcases own_and3 p0 with hn | hn | hn | hn
  ·
    refine Go.on (w := s₁.setTop (mkF m 2 #[iv p0, iv p1, iv p2, iv p3, .unset, .unset, .unset, .unset, .unset] [(.int 3), (.int p0)])) (fun t k => XS.iloadN X0.here hx rfl (hb hby at_0) rfl (XS.iconst X0.here hx rfl (hb hby at_1) k)) ?_
    refine Go.on (w := s₁.setTop (mkF m 3 #[iv p0, iv p1, iv p2, iv p3, .unset, .unset, .unset, .unset, .unset] [(.int 0)])) (fun t k => XS.iand X0.here hx rfl (hb hby at_2) rfl (by rw [(hn : (p0 &&& (3 : Int32)) = (0 : Int32))]; exact k)) ?_
    obtain ⟨T48, h48, k48, X48, e48, E48, A48, st48⟩ := newP (aty := .char) X0 hx hZ0 (w_0 hw) e0 (g := (mkF m 11 #[iv p0, iv p1, iv p2, iv p3, iv 0, .unset, .unset, .unset, .unset] [(.int 0)])) rfl (hb hby at_11) rfl (by decide : ¬ ((0 : Int32) < (0 : Int32))) (cap := 0) (by decide) (by decide) (by decide) (by decide)
    obtain ⟨b48, g48⟩ : ∃ z, z = h0.size := ⟨_, rfl⟩
    rw [← g48] at A48 st48
    have V48 : Arv Z h48 b48 k48 .char (0 : Int32) [] (.int 0) := (Arv.new A48 (by decide : ¬ ((0 : Int32) < (0 : Int32)))).pad (pad_rep [] (.int 0) 0)
    have u48 : h48.size > b48 := V48.lt
    have z48 : h0.size ≤ h48.size := E48.1
    have CR48 := CR0.trans (CHr.ext E48 CR0.1)
    have KP48 : Keep h0 h48 ([] : List Addr) := KP0.ext E48
    obtain ⟨T49, h49, X49, e49, E49, A49, D49, -, st49⟩ := newO X48 hx hZ0 hown0 (w_1 hw) (w_2 hw) (w_3 hw) e48 (g := (mkF m 105 #[iv p0, iv p1, iv p2, iv p3, iv 0, rv b48, .unset, .unset, .unset] [])) rfl (hb hby at_105) (by decide) (by decide)
    obtain ⟨b49, g49⟩ : ∃ z, z = h48.size := ⟨_, rfl⟩
    rw [← g49] at A49 D49 st49
    have u49 : h49.size > b49 := A49.lt
    have z49 : h48.size ≤ h49.size := E49.1
    have CR49 := CR48.trans (CHr.ext E49 CR48.1)
    have KP49 : Keep h0 h49 ([] : List Addr) := KP48.ext E49
    have Fn49_16 : Fld Z h49 b49 "java/lang/String" "value" "[B" .null := D49 (Or.inr (w_16 hw)) (ty := (.array .byte)) (by decide)
    have Fn49_17 : Fld Z h49 b49 "java/lang/String" "coder" "B" (.int 0) := D49 (Or.inr (w_17 hw)) (ty := .byte) (by decide)
    have F51 := (V48.ext E49)
    obtain ⟨v50, _, ⟨T50, L50, k50, n50⟩, -, X50', hs50, hg50, ⟨Lc50, hQ50, l50, y50, z50, C50⟩, st50⟩ := X49.specialBackS hx (y := (⟨"java/lang/String", "<init>", "([C)V"⟩ : MethodName)) rfl hown0 (mvT hZ0 (w_4 hw)) (mvT hZ0 (w_5 hw)) (mvT hZ0 (w_6 hw)) (by decide) (backOfSH (s := s) (W := 1) (rmNew1 l Z a0 hw [] b49 b48 k48 h49 hEL (by omega) (by omega) A49 Fn49_17 Fn49_16 F51) hZ0 (w_6 hw) (w_3 hw) (by decide) (by decide) hEL CR49.1) (g := (mkF m 111 #[iv p0, iv p1, iv p2, iv p3, iv 0, rv b48, .unset, .unset, .unset] [(.ref b48), (.ref b49), (.ref b49)])) rfl (by rw [hml]; rfl) (Steps.refl _) (a := b49) (argsL := [(.ref b48)]) (rest := [(.ref b49)]) (lenOf pd_4 rfl) rfl (by show 2 * 0 + _ ≤ _; exact Nat.le_of_eq rfl) (hb hby at_111) (fun _ _ => ⟨rfl, e49, (by decide : 2 + 4 ≤ _), (by decide : 4 + 8 ≤ _)⟩)
    dsimp only [Pt.U, Pt.locs, Pt.cells, Pt.slots] at X50' l50 y50 z50 st50 hQ50 hs50 hg50 C50
    subst l50 y50 z50
    obtain ⟨X50, hS50, hZ50, hown50⟩ := rebS hS0 (n1 := T49.heap.size) (by rw [e49]; omega) X50' hs50 hg50 hZ0 hown0
    have hj50 : T50.heap.size ≤ T50.heap.size := Nat.le_refl _
    obtain ⟨t_50, kb_50, rfl, Nq50, K50, f50_0, f50_1, f50_2, f50_3⟩ := hQ50
    have N50 := Fr.app N0 Nq50
    have eK50 : T50.heap = T50.heap := rfl
    have CR50 := CR49.trans C50
    have z50 : h49.size ≤ T50.heap.size := K50.1
    have KP50 : Keep h0 T50.heap ([] : List Addr) := KP49.trans K50 (allS (P := fun x => x ∈ ([] : List Addr) ∨ h0.size ≤ x) (Or.inr (by omega)) all0)
    have u50_3 : T50.heap.size > t_50 := f50_3.lt
    have F53 := (((OL.ext E48).ext E49).keep K50 (allS (by omega) all0))
    obtain ⟨v52, _, ⟨T52, L52, k52, n52⟩, -, X52', hs52, hg52, ⟨Lc52, hQ52, l52, y52, z52, C52⟩, st52⟩ := callSS X50 hx (y := (⟨"com/example/hierarchy_grants/hierarchygrants/Subject", "group", "(Ljava/lang/String;)Lcom/example/hierarchy_grants/hierarchygrants/Subject;"⟩ : MethodName)) hown50 (mvT hZ50 (w_22 hw)) (mvT hZ50 (w_23 hw)) (mvT hZ50 (w_24 hw)) (mvT hZ50 (w_25 hw)) (by decide) (backOfSH (s := s) (W := 0) (rm_group l Z a0 hw [] b49 kg T50.heap hEL (by omega) F53 O6) hZ50 (w_25 hw) (w_24 hw) (by decide) (by decide) hEL CR50.1) (g := (mkF m 118 #[iv p0, iv p1, iv p2, iv p3, iv 0, rv b48, rv b49, .unset, .unset] [(.ref b49)])) rfl (by rw [hml]; rfl) (argsL := [(.ref b49)]) (rest := []) (lenOf pd_5 rfl) rfl (by show 2 * 0 + _ ≤ _; exact Nat.le_of_eq rfl) (hb hby at_118) (fun _ _ => ⟨rfl, eK50, (by decide : 6 + 5 ≤ _), (by decide : 12 + 34 ≤ _)⟩)
    dsimp only [Pt.U, Pt.locs, Pt.cells, Pt.slots] at X52' l52 y52 z52 st52 hQ52 hs52 hg52 C52
    subst l52 y52 z52
    obtain ⟨X52, hS52, hZ52, hown52⟩ := rebS hS50 (n1 := T50.heap.size) (by rw [eK50]; omega) X52' hs52 hg52 hZ50 hown50
    have hj52 : T52.heap.size ≤ T52.heap.size := Nat.le_refl _
    obtain ⟨r_52, rfl, Nq52, K52, f52_0, f52_1, f52_2, f52_3⟩ := hQ52
    have N52 := Fr.app N50 Nq52
    have eK52 : T52.heap = T52.heap := rfl
    have CR52 := CR50.trans C52
    have z52 : T50.heap.size ≤ T52.heap.size := K52.1
    have KP52 : Keep h0 T52.heap ([] : List Addr) := KP50.trans K52 all0
    have u52_1 : T52.heap.size > r_52 := f52_1.lt
    obtain ⟨cq54, kq54, q54a, q54b, q54c⟩ := isOf hZ52 eK52 f52_1
    obtain ⟨v54, _, ⟨T54, L54, k54, n54⟩, -, X54, ⟨Lc54, hQ54, l54, y54, z54⟩, st54⟩ := X52.virtualBack hx (y := (⟨"com/example/hierarchy_grants/hierarchygrants/Subject", "kind", "()Lcom/example/hierarchy_grants/hierarchygrants/Subject$Kind;"⟩ : MethodName)) (z := (⟨"com/example/hierarchy_grants/hierarchygrants/Subject", "kind", "()Lcom/example/hierarchy_grants/hierarchygrants/Subject$Kind;"⟩ : MethodName)) hown52 (mvT hZ52 (w_50 hw)) (mvT hZ52 (w_51 hw)) (notFace_of_selects (args := #[]) (mvT hZ52 (w_53 hw))) (mvT hZ52 (w_53 hw)) (mvT hZ52 (w_52 hw)) (by decide) (backOf (W := 0) (rm_kind l Z a0 hw [] r_52 kg T52.heap f52_2) hZ52 (w_54 hw) (w_24 hw) (by decide) (by decide)) q54a q54c (g := (mkF m 132 #[iv p0, iv p1, iv p2, iv p3, iv 0, rv b48, rv b49, rv r_52, .unset] [(.ref r_52)])) rfl (by rw [hml]; rfl) (Steps.refl _) (argsL := []) (rest := []) (lenOf pd_6 rfl) rfl (by show 2 * 0 + _ ≤ _; exact Nat.le_of_eq rfl) (hb hby at_132) (fun _ _ => ⟨rfl, eK52, (by decide : 11 + 0 ≤ _), (by decide : 46 + 0 ≤ _)⟩)
    dsimp only [Pt.U, Pt.locs, Pt.cells, Pt.slots] at X54 l54 y54 z54 st54 hQ54
    subst l54 y54 z54
    obtain ⟨rfl, Nq54, eh54⟩ := hQ54
    have N54 := Fr.app N52 Nq54
    have F56 := (F53.keep K52 all0)
    obtain ⟨T55, X55, e55, st55⟩ := getS2 X54 hx hZ52 hown52 (host := "") (Or.inl (w_55 hw)) Via.refl eh54 (O6.ext F56.2) (g := (mkF m 135 #[iv p0, iv p1, iv p2, iv p3, iv 0, rv b48, rv b49, rv r_52, .unset] [(.ref kg)])) rfl (hb hby at_135)
    obtain ⟨cq57, kq57, q57a, q57b, q57c⟩ := isOf hZ52 e55 f52_1
    obtain ⟨v57, _, ⟨T57, L57, k57, n57⟩, -, X57, ⟨Lc57, hQ57, l57, y57, z57⟩, st57⟩ := X55.virtualBack hx (y := (⟨"com/example/hierarchy_grants/hierarchygrants/Subject", "id", "()Ljava/lang/String;"⟩ : MethodName)) (z := (⟨"com/example/hierarchy_grants/hierarchygrants/Subject", "id", "()Ljava/lang/String;"⟩ : MethodName)) hown52 (mvT hZ52 (w_56 hw)) (mvT hZ52 (w_57 hw)) (notFace_of_selects (args := #[]) (mvT hZ52 (w_59 hw))) (mvT hZ52 (w_59 hw)) (mvT hZ52 (w_58 hw)) (by decide) (backOf (W := 0) (rm_id l Z a0 hw [] r_52 b49 T52.heap f52_3) hZ52 (w_60 hw) (w_24 hw) (by decide) (by decide)) q57a q57c (g := (mkF m 145 #[iv p0, iv p1, iv p2, iv p3, iv 0, rv b48, rv b49, rv r_52, .unset] [(.ref r_52)])) rfl (by rw [hml]; rfl) (Steps.refl _) (argsL := []) (rest := []) (lenOf pd_7 rfl) rfl (by show 2 * 0 + _ ≤ _; exact Nat.le_of_eq rfl) (hb hby at_145) (fun _ _ => ⟨rfl, e55, (by decide : 11 + 0 ≤ _), (by decide : 46 + 0 ≤ _)⟩)
    dsimp only [Pt.U, Pt.locs, Pt.cells, Pt.slots] at X57 l57 y57 z57 st57 hQ57
    subst l57 y57 z57
    obtain ⟨rfl, Nq57, eh57⟩ := hQ57
    have N57 := Fr.app N54 Nq57
    have F59 := (f50_0.keep K52)
    obtain ⟨cq58, kq58, q58a, q58b, q58c⟩ := isOf hZ52 eh57 F59
    obtain ⟨v58, _, ⟨T58, L58, k58, n58⟩, -, X58, ⟨Lc58, hQ58, l58, y58, z58⟩, st58⟩ := X57.virtualBack hx (y := (⟨"java/lang/String", "equals", "(Ljava/lang/Object;)Z"⟩ : MethodName)) (z := (⟨"java/lang/String", "equals", "(Ljava/lang/Object;)Z"⟩ : MethodName)) hown52 (mvT hZ52 (w_61 hw)) (mvT hZ52 (w_62 hw)) (notFace_of_selects (args := #[]) (mvT hZ52 (w_64 hw))) (mvT hZ52 (w_64 hw)) (mvT hZ52 (w_63 hw)) (by decide) (backOf (W := 0) (rmEqs l Z a0 hw [] b49 T52.heap ) hZ52 (w_65 hw) (w_3 hw) (by decide) (by decide)) q58a q58c (g := (mkF m 150 #[iv p0, iv p1, iv p2, iv p3, iv 0, rv b48, rv b49, rv r_52, .unset] [(.ref b49), (.ref b49)])) rfl (by rw [hml]; rfl) (Steps.refl _) (argsL := [(.ref b49)]) (rest := []) (lenOf pd_8 rfl) rfl (by show 2 * 0 + _ ≤ _; exact Nat.le_of_eq rfl) (hb hby at_150) (fun _ _ => ⟨rfl, eh57, (by decide : 11 + 0 ≤ _), (by decide : 46 + 0 ≤ _)⟩)
    dsimp only [Pt.U, Pt.locs, Pt.cells, Pt.slots] at X58 l58 y58 z58 st58 hQ58
    subst l58 y58 z58
    obtain ⟨rfl, Nq58, eh58⟩ := hQ58
    have N58 := Fr.app N57 Nq58
    refine Go.on (w := T57.setTop (mkF m 150 #[iv p0, iv p1, iv p2, iv p3, iv 0, rv b48, rv b49, rv r_52, .unset] [(.ref b49), (.ref b49)])) (fun t k => XS.istore X0.here hx rfl (hb hby at_3) rfl (l' := #[iv p0, iv p1, iv p2, iv p3, iv 0, .unset, .unset, .unset, .unset]) rfl (XS.iload X0.here hx rfl (hb hby at_5) rfl (XS.ifNo X0.here hx rfl (hb hby at_7) rfl ((if0 _ _).trans (teq (by decide : (0 : Int32) = (0 : Int32))).2) (XS.iconst X0.here hx rfl (hb hby at_10) (st48 _ (XS.astore X48.here hx rfl (hb hby at_13) rfl rfl (l' := #[iv p0, iv p1, iv p2, iv p3, iv 0, rv b48, .unset, .unset, .unset]) rfl (XS.goto X48.here hx rfl (pc0 := 15) (pc' := 105) rfl (hb hby at_15) (by decide) (by decide) (st49 _ (XS.dup X49.here hx rfl (hb hby at_108) rfl rfl (XS.aload X49.here hx rfl (hb hby at_109) rfl rfl (st50.trans (XS.astore X50.here hx rfl (hb hby at_114) rfl rfl (l' := #[iv p0, iv p1, iv p2, iv p3, iv 0, rv b48, rv b49, .unset, .unset]) rfl (XS.aload X50.here hx rfl (hb hby at_116) rfl rfl (st52.trans (XS.astore X52.here hx rfl (hb hby at_121) rfl rfl (l' := #[iv p0, iv p1, iv p2, iv p3, iv 0, rv b48, rv b49, rv r_52, .unset]) rfl (XS.aload X52.here hx rfl (hb hby at_123) rfl rfl (XS.ifnonnullYes X52.here hx rfl (pc0 := 125) (pc' := 130) rfl (hb hby at_125) rfl (by decide) (by decide) (XS.aload X52.here hx rfl (hb hby at_130) rfl rfl (st54.trans (st55 _ (Jvm.RoadKit.acmp (g := (mkF m 138 #[iv p0, iv p1, iv p2, iv p3, iv 0, rv b48, rv b49, rv r_52, .unset] [(.ref kg), (.ref kg)])) X55 hx rfl rfl rfl (pc0 := 138) (pc' := 143) (same := true) rfl (hb hby at_138) rfl (decide_eq_true rfl) (by decide) (by decide) (XS.aload X55.here hx rfl (hb hby at_143) rfl rfl (st57.trans (XS.aload X57.here hx rfl (hb hby at_148) rfl rfl k)))))))))))))))))))))))) ?_
    refine Go.on (w := T58.setTop (mkF m 153 #[iv p0, iv p1, iv p2, iv p3, iv 0, rv b48, rv b49, rv r_52, .unset] [(.int 1)])) (fun t k => st58.trans k) ?_
    obtain ⟨v60, _, ⟨T60, L60, k60, n60⟩, -, X60', hs60, hg60, ⟨Lc60, hQ60, l60, y60, z60, C60⟩, st60⟩ := callSS X58 hx (y := (⟨"com/example/hierarchy_grants/hierarchygrants/Subject", "user", "(Ljava/lang/String;)Lcom/example/hierarchy_grants/hierarchygrants/Subject;"⟩ : MethodName)) hown52 (mvT hZ52 (w_66 hw)) (mvT hZ52 (w_67 hw)) (mvT hZ52 (w_24 hw)) (mvT hZ52 (w_68 hw)) (by decide) (backOfSH (s := s) (W := 0) (rm_user l Z a0 hw [] b49 ku T52.heap hEL (by omega) F56 O7) hZ52 (w_68 hw) (w_24 hw) (by decide) (by decide) hEL CR52.1) (g := (mkF m 160 #[iv p0, iv p1, iv p2, iv p3, iv 0, rv b48, rv b49, rv r_52, .unset] [(.ref b49)])) rfl (by rw [hml]; rfl) (argsL := [(.ref b49)]) (rest := []) (lenOf pd_5 rfl) rfl (by show 2 * 0 + _ ≤ _; exact Nat.le_of_eq rfl) (hb hby at_160) (fun _ _ => ⟨rfl, eh58, (by decide : 11 + 5 ≤ _), (by decide : 46 + 34 ≤ _)⟩)
    dsimp only [Pt.U, Pt.locs, Pt.cells, Pt.slots] at X60' l60 y60 z60 st60 hQ60 hs60 hg60 C60
    subst l60 y60 z60
    obtain ⟨X60, hS60, hZ60, hown60⟩ := rebS hS52 (n1 := T58.heap.size) (by rw [eh58]; omega) X60' hs60 hg60 hZ52 hown52
    have hj60 : T60.heap.size ≤ T60.heap.size := Nat.le_refl _
    obtain ⟨r_60, rfl, Nq60, K60, f60_0, f60_1, f60_2, f60_3⟩ := hQ60
    have N60 := Fr.app N58 Nq60
    have eK60 : T60.heap = T60.heap := rfl
    have CR60 := CR52.trans C60
    have z60 : T52.heap.size ≤ T60.heap.size := K60.1
    have KP60 : Keep h0 T60.heap ([] : List Addr) := KP52.trans K60 all0
    have u60_1 : T60.heap.size > r_60 := f60_1.lt
    obtain ⟨cq61, kq61, q61a, q61b, q61c⟩ := isOf hZ60 eK60 f60_1
    obtain ⟨v61, _, ⟨T61, L61, k61, n61⟩, -, X61, ⟨Lc61, hQ61, l61, y61, z61⟩, st61⟩ := X60.virtualBack hx (y := (⟨"com/example/hierarchy_grants/hierarchygrants/Subject", "kind", "()Lcom/example/hierarchy_grants/hierarchygrants/Subject$Kind;"⟩ : MethodName)) (z := (⟨"com/example/hierarchy_grants/hierarchygrants/Subject", "kind", "()Lcom/example/hierarchy_grants/hierarchygrants/Subject$Kind;"⟩ : MethodName)) hown60 (mvT hZ60 (w_50 hw)) (mvT hZ60 (w_51 hw)) (notFace_of_selects (args := #[]) (mvT hZ60 (w_53 hw))) (mvT hZ60 (w_53 hw)) (mvT hZ60 (w_52 hw)) (by decide) (backOf (W := 0) (rm_kind l Z a0 hw [] r_60 ku T60.heap f60_2) hZ60 (w_54 hw) (w_24 hw) (by decide) (by decide)) q61a q61c (g := (mkF m 167 #[iv p0, iv p1, iv p2, iv p3, iv 0, rv b48, rv b49, rv r_52, rv r_60] [(.ref r_60)])) rfl (by rw [hml]; rfl) (Steps.refl _) (argsL := []) (rest := []) (lenOf pd_6 rfl) rfl (by show 2 * 0 + _ ≤ _; exact Nat.le_of_eq rfl) (hb hby at_167) (fun _ _ => ⟨rfl, eK60, (by decide : 16 + 0 ≤ _), (by decide : 80 + 0 ≤ _)⟩)
    dsimp only [Pt.U, Pt.locs, Pt.cells, Pt.slots] at X61 l61 y61 z61 st61 hQ61
    subst l61 y61 z61
    obtain ⟨rfl, Nq61, eh61⟩ := hQ61
    have N61 := Fr.app N60 Nq61
    have F63 := (f52_2.keep K60 nin0)
    have F64 := (f52_1.keep K60)
    obtain ⟨cq62, kq62, q62a, q62b, q62c⟩ := isOf hZ60 eh61 F64
    obtain ⟨v62, _, ⟨T62, L62, k62, n62⟩, -, X62, ⟨Lc62, hQ62, l62, y62, z62⟩, st62⟩ := X61.virtualBack hx (y := (⟨"com/example/hierarchy_grants/hierarchygrants/Subject", "kind", "()Lcom/example/hierarchy_grants/hierarchygrants/Subject$Kind;"⟩ : MethodName)) (z := (⟨"com/example/hierarchy_grants/hierarchygrants/Subject", "kind", "()Lcom/example/hierarchy_grants/hierarchygrants/Subject$Kind;"⟩ : MethodName)) hown60 (mvT hZ60 (w_50 hw)) (mvT hZ60 (w_51 hw)) (notFace_of_selects (args := #[]) (mvT hZ60 (w_53 hw))) (mvT hZ60 (w_53 hw)) (mvT hZ60 (w_52 hw)) (by decide) (backOf (W := 1) (rm_kind l Z a0 hw [] r_52 kg T60.heap F63) hZ60 (w_54 hw) (w_24 hw) (by decide) (by decide)) q62a q62c (g := (mkF m 172 #[iv p0, iv p1, iv p2, iv p3, iv 0, rv b48, rv b49, rv r_52, rv r_60] [(.ref r_52), (.ref ku)])) rfl (by rw [hml]; rfl) (Steps.refl _) (argsL := []) (rest := [(.ref ku)]) (lenOf pd_6 rfl) rfl (by show 2 * 0 + _ ≤ _; exact Nat.le_of_eq rfl) (hb hby at_172) (fun _ _ => ⟨rfl, eh61, (by decide : 16 + 0 ≤ _), (by decide : 80 + 0 ≤ _)⟩)
    dsimp only [Pt.U, Pt.locs, Pt.cells, Pt.slots] at X62 l62 y62 z62 st62 hQ62
    subst l62 y62 z62
    obtain ⟨rfl, Nq62, eh62⟩ := hQ62
    have N62 := Fr.app N61 Nq62
    refine Go.on (w := T62.setTop (mkF m 183 #[iv p0, iv p1, iv p2, iv p3, iv 0, rv b48, rv b49, rv r_52, rv r_60] [(.int 1)])) (fun t k => XS.ifYes X58.here hx rfl (pc0 := 153) (pc' := 158) rfl (hb hby at_153) rfl ((if0 _ _).trans (feq (by decide : ¬ ((1 : Int32) = (0 : Int32)))).2) (by decide) (by decide) (XS.aload X58.here hx rfl (hb hby at_158) rfl rfl (st60.trans (XS.astore X60.here hx rfl (hb hby at_163) rfl rfl (l' := #[iv p0, iv p1, iv p2, iv p3, iv 0, rv b48, rv b49, rv r_52, rv r_60]) rfl (XS.aload X60.here hx rfl (hb hby at_165) rfl rfl (st61.trans (XS.aload X61.here hx rfl (hb hby at_170) rfl rfl (st62.trans (Jvm.RoadKit.acmp (g := (mkF m 175 #[iv p0, iv p1, iv p2, iv p3, iv 0, rv b48, rv b49, rv r_52, rv r_60] [(.ref kg), (.ref ku)])) X62 hx rfl rfl rfl (pc0 := 175) (pc' := 178) (same := false) rfl (hb hby at_175) rfl (decide_eq_false fun q => hne (Value.ref.inj q)) (by decide) (by decide) (XS.iconst X62.here hx rfl (hb hby at_178) (XS.goto X62.here hx rfl (pc0 := 179) (pc' := 183) rfl (hb hby at_179) (by decide) (by decide) k))))))))))) ?_
    have CE65 := CR60.trans (CHv.at X62 hZ60 hEL CR60.1)
    refine Go.fin X62 hS60 (by rw [eh62]; omega) hlk (v := some (.int 1)) (fun h => by rw [Bd.returns] at h; cases h) (fun fs hr => ?_) (endP (Q := Q_rm0 Z p0 p1 p2 p3 G1 kg ku h0) (by rw [eh62]; exact ⟨rfl, N62, KP60⟩) (by rw [eh62]; exact CE65) (by decide) (by decide))
    exact retN X62 hx (t := .boolean) Bd.returns (by simp) (hb hby at_183) hr
  ·
    refine Go.on (w := s₁.setTop (mkF m 2 #[iv p0, iv p1, iv p2, iv p3, .unset, .unset, .unset, .unset, .unset] [(.int 3), (.int p0)])) (fun t k => XS.iloadN X0.here hx rfl (hb hby at_0) rfl (XS.iconst X0.here hx rfl (hb hby at_1) k)) ?_
    refine Go.on (w := s₁.setTop (mkF m 3 #[iv p0, iv p1, iv p2, iv p3, .unset, .unset, .unset, .unset, .unset] [(.int 1)])) (fun t k => XS.iand X0.here hx rfl (hb hby at_2) rfl (by rw [(hn : (p0 &&& (3 : Int32)) = (1 : Int32))]; exact k)) ?_
    obtain ⟨T66, h66, k66, X66, e66, E66, A66, st66⟩ := newP (aty := .char) X0 hx hZ0 (w_0 hw) e0 (g := (mkF m 25 #[iv p0, iv p1, iv p2, iv p3, iv 1, .unset, .unset, .unset, .unset] [(.int 1)])) rfl (hb hby at_25) rfl (by decide : ¬ ((1 : Int32) < (0 : Int32))) (cap := 1) (by decide) (by decide) (by decide) (by decide)
    obtain ⟨b66, g66⟩ : ∃ z, z = h0.size := ⟨_, rfl⟩
    rw [← g66] at A66 st66
    have V66 : Arv Z h66 b66 k66 .char (1 : Int32) [(.int 0)] (.int 0) := (Arv.new A66 (by decide : ¬ ((1 : Int32) < (0 : Int32)))).pad (pad_rep [] (.int 0) 1)
    have u66 : h66.size > b66 := V66.lt
    have z66 : h0.size ≤ h66.size := E66.1
    have CR66 := CR0.trans (CHr.ext E66 CR0.1)
    have KP66 : Keep h0 h66 ([] : List Addr) := KP0.ext E66
    refine Go.on (w := T66.setTop (mkF m 34 #[iv p0, iv p1, iv p2, iv p3, iv 1, .unset, .unset, .unset, .unset] [(.int (p1 &&& (255 : Int32))), (.int 0), (.ref b66), (.ref b66)])) (fun t k => XS.istore X0.here hx rfl (hb hby at_3) rfl (l' := #[iv p0, iv p1, iv p2, iv p3, iv 1, .unset, .unset, .unset, .unset]) rfl (XS.iload X0.here hx rfl (hb hby at_5) rfl (XS.ifYes X0.here hx rfl (pc0 := 7) (pc' := 18) rfl (hb hby at_7) rfl ((if0 _ _).trans (feq (by decide : ¬ ((1 : Int32) = (0 : Int32)))).2) (by decide) (by decide) (XS.iload X0.here hx rfl (hb hby at_18) rfl (XS.iconst X0.here hx rfl (hb hby at_20) (XS.icmpNo X0.here hx rfl (hb hby at_21) rfl (teq (by decide : (1 : Int32) = (1 : Int32))).2 (XS.iconst X0.here hx rfl (hb hby at_24) (st66 _ (XS.dup X66.here hx rfl (hb hby at_27) rfl rfl (XS.iconst X66.here hx rfl (hb hby at_28) (XS.iloadN X66.here hx rfl (hb hby at_29) rfl (XS.sipush X66.here hx rfl (hb hby at_30) (XS.iand X66.here hx rfl (hb hby at_33) rfl k))))))))))))) ?_
    refine Go.on (w := T66.setTop (mkF m 35 #[iv p0, iv p1, iv p2, iv p3, iv 1, .unset, .unset, .unset, .unset] [(.int c1), (.int 0), (.ref b66), (.ref b66)])) (fun t k => XS.i2c X66.here hx rfl (hb hby at_34) rfl (by rw [(hc1 : ((p1 &&& (255 : Int32)).toUInt32.toUInt16.toUInt32.toInt32) = c1)]; exact k)) ?_
    obtain ⟨cl67, Ar67, q67, S67, M67, H67, U67⟩ := id V66
    obtain ⟨T67, h67, X67, e67, W67, st67⟩ := stC X66 hx hZ0 e66 Ar67 (j := (0 : Int32)) (inb_of S67 ⟨(by decide), (by decide)⟩) (g := (mkF m 35 #[iv p0, iv p1, iv p2, iv p3, iv 1, .unset, .unset, .unset, .unset] [(.int c1), (.int 0), (.ref b66), (.ref b66)])) rfl rfl (hb hby at_35)
    have V67 : Arv Z h67 b66 k66 .char (1 : Int32) [(.int c1)] (.int 0) := by rw [← (own_nar l1 r1 : nar .char c1 = c1)]; exact (Arv.set Ar67 q67 S67 M67 H67 U67 (fits_nar_char _) W67 0 rfl (Nat.le_of_ble_eq_true rfl))
    have CR67 := CR66.trans (CHr.wr W67 (Safe.arv hZ0.alike V66 (by decide)) CR66.1)
    have z67 : h66.size ≤ h67.size := Nat.le_of_eq W67.size.symm
    have KP67 : Keep h0 h67 ([] : List Addr) := KP66.wr W67 (Or.inr (by omega))
    have N67 := Fr.snoc X67 N0 (by omega)
    obtain ⟨T68, h68, X68, e68, E68, A68, D68, -, st68⟩ := newO X67 hx hZ0 hown0 (w_1 hw) (w_2 hw) (w_3 hw) e67 (g := (mkF m 105 #[iv p0, iv p1, iv p2, iv p3, iv 1, rv b66, .unset, .unset, .unset] [])) rfl (hb hby at_105) (by decide) (by decide)
    obtain ⟨b68, g68⟩ : ∃ z, z = h67.size := ⟨_, rfl⟩
    rw [← g68] at A68 D68 st68
    have u68 : h68.size > b68 := A68.lt
    have z68 : h67.size ≤ h68.size := E68.1
    have CR68 := CR67.trans (CHr.ext E68 CR67.1)
    have KP68 : Keep h0 h68 ([] : List Addr) := KP67.ext E68
    have Fn68_16 : Fld Z h68 b68 "java/lang/String" "value" "[B" .null := D68 (Or.inr (w_16 hw)) (ty := (.array .byte)) (by decide)
    have Fn68_17 : Fld Z h68 b68 "java/lang/String" "coder" "B" (.int 0) := D68 (Or.inr (w_17 hw)) (ty := .byte) (by decide)
    have F69 := (V67.ext E68)
    have F70 := (((OL.ext E66).wr W67 (by omega)).ext E68)
    refine Go.on (w := T68.setTop (mkF m 111 #[iv p0, iv p1, iv p2, iv p3, iv 1, rv b66, .unset, .unset, .unset] [(.ref b66), (.ref b68), (.ref b68)])) (fun t k => st67 _ (XS.astore X67.here hx rfl (hb hby at_36) rfl rfl (l' := #[iv p0, iv p1, iv p2, iv p3, iv 1, rv b66, .unset, .unset, .unset]) rfl (XS.goto X67.here hx rfl (pc0 := 38) (pc' := 105) rfl (hb hby at_38) (by decide) (by decide) (st68 _ (XS.dup X68.here hx rfl (hb hby at_108) rfl rfl (XS.aload X68.here hx rfl (hb hby at_109) rfl rfl k)))))) ?_
    have hp71 : ∀ c ∈ ([c1] : List Int32), ¬ c < 0 ∧ ¬ (255 : Int32) < c := by
      intro c hc
      simp only [List.mem_cons, List.not_mem_nil, or_false] at hc
      rcases hc with rfl
      · exact ⟨l1, r1⟩
    obtain ⟨v72, _, ⟨T72, L72, k72, n72⟩, -, X72, ⟨Lc72, hQ72, l72, y72, z72⟩, st72⟩ := X68.specialBack hx (y := (⟨"java/lang/String", "<init>", "([C)V"⟩ : MethodName)) rfl hown0 (mvT hZ0 (w_4 hw)) (mvT hZ0 (w_5 hw)) (mvT hZ0 (w_6 hw)) (by decide) (StrChars.Road.backV (W := 1) hZ0 (hStrW hw) (kI := 4) (w_2 hw) (cs := ([c1] : List Int32)) (bs := ([c1] : List Int32).map (fun c => c.toInt8.toInt32)) (n := 1) (n0 := Z.heap.size) (by omega) (by omega) A68 Fn68_16 Fn68_17 F69 (O2.ext F70.2) P5 rfl rfl (by decide) (by decide) hp71 rfl (by decide) (by decide)) (g := (mkF m 111 #[iv p0, iv p1, iv p2, iv p3, iv 1, rv b66, .unset, .unset, .unset] [(.ref b66), (.ref b68), (.ref b68)])) rfl (by rw [hml]; rfl) (Steps.refl _) (a := b68) (argsL := [(.ref b66)]) (rest := [(.ref b68)]) (lenOf pd_4 rfl) rfl (by show 2 * 0 + _ ≤ _; exact Nat.le_of_eq rfl) (hb hby at_111) (fun _ _ => ⟨rfl, e68, (by decide : 2 + 1 ≤ _), (by decide : 5 + 1 ≤ _)⟩)
    dsimp only [Pt.U, Pt.locs, Pt.cells, Pt.slots] at X72 l72 y72 z72 st72 hQ72
    subst l72 y72 z72
    obtain ⟨rfl, Nq72, K72, Ex72, Fc72, t72, kb72, -, ht72, hne72, Fv72, Av72⟩ := hQ72
    have N72 := Fr.app N67 Nq72
    have eK72 : T72.heap = T72.heap := rfl
    have CR72 := CR68.trans (CHr.keep K72 (sfS (own_safeNull hZ0.alike A68 Fn68_16) sf0) CR68.1)
    have z72 : h68.size ≤ T72.heap.size := K72.1
    have KP72 : Keep h0 T72.heap ([] : List Addr) := KP68.trans K72 (allS (P := fun x => x ∈ ([] : List Addr) ∨ h0.size ≤ x) (Or.inr (by omega)) all0)
    have ut72 : T72.heap.size > t72 := Av72.lt
    have F74 := (F70.keep K72 (allS (by omega) all0))
    obtain ⟨v73, _, ⟨T73, L73, k73, n73⟩, -, X73', hs73, hg73, ⟨Lc73, hQ73, l73, y73, z73, C73⟩, st73⟩ := callSS X72 hx (y := (⟨"com/example/hierarchy_grants/hierarchygrants/Subject", "group", "(Ljava/lang/String;)Lcom/example/hierarchy_grants/hierarchygrants/Subject;"⟩ : MethodName)) hown0 (mvT hZ0 (w_22 hw)) (mvT hZ0 (w_23 hw)) (mvT hZ0 (w_24 hw)) (mvT hZ0 (w_25 hw)) (by decide) (backOfSH (s := s) (W := 0) (rm_group l Z a0 hw [] b68 kg T72.heap hEL (by omega) F74 O6) hZ0 (w_25 hw) (w_24 hw) (by decide) (by decide) hEL CR72.1) (g := (mkF m 118 #[iv p0, iv p1, iv p2, iv p3, iv 1, rv b66, rv b68, .unset, .unset] [(.ref b68)])) rfl (by rw [hml]; rfl) (argsL := [(.ref b68)]) (rest := []) (lenOf pd_5 rfl) rfl (by show 2 * 0 + _ ≤ _; exact Nat.le_of_eq rfl) (hb hby at_118) (fun _ _ => ⟨rfl, eK72, (by decide : 3 + 5 ≤ _), (by decide : 6 + 34 ≤ _)⟩)
    dsimp only [Pt.U, Pt.locs, Pt.cells, Pt.slots] at X73' l73 y73 z73 st73 hQ73 hs73 hg73 C73
    subst l73 y73 z73
    obtain ⟨X73, hS73, hZ73, hown73⟩ := rebS hS0 (n1 := T72.heap.size) (by rw [eK72]; omega) X73' hs73 hg73 hZ0 hown0
    have hj73 : T73.heap.size ≤ T73.heap.size := Nat.le_refl _
    obtain ⟨r_73, rfl, Nq73, K73, f73_0, f73_1, f73_2, f73_3⟩ := hQ73
    have N73 := Fr.app N72 Nq73
    have eK73 : T73.heap = T73.heap := rfl
    have CR73 := CR72.trans C73
    have z73 : T72.heap.size ≤ T73.heap.size := K73.1
    have KP73 : Keep h0 T73.heap ([] : List Addr) := KP72.trans K73 all0
    have u73_1 : T73.heap.size > r_73 := f73_1.lt
    obtain ⟨cq75, kq75, q75a, q75b, q75c⟩ := isOf hZ73 eK73 f73_1
    obtain ⟨v75, _, ⟨T75, L75, k75, n75⟩, -, X75, ⟨Lc75, hQ75, l75, y75, z75⟩, st75⟩ := X73.virtualBack hx (y := (⟨"com/example/hierarchy_grants/hierarchygrants/Subject", "kind", "()Lcom/example/hierarchy_grants/hierarchygrants/Subject$Kind;"⟩ : MethodName)) (z := (⟨"com/example/hierarchy_grants/hierarchygrants/Subject", "kind", "()Lcom/example/hierarchy_grants/hierarchygrants/Subject$Kind;"⟩ : MethodName)) hown73 (mvT hZ73 (w_50 hw)) (mvT hZ73 (w_51 hw)) (notFace_of_selects (args := #[]) (mvT hZ73 (w_53 hw))) (mvT hZ73 (w_53 hw)) (mvT hZ73 (w_52 hw)) (by decide) (backOf (W := 0) (rm_kind l Z a0 hw [] r_73 kg T73.heap f73_2) hZ73 (w_54 hw) (w_24 hw) (by decide) (by decide)) q75a q75c (g := (mkF m 132 #[iv p0, iv p1, iv p2, iv p3, iv 1, rv b66, rv b68, rv r_73, .unset] [(.ref r_73)])) rfl (by rw [hml]; rfl) (Steps.refl _) (argsL := []) (rest := []) (lenOf pd_6 rfl) rfl (by show 2 * 0 + _ ≤ _; exact Nat.le_of_eq rfl) (hb hby at_132) (fun _ _ => ⟨rfl, eK73, (by decide : 8 + 0 ≤ _), (by decide : 40 + 0 ≤ _)⟩)
    dsimp only [Pt.U, Pt.locs, Pt.cells, Pt.slots] at X75 l75 y75 z75 st75 hQ75
    subst l75 y75 z75
    obtain ⟨rfl, Nq75, eh75⟩ := hQ75
    have N75 := Fr.app N73 Nq75
    have F77 := (F74.keep K73 all0)
    obtain ⟨T76, X76, e76, st76⟩ := getS2 X75 hx hZ73 hown73 (host := "") (Or.inl (w_55 hw)) Via.refl eh75 (O6.ext F77.2) (g := (mkF m 135 #[iv p0, iv p1, iv p2, iv p3, iv 1, rv b66, rv b68, rv r_73, .unset] [(.ref kg)])) rfl (hb hby at_135)
    obtain ⟨cq78, kq78, q78a, q78b, q78c⟩ := isOf hZ73 e76 f73_1
    obtain ⟨v78, _, ⟨T78, L78, k78, n78⟩, -, X78, ⟨Lc78, hQ78, l78, y78, z78⟩, st78⟩ := X76.virtualBack hx (y := (⟨"com/example/hierarchy_grants/hierarchygrants/Subject", "id", "()Ljava/lang/String;"⟩ : MethodName)) (z := (⟨"com/example/hierarchy_grants/hierarchygrants/Subject", "id", "()Ljava/lang/String;"⟩ : MethodName)) hown73 (mvT hZ73 (w_56 hw)) (mvT hZ73 (w_57 hw)) (notFace_of_selects (args := #[]) (mvT hZ73 (w_59 hw))) (mvT hZ73 (w_59 hw)) (mvT hZ73 (w_58 hw)) (by decide) (backOf (W := 0) (rm_id l Z a0 hw [] r_73 b68 T73.heap f73_3) hZ73 (w_60 hw) (w_24 hw) (by decide) (by decide)) q78a q78c (g := (mkF m 145 #[iv p0, iv p1, iv p2, iv p3, iv 1, rv b66, rv b68, rv r_73, .unset] [(.ref r_73)])) rfl (by rw [hml]; rfl) (Steps.refl _) (argsL := []) (rest := []) (lenOf pd_7 rfl) rfl (by show 2 * 0 + _ ≤ _; exact Nat.le_of_eq rfl) (hb hby at_145) (fun _ _ => ⟨rfl, e76, (by decide : 8 + 0 ≤ _), (by decide : 40 + 0 ≤ _)⟩)
    dsimp only [Pt.U, Pt.locs, Pt.cells, Pt.slots] at X78 l78 y78 z78 st78 hQ78
    subst l78 y78 z78
    obtain ⟨rfl, Nq78, eh78⟩ := hQ78
    have N78 := Fr.app N75 Nq78
    have F80 := (Ex72.keep K73)
    obtain ⟨cq79, kq79, q79a, q79b, q79c⟩ := isOf hZ73 eh78 F80
    obtain ⟨v79, _, ⟨T79, L79, k79, n79⟩, -, X79, ⟨Lc79, hQ79, l79, y79, z79⟩, st79⟩ := X78.virtualBack hx (y := (⟨"java/lang/String", "equals", "(Ljava/lang/Object;)Z"⟩ : MethodName)) (z := (⟨"java/lang/String", "equals", "(Ljava/lang/Object;)Z"⟩ : MethodName)) hown73 (mvT hZ73 (w_61 hw)) (mvT hZ73 (w_62 hw)) (notFace_of_selects (args := #[]) (mvT hZ73 (w_64 hw))) (mvT hZ73 (w_64 hw)) (mvT hZ73 (w_63 hw)) (by decide) (backOf (W := 0) (rmEqs l Z a0 hw [] b68 T73.heap ) hZ73 (w_65 hw) (w_3 hw) (by decide) (by decide)) q79a q79c (g := (mkF m 150 #[iv p0, iv p1, iv p2, iv p3, iv 1, rv b66, rv b68, rv r_73, .unset] [(.ref b68), (.ref b68)])) rfl (by rw [hml]; rfl) (Steps.refl _) (argsL := [(.ref b68)]) (rest := []) (lenOf pd_8 rfl) rfl (by show 2 * 0 + _ ≤ _; exact Nat.le_of_eq rfl) (hb hby at_150) (fun _ _ => ⟨rfl, eh78, (by decide : 8 + 0 ≤ _), (by decide : 40 + 0 ≤ _)⟩)
    dsimp only [Pt.U, Pt.locs, Pt.cells, Pt.slots] at X79 l79 y79 z79 st79 hQ79
    subst l79 y79 z79
    obtain ⟨rfl, Nq79, eh79⟩ := hQ79
    have N79 := Fr.app N78 Nq79
    obtain ⟨v81, _, ⟨T81, L81, k81, n81⟩, -, X81', hs81, hg81, ⟨Lc81, hQ81, l81, y81, z81, C81⟩, st81⟩ := callSS X79 hx (y := (⟨"com/example/hierarchy_grants/hierarchygrants/Subject", "user", "(Ljava/lang/String;)Lcom/example/hierarchy_grants/hierarchygrants/Subject;"⟩ : MethodName)) hown73 (mvT hZ73 (w_66 hw)) (mvT hZ73 (w_67 hw)) (mvT hZ73 (w_24 hw)) (mvT hZ73 (w_68 hw)) (by decide) (backOfSH (s := s) (W := 0) (rm_user l Z a0 hw [] b68 ku T73.heap hEL (by omega) F77 O7) hZ73 (w_68 hw) (w_24 hw) (by decide) (by decide) hEL CR73.1) (g := (mkF m 160 #[iv p0, iv p1, iv p2, iv p3, iv 1, rv b66, rv b68, rv r_73, .unset] [(.ref b68)])) rfl (by rw [hml]; rfl) (argsL := [(.ref b68)]) (rest := []) (lenOf pd_5 rfl) rfl (by show 2 * 0 + _ ≤ _; exact Nat.le_of_eq rfl) (hb hby at_160) (fun _ _ => ⟨rfl, eh79, (by decide : 8 + 5 ≤ _), (by decide : 40 + 34 ≤ _)⟩)
    dsimp only [Pt.U, Pt.locs, Pt.cells, Pt.slots] at X81' l81 y81 z81 st81 hQ81 hs81 hg81 C81
    subst l81 y81 z81
    obtain ⟨X81, hS81, hZ81, hown81⟩ := rebS hS73 (n1 := T79.heap.size) (by rw [eh79]; omega) X81' hs81 hg81 hZ73 hown73
    have hj81 : T81.heap.size ≤ T81.heap.size := Nat.le_refl _
    obtain ⟨r_81, rfl, Nq81, K81, f81_0, f81_1, f81_2, f81_3⟩ := hQ81
    have N81 := Fr.app N79 Nq81
    have eK81 : T81.heap = T81.heap := rfl
    have CR81 := CR73.trans C81
    have z81 : T73.heap.size ≤ T81.heap.size := K81.1
    have KP81 : Keep h0 T81.heap ([] : List Addr) := KP73.trans K81 all0
    have u81_1 : T81.heap.size > r_81 := f81_1.lt
    obtain ⟨cq82, kq82, q82a, q82b, q82c⟩ := isOf hZ81 eK81 f81_1
    obtain ⟨v82, _, ⟨T82, L82, k82, n82⟩, -, X82, ⟨Lc82, hQ82, l82, y82, z82⟩, st82⟩ := X81.virtualBack hx (y := (⟨"com/example/hierarchy_grants/hierarchygrants/Subject", "kind", "()Lcom/example/hierarchy_grants/hierarchygrants/Subject$Kind;"⟩ : MethodName)) (z := (⟨"com/example/hierarchy_grants/hierarchygrants/Subject", "kind", "()Lcom/example/hierarchy_grants/hierarchygrants/Subject$Kind;"⟩ : MethodName)) hown81 (mvT hZ81 (w_50 hw)) (mvT hZ81 (w_51 hw)) (notFace_of_selects (args := #[]) (mvT hZ81 (w_53 hw))) (mvT hZ81 (w_53 hw)) (mvT hZ81 (w_52 hw)) (by decide) (backOf (W := 0) (rm_kind l Z a0 hw [] r_81 ku T81.heap f81_2) hZ81 (w_54 hw) (w_24 hw) (by decide) (by decide)) q82a q82c (g := (mkF m 167 #[iv p0, iv p1, iv p2, iv p3, iv 1, rv b66, rv b68, rv r_73, rv r_81] [(.ref r_81)])) rfl (by rw [hml]; rfl) (Steps.refl _) (argsL := []) (rest := []) (lenOf pd_6 rfl) rfl (by show 2 * 0 + _ ≤ _; exact Nat.le_of_eq rfl) (hb hby at_167) (fun _ _ => ⟨rfl, eK81, (by decide : 13 + 0 ≤ _), (by decide : 74 + 0 ≤ _)⟩)
    dsimp only [Pt.U, Pt.locs, Pt.cells, Pt.slots] at X82 l82 y82 z82 st82 hQ82
    subst l82 y82 z82
    obtain ⟨rfl, Nq82, eh82⟩ := hQ82
    have N82 := Fr.app N81 Nq82
    have F84 := (f73_2.keep K81 nin0)
    have F85 := (f73_1.keep K81)
    obtain ⟨cq83, kq83, q83a, q83b, q83c⟩ := isOf hZ81 eh82 F85
    obtain ⟨v83, _, ⟨T83, L83, k83, n83⟩, -, X83, ⟨Lc83, hQ83, l83, y83, z83⟩, st83⟩ := X82.virtualBack hx (y := (⟨"com/example/hierarchy_grants/hierarchygrants/Subject", "kind", "()Lcom/example/hierarchy_grants/hierarchygrants/Subject$Kind;"⟩ : MethodName)) (z := (⟨"com/example/hierarchy_grants/hierarchygrants/Subject", "kind", "()Lcom/example/hierarchy_grants/hierarchygrants/Subject$Kind;"⟩ : MethodName)) hown81 (mvT hZ81 (w_50 hw)) (mvT hZ81 (w_51 hw)) (notFace_of_selects (args := #[]) (mvT hZ81 (w_53 hw))) (mvT hZ81 (w_53 hw)) (mvT hZ81 (w_52 hw)) (by decide) (backOf (W := 1) (rm_kind l Z a0 hw [] r_73 kg T81.heap F84) hZ81 (w_54 hw) (w_24 hw) (by decide) (by decide)) q83a q83c (g := (mkF m 172 #[iv p0, iv p1, iv p2, iv p3, iv 1, rv b66, rv b68, rv r_73, rv r_81] [(.ref r_73), (.ref ku)])) rfl (by rw [hml]; rfl) (Steps.refl _) (argsL := []) (rest := [(.ref ku)]) (lenOf pd_6 rfl) rfl (by show 2 * 0 + _ ≤ _; exact Nat.le_of_eq rfl) (hb hby at_172) (fun _ _ => ⟨rfl, eh82, (by decide : 13 + 0 ≤ _), (by decide : 74 + 0 ≤ _)⟩)
    dsimp only [Pt.U, Pt.locs, Pt.cells, Pt.slots] at X83 l83 y83 z83 st83 hQ83
    subst l83 y83 z83
    obtain ⟨rfl, Nq83, eh83⟩ := hQ83
    have N83 := Fr.app N82 Nq83
    refine Go.on (w := T83.setTop (mkF m 178 #[iv p0, iv p1, iv p2, iv p3, iv 1, rv b66, rv b68, rv r_73, rv r_81] [])) (fun t k => st72.trans (XS.astore X72.here hx rfl (hb hby at_114) rfl rfl (l' := #[iv p0, iv p1, iv p2, iv p3, iv 1, rv b66, rv b68, .unset, .unset]) rfl (XS.aload X72.here hx rfl (hb hby at_116) rfl rfl (st73.trans (XS.astore X73.here hx rfl (hb hby at_121) rfl rfl (l' := #[iv p0, iv p1, iv p2, iv p3, iv 1, rv b66, rv b68, rv r_73, .unset]) rfl (XS.aload X73.here hx rfl (hb hby at_123) rfl rfl (XS.ifnonnullYes X73.here hx rfl (pc0 := 125) (pc' := 130) rfl (hb hby at_125) rfl (by decide) (by decide) (XS.aload X73.here hx rfl (hb hby at_130) rfl rfl (st75.trans (st76 _ (Jvm.RoadKit.acmp (g := (mkF m 138 #[iv p0, iv p1, iv p2, iv p3, iv 1, rv b66, rv b68, rv r_73, .unset] [(.ref kg), (.ref kg)])) X76 hx rfl rfl rfl (pc0 := 138) (pc' := 143) (same := true) rfl (hb hby at_138) rfl (decide_eq_true rfl) (by decide) (by decide) (XS.aload X76.here hx rfl (hb hby at_143) rfl rfl (st78.trans (XS.aload X78.here hx rfl (hb hby at_148) rfl rfl (st79.trans (XS.ifYes X79.here hx rfl (pc0 := 153) (pc' := 158) rfl (hb hby at_153) rfl ((if0 _ _).trans (feq (by decide : ¬ ((1 : Int32) = (0 : Int32)))).2) (by decide) (by decide) (XS.aload X79.here hx rfl (hb hby at_158) rfl rfl (st81.trans (XS.astore X81.here hx rfl (hb hby at_163) rfl rfl (l' := #[iv p0, iv p1, iv p2, iv p3, iv 1, rv b66, rv b68, rv r_73, rv r_81]) rfl (XS.aload X81.here hx rfl (hb hby at_165) rfl rfl (st82.trans (XS.aload X82.here hx rfl (hb hby at_170) rfl rfl (st83.trans (Jvm.RoadKit.acmp (g := (mkF m 175 #[iv p0, iv p1, iv p2, iv p3, iv 1, rv b66, rv b68, rv r_73, rv r_81] [(.ref kg), (.ref ku)])) X83 hx rfl rfl rfl (pc0 := 175) (pc' := 178) (same := false) rfl (hb hby at_175) rfl (decide_eq_false fun q => hne (Value.ref.inj q)) (by decide) (by decide) k)))))))))))))))))))))))) ?_
    refine Go.on (w := T83.setTop (mkF m 179 #[iv p0, iv p1, iv p2, iv p3, iv 1, rv b66, rv b68, rv r_73, rv r_81] [(.int 1)])) (fun t k => XS.iconst X83.here hx rfl (hb hby at_178) k) ?_
    refine Go.on (w := T83.setTop (mkF m 183 #[iv p0, iv p1, iv p2, iv p3, iv 1, rv b66, rv b68, rv r_73, rv r_81] [(.int 1)])) (fun t k => XS.goto X83.here hx rfl (pc0 := 179) (pc' := 183) rfl (hb hby at_179) (by decide) (by decide) k) ?_
    have CE86 := CR81.trans (CHv.at X83 hZ81 hEL CR81.1)
    refine Go.fin X83 hS81 (by rw [eh83]; omega) hlk (v := some (.int 1)) (fun h => by rw [Bd.returns] at h; cases h) (fun fs hr => ?_) (endP (Q := Q_rm0 Z p0 p1 p2 p3 G1 kg ku h0) (by rw [eh83]; exact ⟨rfl, N83, KP81⟩) (by rw [eh83]; exact CE86) (by decide) (by decide))
    exact retN X83 hx (t := .boolean) Bd.returns (by simp) (hb hby at_183) hr
  ·
    refine Go.on (w := s₁.setTop (mkF m 2 #[iv p0, iv p1, iv p2, iv p3, .unset, .unset, .unset, .unset, .unset] [(.int 3), (.int p0)])) (fun t k => XS.iloadN X0.here hx rfl (hb hby at_0) rfl (XS.iconst X0.here hx rfl (hb hby at_1) k)) ?_
    refine Go.on (w := s₁.setTop (mkF m 3 #[iv p0, iv p1, iv p2, iv p3, .unset, .unset, .unset, .unset, .unset] [(.int 2)])) (fun t k => XS.iand X0.here hx rfl (hb hby at_2) rfl (by rw [(hn : (p0 &&& (3 : Int32)) = (2 : Int32))]; exact k)) ?_
    obtain ⟨T87, h87, k87, X87, e87, E87, A87, st87⟩ := newP (aty := .char) X0 hx hZ0 (w_0 hw) e0 (g := (mkF m 48 #[iv p0, iv p1, iv p2, iv p3, iv 2, .unset, .unset, .unset, .unset] [(.int 2)])) rfl (hb hby at_48) rfl (by decide : ¬ ((2 : Int32) < (0 : Int32))) (cap := 2) (by decide) (by decide) (by decide) (by decide)
    obtain ⟨b87, g87⟩ : ∃ z, z = h0.size := ⟨_, rfl⟩
    rw [← g87] at A87 st87
    have V87 : Arv Z h87 b87 k87 .char (2 : Int32) [(.int 0), (.int 0)] (.int 0) := (Arv.new A87 (by decide : ¬ ((2 : Int32) < (0 : Int32)))).pad (pad_rep [] (.int 0) 2)
    have u87 : h87.size > b87 := V87.lt
    have z87 : h0.size ≤ h87.size := E87.1
    have CR87 := CR0.trans (CHr.ext E87 CR0.1)
    have KP87 : Keep h0 h87 ([] : List Addr) := KP0.ext E87
    refine Go.on (w := T87.setTop (mkF m 57 #[iv p0, iv p1, iv p2, iv p3, iv 2, .unset, .unset, .unset, .unset] [(.int (p1 &&& (255 : Int32))), (.int 0), (.ref b87), (.ref b87)])) (fun t k => XS.istore X0.here hx rfl (hb hby at_3) rfl (l' := #[iv p0, iv p1, iv p2, iv p3, iv 2, .unset, .unset, .unset, .unset]) rfl (XS.iload X0.here hx rfl (hb hby at_5) rfl (XS.ifYes X0.here hx rfl (pc0 := 7) (pc' := 18) rfl (hb hby at_7) rfl ((if0 _ _).trans (feq (by decide : ¬ ((2 : Int32) = (0 : Int32)))).2) (by decide) (by decide) (XS.iload X0.here hx rfl (hb hby at_18) rfl (XS.iconst X0.here hx rfl (hb hby at_20) (XS.icmpYes X0.here hx rfl (pc0 := 21) (pc' := 41) rfl (hb hby at_21) rfl (feq (by decide : ¬ ((2 : Int32) = (1 : Int32)))).2 (by decide) (by decide) (XS.iload X0.here hx rfl (hb hby at_41) rfl (XS.iconst X0.here hx rfl (hb hby at_43) (XS.icmpNo X0.here hx rfl (hb hby at_44) rfl (teq (by decide : (2 : Int32) = (2 : Int32))).2 (XS.iconst X0.here hx rfl (hb hby at_47) (st87 _ (XS.dup X87.here hx rfl (hb hby at_50) rfl rfl (XS.iconst X87.here hx rfl (hb hby at_51) (XS.iloadN X87.here hx rfl (hb hby at_52) rfl (XS.sipush X87.here hx rfl (hb hby at_53) (XS.iand X87.here hx rfl (hb hby at_56) rfl k)))))))))))))))) ?_
    refine Go.on (w := T87.setTop (mkF m 58 #[iv p0, iv p1, iv p2, iv p3, iv 2, .unset, .unset, .unset, .unset] [(.int c1), (.int 0), (.ref b87), (.ref b87)])) (fun t k => XS.i2c X87.here hx rfl (hb hby at_57) rfl (by rw [(hc1 : ((p1 &&& (255 : Int32)).toUInt32.toUInt16.toUInt32.toInt32) = c1)]; exact k)) ?_
    obtain ⟨cl88, Ar88, q88, S88, M88, H88, U88⟩ := id V87
    obtain ⟨T88, h88, X88, e88, W88, st88⟩ := stC X87 hx hZ0 e87 Ar88 (j := (0 : Int32)) (inb_of S88 ⟨(by decide), (by decide)⟩) (g := (mkF m 58 #[iv p0, iv p1, iv p2, iv p3, iv 2, .unset, .unset, .unset, .unset] [(.int c1), (.int 0), (.ref b87), (.ref b87)])) rfl rfl (hb hby at_58)
    have V88 : Arv Z h88 b87 k87 .char (2 : Int32) [(.int c1), (.int 0)] (.int 0) := by rw [← (own_nar l1 r1 : nar .char c1 = c1)]; exact (Arv.set Ar88 q88 S88 M88 H88 U88 (fits_nar_char _) W88 0 rfl (Nat.le_of_ble_eq_true rfl))
    have CR88 := CR87.trans (CHr.wr W88 (Safe.arv hZ0.alike V87 (by decide)) CR87.1)
    have z88 : h87.size ≤ h88.size := Nat.le_of_eq W88.size.symm
    have KP88 : Keep h0 h88 ([] : List Addr) := KP87.wr W88 (Or.inr (by omega))
    have N88 := Fr.snoc X88 N0 (by omega)
    refine Go.on (w := T88.setTop (mkF m 66 #[iv p0, iv p1, iv p2, iv p3, iv 2, .unset, .unset, .unset, .unset] [(.int (p2 &&& (255 : Int32))), (.int 1), (.ref b87), (.ref b87)])) (fun t k => st88 _ (XS.dup X88.here hx rfl (hb hby at_59) rfl rfl (XS.iconst X88.here hx rfl (hb hby at_60) (XS.iloadN X88.here hx rfl (hb hby at_61) rfl (XS.sipush X88.here hx rfl (hb hby at_62) (XS.iand X88.here hx rfl (hb hby at_65) rfl k)))))) ?_
    refine Go.on (w := T88.setTop (mkF m 67 #[iv p0, iv p1, iv p2, iv p3, iv 2, .unset, .unset, .unset, .unset] [(.int c2), (.int 1), (.ref b87), (.ref b87)])) (fun t k => XS.i2c X88.here hx rfl (hb hby at_66) rfl (by rw [(hc2 : ((p2 &&& (255 : Int32)).toUInt32.toUInt16.toUInt32.toInt32) = c2)]; exact k)) ?_
    obtain ⟨cl89, Ar89, q89, S89, M89, H89, U89⟩ := id V88
    obtain ⟨T89, h89, X89, e89, W89, st89⟩ := stC X88 hx hZ0 e88 Ar89 (j := (1 : Int32)) (inb_of S89 ⟨(by decide), (by decide)⟩) (g := (mkF m 67 #[iv p0, iv p1, iv p2, iv p3, iv 2, .unset, .unset, .unset, .unset] [(.int c2), (.int 1), (.ref b87), (.ref b87)])) rfl rfl (hb hby at_67)
    have V89 : Arv Z h89 b87 k87 .char (2 : Int32) [(.int c1), (.int c2)] (.int 0) := by rw [← (own_nar l2 r2 : nar .char c2 = c2)]; exact (Arv.set Ar89 q89 S89 M89 H89 U89 (fits_nar_char _) W89 1 rfl (Nat.le_of_ble_eq_true rfl))
    have CR89 := CR88.trans (CHr.wr W89 (Safe.arv hZ0.alike V88 (by decide)) CR88.1)
    have z89 : h88.size ≤ h89.size := Nat.le_of_eq W89.size.symm
    have KP89 : Keep h0 h89 ([] : List Addr) := KP88.wr W89 (Or.inr (by omega))
    have N89 := Fr.snoc X89 N88 (by omega)
    obtain ⟨T90, h90, X90, e90, E90, A90, D90, -, st90⟩ := newO X89 hx hZ0 hown0 (w_1 hw) (w_2 hw) (w_3 hw) e89 (g := (mkF m 105 #[iv p0, iv p1, iv p2, iv p3, iv 2, rv b87, .unset, .unset, .unset] [])) rfl (hb hby at_105) (by decide) (by decide)
    obtain ⟨b90, g90⟩ : ∃ z, z = h89.size := ⟨_, rfl⟩
    rw [← g90] at A90 D90 st90
    have u90 : h90.size > b90 := A90.lt
    have z90 : h89.size ≤ h90.size := E90.1
    have CR90 := CR89.trans (CHr.ext E90 CR89.1)
    have KP90 : Keep h0 h90 ([] : List Addr) := KP89.ext E90
    have Fn90_16 : Fld Z h90 b90 "java/lang/String" "value" "[B" .null := D90 (Or.inr (w_16 hw)) (ty := (.array .byte)) (by decide)
    have Fn90_17 : Fld Z h90 b90 "java/lang/String" "coder" "B" (.int 0) := D90 (Or.inr (w_17 hw)) (ty := .byte) (by decide)
    have F91 := (V89.ext E90)
    have F92 := ((((OL.ext E87).wr W88 (by omega)).wr W89 (by omega)).ext E90)
    refine Go.on (w := T90.setTop (mkF m 111 #[iv p0, iv p1, iv p2, iv p3, iv 2, rv b87, .unset, .unset, .unset] [(.ref b87), (.ref b90), (.ref b90)])) (fun t k => st89 _ (XS.astore X89.here hx rfl (hb hby at_68) rfl rfl (l' := #[iv p0, iv p1, iv p2, iv p3, iv 2, rv b87, .unset, .unset, .unset]) rfl (XS.goto X89.here hx rfl (pc0 := 70) (pc' := 105) rfl (hb hby at_70) (by decide) (by decide) (st90 _ (XS.dup X90.here hx rfl (hb hby at_108) rfl rfl (XS.aload X90.here hx rfl (hb hby at_109) rfl rfl k)))))) ?_
    have hp93 : ∀ c ∈ ([c1, c2] : List Int32), ¬ c < 0 ∧ ¬ (255 : Int32) < c := by
      intro c hc
      simp only [List.mem_cons, List.not_mem_nil, or_false] at hc
      rcases hc with rfl | rfl
      · exact ⟨l1, r1⟩
      · exact ⟨l2, r2⟩
    obtain ⟨v94, _, ⟨T94, L94, k94, n94⟩, -, X94, ⟨Lc94, hQ94, l94, y94, z94⟩, st94⟩ := X90.specialBack hx (y := (⟨"java/lang/String", "<init>", "([C)V"⟩ : MethodName)) rfl hown0 (mvT hZ0 (w_4 hw)) (mvT hZ0 (w_5 hw)) (mvT hZ0 (w_6 hw)) (by decide) (StrChars.Road.backV (W := 1) hZ0 (hStrW hw) (kI := 4) (w_2 hw) (cs := ([c1, c2] : List Int32)) (bs := ([c1, c2] : List Int32).map (fun c => c.toInt8.toInt32)) (n := 2) (n0 := Z.heap.size) (by omega) (by omega) A90 Fn90_16 Fn90_17 F91 (O2.ext F92.2) P5 rfl rfl (by decide) (by decide) hp93 rfl (by decide) (by decide)) (g := (mkF m 111 #[iv p0, iv p1, iv p2, iv p3, iv 2, rv b87, .unset, .unset, .unset] [(.ref b87), (.ref b90), (.ref b90)])) rfl (by rw [hml]; rfl) (Steps.refl _) (a := b90) (argsL := [(.ref b87)]) (rest := [(.ref b90)]) (lenOf pd_4 rfl) rfl (by show 2 * 0 + _ ≤ _; exact Nat.le_of_eq rfl) (hb hby at_111) (fun _ _ => ⟨rfl, e90, (by decide : 2 + 1 ≤ _), (by decide : 6 + 2 ≤ _)⟩)
    dsimp only [Pt.U, Pt.locs, Pt.cells, Pt.slots] at X94 l94 y94 z94 st94 hQ94
    subst l94 y94 z94
    obtain ⟨rfl, Nq94, K94, Ex94, Fc94, t94, kb94, -, ht94, hne94, Fv94, Av94⟩ := hQ94
    have N94 := Fr.app N89 Nq94
    have eK94 : T94.heap = T94.heap := rfl
    have CR94 := CR90.trans (CHr.keep K94 (sfS (own_safeNull hZ0.alike A90 Fn90_16) sf0) CR90.1)
    have z94 : h90.size ≤ T94.heap.size := K94.1
    have KP94 : Keep h0 T94.heap ([] : List Addr) := KP90.trans K94 (allS (P := fun x => x ∈ ([] : List Addr) ∨ h0.size ≤ x) (Or.inr (by omega)) all0)
    have ut94 : T94.heap.size > t94 := Av94.lt
    have F96 := (F92.keep K94 (allS (by omega) all0))
    obtain ⟨v95, _, ⟨T95, L95, k95, n95⟩, -, X95', hs95, hg95, ⟨Lc95, hQ95, l95, y95, z95, C95⟩, st95⟩ := callSS X94 hx (y := (⟨"com/example/hierarchy_grants/hierarchygrants/Subject", "group", "(Ljava/lang/String;)Lcom/example/hierarchy_grants/hierarchygrants/Subject;"⟩ : MethodName)) hown0 (mvT hZ0 (w_22 hw)) (mvT hZ0 (w_23 hw)) (mvT hZ0 (w_24 hw)) (mvT hZ0 (w_25 hw)) (by decide) (backOfSH (s := s) (W := 0) (rm_group l Z a0 hw [] b90 kg T94.heap hEL (by omega) F96 O6) hZ0 (w_25 hw) (w_24 hw) (by decide) (by decide) hEL CR94.1) (g := (mkF m 118 #[iv p0, iv p1, iv p2, iv p3, iv 2, rv b87, rv b90, .unset, .unset] [(.ref b90)])) rfl (by rw [hml]; rfl) (argsL := [(.ref b90)]) (rest := []) (lenOf pd_5 rfl) rfl (by show 2 * 0 + _ ≤ _; exact Nat.le_of_eq rfl) (hb hby at_118) (fun _ _ => ⟨rfl, eK94, (by decide : 3 + 5 ≤ _), (by decide : 8 + 34 ≤ _)⟩)
    dsimp only [Pt.U, Pt.locs, Pt.cells, Pt.slots] at X95' l95 y95 z95 st95 hQ95 hs95 hg95 C95
    subst l95 y95 z95
    obtain ⟨X95, hS95, hZ95, hown95⟩ := rebS hS0 (n1 := T94.heap.size) (by rw [eK94]; omega) X95' hs95 hg95 hZ0 hown0
    have hj95 : T95.heap.size ≤ T95.heap.size := Nat.le_refl _
    obtain ⟨r_95, rfl, Nq95, K95, f95_0, f95_1, f95_2, f95_3⟩ := hQ95
    have N95 := Fr.app N94 Nq95
    have eK95 : T95.heap = T95.heap := rfl
    have CR95 := CR94.trans C95
    have z95 : T94.heap.size ≤ T95.heap.size := K95.1
    have KP95 : Keep h0 T95.heap ([] : List Addr) := KP94.trans K95 all0
    have u95_1 : T95.heap.size > r_95 := f95_1.lt
    obtain ⟨cq97, kq97, q97a, q97b, q97c⟩ := isOf hZ95 eK95 f95_1
    obtain ⟨v97, _, ⟨T97, L97, k97, n97⟩, -, X97, ⟨Lc97, hQ97, l97, y97, z97⟩, st97⟩ := X95.virtualBack hx (y := (⟨"com/example/hierarchy_grants/hierarchygrants/Subject", "kind", "()Lcom/example/hierarchy_grants/hierarchygrants/Subject$Kind;"⟩ : MethodName)) (z := (⟨"com/example/hierarchy_grants/hierarchygrants/Subject", "kind", "()Lcom/example/hierarchy_grants/hierarchygrants/Subject$Kind;"⟩ : MethodName)) hown95 (mvT hZ95 (w_50 hw)) (mvT hZ95 (w_51 hw)) (notFace_of_selects (args := #[]) (mvT hZ95 (w_53 hw))) (mvT hZ95 (w_53 hw)) (mvT hZ95 (w_52 hw)) (by decide) (backOf (W := 0) (rm_kind l Z a0 hw [] r_95 kg T95.heap f95_2) hZ95 (w_54 hw) (w_24 hw) (by decide) (by decide)) q97a q97c (g := (mkF m 132 #[iv p0, iv p1, iv p2, iv p3, iv 2, rv b87, rv b90, rv r_95, .unset] [(.ref r_95)])) rfl (by rw [hml]; rfl) (Steps.refl _) (argsL := []) (rest := []) (lenOf pd_6 rfl) rfl (by show 2 * 0 + _ ≤ _; exact Nat.le_of_eq rfl) (hb hby at_132) (fun _ _ => ⟨rfl, eK95, (by decide : 8 + 0 ≤ _), (by decide : 42 + 0 ≤ _)⟩)
    dsimp only [Pt.U, Pt.locs, Pt.cells, Pt.slots] at X97 l97 y97 z97 st97 hQ97
    subst l97 y97 z97
    obtain ⟨rfl, Nq97, eh97⟩ := hQ97
    have N97 := Fr.app N95 Nq97
    have F99 := (F96.keep K95 all0)
    obtain ⟨T98, X98, e98, st98⟩ := getS2 X97 hx hZ95 hown95 (host := "") (Or.inl (w_55 hw)) Via.refl eh97 (O6.ext F99.2) (g := (mkF m 135 #[iv p0, iv p1, iv p2, iv p3, iv 2, rv b87, rv b90, rv r_95, .unset] [(.ref kg)])) rfl (hb hby at_135)
    obtain ⟨cq100, kq100, q100a, q100b, q100c⟩ := isOf hZ95 e98 f95_1
    obtain ⟨v100, _, ⟨T100, L100, k100, n100⟩, -, X100, ⟨Lc100, hQ100, l100, y100, z100⟩, st100⟩ := X98.virtualBack hx (y := (⟨"com/example/hierarchy_grants/hierarchygrants/Subject", "id", "()Ljava/lang/String;"⟩ : MethodName)) (z := (⟨"com/example/hierarchy_grants/hierarchygrants/Subject", "id", "()Ljava/lang/String;"⟩ : MethodName)) hown95 (mvT hZ95 (w_56 hw)) (mvT hZ95 (w_57 hw)) (notFace_of_selects (args := #[]) (mvT hZ95 (w_59 hw))) (mvT hZ95 (w_59 hw)) (mvT hZ95 (w_58 hw)) (by decide) (backOf (W := 0) (rm_id l Z a0 hw [] r_95 b90 T95.heap f95_3) hZ95 (w_60 hw) (w_24 hw) (by decide) (by decide)) q100a q100c (g := (mkF m 145 #[iv p0, iv p1, iv p2, iv p3, iv 2, rv b87, rv b90, rv r_95, .unset] [(.ref r_95)])) rfl (by rw [hml]; rfl) (Steps.refl _) (argsL := []) (rest := []) (lenOf pd_7 rfl) rfl (by show 2 * 0 + _ ≤ _; exact Nat.le_of_eq rfl) (hb hby at_145) (fun _ _ => ⟨rfl, e98, (by decide : 8 + 0 ≤ _), (by decide : 42 + 0 ≤ _)⟩)
    dsimp only [Pt.U, Pt.locs, Pt.cells, Pt.slots] at X100 l100 y100 z100 st100 hQ100
    subst l100 y100 z100
    obtain ⟨rfl, Nq100, eh100⟩ := hQ100
    have N100 := Fr.app N97 Nq100
    have F102 := (Ex94.keep K95)
    obtain ⟨cq101, kq101, q101a, q101b, q101c⟩ := isOf hZ95 eh100 F102
    obtain ⟨v101, _, ⟨T101, L101, k101, n101⟩, -, X101, ⟨Lc101, hQ101, l101, y101, z101⟩, st101⟩ := X100.virtualBack hx (y := (⟨"java/lang/String", "equals", "(Ljava/lang/Object;)Z"⟩ : MethodName)) (z := (⟨"java/lang/String", "equals", "(Ljava/lang/Object;)Z"⟩ : MethodName)) hown95 (mvT hZ95 (w_61 hw)) (mvT hZ95 (w_62 hw)) (notFace_of_selects (args := #[]) (mvT hZ95 (w_64 hw))) (mvT hZ95 (w_64 hw)) (mvT hZ95 (w_63 hw)) (by decide) (backOf (W := 0) (rmEqs l Z a0 hw [] b90 T95.heap ) hZ95 (w_65 hw) (w_3 hw) (by decide) (by decide)) q101a q101c (g := (mkF m 150 #[iv p0, iv p1, iv p2, iv p3, iv 2, rv b87, rv b90, rv r_95, .unset] [(.ref b90), (.ref b90)])) rfl (by rw [hml]; rfl) (Steps.refl _) (argsL := [(.ref b90)]) (rest := []) (lenOf pd_8 rfl) rfl (by show 2 * 0 + _ ≤ _; exact Nat.le_of_eq rfl) (hb hby at_150) (fun _ _ => ⟨rfl, eh100, (by decide : 8 + 0 ≤ _), (by decide : 42 + 0 ≤ _)⟩)
    dsimp only [Pt.U, Pt.locs, Pt.cells, Pt.slots] at X101 l101 y101 z101 st101 hQ101
    subst l101 y101 z101
    obtain ⟨rfl, Nq101, eh101⟩ := hQ101
    have N101 := Fr.app N100 Nq101
    obtain ⟨v103, _, ⟨T103, L103, k103, n103⟩, -, X103', hs103, hg103, ⟨Lc103, hQ103, l103, y103, z103, C103⟩, st103⟩ := callSS X101 hx (y := (⟨"com/example/hierarchy_grants/hierarchygrants/Subject", "user", "(Ljava/lang/String;)Lcom/example/hierarchy_grants/hierarchygrants/Subject;"⟩ : MethodName)) hown95 (mvT hZ95 (w_66 hw)) (mvT hZ95 (w_67 hw)) (mvT hZ95 (w_24 hw)) (mvT hZ95 (w_68 hw)) (by decide) (backOfSH (s := s) (W := 0) (rm_user l Z a0 hw [] b90 ku T95.heap hEL (by omega) F99 O7) hZ95 (w_68 hw) (w_24 hw) (by decide) (by decide) hEL CR95.1) (g := (mkF m 160 #[iv p0, iv p1, iv p2, iv p3, iv 2, rv b87, rv b90, rv r_95, .unset] [(.ref b90)])) rfl (by rw [hml]; rfl) (argsL := [(.ref b90)]) (rest := []) (lenOf pd_5 rfl) rfl (by show 2 * 0 + _ ≤ _; exact Nat.le_of_eq rfl) (hb hby at_160) (fun _ _ => ⟨rfl, eh101, (by decide : 8 + 5 ≤ _), (by decide : 42 + 34 ≤ _)⟩)
    dsimp only [Pt.U, Pt.locs, Pt.cells, Pt.slots] at X103' l103 y103 z103 st103 hQ103 hs103 hg103 C103
    subst l103 y103 z103
    obtain ⟨X103, hS103, hZ103, hown103⟩ := rebS hS95 (n1 := T101.heap.size) (by rw [eh101]; omega) X103' hs103 hg103 hZ95 hown95
    have hj103 : T103.heap.size ≤ T103.heap.size := Nat.le_refl _
    obtain ⟨r_103, rfl, Nq103, K103, f103_0, f103_1, f103_2, f103_3⟩ := hQ103
    have N103 := Fr.app N101 Nq103
    have eK103 : T103.heap = T103.heap := rfl
    have CR103 := CR95.trans C103
    have z103 : T95.heap.size ≤ T103.heap.size := K103.1
    have KP103 : Keep h0 T103.heap ([] : List Addr) := KP95.trans K103 all0
    have u103_1 : T103.heap.size > r_103 := f103_1.lt
    obtain ⟨cq104, kq104, q104a, q104b, q104c⟩ := isOf hZ103 eK103 f103_1
    obtain ⟨v104, _, ⟨T104, L104, k104, n104⟩, -, X104, ⟨Lc104, hQ104, l104, y104, z104⟩, st104⟩ := X103.virtualBack hx (y := (⟨"com/example/hierarchy_grants/hierarchygrants/Subject", "kind", "()Lcom/example/hierarchy_grants/hierarchygrants/Subject$Kind;"⟩ : MethodName)) (z := (⟨"com/example/hierarchy_grants/hierarchygrants/Subject", "kind", "()Lcom/example/hierarchy_grants/hierarchygrants/Subject$Kind;"⟩ : MethodName)) hown103 (mvT hZ103 (w_50 hw)) (mvT hZ103 (w_51 hw)) (notFace_of_selects (args := #[]) (mvT hZ103 (w_53 hw))) (mvT hZ103 (w_53 hw)) (mvT hZ103 (w_52 hw)) (by decide) (backOf (W := 0) (rm_kind l Z a0 hw [] r_103 ku T103.heap f103_2) hZ103 (w_54 hw) (w_24 hw) (by decide) (by decide)) q104a q104c (g := (mkF m 167 #[iv p0, iv p1, iv p2, iv p3, iv 2, rv b87, rv b90, rv r_95, rv r_103] [(.ref r_103)])) rfl (by rw [hml]; rfl) (Steps.refl _) (argsL := []) (rest := []) (lenOf pd_6 rfl) rfl (by show 2 * 0 + _ ≤ _; exact Nat.le_of_eq rfl) (hb hby at_167) (fun _ _ => ⟨rfl, eK103, (by decide : 13 + 0 ≤ _), (by decide : 76 + 0 ≤ _)⟩)
    dsimp only [Pt.U, Pt.locs, Pt.cells, Pt.slots] at X104 l104 y104 z104 st104 hQ104
    subst l104 y104 z104
    obtain ⟨rfl, Nq104, eh104⟩ := hQ104
    have N104 := Fr.app N103 Nq104
    have F106 := (f95_2.keep K103 nin0)
    have F107 := (f95_1.keep K103)
    obtain ⟨cq105, kq105, q105a, q105b, q105c⟩ := isOf hZ103 eh104 F107
    obtain ⟨v105, _, ⟨T105, L105, k105, n105⟩, -, X105, ⟨Lc105, hQ105, l105, y105, z105⟩, st105⟩ := X104.virtualBack hx (y := (⟨"com/example/hierarchy_grants/hierarchygrants/Subject", "kind", "()Lcom/example/hierarchy_grants/hierarchygrants/Subject$Kind;"⟩ : MethodName)) (z := (⟨"com/example/hierarchy_grants/hierarchygrants/Subject", "kind", "()Lcom/example/hierarchy_grants/hierarchygrants/Subject$Kind;"⟩ : MethodName)) hown103 (mvT hZ103 (w_50 hw)) (mvT hZ103 (w_51 hw)) (notFace_of_selects (args := #[]) (mvT hZ103 (w_53 hw))) (mvT hZ103 (w_53 hw)) (mvT hZ103 (w_52 hw)) (by decide) (backOf (W := 1) (rm_kind l Z a0 hw [] r_95 kg T103.heap F106) hZ103 (w_54 hw) (w_24 hw) (by decide) (by decide)) q105a q105c (g := (mkF m 172 #[iv p0, iv p1, iv p2, iv p3, iv 2, rv b87, rv b90, rv r_95, rv r_103] [(.ref r_95), (.ref ku)])) rfl (by rw [hml]; rfl) (Steps.refl _) (argsL := []) (rest := [(.ref ku)]) (lenOf pd_6 rfl) rfl (by show 2 * 0 + _ ≤ _; exact Nat.le_of_eq rfl) (hb hby at_172) (fun _ _ => ⟨rfl, eh104, (by decide : 13 + 0 ≤ _), (by decide : 76 + 0 ≤ _)⟩)
    dsimp only [Pt.U, Pt.locs, Pt.cells, Pt.slots] at X105 l105 y105 z105 st105 hQ105
    subst l105 y105 z105
    obtain ⟨rfl, Nq105, eh105⟩ := hQ105
    have N105 := Fr.app N104 Nq105
    refine Go.on (w := T105.setTop (mkF m 178 #[iv p0, iv p1, iv p2, iv p3, iv 2, rv b87, rv b90, rv r_95, rv r_103] [])) (fun t k => st94.trans (XS.astore X94.here hx rfl (hb hby at_114) rfl rfl (l' := #[iv p0, iv p1, iv p2, iv p3, iv 2, rv b87, rv b90, .unset, .unset]) rfl (XS.aload X94.here hx rfl (hb hby at_116) rfl rfl (st95.trans (XS.astore X95.here hx rfl (hb hby at_121) rfl rfl (l' := #[iv p0, iv p1, iv p2, iv p3, iv 2, rv b87, rv b90, rv r_95, .unset]) rfl (XS.aload X95.here hx rfl (hb hby at_123) rfl rfl (XS.ifnonnullYes X95.here hx rfl (pc0 := 125) (pc' := 130) rfl (hb hby at_125) rfl (by decide) (by decide) (XS.aload X95.here hx rfl (hb hby at_130) rfl rfl (st97.trans (st98 _ (Jvm.RoadKit.acmp (g := (mkF m 138 #[iv p0, iv p1, iv p2, iv p3, iv 2, rv b87, rv b90, rv r_95, .unset] [(.ref kg), (.ref kg)])) X98 hx rfl rfl rfl (pc0 := 138) (pc' := 143) (same := true) rfl (hb hby at_138) rfl (decide_eq_true rfl) (by decide) (by decide) (XS.aload X98.here hx rfl (hb hby at_143) rfl rfl (st100.trans (XS.aload X100.here hx rfl (hb hby at_148) rfl rfl (st101.trans (XS.ifYes X101.here hx rfl (pc0 := 153) (pc' := 158) rfl (hb hby at_153) rfl ((if0 _ _).trans (feq (by decide : ¬ ((1 : Int32) = (0 : Int32)))).2) (by decide) (by decide) (XS.aload X101.here hx rfl (hb hby at_158) rfl rfl (st103.trans (XS.astore X103.here hx rfl (hb hby at_163) rfl rfl (l' := #[iv p0, iv p1, iv p2, iv p3, iv 2, rv b87, rv b90, rv r_95, rv r_103]) rfl (XS.aload X103.here hx rfl (hb hby at_165) rfl rfl (st104.trans (XS.aload X104.here hx rfl (hb hby at_170) rfl rfl (st105.trans (Jvm.RoadKit.acmp (g := (mkF m 175 #[iv p0, iv p1, iv p2, iv p3, iv 2, rv b87, rv b90, rv r_95, rv r_103] [(.ref kg), (.ref ku)])) X105 hx rfl rfl rfl (pc0 := 175) (pc' := 178) (same := false) rfl (hb hby at_175) rfl (decide_eq_false fun q => hne (Value.ref.inj q)) (by decide) (by decide) k)))))))))))))))))))))))) ?_
    refine Go.on (w := T105.setTop (mkF m 179 #[iv p0, iv p1, iv p2, iv p3, iv 2, rv b87, rv b90, rv r_95, rv r_103] [(.int 1)])) (fun t k => XS.iconst X105.here hx rfl (hb hby at_178) k) ?_
    refine Go.on (w := T105.setTop (mkF m 183 #[iv p0, iv p1, iv p2, iv p3, iv 2, rv b87, rv b90, rv r_95, rv r_103] [(.int 1)])) (fun t k => XS.goto X105.here hx rfl (pc0 := 179) (pc' := 183) rfl (hb hby at_179) (by decide) (by decide) k) ?_
    have CE108 := CR103.trans (CHv.at X105 hZ103 hEL CR103.1)
    refine Go.fin X105 hS103 (by rw [eh105]; omega) hlk (v := some (.int 1)) (fun h => by rw [Bd.returns] at h; cases h) (fun fs hr => ?_) (endP (Q := Q_rm0 Z p0 p1 p2 p3 G1 kg ku h0) (by rw [eh105]; exact ⟨rfl, N105, KP103⟩) (by rw [eh105]; exact CE108) (by decide) (by decide))
    exact retN X105 hx (t := .boolean) Bd.returns (by simp) (hb hby at_183) hr
  ·
    refine Go.on (w := s₁.setTop (mkF m 2 #[iv p0, iv p1, iv p2, iv p3, .unset, .unset, .unset, .unset, .unset] [(.int 3), (.int p0)])) (fun t k => XS.iloadN X0.here hx rfl (hb hby at_0) rfl (XS.iconst X0.here hx rfl (hb hby at_1) k)) ?_
    refine Go.on (w := s₁.setTop (mkF m 3 #[iv p0, iv p1, iv p2, iv p3, .unset, .unset, .unset, .unset, .unset] [(.int 3)])) (fun t k => XS.iand X0.here hx rfl (hb hby at_2) rfl (by rw [(hn : (p0 &&& (3 : Int32)) = (3 : Int32))]; exact k)) ?_
    obtain ⟨T109, h109, k109, X109, e109, E109, A109, st109⟩ := newP (aty := .char) X0 hx hZ0 (w_0 hw) e0 (g := (mkF m 74 #[iv p0, iv p1, iv p2, iv p3, iv 3, .unset, .unset, .unset, .unset] [(.int 3)])) rfl (hb hby at_74) rfl (by decide : ¬ ((3 : Int32) < (0 : Int32))) (cap := 3) (by decide) (by decide) (by decide) (by decide)
    obtain ⟨b109, g109⟩ : ∃ z, z = h0.size := ⟨_, rfl⟩
    rw [← g109] at A109 st109
    have V109 : Arv Z h109 b109 k109 .char (3 : Int32) [(.int 0), (.int 0), (.int 0)] (.int 0) := (Arv.new A109 (by decide : ¬ ((3 : Int32) < (0 : Int32)))).pad (pad_rep [] (.int 0) 3)
    have u109 : h109.size > b109 := V109.lt
    have z109 : h0.size ≤ h109.size := E109.1
    have CR109 := CR0.trans (CHr.ext E109 CR0.1)
    have KP109 : Keep h0 h109 ([] : List Addr) := KP0.ext E109
    refine Go.on (w := T109.setTop (mkF m 83 #[iv p0, iv p1, iv p2, iv p3, iv 3, .unset, .unset, .unset, .unset] [(.int (p1 &&& (255 : Int32))), (.int 0), (.ref b109), (.ref b109)])) (fun t k => XS.istore X0.here hx rfl (hb hby at_3) rfl (l' := #[iv p0, iv p1, iv p2, iv p3, iv 3, .unset, .unset, .unset, .unset]) rfl (XS.iload X0.here hx rfl (hb hby at_5) rfl (XS.ifYes X0.here hx rfl (pc0 := 7) (pc' := 18) rfl (hb hby at_7) rfl ((if0 _ _).trans (feq (by decide : ¬ ((3 : Int32) = (0 : Int32)))).2) (by decide) (by decide) (XS.iload X0.here hx rfl (hb hby at_18) rfl (XS.iconst X0.here hx rfl (hb hby at_20) (XS.icmpYes X0.here hx rfl (pc0 := 21) (pc' := 41) rfl (hb hby at_21) rfl (feq (by decide : ¬ ((3 : Int32) = (1 : Int32)))).2 (by decide) (by decide) (XS.iload X0.here hx rfl (hb hby at_41) rfl (XS.iconst X0.here hx rfl (hb hby at_43) (XS.icmpYes X0.here hx rfl (pc0 := 44) (pc' := 73) rfl (hb hby at_44) rfl (feq (by decide : ¬ ((3 : Int32) = (2 : Int32)))).2 (by decide) (by decide) (XS.iconst X0.here hx rfl (hb hby at_73) (st109 _ (XS.dup X109.here hx rfl (hb hby at_76) rfl rfl (XS.iconst X109.here hx rfl (hb hby at_77) (XS.iloadN X109.here hx rfl (hb hby at_78) rfl (XS.sipush X109.here hx rfl (hb hby at_79) (XS.iand X109.here hx rfl (hb hby at_82) rfl k)))))))))))))))) ?_
    refine Go.on (w := T109.setTop (mkF m 84 #[iv p0, iv p1, iv p2, iv p3, iv 3, .unset, .unset, .unset, .unset] [(.int c1), (.int 0), (.ref b109), (.ref b109)])) (fun t k => XS.i2c X109.here hx rfl (hb hby at_83) rfl (by rw [(hc1 : ((p1 &&& (255 : Int32)).toUInt32.toUInt16.toUInt32.toInt32) = c1)]; exact k)) ?_
    obtain ⟨cl110, Ar110, q110, S110, M110, H110, U110⟩ := id V109
    obtain ⟨T110, h110, X110, e110, W110, st110⟩ := stC X109 hx hZ0 e109 Ar110 (j := (0 : Int32)) (inb_of S110 ⟨(by decide), (by decide)⟩) (g := (mkF m 84 #[iv p0, iv p1, iv p2, iv p3, iv 3, .unset, .unset, .unset, .unset] [(.int c1), (.int 0), (.ref b109), (.ref b109)])) rfl rfl (hb hby at_84)
    have V110 : Arv Z h110 b109 k109 .char (3 : Int32) [(.int c1), (.int 0), (.int 0)] (.int 0) := by rw [← (own_nar l1 r1 : nar .char c1 = c1)]; exact (Arv.set Ar110 q110 S110 M110 H110 U110 (fits_nar_char _) W110 0 rfl (Nat.le_of_ble_eq_true rfl))
    have CR110 := CR109.trans (CHr.wr W110 (Safe.arv hZ0.alike V109 (by decide)) CR109.1)
    have z110 : h109.size ≤ h110.size := Nat.le_of_eq W110.size.symm
    have KP110 : Keep h0 h110 ([] : List Addr) := KP109.wr W110 (Or.inr (by omega))
    have N110 := Fr.snoc X110 N0 (by omega)
    refine Go.on (w := T110.setTop (mkF m 92 #[iv p0, iv p1, iv p2, iv p3, iv 3, .unset, .unset, .unset, .unset] [(.int (p2 &&& (255 : Int32))), (.int 1), (.ref b109), (.ref b109)])) (fun t k => st110 _ (XS.dup X110.here hx rfl (hb hby at_85) rfl rfl (XS.iconst X110.here hx rfl (hb hby at_86) (XS.iloadN X110.here hx rfl (hb hby at_87) rfl (XS.sipush X110.here hx rfl (hb hby at_88) (XS.iand X110.here hx rfl (hb hby at_91) rfl k)))))) ?_
    refine Go.on (w := T110.setTop (mkF m 93 #[iv p0, iv p1, iv p2, iv p3, iv 3, .unset, .unset, .unset, .unset] [(.int c2), (.int 1), (.ref b109), (.ref b109)])) (fun t k => XS.i2c X110.here hx rfl (hb hby at_92) rfl (by rw [(hc2 : ((p2 &&& (255 : Int32)).toUInt32.toUInt16.toUInt32.toInt32) = c2)]; exact k)) ?_
    obtain ⟨cl111, Ar111, q111, S111, M111, H111, U111⟩ := id V110
    obtain ⟨T111, h111, X111, e111, W111, st111⟩ := stC X110 hx hZ0 e110 Ar111 (j := (1 : Int32)) (inb_of S111 ⟨(by decide), (by decide)⟩) (g := (mkF m 93 #[iv p0, iv p1, iv p2, iv p3, iv 3, .unset, .unset, .unset, .unset] [(.int c2), (.int 1), (.ref b109), (.ref b109)])) rfl rfl (hb hby at_93)
    have V111 : Arv Z h111 b109 k109 .char (3 : Int32) [(.int c1), (.int c2), (.int 0)] (.int 0) := by rw [← (own_nar l2 r2 : nar .char c2 = c2)]; exact (Arv.set Ar111 q111 S111 M111 H111 U111 (fits_nar_char _) W111 1 rfl (Nat.le_of_ble_eq_true rfl))
    have CR111 := CR110.trans (CHr.wr W111 (Safe.arv hZ0.alike V110 (by decide)) CR110.1)
    have z111 : h110.size ≤ h111.size := Nat.le_of_eq W111.size.symm
    have KP111 : Keep h0 h111 ([] : List Addr) := KP110.wr W111 (Or.inr (by omega))
    have N111 := Fr.snoc X111 N110 (by omega)
    refine Go.on (w := T111.setTop (mkF m 101 #[iv p0, iv p1, iv p2, iv p3, iv 3, .unset, .unset, .unset, .unset] [(.int (p3 &&& (255 : Int32))), (.int 2), (.ref b109), (.ref b109)])) (fun t k => st111 _ (XS.dup X111.here hx rfl (hb hby at_94) rfl rfl (XS.iconst X111.here hx rfl (hb hby at_95) (XS.iloadN X111.here hx rfl (hb hby at_96) rfl (XS.sipush X111.here hx rfl (hb hby at_97) (XS.iand X111.here hx rfl (hb hby at_100) rfl k)))))) ?_
    refine Go.on (w := T111.setTop (mkF m 102 #[iv p0, iv p1, iv p2, iv p3, iv 3, .unset, .unset, .unset, .unset] [(.int c3), (.int 2), (.ref b109), (.ref b109)])) (fun t k => XS.i2c X111.here hx rfl (hb hby at_101) rfl (by rw [(hc3 : ((p3 &&& (255 : Int32)).toUInt32.toUInt16.toUInt32.toInt32) = c3)]; exact k)) ?_
    obtain ⟨cl112, Ar112, q112, S112, M112, H112, U112⟩ := id V111
    obtain ⟨T112, h112, X112, e112, W112, st112⟩ := stC X111 hx hZ0 e111 Ar112 (j := (2 : Int32)) (inb_of S112 ⟨(by decide), (by decide)⟩) (g := (mkF m 102 #[iv p0, iv p1, iv p2, iv p3, iv 3, .unset, .unset, .unset, .unset] [(.int c3), (.int 2), (.ref b109), (.ref b109)])) rfl rfl (hb hby at_102)
    have V112 : Arv Z h112 b109 k109 .char (3 : Int32) [(.int c1), (.int c2), (.int c3)] (.int 0) := by rw [← (own_nar l3 r3 : nar .char c3 = c3)]; exact (Arv.set Ar112 q112 S112 M112 H112 U112 (fits_nar_char _) W112 2 rfl (Nat.le_of_ble_eq_true rfl))
    have CR112 := CR111.trans (CHr.wr W112 (Safe.arv hZ0.alike V111 (by decide)) CR111.1)
    have z112 : h111.size ≤ h112.size := Nat.le_of_eq W112.size.symm
    have KP112 : Keep h0 h112 ([] : List Addr) := KP111.wr W112 (Or.inr (by omega))
    have N112 := Fr.snoc X112 N111 (by omega)
    obtain ⟨T113, h113, X113, e113, E113, A113, D113, -, st113⟩ := newO X112 hx hZ0 hown0 (w_1 hw) (w_2 hw) (w_3 hw) e112 (g := (mkF m 105 #[iv p0, iv p1, iv p2, iv p3, iv 3, rv b109, .unset, .unset, .unset] [])) rfl (hb hby at_105) (by decide) (by decide)
    obtain ⟨b113, g113⟩ : ∃ z, z = h112.size := ⟨_, rfl⟩
    rw [← g113] at A113 D113 st113
    have u113 : h113.size > b113 := A113.lt
    have z113 : h112.size ≤ h113.size := E113.1
    have CR113 := CR112.trans (CHr.ext E113 CR112.1)
    have KP113 : Keep h0 h113 ([] : List Addr) := KP112.ext E113
    have Fn113_16 : Fld Z h113 b113 "java/lang/String" "value" "[B" .null := D113 (Or.inr (w_16 hw)) (ty := (.array .byte)) (by decide)
    have Fn113_17 : Fld Z h113 b113 "java/lang/String" "coder" "B" (.int 0) := D113 (Or.inr (w_17 hw)) (ty := .byte) (by decide)
    have F114 := (V112.ext E113)
    have F115 := (((((OL.ext E109).wr W110 (by omega)).wr W111 (by omega)).wr W112 (by omega)).ext E113)
    refine Go.on (w := T113.setTop (mkF m 111 #[iv p0, iv p1, iv p2, iv p3, iv 3, rv b109, .unset, .unset, .unset] [(.ref b109), (.ref b113), (.ref b113)])) (fun t k => st112 _ (XS.astore X112.here hx rfl (hb hby at_103) rfl rfl (l' := #[iv p0, iv p1, iv p2, iv p3, iv 3, rv b109, .unset, .unset, .unset]) rfl (st113 _ (XS.dup X113.here hx rfl (hb hby at_108) rfl rfl (XS.aload X113.here hx rfl (hb hby at_109) rfl rfl k))))) ?_
    have hp116 : ∀ c ∈ ([c1, c2, c3] : List Int32), ¬ c < 0 ∧ ¬ (255 : Int32) < c := by
      intro c hc
      simp only [List.mem_cons, List.not_mem_nil, or_false] at hc
      rcases hc with rfl | rfl | rfl
      · exact ⟨l1, r1⟩
      · exact ⟨l2, r2⟩
      · exact ⟨l3, r3⟩
    obtain ⟨v117, _, ⟨T117, L117, k117, n117⟩, -, X117, ⟨Lc117, hQ117, l117, y117, z117⟩, st117⟩ := X113.specialBack hx (y := (⟨"java/lang/String", "<init>", "([C)V"⟩ : MethodName)) rfl hown0 (mvT hZ0 (w_4 hw)) (mvT hZ0 (w_5 hw)) (mvT hZ0 (w_6 hw)) (by decide) (StrChars.Road.backV (W := 1) hZ0 (hStrW hw) (kI := 4) (w_2 hw) (cs := ([c1, c2, c3] : List Int32)) (bs := ([c1, c2, c3] : List Int32).map (fun c => c.toInt8.toInt32)) (n := 3) (n0 := Z.heap.size) (by omega) (by omega) A113 Fn113_16 Fn113_17 F114 (O2.ext F115.2) P5 rfl rfl (by decide) (by decide) hp116 rfl (by decide) (by decide)) (g := (mkF m 111 #[iv p0, iv p1, iv p2, iv p3, iv 3, rv b109, .unset, .unset, .unset] [(.ref b109), (.ref b113), (.ref b113)])) rfl (by rw [hml]; rfl) (Steps.refl _) (a := b113) (argsL := [(.ref b109)]) (rest := [(.ref b113)]) (lenOf pd_4 rfl) rfl (by show 2 * 0 + _ ≤ _; exact Nat.le_of_eq rfl) (hb hby at_111) (fun _ _ => ⟨rfl, e113, (by decide : 2 + 1 ≤ _), (by decide : 7 + 3 ≤ _)⟩)
    dsimp only [Pt.U, Pt.locs, Pt.cells, Pt.slots] at X117 l117 y117 z117 st117 hQ117
    subst l117 y117 z117
    obtain ⟨rfl, Nq117, K117, Ex117, Fc117, t117, kb117, -, ht117, hne117, Fv117, Av117⟩ := hQ117
    have N117 := Fr.app N112 Nq117
    have eK117 : T117.heap = T117.heap := rfl
    have CR117 := CR113.trans (CHr.keep K117 (sfS (own_safeNull hZ0.alike A113 Fn113_16) sf0) CR113.1)
    have z117 : h113.size ≤ T117.heap.size := K117.1
    have KP117 : Keep h0 T117.heap ([] : List Addr) := KP113.trans K117 (allS (P := fun x => x ∈ ([] : List Addr) ∨ h0.size ≤ x) (Or.inr (by omega)) all0)
    have ut117 : T117.heap.size > t117 := Av117.lt
    have F119 := (F115.keep K117 (allS (by omega) all0))
    obtain ⟨v118, _, ⟨T118, L118, k118, n118⟩, -, X118', hs118, hg118, ⟨Lc118, hQ118, l118, y118, z118, C118⟩, st118⟩ := callSS X117 hx (y := (⟨"com/example/hierarchy_grants/hierarchygrants/Subject", "group", "(Ljava/lang/String;)Lcom/example/hierarchy_grants/hierarchygrants/Subject;"⟩ : MethodName)) hown0 (mvT hZ0 (w_22 hw)) (mvT hZ0 (w_23 hw)) (mvT hZ0 (w_24 hw)) (mvT hZ0 (w_25 hw)) (by decide) (backOfSH (s := s) (W := 0) (rm_group l Z a0 hw [] b113 kg T117.heap hEL (by omega) F119 O6) hZ0 (w_25 hw) (w_24 hw) (by decide) (by decide) hEL CR117.1) (g := (mkF m 118 #[iv p0, iv p1, iv p2, iv p3, iv 3, rv b109, rv b113, .unset, .unset] [(.ref b113)])) rfl (by rw [hml]; rfl) (argsL := [(.ref b113)]) (rest := []) (lenOf pd_5 rfl) rfl (by show 2 * 0 + _ ≤ _; exact Nat.le_of_eq rfl) (hb hby at_118) (fun _ _ => ⟨rfl, eK117, (by decide : 3 + 5 ≤ _), (by decide : 10 + 34 ≤ _)⟩)
    dsimp only [Pt.U, Pt.locs, Pt.cells, Pt.slots] at X118' l118 y118 z118 st118 hQ118 hs118 hg118 C118
    subst l118 y118 z118
    obtain ⟨X118, hS118, hZ118, hown118⟩ := rebS hS0 (n1 := T117.heap.size) (by rw [eK117]; omega) X118' hs118 hg118 hZ0 hown0
    have hj118 : T118.heap.size ≤ T118.heap.size := Nat.le_refl _
    obtain ⟨r_118, rfl, Nq118, K118, f118_0, f118_1, f118_2, f118_3⟩ := hQ118
    have N118 := Fr.app N117 Nq118
    have eK118 : T118.heap = T118.heap := rfl
    have CR118 := CR117.trans C118
    have z118 : T117.heap.size ≤ T118.heap.size := K118.1
    have KP118 : Keep h0 T118.heap ([] : List Addr) := KP117.trans K118 all0
    have u118_1 : T118.heap.size > r_118 := f118_1.lt
    obtain ⟨cq120, kq120, q120a, q120b, q120c⟩ := isOf hZ118 eK118 f118_1
    obtain ⟨v120, _, ⟨T120, L120, k120, n120⟩, -, X120, ⟨Lc120, hQ120, l120, y120, z120⟩, st120⟩ := X118.virtualBack hx (y := (⟨"com/example/hierarchy_grants/hierarchygrants/Subject", "kind", "()Lcom/example/hierarchy_grants/hierarchygrants/Subject$Kind;"⟩ : MethodName)) (z := (⟨"com/example/hierarchy_grants/hierarchygrants/Subject", "kind", "()Lcom/example/hierarchy_grants/hierarchygrants/Subject$Kind;"⟩ : MethodName)) hown118 (mvT hZ118 (w_50 hw)) (mvT hZ118 (w_51 hw)) (notFace_of_selects (args := #[]) (mvT hZ118 (w_53 hw))) (mvT hZ118 (w_53 hw)) (mvT hZ118 (w_52 hw)) (by decide) (backOf (W := 0) (rm_kind l Z a0 hw [] r_118 kg T118.heap f118_2) hZ118 (w_54 hw) (w_24 hw) (by decide) (by decide)) q120a q120c (g := (mkF m 132 #[iv p0, iv p1, iv p2, iv p3, iv 3, rv b109, rv b113, rv r_118, .unset] [(.ref r_118)])) rfl (by rw [hml]; rfl) (Steps.refl _) (argsL := []) (rest := []) (lenOf pd_6 rfl) rfl (by show 2 * 0 + _ ≤ _; exact Nat.le_of_eq rfl) (hb hby at_132) (fun _ _ => ⟨rfl, eK118, (by decide : 8 + 0 ≤ _), (by decide : 44 + 0 ≤ _)⟩)
    dsimp only [Pt.U, Pt.locs, Pt.cells, Pt.slots] at X120 l120 y120 z120 st120 hQ120
    subst l120 y120 z120
    obtain ⟨rfl, Nq120, eh120⟩ := hQ120
    have N120 := Fr.app N118 Nq120
    have F122 := (F119.keep K118 all0)
    obtain ⟨T121, X121, e121, st121⟩ := getS2 X120 hx hZ118 hown118 (host := "") (Or.inl (w_55 hw)) Via.refl eh120 (O6.ext F122.2) (g := (mkF m 135 #[iv p0, iv p1, iv p2, iv p3, iv 3, rv b109, rv b113, rv r_118, .unset] [(.ref kg)])) rfl (hb hby at_135)
    obtain ⟨cq123, kq123, q123a, q123b, q123c⟩ := isOf hZ118 e121 f118_1
    obtain ⟨v123, _, ⟨T123, L123, k123, n123⟩, -, X123, ⟨Lc123, hQ123, l123, y123, z123⟩, st123⟩ := X121.virtualBack hx (y := (⟨"com/example/hierarchy_grants/hierarchygrants/Subject", "id", "()Ljava/lang/String;"⟩ : MethodName)) (z := (⟨"com/example/hierarchy_grants/hierarchygrants/Subject", "id", "()Ljava/lang/String;"⟩ : MethodName)) hown118 (mvT hZ118 (w_56 hw)) (mvT hZ118 (w_57 hw)) (notFace_of_selects (args := #[]) (mvT hZ118 (w_59 hw))) (mvT hZ118 (w_59 hw)) (mvT hZ118 (w_58 hw)) (by decide) (backOf (W := 0) (rm_id l Z a0 hw [] r_118 b113 T118.heap f118_3) hZ118 (w_60 hw) (w_24 hw) (by decide) (by decide)) q123a q123c (g := (mkF m 145 #[iv p0, iv p1, iv p2, iv p3, iv 3, rv b109, rv b113, rv r_118, .unset] [(.ref r_118)])) rfl (by rw [hml]; rfl) (Steps.refl _) (argsL := []) (rest := []) (lenOf pd_7 rfl) rfl (by show 2 * 0 + _ ≤ _; exact Nat.le_of_eq rfl) (hb hby at_145) (fun _ _ => ⟨rfl, e121, (by decide : 8 + 0 ≤ _), (by decide : 44 + 0 ≤ _)⟩)
    dsimp only [Pt.U, Pt.locs, Pt.cells, Pt.slots] at X123 l123 y123 z123 st123 hQ123
    subst l123 y123 z123
    obtain ⟨rfl, Nq123, eh123⟩ := hQ123
    have N123 := Fr.app N120 Nq123
    have F125 := (Ex117.keep K118)
    obtain ⟨cq124, kq124, q124a, q124b, q124c⟩ := isOf hZ118 eh123 F125
    obtain ⟨v124, _, ⟨T124, L124, k124, n124⟩, -, X124, ⟨Lc124, hQ124, l124, y124, z124⟩, st124⟩ := X123.virtualBack hx (y := (⟨"java/lang/String", "equals", "(Ljava/lang/Object;)Z"⟩ : MethodName)) (z := (⟨"java/lang/String", "equals", "(Ljava/lang/Object;)Z"⟩ : MethodName)) hown118 (mvT hZ118 (w_61 hw)) (mvT hZ118 (w_62 hw)) (notFace_of_selects (args := #[]) (mvT hZ118 (w_64 hw))) (mvT hZ118 (w_64 hw)) (mvT hZ118 (w_63 hw)) (by decide) (backOf (W := 0) (rmEqs l Z a0 hw [] b113 T118.heap ) hZ118 (w_65 hw) (w_3 hw) (by decide) (by decide)) q124a q124c (g := (mkF m 150 #[iv p0, iv p1, iv p2, iv p3, iv 3, rv b109, rv b113, rv r_118, .unset] [(.ref b113), (.ref b113)])) rfl (by rw [hml]; rfl) (Steps.refl _) (argsL := [(.ref b113)]) (rest := []) (lenOf pd_8 rfl) rfl (by show 2 * 0 + _ ≤ _; exact Nat.le_of_eq rfl) (hb hby at_150) (fun _ _ => ⟨rfl, eh123, (by decide : 8 + 0 ≤ _), (by decide : 44 + 0 ≤ _)⟩)
    dsimp only [Pt.U, Pt.locs, Pt.cells, Pt.slots] at X124 l124 y124 z124 st124 hQ124
    subst l124 y124 z124
    obtain ⟨rfl, Nq124, eh124⟩ := hQ124
    have N124 := Fr.app N123 Nq124
    obtain ⟨v126, _, ⟨T126, L126, k126, n126⟩, -, X126', hs126, hg126, ⟨Lc126, hQ126, l126, y126, z126, C126⟩, st126⟩ := callSS X124 hx (y := (⟨"com/example/hierarchy_grants/hierarchygrants/Subject", "user", "(Ljava/lang/String;)Lcom/example/hierarchy_grants/hierarchygrants/Subject;"⟩ : MethodName)) hown118 (mvT hZ118 (w_66 hw)) (mvT hZ118 (w_67 hw)) (mvT hZ118 (w_24 hw)) (mvT hZ118 (w_68 hw)) (by decide) (backOfSH (s := s) (W := 0) (rm_user l Z a0 hw [] b113 ku T118.heap hEL (by omega) F122 O7) hZ118 (w_68 hw) (w_24 hw) (by decide) (by decide) hEL CR118.1) (g := (mkF m 160 #[iv p0, iv p1, iv p2, iv p3, iv 3, rv b109, rv b113, rv r_118, .unset] [(.ref b113)])) rfl (by rw [hml]; rfl) (argsL := [(.ref b113)]) (rest := []) (lenOf pd_5 rfl) rfl (by show 2 * 0 + _ ≤ _; exact Nat.le_of_eq rfl) (hb hby at_160) (fun _ _ => ⟨rfl, eh124, (by decide : 8 + 5 ≤ _), (by decide : 44 + 34 ≤ _)⟩)
    dsimp only [Pt.U, Pt.locs, Pt.cells, Pt.slots] at X126' l126 y126 z126 st126 hQ126 hs126 hg126 C126
    subst l126 y126 z126
    obtain ⟨X126, hS126, hZ126, hown126⟩ := rebS hS118 (n1 := T124.heap.size) (by rw [eh124]; omega) X126' hs126 hg126 hZ118 hown118
    have hj126 : T126.heap.size ≤ T126.heap.size := Nat.le_refl _
    obtain ⟨r_126, rfl, Nq126, K126, f126_0, f126_1, f126_2, f126_3⟩ := hQ126
    have N126 := Fr.app N124 Nq126
    have eK126 : T126.heap = T126.heap := rfl
    have CR126 := CR118.trans C126
    have z126 : T118.heap.size ≤ T126.heap.size := K126.1
    have KP126 : Keep h0 T126.heap ([] : List Addr) := KP118.trans K126 all0
    have u126_1 : T126.heap.size > r_126 := f126_1.lt
    obtain ⟨cq127, kq127, q127a, q127b, q127c⟩ := isOf hZ126 eK126 f126_1
    obtain ⟨v127, _, ⟨T127, L127, k127, n127⟩, -, X127, ⟨Lc127, hQ127, l127, y127, z127⟩, st127⟩ := X126.virtualBack hx (y := (⟨"com/example/hierarchy_grants/hierarchygrants/Subject", "kind", "()Lcom/example/hierarchy_grants/hierarchygrants/Subject$Kind;"⟩ : MethodName)) (z := (⟨"com/example/hierarchy_grants/hierarchygrants/Subject", "kind", "()Lcom/example/hierarchy_grants/hierarchygrants/Subject$Kind;"⟩ : MethodName)) hown126 (mvT hZ126 (w_50 hw)) (mvT hZ126 (w_51 hw)) (notFace_of_selects (args := #[]) (mvT hZ126 (w_53 hw))) (mvT hZ126 (w_53 hw)) (mvT hZ126 (w_52 hw)) (by decide) (backOf (W := 0) (rm_kind l Z a0 hw [] r_126 ku T126.heap f126_2) hZ126 (w_54 hw) (w_24 hw) (by decide) (by decide)) q127a q127c (g := (mkF m 167 #[iv p0, iv p1, iv p2, iv p3, iv 3, rv b109, rv b113, rv r_118, rv r_126] [(.ref r_126)])) rfl (by rw [hml]; rfl) (Steps.refl _) (argsL := []) (rest := []) (lenOf pd_6 rfl) rfl (by show 2 * 0 + _ ≤ _; exact Nat.le_of_eq rfl) (hb hby at_167) (fun _ _ => ⟨rfl, eK126, (by decide : 13 + 0 ≤ _), (by decide : 78 + 0 ≤ _)⟩)
    dsimp only [Pt.U, Pt.locs, Pt.cells, Pt.slots] at X127 l127 y127 z127 st127 hQ127
    subst l127 y127 z127
    obtain ⟨rfl, Nq127, eh127⟩ := hQ127
    have N127 := Fr.app N126 Nq127
    have F129 := (f118_2.keep K126 nin0)
    have F130 := (f118_1.keep K126)
    obtain ⟨cq128, kq128, q128a, q128b, q128c⟩ := isOf hZ126 eh127 F130
    obtain ⟨v128, _, ⟨T128, L128, k128, n128⟩, -, X128, ⟨Lc128, hQ128, l128, y128, z128⟩, st128⟩ := X127.virtualBack hx (y := (⟨"com/example/hierarchy_grants/hierarchygrants/Subject", "kind", "()Lcom/example/hierarchy_grants/hierarchygrants/Subject$Kind;"⟩ : MethodName)) (z := (⟨"com/example/hierarchy_grants/hierarchygrants/Subject", "kind", "()Lcom/example/hierarchy_grants/hierarchygrants/Subject$Kind;"⟩ : MethodName)) hown126 (mvT hZ126 (w_50 hw)) (mvT hZ126 (w_51 hw)) (notFace_of_selects (args := #[]) (mvT hZ126 (w_53 hw))) (mvT hZ126 (w_53 hw)) (mvT hZ126 (w_52 hw)) (by decide) (backOf (W := 1) (rm_kind l Z a0 hw [] r_118 kg T126.heap F129) hZ126 (w_54 hw) (w_24 hw) (by decide) (by decide)) q128a q128c (g := (mkF m 172 #[iv p0, iv p1, iv p2, iv p3, iv 3, rv b109, rv b113, rv r_118, rv r_126] [(.ref r_118), (.ref ku)])) rfl (by rw [hml]; rfl) (Steps.refl _) (argsL := []) (rest := [(.ref ku)]) (lenOf pd_6 rfl) rfl (by show 2 * 0 + _ ≤ _; exact Nat.le_of_eq rfl) (hb hby at_172) (fun _ _ => ⟨rfl, eh127, (by decide : 13 + 0 ≤ _), (by decide : 78 + 0 ≤ _)⟩)
    dsimp only [Pt.U, Pt.locs, Pt.cells, Pt.slots] at X128 l128 y128 z128 st128 hQ128
    subst l128 y128 z128
    obtain ⟨rfl, Nq128, eh128⟩ := hQ128
    have N128 := Fr.app N127 Nq128
    refine Go.on (w := T128.setTop (mkF m 178 #[iv p0, iv p1, iv p2, iv p3, iv 3, rv b109, rv b113, rv r_118, rv r_126] [])) (fun t k => st117.trans (XS.astore X117.here hx rfl (hb hby at_114) rfl rfl (l' := #[iv p0, iv p1, iv p2, iv p3, iv 3, rv b109, rv b113, .unset, .unset]) rfl (XS.aload X117.here hx rfl (hb hby at_116) rfl rfl (st118.trans (XS.astore X118.here hx rfl (hb hby at_121) rfl rfl (l' := #[iv p0, iv p1, iv p2, iv p3, iv 3, rv b109, rv b113, rv r_118, .unset]) rfl (XS.aload X118.here hx rfl (hb hby at_123) rfl rfl (XS.ifnonnullYes X118.here hx rfl (pc0 := 125) (pc' := 130) rfl (hb hby at_125) rfl (by decide) (by decide) (XS.aload X118.here hx rfl (hb hby at_130) rfl rfl (st120.trans (st121 _ (Jvm.RoadKit.acmp (g := (mkF m 138 #[iv p0, iv p1, iv p2, iv p3, iv 3, rv b109, rv b113, rv r_118, .unset] [(.ref kg), (.ref kg)])) X121 hx rfl rfl rfl (pc0 := 138) (pc' := 143) (same := true) rfl (hb hby at_138) rfl (decide_eq_true rfl) (by decide) (by decide) (XS.aload X121.here hx rfl (hb hby at_143) rfl rfl (st123.trans (XS.aload X123.here hx rfl (hb hby at_148) rfl rfl (st124.trans (XS.ifYes X124.here hx rfl (pc0 := 153) (pc' := 158) rfl (hb hby at_153) rfl ((if0 _ _).trans (feq (by decide : ¬ ((1 : Int32) = (0 : Int32)))).2) (by decide) (by decide) (XS.aload X124.here hx rfl (hb hby at_158) rfl rfl (st126.trans (XS.astore X126.here hx rfl (hb hby at_163) rfl rfl (l' := #[iv p0, iv p1, iv p2, iv p3, iv 3, rv b109, rv b113, rv r_118, rv r_126]) rfl (XS.aload X126.here hx rfl (hb hby at_165) rfl rfl (st127.trans (XS.aload X127.here hx rfl (hb hby at_170) rfl rfl (st128.trans (Jvm.RoadKit.acmp (g := (mkF m 175 #[iv p0, iv p1, iv p2, iv p3, iv 3, rv b109, rv b113, rv r_118, rv r_126] [(.ref kg), (.ref ku)])) X128 hx rfl rfl rfl (pc0 := 175) (pc' := 178) (same := false) rfl (hb hby at_175) rfl (decide_eq_false fun q => hne (Value.ref.inj q)) (by decide) (by decide) k)))))))))))))))))))))))) ?_
    refine Go.on (w := T128.setTop (mkF m 179 #[iv p0, iv p1, iv p2, iv p3, iv 3, rv b109, rv b113, rv r_118, rv r_126] [(.int 1)])) (fun t k => XS.iconst X128.here hx rfl (hb hby at_178) k) ?_
    refine Go.on (w := T128.setTop (mkF m 183 #[iv p0, iv p1, iv p2, iv p3, iv 3, rv b109, rv b113, rv r_118, rv r_126] [(.int 1)])) (fun t k => XS.goto X128.here hx rfl (pc0 := 179) (pc' := 183) rfl (hb hby at_179) (by decide) (by decide) k) ?_
    have CE131 := CR126.trans (CHv.at X128 hZ126 hEL CR126.1)
    refine Go.fin X128 hS126 (by rw [eh128]; omega) hlk (v := some (.int 1)) (fun h => by rw [Bd.returns] at h; cases h) (fun fs hr => ?_) (endP (Q := Q_rm0 Z p0 p1 p2 p3 G1 kg ku h0) (by rw [eh128]; exact ⟨rfl, N128, KP126⟩) (by rw [eh128]; exact CE131) (by decide) (by decide))
    exact retN X128 hx (t := .boolean) Bd.returns (by simp) (hb hby at_183) hr
set_option maxRecDepth 65536 in
set_option maxHeartbeats 40000000 in
theorem comes_1 {Post : Tables → Env → Array Value → State → Outcome → State → Prop} (hpost : ∀ tb e args s v u, (limb_1_1.after args s (.returned v) u = true ∧ limb_1_2.after args s (.returned v) u = true ∧ True) → ReturnedEndW s (.returned v) u (Jvm.fieldLocs frame_1_writes args s ++ Jvm.arrayLocs frame_1_arrays args s ++ Jvm.staticLocs frame_1_statics s) 24 3200 → Post tb e args s (.returned v) u) :
    ArmFor flags0 classFile x code maxLocals ret World_1 tables_1 room_1 Calls_1 rest_1 Pre_1 Post := by
  intro l hfl _ _ p e ha hc hk s m args below hf hA hF happ hP
  obtain ⟨hcalls, hrest, hpre⟩ := hP
  obtain ⟨-, -, -, hnamed, -, -, -, hat⟩ := (Spec.applies_iff hf).mp happ
  obtain ⟨hg, hn⟩ := and_e (Cond.before_iff.mp (show (Jvm.Cond.and given_1 narrow_1).before args s = true from hpre))
  obtain ⟨gh0, gt0⟩ := and_e hg
  obtain ⟨gh1, gt1⟩ := and_e gt0
  obtain ⟨gh2, gt2⟩ := and_e gt1
  obtain ⟨gh3, gt3⟩ := and_e gt2
  obtain ⟨v0, v1, v2, v3, rfl⟩ : ∃ v0 v1 v2 v3 : Value, args = #[v0, v1, v2, v3] := by
    have hs : args.size = 4 := by simpa [Cond.value, given_1] using gh0
    obtain ⟨L⟩ := args
    match L, hs with
    | [v0, v1, v2, v3], _ => exact ⟨v0, v1, v2, v3, rfl⟩
  have hw := fun d (hd : d ∈ tables_1) => atoms_spec (ws := Jvm.Cond.code x code maxLocals ret :: tables_1) hat d (List.mem_cons_of_mem _ hd)
  have hfit : Fit s := fun {y c} hc i hi => by
    obtain ⟨ha, rfl⟩ := Array.getElem?_eq_some_iff.mp hc
    have q := List.all_eq_true.mp ((Array.all_eq_true_iff_forall_mem.mp hF) _ (Array.getElem_mem ha)) i (List.mem_range.mpr hi)
    simpa [Array.getElem?_eq_getElem hi] using q
  obtain ⟨i0, ei0⟩ := is_v gh1
  obtain rfl : v0 = (.int i0) := Option.some.inj ei0
  obtain ⟨i1, ei1⟩ := is_v gh2
  obtain rfl : v1 = (.int i1) := Option.some.inj ei1
  obtain ⟨i2, ei2⟩ := is_v gh3
  obtain rfl : v2 = (.int i2) := Option.some.inj ei2
  obtain ⟨i3, ei3⟩ := is_v gt3
  obtain rfl : v3 = (.int i3) := Option.some.inj ei3
  obtain ⟨hsets, hown0⟩ := atoms_of _ (rest_1_c_eq ▸ (show rest_1_c.before _ s = true from hrest))
  have n5 := not_v (Cond.before_iff.mp (hsets _ (List.mem_of_getElem? (i := 2) rfl)))
  obtain ⟨G1, e10⟩ := is_v (Cond.before_iff.mp (hsets _ (List.mem_of_getElem? (i := 1) rfl)))
  have O2 : Sta s s.heap "java/lang/String" "COMPACT_STRINGS" "Z" (.int G1) := Sta.start e10 (Or.inl (hsets _ (List.mem_of_getElem? (i := 0) rfl)))
  have P5 : ¬ (G1 = (0 : Int32)) := gotF (Cond.eq_ints e10 (Term.int_eval (0))) n5
  have hEL : EW s _ EL := (EW.cons (w_14 hw) (by decide) EW.nil)
  have hC : CHv s EL s.vm s.heap := CHv.start hEL (fun p hp => hcalls.1 p ((by decide : ∀ p ∈ EL, p ∈ consts_1) p hp)) (hsets _ (List.mem_of_getElem? (i := 2) rfl)) (w_15 hw) (w_2 hw)
  obtain ⟨na, nb⟩ := and_e hn
  obtain ⟨nc, nd⟩ := and_e nb
  obtain ⟨ne, nf⟩ := and_e nd
  obtain ⟨kg, eg⟩ := own_exaRef na
  obtain ⟨ku, eu⟩ := own_exaRef nc
  have O6 : Sta s s.heap "com/example/hierarchy_grants/hierarchygrants/Subject$Kind" "GROUP" "Lcom/example/hierarchy_grants/hierarchygrants/Subject$Kind;" (.ref kg) := Sta.start eg (Or.inr ⟨(w_29 hw), (w_30 hw)⟩)
  have O7 : Sta s s.heap "com/example/hierarchy_grants/hierarchygrants/Subject$Kind" "USER" "Lcom/example/hierarchy_grants/hierarchygrants/Subject$Kind;" (.ref ku) := Sta.start eu (Or.inr ⟨(w_29 hw), (w_70 hw)⟩)
  have hne : ¬ (ku = kg) := fun q => by have o1 := own_ord eu ne; have o2 := own_ord eg nf; rw [q, o2] at o1; exact absurd o1 (by decide)
  obtain ⟨n, o, h1, h2, h3, _, L, rfl, ⟨rfl, N, -⟩, -, hq⟩ := rm0 l s _ hw tables_1 i0 i1 i2 i3 G1 kg ku s.heap hEL (Nat.le_refl _) (Old.start s) O2 P5 O6 O7 hne p e ha hc hk s m _ below hf ((Spec.applies_iff_loose hf).mp happ).1 ⟨rfl, State.Warmed39.refl s, rfl, hC⟩ trivial
  refine ⟨n, _, h1, h2, h3, hpost _ _ _ _ _ _ ⟨Cond.after_iff.mpr rfl, Cond.after_iff.mpr (eq_i res_at (Term.int_eval (1)) rfl), trivial⟩ ⟨hq.1, hq.2.1, hq.2.2.1, (hq.2.2.2.sift fun y hy => Or.inr (N y hy)).mono (by decide) (by decide)⟩⟩
theorem main_1_1 : Claimed_1_1 := comes_1 fun _ _ _ _ _ _ h hF => ⟨h.1, hF⟩
theorem main_1_2 : Claimed_1_2 := comes_1 fun _ _ _ _ _ _ h hF => ⟨h.2.1, hF⟩
end Jvm.Pilot.@@N@@
namespace Jvm.Pilot.@@N@@
open Jvm Jvm.ClassFile Sem Op Lib Jvm.Free Jvm.Stand Jvm.Pilot.@@N@@.Jvm.D
/-! MADE BY PROGRAM (witnessworld.py) out of the Statement's table words and the real class files: 24 classes; the members and pool entries that the words name. The judged class is class 1, her method 1. -/
namespace start1
open Jvm.ClassFile
def u (s : String) : CpInfo := .utf8 (stringToUtf16 s)
/-- a pool by its gaps: so many unusable entries, then the entry; so many at the end -/
def gap : Nat → List CpInfo → List CpInfo
  | 0, r => r
  | n + 1, r => .unusable :: gap n r
def poolList (es : List (Nat × CpInfo)) (last : Nat) : List CpInfo := es.foldr (fun e r => gap e.1 (e.2 :: r)) (gap last [])
def pool (es : List (Nat × CpInfo)) (last : Nat) : Array CpInfo := ⟨poolList es last⟩
def fileOf (pool : Array CpInfo) (this : Nat) (attrs : Array Attribute := #[]) (ms : Array MethodInfo := #[]) (fl : Nat := 33) (sup : Nat := 0) (ifs : Array Nat := #[]) (fds : Array FieldInfo := #[]) : ClassFile where
  minorVersion := 0
  majorVersion := 65
  constantPool := pool
  accessFlags := fl
  thisClass := this
  superClass := sup
  interfaces := ifs
  fields := fds
  methods := ms
  attributes := attrs
def plain (name : String) (sup : Option ClassId) : Class where
  name := name
  kind := .ordinary
  loader := none
  accessFlags := 33
  super := sup
  interfaces := #[]
  cf := none
  fields := #[]
  methods := #[]
  instanceTypes := #[]
  staticTypes := #[]
  resolved := #[]
  callSites := []
  init := .initialized
  statics := none
  mirror := none

def pool0 : Array CpInfo := pool [(5, u "<init>"), (0, u "()V"), (1, .class_ 10), (1, u "java/lang/Object")] 113

def k0c0 : Code := { maxStack := 0, maxLocals := 1, code := object_method_1_code, exceptionTable := #[], attributes := #[] }
def k0m0 : Method := { name := "<init>", desc := "()V", sig := { parameters := [], returnType := none }, accessFlags := 1, code := some k0c0 }
/-- java/lang/Object -/
def k0 : Class := { plain "java/lang/Object" none with
  accessFlags := 33
  interfaces := #[]
  cf := some (fileOf pool0 8 #[] #[{ accessFlags := 1, nameIndex := 5, descriptorIndex := 6, attributes := #[] }] 33 0 #[] #[])
  fields := #[]
  methods := #[k0m0]
  instanceTypes := #[]
  staticTypes := #[]
  resolved := Array.replicate 124 none
  statics := none }

def pool1 : Array CpInfo := pool [(2, .class_ 4), (1, u "java/lang/Object"), (0, u "<init>"), (0, u "()V"), (0, .class_ 8), (0, u "java/lang/String"), (0, .methodref 7 10), (0, .nameAndType 5 11), (0, u "([C)V"), (0, .methodref 13 14), (0, .class_ 15), (0, .nameAndType 16 17), (0, u "com/example/hierarchy_grants/hierarchygrants/Subject"), (0, u "group"), (0, u "(Ljava/lang/String;)Lcom/example/hierarchy_grants/hierarchygrants/Subject;"), (0, .methodref 13 19), (0, .nameAndType 20 21), (0, u "kind"), (0, u "()Lcom/example/hierarchy_grants/hierarchygrants/Subject$Kind;"), (0, .fieldref 23 24), (0, .class_ 25), (0, .nameAndType 26 27), (0, u "com/example/hierarchy_grants/hierarchygrants/Subject$Kind"), (0, u "GROUP"), (0, u "Lcom/example/hierarchy_grants/hierarchygrants/Subject$Kind;"), (0, .methodref 13 29), (0, .nameAndType 30 31), (0, u "id"), (0, u "()Ljava/lang/String;"), (0, .methodref 7 33), (0, .nameAndType 34 35), (0, u "equals"), (0, u "(Ljava/lang/Object;)Z"), (0, .methodref 13 37), (0, .nameAndType 38 17), (0, u "user"), (0, .class_ 40), (0, u "com/example/hierarchy_grants/hierarchygrants/SubjectGroupPinLaw"), (2, u "law"), (0, u "(IIII)Z")] 7

def k1m0 : Method := { name := "<init>", desc := "()V", sig := { parameters := [], returnType := none }, accessFlags := 2, code := none }
def k1c1 : Code := { maxStack := 5, maxLocals := 9, code := code, exceptionTable := #[], attributes := #[] }
def k1m1 : Method := { name := "law", desc := "(IIII)Z", sig := { parameters := [.int, .int, .int, .int], returnType := some .boolean }, accessFlags := 9, code := some k1c1 }
/-- com/example/hierarchy_grants/hierarchygrants/SubjectGroupPinLaw -/
def k1 : Class := { plain "com/example/hierarchy_grants/hierarchygrants/SubjectGroupPinLaw" (some 0) with
  accessFlags := 49
  interfaces := #[]
  cf := some (fileOf pool1 39 #[] #[{ accessFlags := 2, nameIndex := 5, descriptorIndex := 6, attributes := #[] }, { accessFlags := 9, nameIndex := 43, descriptorIndex := 44, attributes := #[] }] 49 2 #[] #[])
  fields := #[]
  methods := #[k1m0, k1m1]
  instanceTypes := #[]
  staticTypes := #[]
  resolved := Array.replicate 52 none
  statics := none }

def pool2 : Array CpInfo := pool [(1, .class_ 2), (0, u "java/io/Serializable"), (0, .class_ 4), (0, u "java/lang/Object")] 2

/-- java/io/Serializable -/
def k2 : Class := { plain "java/io/Serializable" (some 0) with
  accessFlags := 1537
  interfaces := #[]
  cf := some (fileOf pool2 1 #[] #[] 1537 3 #[] #[])
  fields := #[]
  methods := #[]
  instanceTypes := #[]
  staticTypes := #[]
  resolved := Array.replicate 7 none
  statics := none }

def pool3 : Array CpInfo := pool [(1, .class_ 2), (0, u "java/lang/Comparable"), (0, .class_ 4), (0, u "java/lang/Object")] 7

/-- java/lang/Comparable -/
def k3 : Class := { plain "java/lang/Comparable" (some 0) with
  accessFlags := 1537
  interfaces := #[]
  cf := some (fileOf pool3 1 #[] #[] 1537 3 #[] #[])
  fields := #[]
  methods := #[]
  instanceTypes := #[]
  staticTypes := #[]
  resolved := Array.replicate 12 none
  statics := none }

def pool4 : Array CpInfo := pool [(2, .class_ 4), (1, u "java/lang/CharSequence"), (42, .class_ 48), (0, u "java/lang/CharSequence$1CodePointIterator"), (10, .class_ 60), (0, u "java/lang/CharSequence$1CharIterator"), (5, .class_ 67), (0, u "java/lang/Object")] 63

/-- java/lang/CharSequence -/
def k4 : Class := { plain "java/lang/CharSequence" (some 0) with
  accessFlags := 1537
  interfaces := #[]
  cf := some (fileOf pool4 2 #[.nestMembers #[47, 59]] #[] 1537 66 #[] #[])
  fields := #[]
  methods := #[]
  instanceTypes := #[]
  staticTypes := #[]
  resolved := Array.replicate 131 none
  statics := none }

def pool5 : Array CpInfo := pool [(1, .class_ 2), (0, u "java/lang/constant/Constable"), (0, .class_ 4), (0, u "java/lang/Object")] 6

/-- java/lang/constant/Constable -/
def k5 : Class := { plain "java/lang/constant/Constable" (some 0) with
  accessFlags := 1537
  interfaces := #[]
  cf := some (fileOf pool5 1 #[] #[] 1537 3 #[] #[])
  fields := #[]
  methods := #[]
  instanceTypes := #[]
  staticTypes := #[]
  resolved := Array.replicate 11 none
  statics := none }

def pool6 : Array CpInfo := pool [(1, .class_ 2), (0, u "java/lang/constant/ConstantDesc"), (0, .class_ 4), (0, u "java/lang/Object")] 32

/-- java/lang/constant/ConstantDesc -/
def k6 : Class := { plain "java/lang/constant/ConstantDesc" (some 0) with
  accessFlags := 1537
  interfaces := #[]
  cf := some (fileOf pool6 1 #[] #[] 1537 3 #[] #[])
  fields := #[]
  methods := #[]
  instanceTypes := #[]
  staticTypes := #[]
  resolved := Array.replicate 37 none
  statics := none }

def pool7 : Array CpInfo := pool [(1, .methodref 2 3), (0, .class_ 4), (0, .nameAndType 5 6), (0, u "java/lang/Object"), (0, u "<init>"), (0, u "()V"), (0, .string 8), (0, u ""), (0, .fieldref 10 11), (0, .class_ 12), (0, .nameAndType 13 14), (0, u "java/lang/String"), (0, u "value"), (0, u "[B"), (0, .fieldref 10 16), (0, .nameAndType 17 18), (0, u "coder"), (0, u "B"), (2, u "hash"), (0, u "I"), (2, u "hashIsZero"), (0, u "Z"), (0, .methodref 10 28), (0, .nameAndType 5 29), (0, u "([CIILjava/lang/Void;)V"), (8, .fieldref 10 39), (0, .nameAndType 40 26), (0, u "COMPACT_STRINGS"), (1, .class_ 44), (1, u "java/lang/StringUTF16"), (0, u "compress"), (1, .methodref 42 48), (0, .nameAndType 49 50), (0, u "coderFromArrayLen"), (0, u "([BI)B"), (126, .methodref 42 178), (0, .nameAndType 45 179), (0, u "([CII)[B"), (363, u "equals"), (29, u "(Ljava/lang/Object;)Z"), (1, .class_ 576), (0, u "java/lang/CharSequence"), (22, u "CASE_INSENSITIVE_ORDER"), (0, u "Ljava/util/Comparator;"), (409, u "([C)V"), (90, u "serialPersistentFields"), (0, u "[Ljava/io/ObjectStreamField;"), (0, .class_ 1104), (0, u "java/lang/String$CaseInsensitiveComparator"), (1, .class_ 1107), (0, u "java/io/Serializable"), (0, .class_ 1109), (0, u "java/lang/Comparable"), (0, .class_ 1111), (0, u "java/lang/constant/Constable"), (0, .class_ 1113), (0, u "java/lang/constant/ConstantDesc"), (2, u "serialVersionUID"), (0, u "J"), (3, u "REPL"), (0, u "C"), (2, u "LATIN1"), (1, u "UTF16")] 323

def k7m0 : Method := { name := "<init>", desc := "()V", sig := { parameters := [], returnType := none }, accessFlags := 1, code := none }
def k7c1 : Code := { maxStack := 5, maxLocals := 2, code := jdk_42_method_3_code, exceptionTable := #[], attributes := #[] }
def k7m1 : Method := { name := "<init>", desc := "([C)V", sig := { parameters := [(.array .char)], returnType := none }, accessFlags := 1, code := some k7c1 }
def k7c2 : Code := { maxStack := 2, maxLocals := 3, code := jdk_42_method_66_code, exceptionTable := #[], attributes := #[] }
def k7m2 : Method := { name := "equals", desc := "(Ljava/lang/Object;)Z", sig := { parameters := [(.object "java/lang/Object")], returnType := some .boolean }, accessFlags := 1, code := some k7c2 }
def k7c3 : Code := { maxStack := 4, maxLocals := 6, code := jdk_42_method_149_code, exceptionTable := #[], attributes := #[] }
def k7m3 : Method := { name := "<init>", desc := "([CIILjava/lang/Void;)V", sig := { parameters := [(.array .char), .int, .int, (.object "java/lang/Void")], returnType := none }, accessFlags := 2, code := some k7c3 }
/-- java/lang/String -/
def k7 : Class := { plain "java/lang/String" (some 0) with
  accessFlags := 49
  interfaces := #[2, 3, 4, 5, 6]
  cf := some (fileOf pool7 10 #[.nestMembers #[1103]] #[{ accessFlags := 1, nameIndex := 5, descriptorIndex := 6, attributes := #[] }, { accessFlags := 1, nameIndex := 5, descriptorIndex := 1010, attributes := #[] }, { accessFlags := 1, nameIndex := 543, descriptorIndex := 573, attributes := #[] }, { accessFlags := 2, nameIndex := 5, descriptorIndex := 29, attributes := #[] }] 49 2 #[1106, 1108, 575, 1110, 1112] #[{ accessFlags := 18, nameIndex := 13, descriptorIndex := 14, attributes := #[] }, { accessFlags := 18, nameIndex := 17, descriptorIndex := 18, attributes := #[] }, { accessFlags := 2, nameIndex := 21, descriptorIndex := 22, attributes := #[] }, { accessFlags := 2, nameIndex := 25, descriptorIndex := 26, attributes := #[] }, { accessFlags := 26, nameIndex := 1116, descriptorIndex := 1117, attributes := #[] }, { accessFlags := 24, nameIndex := 40, descriptorIndex := 26, attributes := #[] }, { accessFlags := 26, nameIndex := 1101, descriptorIndex := 1102, attributes := #[] }, { accessFlags := 26, nameIndex := 1121, descriptorIndex := 1122, attributes := #[] }, { accessFlags := 25, nameIndex := 599, descriptorIndex := 600, attributes := #[] }, { accessFlags := 24, nameIndex := 1125, descriptorIndex := 18, attributes := #[] }, { accessFlags := 24, nameIndex := 1127, descriptorIndex := 18, attributes := #[] }])
  fields := #[{ name := "value", type := (.array .byte), accessFlags := 18, slot := 0, constantValue := 0 }, { name := "coder", type := .byte, accessFlags := 18, slot := 1, constantValue := 0 }, { name := "hash", type := .int, accessFlags := 2, slot := 2, constantValue := 0 }, { name := "hashIsZero", type := .boolean, accessFlags := 2, slot := 3, constantValue := 0 }, { name := "serialVersionUID", type := .long, accessFlags := 26, slot := 0, constantValue := 0 }, { name := "COMPACT_STRINGS", type := .boolean, accessFlags := 24, slot := 1, constantValue := 0 }, { name := "serialPersistentFields", type := (.array (.object "java/io/ObjectStreamField")), accessFlags := 26, slot := 2, constantValue := 0 }, { name := "REPL", type := .char, accessFlags := 26, slot := 3, constantValue := 0 }, { name := "CASE_INSENSITIVE_ORDER", type := (.object "java/util/Comparator"), accessFlags := 25, slot := 4, constantValue := 0 }, { name := "LATIN1", type := .byte, accessFlags := 24, slot := 5, constantValue := 0 }, { name := "UTF16", type := .byte, accessFlags := 24, slot := 6, constantValue := 0 }]
  methods := #[k7m0, k7m1, k7m2, k7m3]
  instanceTypes := #[(.array .byte), .byte, .int, .boolean]
  staticTypes := #[.long, .boolean, (.array (.object "java/io/ObjectStreamField")), .char, (.object "java/util/Comparator"), .byte, .byte]
  resolved := Array.replicate 1451 none
  statics := some 0 }

def pool8 : Array CpInfo := pool [(1, .methodref 2 3), (0, .class_ 4), (0, .nameAndType 5 6), (0, u "java/lang/Object"), (0, u "<init>"), (0, u "()V"), (0, .class_ 8), (0, u "java/lang/Record")] 13

def k8c0 : Code := { maxStack := 1, maxLocals := 1, code := jdk_30_method_1_code, exceptionTable := #[], attributes := #[] }
def k8m0 : Method := { name := "<init>", desc := "()V", sig := { parameters := [], returnType := none }, accessFlags := 4, code := some k8c0 }
/-- java/lang/Record -/
def k8 : Class := { plain "java/lang/Record" (some 0) with
  accessFlags := 1057
  interfaces := #[]
  cf := some (fileOf pool8 7 #[] #[{ accessFlags := 4, nameIndex := 5, descriptorIndex := 6, attributes := #[] }] 1057 2 #[] #[])
  fields := #[]
  methods := #[k8m0]
  instanceTypes := #[]
  staticTypes := #[]
  resolved := Array.replicate 22 none
  statics := none }

def pool9 : Array CpInfo := pool [(1, .methodref 2 3), (0, .class_ 4), (0, .nameAndType 5 6), (0, u "java/lang/Record"), (0, u "<init>"), (0, u "()V"), (0, .string 8), (0, u "kind"), (0, .methodref 10 11), (0, .class_ 12), (0, .nameAndType 13 14), (0, u "java/util/Objects"), (0, u "requireNonNull"), (0, u "(Ljava/lang/Object;Ljava/lang/String;)Ljava/lang/Object;"), (0, .string 16), (0, u "id"), (0, .fieldref 18 19), (0, .class_ 20), (0, .nameAndType 8 21), (0, u "com/example/hierarchy_grants/hierarchygrants/Subject"), (0, u "Lcom/example/hierarchy_grants/hierarchygrants/Subject$Kind;"), (0, .fieldref 18 23), (0, .nameAndType 16 24), (0, u "Ljava/lang/String;"), (0, .fieldref 26 27), (0, .class_ 28), (0, .nameAndType 29 21), (0, u "com/example/hierarchy_grants/hierarchygrants/Subject$Kind"), (0, u "USER"), (0, .methodref 18 31), (0, .nameAndType 5 32), (0, u "(Lcom/example/hierarchy_grants/hierarchygrants/Subject$Kind;Ljava/lang/String;)V"), (0, .fieldref 26 34), (0, .nameAndType 35 21), (0, u "GROUP"), (15, u "user"), (0, u "(Ljava/lang/String;)Lcom/example/hierarchy_grants/hierarchygrants/Subject;"), (0, u "group"), (0, u "()Ljava/lang/String;"), (2, u "()Lcom/example/hierarchy_grants/hierarchygrants/Subject$Kind;")] 23

def k9c0 : Code := { maxStack := 2, maxLocals := 3, code := prog_22_method_1_code, exceptionTable := #[], attributes := #[] }
def k9m0 : Method := { name := "<init>", desc := "(Lcom/example/hierarchy_grants/hierarchygrants/Subject$Kind;Ljava/lang/String;)V", sig := { parameters := [(.object "com/example/hierarchy_grants/hierarchygrants/Subject$Kind"), (.object "java/lang/String")], returnType := none }, accessFlags := 1, code := some k9c0 }
def k9c1 : Code := { maxStack := 4, maxLocals := 1, code := prog_22_method_2_code, exceptionTable := #[], attributes := #[] }
def k9m1 : Method := { name := "user", desc := "(Ljava/lang/String;)Lcom/example/hierarchy_grants/hierarchygrants/Subject;", sig := { parameters := [(.object "java/lang/String")], returnType := some (.object "com/example/hierarchy_grants/hierarchygrants/Subject") }, accessFlags := 9, code := some k9c1 }
def k9c2 : Code := { maxStack := 4, maxLocals := 1, code := prog_22_method_3_code, exceptionTable := #[], attributes := #[] }
def k9m2 : Method := { name := "group", desc := "(Ljava/lang/String;)Lcom/example/hierarchy_grants/hierarchygrants/Subject;", sig := { parameters := [(.object "java/lang/String")], returnType := some (.object "com/example/hierarchy_grants/hierarchygrants/Subject") }, accessFlags := 9, code := some k9c2 }
def k9c3 : Code := { maxStack := 1, maxLocals := 1, code := prog_22_method_7_code, exceptionTable := #[], attributes := #[] }
def k9m3 : Method := { name := "kind", desc := "()Lcom/example/hierarchy_grants/hierarchygrants/Subject$Kind;", sig := { parameters := [], returnType := some (.object "com/example/hierarchy_grants/hierarchygrants/Subject$Kind") }, accessFlags := 1, code := some k9c3 }
def k9c4 : Code := { maxStack := 1, maxLocals := 1, code := prog_22_method_8_code, exceptionTable := #[], attributes := #[] }
def k9m4 : Method := { name := "id", desc := "()Ljava/lang/String;", sig := { parameters := [], returnType := some (.object "java/lang/String") }, accessFlags := 1, code := some k9c4 }
/-- com/example/hierarchy_grants/hierarchygrants/Subject -/
def k9 : Class := { plain "com/example/hierarchy_grants/hierarchygrants/Subject" (some 8) with
  accessFlags := 49
  interfaces := #[]
  cf := some (fileOf pool9 18 #[.nestMembers #[26]] #[{ accessFlags := 1, nameIndex := 5, descriptorIndex := 32, attributes := #[] }, { accessFlags := 9, nameIndex := 51, descriptorIndex := 52, attributes := #[] }, { accessFlags := 9, nameIndex := 53, descriptorIndex := 52, attributes := #[] }, { accessFlags := 1, nameIndex := 8, descriptorIndex := 57, attributes := #[] }, { accessFlags := 1, nameIndex := 16, descriptorIndex := 54, attributes := #[] }] 49 2 #[] #[{ accessFlags := 18, nameIndex := 8, descriptorIndex := 21, attributes := #[] }, { accessFlags := 18, nameIndex := 16, descriptorIndex := 24, attributes := #[] }])
  fields := #[{ name := "kind", type := (.object "com/example/hierarchy_grants/hierarchygrants/Subject$Kind"), accessFlags := 18, slot := 0, constantValue := 0 }, { name := "id", type := (.object "java/lang/String"), accessFlags := 18, slot := 1, constantValue := 0 }]
  methods := #[k9m0, k9m1, k9m2, k9m3, k9m4]
  instanceTypes := #[(.object "com/example/hierarchy_grants/hierarchygrants/Subject$Kind"), (.object "java/lang/String")]
  staticTypes := #[]
  resolved := Array.replicate 81 none
  statics := none }

def pool10 : Array CpInfo := pool [(2, .class_ 4), (1, u "java/lang/Enum"), (0, u "name"), (0, u "Ljava/lang/String;"), (2, u "ordinal"), (0, u "I"), (1, .class_ 14), (1, u "java/lang/Object"), (4, u "hash"), (86, .class_ 108), (1, u "java/lang/Enum$EnumDesc"), (2, .class_ 112), (0, u "java/lang/constant/Constable"), (0, .class_ 114), (0, u "java/lang/Comparable"), (0, .class_ 116), (0, u "java/io/Serializable")] 87

/-- java/lang/Enum -/
def k10 : Class := { plain "java/lang/Enum" (some 0) with
  accessFlags := 1057
  interfaces := #[5, 3, 2]
  cf := some (fileOf pool10 2 #[.nestMembers #[106]] #[] 1057 12 #[111, 113, 115] #[{ accessFlags := 18, nameIndex := 5, descriptorIndex := 6, attributes := #[] }, { accessFlags := 18, nameIndex := 9, descriptorIndex := 10, attributes := #[] }, { accessFlags := 2, nameIndex := 19, descriptorIndex := 10, attributes := #[] }])
  fields := #[{ name := "name", type := (.object "java/lang/String"), accessFlags := 18, slot := 0, constantValue := 0 }, { name := "ordinal", type := .int, accessFlags := 18, slot := 1, constantValue := 0 }, { name := "hash", type := .int, accessFlags := 2, slot := 2, constantValue := 0 }]
  methods := #[]
  instanceTypes := #[(.object "java/lang/String"), .int, .int]
  staticTypes := #[]
  resolved := Array.replicate 204 none
  statics := none }

def pool11 : Array CpInfo := pool [(1, .class_ 2), (0, u "com/example/hierarchy_grants/hierarchygrants/Subject$Kind"), (2, u "USER"), (0, u "Lcom/example/hierarchy_grants/hierarchygrants/Subject$Kind;"), (2, u "GROUP"), (2, u "$VALUES"), (0, u "[Lcom/example/hierarchy_grants/hierarchygrants/Subject$Kind;"), (6, .class_ 22), (1, u "java/lang/Enum"), (38, .class_ 62), (0, u "com/example/hierarchy_grants/hierarchygrants/Subject")] 2

/-- com/example/hierarchy_grants/hierarchygrants/Subject$Kind -/
def k11 : Class := { plain "com/example/hierarchy_grants/hierarchygrants/Subject$Kind" (some 10) with
  accessFlags := 16433
  interfaces := #[]
  cf := some (fileOf pool11 1 #[.nestHost 61] #[] 16433 20 #[] #[{ accessFlags := 16409, nameIndex := 5, descriptorIndex := 6, attributes := #[] }, { accessFlags := 16409, nameIndex := 9, descriptorIndex := 6, attributes := #[] }, { accessFlags := 4122, nameIndex := 12, descriptorIndex := 13, attributes := #[] }])
  fields := #[{ name := "USER", type := (.object "com/example/hierarchy_grants/hierarchygrants/Subject$Kind"), accessFlags := 16409, slot := 0, constantValue := 0 }, { name := "GROUP", type := (.object "com/example/hierarchy_grants/hierarchygrants/Subject$Kind"), accessFlags := 16409, slot := 1, constantValue := 0 }, { name := "$VALUES", type := (.array (.object "com/example/hierarchy_grants/hierarchygrants/Subject$Kind")), accessFlags := 4122, slot := 2, constantValue := 0 }]
  methods := #[]
  instanceTypes := #[(.object "java/lang/String"), .int, .int]
  staticTypes := #[(.object "com/example/hierarchy_grants/hierarchygrants/Subject$Kind"), (.object "com/example/hierarchy_grants/hierarchygrants/Subject$Kind"), (.array (.object "com/example/hierarchy_grants/hierarchygrants/Subject$Kind"))]
  resolved := Array.replicate 65 none
  statics := some 1 }

def pool12 : Array CpInfo := pool [(2, .class_ 4), (1, u "java/lang/Object"), (0, u "<init>"), (0, u "()V"), (35, .class_ 44), (1, u "java/util/Objects"), (0, u "requireNonNull"), (48, u "(Ljava/lang/Object;Ljava/lang/String;)Ljava/lang/Object;")] 89

def k12m0 : Method := { name := "<init>", desc := "()V", sig := { parameters := [], returnType := none }, accessFlags := 2, code := none }
def k12c1 : Code := { maxStack := 3, maxLocals := 2, code := jdk_31_method_11_code, exceptionTable := #[], attributes := #[] }
def k12m1 : Method := { name := "requireNonNull", desc := "(Ljava/lang/Object;Ljava/lang/String;)Ljava/lang/Object;", sig := { parameters := [(.object "java/lang/Object"), (.object "java/lang/String")], returnType := some (.object "java/lang/Object") }, accessFlags := 9, code := some k12c1 }
/-- java/util/Objects -/
def k12 : Class := { plain "java/util/Objects" (some 0) with
  accessFlags := 49
  interfaces := #[]
  cf := some (fileOf pool12 42 #[] #[{ accessFlags := 2, nameIndex := 5, descriptorIndex := 6, attributes := #[] }, { accessFlags := 9, nameIndex := 45, descriptorIndex := 94, attributes := #[] }] 49 2 #[] #[])
  fields := #[]
  methods := #[k12m0, k12m1]
  instanceTypes := #[]
  staticTypes := #[]
  resolved := Array.replicate 184 none
  statics := none }

def pool13 : Array CpInfo := pool [(6, .class_ 8), (1, u "java/lang/Object"), (0, u "<init>"), (0, u "()V"), (1, .class_ 14), (1, u "java/lang/StringUTF16"), (31, u "$assertionsDisabled"), (0, u "Z"), (13, u "HI_BYTE_SHIFT"), (0, u "I"), (2, u "LO_BYTE_SHIFT"), (49, .methodref 12 116), (0, .nameAndType 117 118), (0, u "compress"), (0, u "([CI[BII)I"), (3, u "([CII)[B"), (138, u "coderFromArrayLen"), (0, u "([BI)B"), (106, .class_ 371), (1, u "java/lang/StringUTF16$LinesSpliterator"), (58, u "MAX_LENGTH"), (196, .class_ 628), (0, u "java/lang/StringUTF16$CodePointsSpliterator"), (0, .class_ 630), (0, u "java/lang/StringUTF16$CharsSpliterator")] 4

def k13m0 : Method := { name := "<init>", desc := "()V", sig := { parameters := [], returnType := none }, accessFlags := 0, code := none }
def k13c1 : Code := { maxStack := 2, maxLocals := 2, code := jdk_52_method_15_code, exceptionTable := #[], attributes := #[] }
def k13m1 : Method := { name := "coderFromArrayLen", desc := "([BI)B", sig := { parameters := [(.array .byte), .int], returnType := some .byte }, accessFlags := 8, code := some k13c1 }
def k13c2 : Code := { maxStack := 5, maxLocals := 6, code := jdk_52_method_16_code, exceptionTable := #[], attributes := #[] }
def k13m2 : Method := { name := "compress", desc := "([CII)[B", sig := { parameters := [(.array .char), .int, .int], returnType := some (.array .byte) }, accessFlags := 9, code := some k13c2 }
def k13c3 : Code := { maxStack := 3, maxLocals := 7, code := jdk_52_method_21_code, exceptionTable := #[], attributes := #[] }
def k13m3 : Method := { name := "compress", desc := "([CI[BII)I", sig := { parameters := [(.array .char), .int, (.array .byte), .int, .int], returnType := some .int }, accessFlags := 9, code := some k13c3 }
/-- java/lang/StringUTF16 -/
def k13 : Class := { plain "java/lang/StringUTF16" (some 0) with
  accessFlags := 48
  interfaces := #[]
  cf := some (fileOf pool13 12 #[.nestMembers #[627, 629, 369]] #[{ accessFlags := 0, nameIndex := 9, descriptorIndex := 10, attributes := #[] }, { accessFlags := 8, nameIndex := 261, descriptorIndex := 262, attributes := #[] }, { accessFlags := 9, nameIndex := 117, descriptorIndex := 122, attributes := #[] }, { accessFlags := 9, nameIndex := 117, descriptorIndex := 118, attributes := #[] }] 48 6 #[] #[{ accessFlags := 26, nameIndex := 61, descriptorIndex := 62, attributes := #[] }, { accessFlags := 26, nameIndex := 65, descriptorIndex := 62, attributes := #[] }, { accessFlags := 24, nameIndex := 430, descriptorIndex := 62, attributes := #[] }, { accessFlags := 4120, nameIndex := 46, descriptorIndex := 47, attributes := #[] }])
  fields := #[{ name := "HI_BYTE_SHIFT", type := .int, accessFlags := 26, slot := 0, constantValue := 0 }, { name := "LO_BYTE_SHIFT", type := .int, accessFlags := 26, slot := 1, constantValue := 0 }, { name := "MAX_LENGTH", type := .int, accessFlags := 24, slot := 2, constantValue := 0 }, { name := "$assertionsDisabled", type := .boolean, accessFlags := 4120, slot := 3, constantValue := 0 }]
  methods := #[k13m0, k13m1, k13m2, k13m3]
  instanceTypes := #[]
  staticTypes := #[.int, .int, .int, .boolean]
  resolved := Array.replicate 635 none
  statics := none }

def pool14 : Array CpInfo := pool [(4, .class_ 6), (1, u "java/lang/Object"), (0, u "<init>"), (0, u "()V"), (5, .class_ 16), (1, u "java/lang/StringLatin1"), (104, u "$assertionsDisabled"), (0, u "Z"), (98, .class_ 223), (1, u "java/lang/StringLatin1$LinesSpliterator"), (166, .class_ 391), (0, u "java/lang/StringLatin1$CharsSpliterator")] 3

def k14m0 : Method := { name := "<init>", desc := "()V", sig := { parameters := [], returnType := none }, accessFlags := 0, code := none }
/-- java/lang/StringLatin1 -/
def k14 : Class := { plain "java/lang/StringLatin1" (some 0) with
  accessFlags := 48
  interfaces := #[]
  cf := some (fileOf pool14 14 #[.nestMembers #[390, 221]] #[{ accessFlags := 0, nameIndex := 7, descriptorIndex := 8, attributes := #[] }] 48 4 #[] #[{ accessFlags := 4120, nameIndex := 121, descriptorIndex := 122, attributes := #[] }])
  fields := #[{ name := "$assertionsDisabled", type := .boolean, accessFlags := 4120, slot := 0, constantValue := 0 }]
  methods := #[k14m0]
  instanceTypes := #[]
  staticTypes := #[.boolean]
  resolved := Array.replicate 395 none
  statics := none }

def pool15 : Array CpInfo := pool [(2, .class_ 4), (1, u "java/lang/Object"), (0, u "<init>"), (0, u "()V"), (17, .class_ 26), (1, u "jdk/internal/util/Preconditions"), (28, .class_ 56), (0, u "jdk/internal/util/Preconditions$4"), (57, .class_ 115), (0, u "jdk/internal/util/Preconditions$1"), (7, u "SIOOBE_FORMATTER"), (0, u "Ljava/util/function/BiFunction;"), (0, .class_ 126), (0, u "jdk/internal/util/Preconditions$2"), (3, u "AIOOBE_FORMATTER"), (0, .class_ 132), (0, u "jdk/internal/util/Preconditions$3"), (3, u "IOOBE_FORMATTER")] 57

def k15m0 : Method := { name := "<init>", desc := "()V", sig := { parameters := [], returnType := none }, accessFlags := 1, code := none }
/-- jdk/internal/util/Preconditions -/
def k15 : Class := { plain "jdk/internal/util/Preconditions" (some 0) with
  accessFlags := 33
  interfaces := #[]
  cf := some (fileOf pool15 24 #[.nestMembers #[55, 131, 125, 114]] #[{ accessFlags := 1, nameIndex := 5, descriptorIndex := 6, attributes := #[] }] 33 2 #[] #[{ accessFlags := 25, nameIndex := 123, descriptorIndex := 124, attributes := #[] }, { accessFlags := 25, nameIndex := 130, descriptorIndex := 124, attributes := #[] }, { accessFlags := 25, nameIndex := 136, descriptorIndex := 124, attributes := #[] }])
  fields := #[{ name := "SIOOBE_FORMATTER", type := (.object "java/util/function/BiFunction"), accessFlags := 25, slot := 0, constantValue := 0 }, { name := "AIOOBE_FORMATTER", type := (.object "java/util/function/BiFunction"), accessFlags := 25, slot := 1, constantValue := 0 }, { name := "IOOBE_FORMATTER", type := (.object "java/util/function/BiFunction"), accessFlags := 25, slot := 2, constantValue := 0 }]
  methods := #[k15m0]
  instanceTypes := #[]
  staticTypes := #[(.object "java/util/function/BiFunction"), (.object "java/util/function/BiFunction"), (.object "java/util/function/BiFunction")]
  resolved := Array.replicate 194 none
  statics := some 2 }

def pool16 : Array CpInfo := pool [(9, u "<init>"), (6, .class_ 18), (1, u "java/lang/Object"), (0, u "()V"), (1, .class_ 23), (1, u "jdk/internal/util/ArraysSupport"), (0, u "LOG2_ARRAY_LONG_INDEX_SCALE"), (0, u "I"), (2, u "U"), (0, u "Ljdk/internal/misc/Unsafe;"), (8, u "BIG_ENDIAN"), (0, u "Z"), (8, u "LOG2_BYTE_BIT_SIZE"), (4, u "LOG2_ARRAY_INT_INDEX_SCALE"), (54, u "JLA"), (0, u "Ljdk/internal/access/JavaLangAccess;"), (11, u "LOG2_ARRAY_BOOLEAN_INDEX_SCALE"), (9, u "LOG2_ARRAY_BYTE_INDEX_SCALE"), (5, u "LOG2_ARRAY_CHAR_INDEX_SCALE"), (5, u "LOG2_ARRAY_SHORT_INDEX_SCALE"), (18, u "LOG2_ARRAY_FLOAT_INDEX_SCALE"), (24, u "LOG2_ARRAY_DOUBLE_INDEX_SCALE"), (89, u "T_BOOLEAN"), (2, u "T_CHAR"), (1, u "T_FLOAT"), (1, u "T_DOUBLE"), (1, u "T_BYTE"), (1, u "T_SHORT"), (1, u "T_INT"), (1, u "T_LONG"), (1, u "SOFT_MAX_ARRAY_LENGTH")] 83

def k16m0 : Method := { name := "<init>", desc := "()V", sig := { parameters := [], returnType := none }, accessFlags := 2, code := none }
/-- jdk/internal/util/ArraysSupport -/
def k16 : Class := { plain "jdk/internal/util/ArraysSupport" (some 0) with
  accessFlags := 33
  interfaces := #[]
  cf := some (fileOf pool16 21 #[] #[{ accessFlags := 2, nameIndex := 9, descriptorIndex := 19, attributes := #[] }] 33 16 #[] #[{ accessFlags := 24, nameIndex := 28, descriptorIndex := 29, attributes := #[] }, { accessFlags := 26, nameIndex := 38, descriptorIndex := 39, attributes := #[] }, { accessFlags := 25, nameIndex := 121, descriptorIndex := 25, attributes := #[] }, { accessFlags := 25, nameIndex := 131, descriptorIndex := 25, attributes := #[] }, { accessFlags := 25, nameIndex := 137, descriptorIndex := 25, attributes := #[] }, { accessFlags := 25, nameIndex := 143, descriptorIndex := 25, attributes := #[] }, { accessFlags := 25, nameIndex := 53, descriptorIndex := 25, attributes := #[] }, { accessFlags := 25, nameIndex := 24, descriptorIndex := 25, attributes := #[] }, { accessFlags := 25, nameIndex := 162, descriptorIndex := 25, attributes := #[] }, { accessFlags := 25, nameIndex := 187, descriptorIndex := 25, attributes := #[] }, { accessFlags := 26, nameIndex := 48, descriptorIndex := 25, attributes := #[] }, { accessFlags := 25, nameIndex := 277, descriptorIndex := 25, attributes := #[] }, { accessFlags := 25, nameIndex := 280, descriptorIndex := 25, attributes := #[] }, { accessFlags := 25, nameIndex := 282, descriptorIndex := 25, attributes := #[] }, { accessFlags := 25, nameIndex := 284, descriptorIndex := 25, attributes := #[] }, { accessFlags := 25, nameIndex := 286, descriptorIndex := 25, attributes := #[] }, { accessFlags := 25, nameIndex := 288, descriptorIndex := 25, attributes := #[] }, { accessFlags := 25, nameIndex := 290, descriptorIndex := 25, attributes := #[] }, { accessFlags := 25, nameIndex := 292, descriptorIndex := 25, attributes := #[] }, { accessFlags := 26, nameIndex := 108, descriptorIndex := 109, attributes := #[] }, { accessFlags := 25, nameIndex := 294, descriptorIndex := 25, attributes := #[] }])
  fields := #[{ name := "U", type := (.object "jdk/internal/misc/Unsafe"), accessFlags := 24, slot := 0, constantValue := 0 }, { name := "BIG_ENDIAN", type := .boolean, accessFlags := 26, slot := 1, constantValue := 0 }, { name := "LOG2_ARRAY_BOOLEAN_INDEX_SCALE", type := .int, accessFlags := 25, slot := 2, constantValue := 0 }, { name := "LOG2_ARRAY_BYTE_INDEX_SCALE", type := .int, accessFlags := 25, slot := 3, constantValue := 0 }, { name := "LOG2_ARRAY_CHAR_INDEX_SCALE", type := .int, accessFlags := 25, slot := 4, constantValue := 0 }, { name := "LOG2_ARRAY_SHORT_INDEX_SCALE", type := .int, accessFlags := 25, slot := 5, constantValue := 0 }, { name := "LOG2_ARRAY_INT_INDEX_SCALE", type := .int, accessFlags := 25, slot := 6, constantValue := 0 }, { name := "LOG2_ARRAY_LONG_INDEX_SCALE", type := .int, accessFlags := 25, slot := 7, constantValue := 0 }, { name := "LOG2_ARRAY_FLOAT_INDEX_SCALE", type := .int, accessFlags := 25, slot := 8, constantValue := 0 }, { name := "LOG2_ARRAY_DOUBLE_INDEX_SCALE", type := .int, accessFlags := 25, slot := 9, constantValue := 0 }, { name := "LOG2_BYTE_BIT_SIZE", type := .int, accessFlags := 26, slot := 10, constantValue := 0 }, { name := "T_BOOLEAN", type := .int, accessFlags := 25, slot := 11, constantValue := 0 }, { name := "T_CHAR", type := .int, accessFlags := 25, slot := 12, constantValue := 0 }, { name := "T_FLOAT", type := .int, accessFlags := 25, slot := 13, constantValue := 0 }, { name := "T_DOUBLE", type := .int, accessFlags := 25, slot := 14, constantValue := 0 }, { name := "T_BYTE", type := .int, accessFlags := 25, slot := 15, constantValue := 0 }, { name := "T_SHORT", type := .int, accessFlags := 25, slot := 16, constantValue := 0 }, { name := "T_INT", type := .int, accessFlags := 25, slot := 17, constantValue := 0 }, { name := "T_LONG", type := .int, accessFlags := 25, slot := 18, constantValue := 0 }, { name := "JLA", type := (.object "jdk/internal/access/JavaLangAccess"), accessFlags := 26, slot := 19, constantValue := 0 }, { name := "SOFT_MAX_ARRAY_LENGTH", type := .int, accessFlags := 25, slot := 20, constantValue := 0 }]
  methods := #[k16m0]
  instanceTypes := #[]
  staticTypes := #[(.object "jdk/internal/misc/Unsafe"), .boolean, .int, .int, .int, .int, .int, .int, .int, .int, .int, .int, .int, .int, .int, .int, .int, .int, .int, (.object "jdk/internal/access/JavaLangAccess"), .int]
  resolved := Array.replicate 378 none
  statics := none }

def pool17 : Array CpInfo := pool [(1, u "java/lang/Cloneable"), (0, .class_ 1), (0, u "java/lang/Object"), (0, .class_ 3)] 3

/-- java/lang/Cloneable -/
def k17 : Class := { plain "java/lang/Cloneable" (some 0) with
  accessFlags := 1537
  interfaces := #[]
  cf := some (fileOf pool17 2 #[] #[] 1537 4 #[] #[])
  fields := #[]
  methods := #[]
  instanceTypes := #[]
  staticTypes := #[]
  resolved := Array.replicate 8 none
  statics := none }

/-- the primitive byte -/
def k18 : Class := { plain "byte" none with kind := .primitive 'B', accessFlags := 0x411 }
/-- [B -/
def k19 : Class := { plain "[B" (some 0) with kind := .array 18 .byte, interfaces := #[17, 2], accessFlags := 1041 }

/-- the primitive char -/
def k20 : Class := { plain "char" none with kind := .primitive 'C', accessFlags := 0x411 }
/-- [C -/
def k21 : Class := { plain "[C" (some 0) with kind := .array 20 .char, interfaces := #[17, 2], accessFlags := 1041 }

/-- the primitive int -/
def k22 : Class := { plain "int" none with kind := .primitive 'I', accessFlags := 0x411 }
/-- [I -/
def k23 : Class := { plain "[I" (some 0) with kind := .array 22 .int, interfaces := #[17, 2], accessFlags := 1041 }

def heap : Heap := #[{ cls := 7, slots := #[.long 0, .int 1, .null, .int 0, .null, .int 0, .int 0], vm := .statics 7 },
  { cls := 11, slots := #[.ref 4, .ref 3, .null], vm := .statics 11 },
  { cls := 15, slots := #[.null, .null, .null], vm := .statics 15 },
  { cls := 11, slots := #[.null, .int 1, .int 0], vm := .none },
  { cls := 11, slots := #[.null, .int 0, .int 0], vm := .none }]
def classes : Array Class := #[k0, k1, k2, k3, k4, k5, k6, k7, k8, k9, k10, k11, k12, k13, k14, k15, k16, k17, k18, k19, k20, k21, k22, k23]
def interned : List (Array UInt16 × Addr) := []
def slotsUsed : Nat := 19
def theMethod : MethodId := ⟨1, 1⟩
def args0 : Array Value := #[.int 5, .int 65, .int 66, .int 67]
def aboutOver (below : List Frame) : State where
  vm := { classes := classes, interned := interned.toArray }
  heap := heap
  slotsUsed := slotsUsed
  threads := #[{ frames := .invoking theMethod args0 :: below }]
def below0 : List Frame := [.native { method := ⟨0, 0⟩, args := #[] }]
def about1 : State := aboutOver below0
def p0 : Program := .bare "" "" ""
def e0 : Env := launch0.env 0 0 0
theorem w_frames : about1.frames = Frame.invoking theMethod args0 :: below0 := rfl
set_option maxRecDepth 65536 in
theorem w_args : argsFit about1.vm theMethod args0 = true := by decide +kernel
set_option maxRecDepth 65536 in
theorem w_heap : heapFits about1 = true := by decide +kernel
set_option maxRecDepth 65536 in
theorem w_runnable : about1.curStatus? = some .runnable := by decide +kernel
set_option maxRecDepth 65536 in
theorem w_alone : about1.alone = true := by decide +kernel
set_option maxRecDepth 65536 in
theorem w_named : about1.methodNamed? x = some theMethod := by decide +kernel
set_option maxRecDepth 65536 in
theorem w_hears : about1.hears theMethod below0 = true := by decide +kernel
set_option maxRecDepth 65536 in
theorem w_ripe : about1.ripe theMethod args0 below0 = true := by decide +kernel
theorem w_running : about1.status = .running := rfl
set_option maxRecDepth 65536 in
theorem w_room : about1.hasRoom e0.platform room_1 = true :=
  launch0.hasRoom_least _ room_1 (by decide +kernel) (by decide +kernel) (by decide +kernel) (by decide +kernel) (by decide +kernel) (by decide +kernel)
theorem allAtoms_all (ts : List Jvm.Cond) (a : Array Jvm.Value) (st : Jvm.State) : (allAtoms ts).before a st = ts.all (fun c => c.before a st) := by
  induction ts with
  | nil => rfl
  | cons c t ih =>
    show (Jvm.Cond.and c (allAtoms t)).before a st = _
    rw [Jvm.Cond.before_and, ih, List.all_cons]
def words1 : List Jvm.Cond := Jvm.Cond.code x code maxLocals ret :: tables_1
/-- a 'code' word, met by the world's own term for the bytes: nothing is compared byte by byte -/
theorem code_word {y : MethodName} {bytes : ByteArray} {mx : Nat} {rt : Option FieldType} {a : Array Value} {s : State} {m : MethodId} {meth : Method} {c : Code} (h1 : s.methodNamed? y = some m) (h2 : s.vm.method? m = some meth) (h3 : meth.code = some c) (h4 : c.code = bytes)
    (h5 : (c.maxLocals == mx && c.exceptionTable.isEmpty && decide (c.maxStack ≤ mostOperands) && decide (meth.sig.returnType = rt) && !meth.locks && decide (parseMethodDescriptor y.desc = some meth.sig)) = true) : (Jvm.Cond.code y bytes mx rt).before a s = true := by
  simp only [Bool.and_eq_true, beq_iff_eq, Bool.not_eq_true', decide_eq_true_eq] at h5
  obtain ⟨⟨⟨⟨⟨g1, g2⟩, g3⟩, g4⟩, g5⟩, g6⟩ := h5
  simp [Cond.before, Cond.holds, Cond.value, h1, h2, h3, h4, g1, g2, g3, g4, g5, g6]
def isCode : Jvm.Cond → Bool
  | .code _ _ _ _ => true
  | _ => false
theorem all_split {L : List Jvm.Cond} {P : Jvm.Cond → Bool} (h1 : L.all (fun c => isCode c || P c) = true) (h2 : ∀ c ∈ L.filter isCode, P c = true) : L.all P = true := by
  refine List.all_eq_true.mpr fun c hc => ?_
  have h := List.all_eq_true.mp h1 c hc
  rcases Bool.eq_false_or_eq_true (isCode c) with hi | hi
  · exact h2 c (List.mem_filter.mpr ⟨hc, hi⟩)
  · simpa [hi] using h
set_option maxRecDepth 65536 in
theorem w_c0 : (Jvm.Cond.code x code maxLocals ret).before args0 about1 = true := code_word (m := ⟨1, 1⟩) (meth := k1m1) (c := k1c1) (by decide +kernel) rfl rfl rfl (by decide +kernel)
set_option maxRecDepth 65536 in
theorem w_c1 : (Jvm.Cond.code ({ cls := "java/lang/String", name := "<init>", desc := "([C)V" } : Jvm.MethodName) jdk_42_method_3_code (2 : Nat) (Option.none : Option Jvm.ClassFile.FieldType)).before args0 about1 = true := code_word (m := ⟨7, 1⟩) (meth := k7m1) (c := k7c1) (by decide +kernel) rfl rfl rfl (by decide +kernel)
set_option maxRecDepth 65536 in
theorem w_c2 : (Jvm.Cond.code ({ cls := "java/lang/String", name := "<init>", desc := "([CIILjava/lang/Void;)V" } : Jvm.MethodName) jdk_42_method_149_code (6 : Nat) (Option.none : Option Jvm.ClassFile.FieldType)).before args0 about1 = true := code_word (m := ⟨7, 3⟩) (meth := k7m3) (c := k7c3) (by decide +kernel) rfl rfl rfl (by decide +kernel)
set_option maxRecDepth 65536 in
theorem w_c3 : (Jvm.Cond.code ({ cls := "java/lang/Object", name := "<init>", desc := "()V" } : Jvm.MethodName) object_method_1_code (1 : Nat) (Option.none : Option Jvm.ClassFile.FieldType)).before args0 about1 = true := code_word (m := ⟨0, 0⟩) (meth := k0m0) (c := k0c0) (by decide +kernel) rfl rfl rfl (by decide +kernel)
set_option maxRecDepth 65536 in
theorem w_c4 : (Jvm.Cond.code ({ cls := "com/example/hierarchy_grants/hierarchygrants/Subject", name := "group", desc := "(Ljava/lang/String;)Lcom/example/hierarchy_grants/hierarchygrants/Subject;" } : Jvm.MethodName) prog_22_method_3_code (1 : Nat) (Option.some (Jvm.ClassFile.FieldType.object "com/example/hierarchy_grants/hierarchygrants/Subject"))).before args0 about1 = true := code_word (m := ⟨9, 2⟩) (meth := k9m2) (c := k9c2) (by decide +kernel) rfl rfl rfl (by decide +kernel)
set_option maxRecDepth 65536 in
theorem w_c5 : (Jvm.Cond.code ({ cls := "com/example/hierarchy_grants/hierarchygrants/Subject", name := "<init>", desc := "(Lcom/example/hierarchy_grants/hierarchygrants/Subject$Kind;Ljava/lang/String;)V" } : Jvm.MethodName) prog_22_method_1_code (3 : Nat) (Option.none : Option Jvm.ClassFile.FieldType)).before args0 about1 = true := code_word (m := ⟨9, 0⟩) (meth := k9m0) (c := k9c0) (by decide +kernel) rfl rfl rfl (by decide +kernel)
set_option maxRecDepth 65536 in
theorem w_c6 : (Jvm.Cond.code ({ cls := "java/lang/Record", name := "<init>", desc := "()V" } : Jvm.MethodName) jdk_30_method_1_code (1 : Nat) (Option.none : Option Jvm.ClassFile.FieldType)).before args0 about1 = true := code_word (m := ⟨8, 0⟩) (meth := k8m0) (c := k8c0) (by decide +kernel) rfl rfl rfl (by decide +kernel)
set_option maxRecDepth 65536 in
theorem w_c7 : (Jvm.Cond.code ({ cls := "java/util/Objects", name := "requireNonNull", desc := "(Ljava/lang/Object;Ljava/lang/String;)Ljava/lang/Object;" } : Jvm.MethodName) jdk_31_method_11_code (2 : Nat) (Option.some (Jvm.ClassFile.FieldType.object "java/lang/Object"))).before args0 about1 = true := code_word (m := ⟨12, 1⟩) (meth := k12m1) (c := k12c1) (by decide +kernel) rfl rfl rfl (by decide +kernel)
set_option maxRecDepth 65536 in
theorem w_c8 : (Jvm.Cond.code ({ cls := "com/example/hierarchy_grants/hierarchygrants/Subject", name := "kind", desc := "()Lcom/example/hierarchy_grants/hierarchygrants/Subject$Kind;" } : Jvm.MethodName) prog_22_method_7_code (1 : Nat) (Option.some (Jvm.ClassFile.FieldType.object "com/example/hierarchy_grants/hierarchygrants/Subject$Kind"))).before args0 about1 = true := code_word (m := ⟨9, 3⟩) (meth := k9m3) (c := k9c3) (by decide +kernel) rfl rfl rfl (by decide +kernel)
set_option maxRecDepth 65536 in
theorem w_c9 : (Jvm.Cond.code ({ cls := "com/example/hierarchy_grants/hierarchygrants/Subject", name := "id", desc := "()Ljava/lang/String;" } : Jvm.MethodName) prog_22_method_8_code (1 : Nat) (Option.some (Jvm.ClassFile.FieldType.object "java/lang/String"))).before args0 about1 = true := code_word (m := ⟨9, 4⟩) (meth := k9m4) (c := k9c4) (by decide +kernel) rfl rfl rfl (by decide +kernel)
set_option maxRecDepth 65536 in
theorem w_c10 : (Jvm.Cond.code ({ cls := "java/lang/String", name := "equals", desc := "(Ljava/lang/Object;)Z" } : Jvm.MethodName) jdk_42_method_66_code (3 : Nat) (Option.some Jvm.ClassFile.FieldType.boolean)).before args0 about1 = true := code_word (m := ⟨7, 2⟩) (meth := k7m2) (c := k7c2) (by decide +kernel) rfl rfl rfl (by decide +kernel)
set_option maxRecDepth 65536 in
theorem w_c11 : (Jvm.Cond.code ({ cls := "com/example/hierarchy_grants/hierarchygrants/Subject", name := "user", desc := "(Ljava/lang/String;)Lcom/example/hierarchy_grants/hierarchygrants/Subject;" } : Jvm.MethodName) prog_22_method_2_code (1 : Nat) (Option.some (Jvm.ClassFile.FieldType.object "com/example/hierarchy_grants/hierarchygrants/Subject"))).before args0 about1 = true := code_word (m := ⟨9, 1⟩) (meth := k9m1) (c := k9c1) (by decide +kernel) rfl rfl rfl (by decide +kernel)
set_option maxRecDepth 65536 in
theorem w_c12 : (Jvm.Cond.code ({ cls := "java/lang/StringUTF16", name := "compress", desc := "([CII)[B" } : Jvm.MethodName) jdk_52_method_16_code (6 : Nat) (Option.some (Jvm.ClassFile.FieldType.array Jvm.ClassFile.FieldType.byte))).before args0 about1 = true := code_word (m := ⟨13, 2⟩) (meth := k13m2) (c := k13c2) (by decide +kernel) rfl rfl rfl (by decide +kernel)
set_option maxRecDepth 65536 in
theorem w_c13 : (Jvm.Cond.code ({ cls := "java/lang/StringUTF16", name := "compress", desc := "([CI[BII)I" } : Jvm.MethodName) jdk_52_method_21_code (7 : Nat) (Option.some Jvm.ClassFile.FieldType.int)).before args0 about1 = true := code_word (m := ⟨13, 3⟩) (meth := k13m3) (c := k13c3) (by decide +kernel) rfl rfl rfl (by decide +kernel)
set_option maxRecDepth 65536 in
theorem w_c14 : (Jvm.Cond.code ({ cls := "java/lang/StringUTF16", name := "coderFromArrayLen", desc := "([BI)B" } : Jvm.MethodName) jdk_52_method_15_code (2 : Nat) (Option.some Jvm.ClassFile.FieldType.byte)).before args0 about1 = true := code_word (m := ⟨13, 1⟩) (meth := k13m1) (c := k13c1) (by decide +kernel) rfl rfl rfl (by decide +kernel)
def codes1 : List Jvm.Cond := [Jvm.Cond.code x code maxLocals ret, Jvm.Cond.code ({ cls := "java/lang/String", name := "<init>", desc := "([C)V" } : Jvm.MethodName) jdk_42_method_3_code (2 : Nat) (Option.none : Option Jvm.ClassFile.FieldType), Jvm.Cond.code ({ cls := "java/lang/String", name := "<init>", desc := "([CIILjava/lang/Void;)V" } : Jvm.MethodName) jdk_42_method_149_code (6 : Nat) (Option.none : Option Jvm.ClassFile.FieldType), Jvm.Cond.code ({ cls := "java/lang/Object", name := "<init>", desc := "()V" } : Jvm.MethodName) object_method_1_code (1 : Nat) (Option.none : Option Jvm.ClassFile.FieldType), Jvm.Cond.code ({ cls := "com/example/hierarchy_grants/hierarchygrants/Subject", name := "group", desc := "(Ljava/lang/String;)Lcom/example/hierarchy_grants/hierarchygrants/Subject;" } : Jvm.MethodName) prog_22_method_3_code (1 : Nat) (Option.some (Jvm.ClassFile.FieldType.object "com/example/hierarchy_grants/hierarchygrants/Subject")), Jvm.Cond.code ({ cls := "com/example/hierarchy_grants/hierarchygrants/Subject", name := "<init>", desc := "(Lcom/example/hierarchy_grants/hierarchygrants/Subject$Kind;Ljava/lang/String;)V" } : Jvm.MethodName) prog_22_method_1_code (3 : Nat) (Option.none : Option Jvm.ClassFile.FieldType), Jvm.Cond.code ({ cls := "java/lang/Record", name := "<init>", desc := "()V" } : Jvm.MethodName) jdk_30_method_1_code (1 : Nat) (Option.none : Option Jvm.ClassFile.FieldType), Jvm.Cond.code ({ cls := "java/util/Objects", name := "requireNonNull", desc := "(Ljava/lang/Object;Ljava/lang/String;)Ljava/lang/Object;" } : Jvm.MethodName) jdk_31_method_11_code (2 : Nat) (Option.some (Jvm.ClassFile.FieldType.object "java/lang/Object")), Jvm.Cond.code ({ cls := "com/example/hierarchy_grants/hierarchygrants/Subject", name := "kind", desc := "()Lcom/example/hierarchy_grants/hierarchygrants/Subject$Kind;" } : Jvm.MethodName) prog_22_method_7_code (1 : Nat) (Option.some (Jvm.ClassFile.FieldType.object "com/example/hierarchy_grants/hierarchygrants/Subject$Kind")), Jvm.Cond.code ({ cls := "com/example/hierarchy_grants/hierarchygrants/Subject", name := "id", desc := "()Ljava/lang/String;" } : Jvm.MethodName) prog_22_method_8_code (1 : Nat) (Option.some (Jvm.ClassFile.FieldType.object "java/lang/String")), Jvm.Cond.code ({ cls := "java/lang/String", name := "equals", desc := "(Ljava/lang/Object;)Z" } : Jvm.MethodName) jdk_42_method_66_code (3 : Nat) (Option.some Jvm.ClassFile.FieldType.boolean), Jvm.Cond.code ({ cls := "com/example/hierarchy_grants/hierarchygrants/Subject", name := "user", desc := "(Ljava/lang/String;)Lcom/example/hierarchy_grants/hierarchygrants/Subject;" } : Jvm.MethodName) prog_22_method_2_code (1 : Nat) (Option.some (Jvm.ClassFile.FieldType.object "com/example/hierarchy_grants/hierarchygrants/Subject")), Jvm.Cond.code ({ cls := "java/lang/StringUTF16", name := "compress", desc := "([CII)[B" } : Jvm.MethodName) jdk_52_method_16_code (6 : Nat) (Option.some (Jvm.ClassFile.FieldType.array Jvm.ClassFile.FieldType.byte)), Jvm.Cond.code ({ cls := "java/lang/StringUTF16", name := "compress", desc := "([CI[BII)I" } : Jvm.MethodName) jdk_52_method_21_code (7 : Nat) (Option.some Jvm.ClassFile.FieldType.int), Jvm.Cond.code ({ cls := "java/lang/StringUTF16", name := "coderFromArrayLen", desc := "([BI)B" } : Jvm.MethodName) jdk_52_method_15_code (2 : Nat) (Option.some Jvm.ClassFile.FieldType.byte)]
set_option maxRecDepth 65536 in
theorem codes_eq : words1.filter isCode = codes1 := rfl
theorem w_codes : ∀ c ∈ words1.filter isCode, c.before args0 about1 = true := by
  rw [codes_eq]
  intro c hc
  simp only [codes1, List.mem_cons, List.not_mem_nil, or_false] at hc
  rcases hc with rfl | rfl | rfl | rfl | rfl | rfl | rfl | rfl | rfl | rfl | rfl | rfl | rfl | rfl | rfl
  · exact w_c0
  · exact w_c1
  · exact w_c2
  · exact w_c3
  · exact w_c4
  · exact w_c5
  · exact w_c6
  · exact w_c7
  · exact w_c8
  · exact w_c9
  · exact w_c10
  · exact w_c11
  · exact w_c12
  · exact w_c13
  · exact w_c14
set_option maxRecDepth 65536 in
theorem w_t1 : (words1.take 24).all (fun c => isCode c || c.before args0 about1) = true := by decide +kernel
set_option maxRecDepth 65536 in
theorem w_t2 : ((words1.drop 24).take 24).all (fun c => isCode c || c.before args0 about1) = true := by decide +kernel
set_option maxRecDepth 65536 in
theorem w_t3 : (((words1.drop 24).drop 24).take 24).all (fun c => isCode c || c.before args0 about1) = true := by decide +kernel
set_option maxRecDepth 65536 in
theorem w_t4 : (((words1.drop 24).drop 24).drop 24).all (fun c => isCode c || c.before args0 about1) = true := by decide +kernel
theorem w_tables : (allAtoms (Jvm.Cond.code x code maxLocals ret :: tables_1)).before args0 about1 = true := by
  rw [allAtoms_all]
  show words1.all (fun c => c.before args0 about1) = true
  refine all_split ?_ w_codes
  rw [← List.take_append_drop 24 words1, List.all_append, w_t1, ← List.take_append_drop 24 (words1.drop 24), List.all_append, w_t2, ← List.take_append_drop 24 ((words1.drop 24).drop 24), List.all_append, w_t3, w_t4]
  rfl
set_option maxRecDepth 65536 in
theorem w_rest : rest_1_c.before args0 about1 = true := by decide +kernel
set_option maxRecDepth 65536 in
theorem w_case : (Jvm.Cond.and given_1 narrow_1).before args0 about1 = true := by decide +kernel
set_option maxRecDepth 65536 in
theorem w_consts : constsHeld consts_1 about1 := Jvm.Lit.constsHeldB_iff.mp (by decide +kernel)
theorem w_applies : (headSpec (Jvm.Cond.code x code maxLocals ret :: tables_1) room_1).applies x e0.platform about1 = true :=
  (Spec.applies_iff w_frames).mpr ⟨w_running, w_runnable, w_alone, w_named, w_hears, w_ripe, w_room, w_tables⟩
theorem atStart : AtStart classFile x code maxLocals ret World_1 tables_1 room_1 Calls_1 rest_1 Pre_1 launch0 p0 e0 about1 theMethod args0 below0 :=
  ⟨lists_1, trivial, launch0.admits_env _ _ _, launch0.least_env, fairChoices_fair.cas, fairChoices_fair.clock, w_frames, w_args, w_heap, w_applies, ⟨w_consts, trivial⟩, w_rest, w_case⟩
end start1
theorem witness_1 : WitnessClaimed_1 := ⟨start1.p0, start1.e0, start1.about1, start1.theMethod, start1.args0, start1.below0, start1.atStart⟩
end Jvm.Pilot.@@N@@
