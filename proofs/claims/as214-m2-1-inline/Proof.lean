import JvmDerived
import JvmDerived.Pilot.@@N@@Statement
import JvmDerived.Pilot.@@N@@Code
set_option linter.unusedVariables false
set_option linter.unusedSimpArgs false
/- laws to paste: Road.backV (cut by pick.py; bodies as the Statement names them) -/
namespace Jvm.Pilot.@@N@@
namespace StrChars
open Jvm Sem ClassFile Op Lib Jvm.Stand Jvm.Free.XT Jvm.Free.ALB Jvm.Free.JM Jvm.Free
open Jvm.Lib.Cold (StaticIs)
/-- a char array whose places are chars -/
def Ch (a : Addr) (A : Cell) (U : State) : Prop := Arr .char a A U ∧ Typed .char A
theorem Ch.mv {a : Addr} {A : Cell} {U U' : State} (h : Ch a A U) (hal : U.vm.Alike U'.vm) (hh : U'.heap = U.heap) : Ch a A U' := ⟨h.1.mv hal hh, h.2⟩
theorem Ch.keep {a : Addr} {A : Cell} {U U' : State} (h : Ch a A U) (hal : U.vm.Alike U'.vm) (hk : U'.heap[a]? = some A) : Ch a A U' := ⟨h.1.keep hal hk, h.2⟩
/-- what place i of a char[]'s cell holds -/
def cv (A : Cell) (i : Nat) : Int32 := match A.slots[i]? with | some (.int x) => x | _ => 0
theorem Ch.get {a : Addr} {A : Cell} {U : State} (h : Ch a A U) {i : Nat} (hi : i < A.slots.size) : A.slots[i]? = some (.int (cv A i)) := by
  have e := Array.getElem?_eq_getElem hi
  have f := h.2 i _ e
  unfold cv; rw [e]
  generalize A.slots[i] = v at f
  cases v <;> simp [fits] at f ⊢
/-- the byte that i2b leaves of a char -/
def lo8 (x : Int32) : Int32 := x.toInt8.toInt32
theorem fits_lo8 (y : Int32) : fits .byte (.int (lo8 y)) = true := by
  have h1 := y.toInt8.le_toInt
  have h2 := y.toInt8.toInt_lt
  simp only [lo8, fits, Bool.and_eq_true, decide_eq_true_eq, Int32.le_iff_toInt_le, Int8.toInt_toInt32, show (-128 : Int32).toInt = -128 from by decide, show (127 : Int32).toInt = 127 from by decide]
  omega
/-- A' is A but that each place j of lo .. hi - 1 holds f j -/
def Laid (A A' : Cell) (lo hi : Nat) (f : Nat → Value) : Prop := A'.cls = A.cls ∧ A'.vm = A.vm ∧ A'.slots.size = A.slots.size ∧ ∀ i, A'.slots[i]? = if lo ≤ i ∧ i < hi then some (f i) else A.slots[i]?
theorem Laid.zero (A : Cell) (lo : Nat) (f : Nat → Value) : Laid A A lo (lo + 0) f := ⟨rfl, rfl, rfl, fun i => by rw [if_neg (by omega)]⟩
theorem Laid.step {A Ak : Cell} {lo k : Nat} {f : Nat → Value} {v : Value} (h : Laid A Ak lo k f) (hlo : lo ≤ k) (hk : k < Ak.slots.size) (hv : v = f k) : Laid A (Ak.setSlot k v) lo (k + 1) f := by
  refine ⟨h.1, h.2.1, by simpa [Cell.setSlot] using h.2.2.1, fun i => ?_⟩
  by_cases e : k = i
  · subst e; rw [Cell.slots_setSlot_self v hk, if_pos (by omega), hv]
  · rw [Cell.slots_setSlot_ne v e, h.2.2.2 i]
    by_cases q : lo ≤ i ∧ i < k
    · rw [if_pos q, if_pos (by omega)]
    · rw [if_neg q, if_neg (by omega)]
def U16 : String := "java/lang/StringUTF16"
namespace Cmp5
def yN : MethodName := ⟨"java/lang/StringUTF16", "compress", "([CI[BII)I"⟩
abbrev yB : ByteArray := jdk_52_method_21_code
theorem d0 : decode yB 0 = .ok (.iconst 0, 1) := by decide +kernel
theorem d1 : decode yB 1 = .ok (.istore 5, 2) := by decide +kernel
theorem d3 : decode yB 3 = .ok (.iload 5, 2) := by decide +kernel
theorem d5 : decode yB 5 = .ok (.iload 4, 2) := by decide +kernel
theorem d7 : decode yB 7 = .ok (.if_icmp (.ge) 37, 3) := by decide +kernel
theorem d10 : decode yB 10 = .ok (.aload_n 0, 1) := by decide +kernel
theorem d11 : decode yB 11 = .ok (.iload_n 1, 1) := by decide +kernel
theorem d12 : decode yB 12 = .ok (.caload, 1) := by decide +kernel
theorem d13 : decode yB 13 = .ok (.istore 6, 2) := by decide +kernel
theorem d15 : decode yB 15 = .ok (.iload 6, 2) := by decide +kernel
theorem d17 : decode yB 17 = .ok (.sipush 255, 3) := by decide +kernel
theorem d20 : decode yB 20 = .ok (.if_icmp (.le) 6, 3) := by decide +kernel
theorem d26 : decode yB 26 = .ok (.aload_n 2, 1) := by decide +kernel
theorem d27 : decode yB 27 = .ok (.iload_n 3, 1) := by decide +kernel
theorem d28 : decode yB 28 = .ok (.iload 6, 2) := by decide +kernel
theorem d30 : decode yB 30 = .ok (.i2b, 1) := by decide +kernel
theorem d31 : decode yB 31 = .ok (.bastore, 1) := by decide +kernel
theorem d32 : decode yB 32 = .ok (.iinc 1 1, 3) := by decide +kernel
theorem d35 : decode yB 35 = .ok (.iinc 3 1, 3) := by decide +kernel
theorem d38 : decode yB 38 = .ok (.iinc 5 1, 3) := by decide +kernel
theorem d41 : decode yB 41 = .ok (.goto (-38), 3) := by decide +kernel
theorem d44 : decode yB 44 = .ok (.iload 4, 2) := by decide +kernel
theorem d46 : decode yB 46 = .ok (.ireturn, 1) := by decide +kernel
def site : List Cond := []
def tab : Cond := tabOf yN yB 7 (some .int) site
def P (b : Addr) (A : Cell) (d : Addr) (B : Cell) (o q len : Nat) (args : Array Value) (s : State) : Prop := args = #[.ref b, .int (Int32.ofNat o), .ref d, .int (Int32.ofNat q), .int (Int32.ofNat len)] ∧ Ch b A s ∧ Arr .byte d B s ∧ b ≠ d ∧ o + len ≤ A.slots.size ∧ q + len ≤ B.slots.size ∧ ∀ i, i < len → ¬ 255 < cv A (o + i)
def E (b : Addr) (A : Cell) (d : Addr) (B : Cell) (o q len : Nat) (r : Option Value) (s u : State) : Prop := r = some (.int (Int32.ofNat len)) ∧ ∃ B', Put d B' s u ∧ Laid B B' q (q + len) (fun j => Value.int (lo8 (cv A (o + (j - q)))))
/-- no char of the range above 255: len; the places written hold each char's low byte -/
theorem law (l : Launch) (b : Addr) (A : Cell) (d : Addr) (B : Cell) (o q len : Nat) : Law l yN 5 5 0 0 yB 7 (some .int) site (P b A d B o q len) (E b A d B o q len) (copyLocs d q len) 0 0 := by
  refine Law.of_walk (plainFor_of_name (by decide +kernel)) (by decide +kernel) (by decide +kernel) (by decide) (fun _ _ h => by rw [h.1]; rfl) (fun _ U U' hal hh h => ⟨h.1, h.2.1.mv hal hh, h.2.2.1.mv hal hh, h.2.2.2⟩) (fun r U U' V V' h1 hal h2 h => ⟨h.1, h.2.elim fun B' q => ⟨B', q.1.mv h1 h2, q.2⟩⟩) ?_
  intro p e s m args below meth c s₁ X0 hexec hbytes hml hret hlk hnm hown hh0 W hP
  obtain ⟨rfl, hA, hB, hne, l1, l2, hp⟩ := hP
  have c1 : Steps p.tables e below (s₁.setTop (entryFrame m #[.ref b, .int (Int32.ofNat o), .ref d, .int (Int32.ofNat q), .int (Int32.ofNat len)] 7)) (s₁.setTop (mkF m 0 #[.val (.ref b), .val (.int (Int32.ofNat o)), .val (.ref d), .val (.int (Int32.ofNat q)), .val (.int (Int32.ofNat len)), .unset, .unset] [])) := entry rfl
  have hA0 := hA.1.mv X0.warmed.alike hh0
  have hB0 := hB.mv X0.warmed.alike hh0
  have a31 := hA.1.2.2.2
  have c2 : Steps p.tables e below (s₁.setTop (entryFrame m #[.ref b, .int (Int32.ofNat o), .ref d, .int (Int32.ofNat q), .int (Int32.ofNat len)] 7)) (s₁.setTop (mkF m 3 #[.val (.ref b), .val (.int (Int32.ofNat o)), .val (.ref d), .val (.int (Int32.ofNat q)), .val (.int (Int32.ofNat len)), .val (.int 0), .unset] [])) := c1.trans (by
    refine iconstV X0.here hexec rfl 0 (hb hbytes d0) (by decide) ?_
    refine XS.istore X0.here hexec rfl (hb hbytes d1) rfl rfl ?_
    exact Steps.refl _)
  have loop : ∀ (r i : Nat), i + r = len → ∀ (z : Slot), (z = .unset ∨ ∃ w, z = .val w ∧ w.category = 1) → ∀ (Tl : State) (Bk : Cell), Stand p l e { frames := 0, locals := 0, cells := 0, slots := 0 } s m #[.ref b, .int (Int32.ofNat o), .ref d, .int (Int32.ofNat q), .int (Int32.ofNat len)] below meth c Tl ([] ++ copyLocs d q i) 0 0 → Put d Bk s₁ Tl → Laid B Bk q (q + i) (fun j => Value.int (lo8 (cv A (o + (j - q))))) →
      Steps p.tables e below (s₁.setTop (entryFrame m #[.ref b, .int (Int32.ofNat o), .ref d, .int (Int32.ofNat q), .int (Int32.ofNat len)] 7)) (Tl.setTop (mkF m 3 #[.val (.ref b), .val (.int (Int32.ofNat (o + i))), .val (.ref d), .val (.int (Int32.ofNat (q + i))), .val (.int (Int32.ofNat len)), .val (.int (Int32.ofNat i)), z] [])) → ∃ (T' : State) (B' : Cell) (z' : Slot), Stand p l e { frames := 0, locals := 0, cells := 0, slots := 0 } s m #[.ref b, .int (Int32.ofNat o), .ref d, .int (Int32.ofNat q), .int (Int32.ofNat len)] below meth c T' ([] ++ copyLocs d q len) 0 0 ∧ Put d B' s₁ T' ∧ Laid B B' q (q + len) (fun j => Value.int (lo8 (cv A (o + (j - q))))) ∧
      Steps p.tables e below (s₁.setTop (entryFrame m #[.ref b, .int (Int32.ofNat o), .ref d, .int (Int32.ofNat q), .int (Int32.ofNat len)] 7)) (T'.setTop (mkF m 3 #[.val (.ref b), .val (.int (Int32.ofNat (o + len))), .val (.ref d), .val (.int (Int32.ofNat (q + len))), .val (.int (Int32.ofNat len)), .val (.int (Int32.ofNat len)), z'] [])) := by
    intro r
    induction r with
    | zero =>
      intro i hi z hz Tl Bk Xl pl fl cl
      have hil : i = len := by omega
      rw [hil] at Xl fl cl
      exact ⟨Tl, Bk, z, Xl, pl, fl, cl⟩
    | succ r ih =>
      intro i hi z hz Tl Bk Xl pl fl cl
      have all := X0.warmed.alike.symm.trans Xl.warmed.alike
      have hAl := hA0.keep all (pl.other hne hA0.1)
      have hBk := hB0.like all pl.1 fl.1 fl.2.1 fl.2.2.1
      have hlt : q + i < Bk.slots.size := by rw [fl.2.2.1]; omega
      have c3 : Steps p.tables e below (s₁.setTop (entryFrame m #[.ref b, .int (Int32.ofNat o), .ref d, .int (Int32.ofNat q), .int (Int32.ofNat len)] 7)) (Tl.setTop (mkF m 12 #[.val (.ref b), .val (.int (Int32.ofNat (o + i))), .val (.ref d), .val (.int (Int32.ofNat (q + i))), .val (.int (Int32.ofNat len)), .val (.int (Int32.ofNat i)), z] [.int (Int32.ofNat (o + i)), .ref b])) := cl.trans (by
        refine XS.iload Xl.here hexec rfl (hb hbytes d3) rfl ?_
        refine XS.iload Xl.here hexec rfl (hb hbytes d5) rfl ?_
        refine XS.icmpNo Xl.here hexec rfl (hb hbytes d7) rfl (ii_ge_f (lt32 (by omega) (by omega))) ?_
        refine XS.aloadN Xl.here hexec rfl (hb hbytes d10) rfl rfl ?_
        refine XS.iloadN Xl.here hexec rfl (hb hbytes d11) rfl ?_
        exact Steps.refl _)
      have c4 : Steps p.tables e below (s₁.setTop (entryFrame m #[.ref b, .int (Int32.ofNat o), .ref d, .int (Int32.ofNat q), .int (Int32.ofNat len)] 7)) (Tl.setTop (mkF m 13 #[.val (.ref b), .val (.int (Int32.ofNat (o + i))), .val (.ref d), .val (.int (Int32.ofNat (q + i))), .val (.int (Int32.ofNat len)), .val (.int (Int32.ofNat i)), z] [.int (cv A (o + i))])) := c3.trans (by
        refine Xl.aget hexec hAl rfl (hA.get (i := o + i) (by omega)) rfl rfl (hb hbytes d12) ?_
        exact Steps.refl _)
      have c5 : Steps p.tables e below (s₁.setTop (entryFrame m #[.ref b, .int (Int32.ofNat o), .ref d, .int (Int32.ofNat q), .int (Int32.ofNat len)] 7)) (Tl.setTop (mkF m 15 #[.val (.ref b), .val (.int (Int32.ofNat (o + i))), .val (.ref d), .val (.int (Int32.ofNat (q + i))), .val (.int (Int32.ofNat len)), .val (.int (Int32.ofNat i)), .val (.int (cv A (o + i)))] [])) := c4.trans (by
        refine XS.istoreS Xl.here hexec rfl (hb hbytes d13) rfl rfl hz ?_
        exact Steps.refl _)
      have c6 : Steps p.tables e below (s₁.setTop (entryFrame m #[.ref b, .int (Int32.ofNat o), .ref d, .int (Int32.ofNat q), .int (Int32.ofNat len)] 7)) (Tl.setTop (mkF m 31 #[.val (.ref b), .val (.int (Int32.ofNat (o + i))), .val (.ref d), .val (.int (Int32.ofNat (q + i))), .val (.int (Int32.ofNat len)), .val (.int (Int32.ofNat i)), .val (.int (cv A (o + i)))] [.int (lo8 (cv A (o + i))), .int (Int32.ofNat (q + i)), .ref d])) := c5.trans (by
        refine XS.iload Xl.here hexec rfl (hb hbytes d15) rfl ?_
        refine sipushV Xl.here hexec rfl 255 (hb hbytes d17) (by decide) ?_
        refine XS.icmpYes Xl.here hexec rfl (pc0 := 20) rfl (hb hbytes d20) rfl (ii_le_t (hp i (by omega))) (by decide) rfl ?_
        refine XS.aloadN Xl.here hexec rfl (hb hbytes d26) rfl rfl ?_
        refine XS.iloadN Xl.here hexec rfl (hb hbytes d27) rfl ?_
        refine XS.iload Xl.here hexec rfl (hb hbytes d28) rfl ?_
        refine i2b Xl.here hexec rfl (hb hbytes d30) rfl ?_
        exact Steps.refl _)
      obtain ⟨T7, X7, p7, st7⟩ := Xl.aput hexec hBk rfl hlt rfl (fits_lo8 (cv A (o + i))) (g := (mkF m 31 #[.val (.ref b), .val (.int (Int32.ofNat (o + i))), .val (.ref d), .val (.int (Int32.ofNat (q + i))), .val (.int (Int32.ofNat len)), .val (.int (Int32.ofNat i)), .val (.int (cv A (o + i)))] [.int (lo8 (cv A (o + i))), .int (Int32.ofNat (q + i)), .ref d])) rfl (rest := []) rfl (hb hbytes d31)
      have c8 : Steps p.tables e below (s₁.setTop (entryFrame m #[.ref b, .int (Int32.ofNat o), .ref d, .int (Int32.ofNat q), .int (Int32.ofNat len)] 7)) (T7.setTop (mkF m 32 #[.val (.ref b), .val (.int (Int32.ofNat (o + i))), .val (.ref d), .val (.int (Int32.ofNat (q + i))), .val (.int (Int32.ofNat len)), .val (.int (Int32.ofNat i)), .val (.int (cv A (o + i)))] [])) := c6.trans (st7 _ (Steps.refl _))
      have c9 : Steps p.tables e below (s₁.setTop (entryFrame m #[.ref b, .int (Int32.ofNat o), .ref d, .int (Int32.ofNat q), .int (Int32.ofNat len)] 7)) (T7.setTop (mkF m 3 #[.val (.ref b), .val (.int (Int32.ofNat (o + i) + 1)), .val (.ref d), .val (.int (Int32.ofNat (q + i) + 1)), .val (.int (Int32.ofNat len)), .val (.int (Int32.ofNat i + 1)), .val (.int (cv A (o + i)))] [])) := c8.trans (by
        refine iincV X7.here hexec rfl 1 (hb hbytes d32) (by decide) rfl rfl ?_
        refine iincV X7.here hexec rfl 1 (hb hbytes d35) (by decide) rfl rfl ?_
        refine iincV X7.here hexec rfl 1 (hb hbytes d38) (by decide) rfl rfl ?_
        refine XS.goto X7.here hexec rfl (pc0 := 41) rfl (hb hbytes d41) (by decide) rfl ?_
        exact Steps.refl _)
      have c10 : Steps p.tables e below (s₁.setTop (entryFrame m #[.ref b, .int (Int32.ofNat o), .ref d, .int (Int32.ofNat q), .int (Int32.ofNat len)] 7)) (T7.setTop (mkF m 3 #[.val (.ref b), .val (.int (Int32.ofNat (o + (i + 1)))), .val (.ref d), .val (.int (Int32.ofNat (q + (i + 1)))), .val (.int (Int32.ofNat len)), .val (.int (Int32.ofNat (i + 1))), .val (.int (cv A (o + i)))] [])) := by
        have := c9
        rw [succ32, succ32, succ32] at this
        exact this
      exact ih (i + 1) (by omega) _ (Or.inr ⟨_, rfl, rfl⟩) T7 _ (by rw [copyLocs_step, ← List.append_assoc]; exact X7) (pl.trans p7) (fl.step (by omega) hlt (by simp)) c10
  obtain ⟨T9, B9, z9, X9, p9, f9, g9⟩ := loop len 0 (by omega) .unset (Or.inl rfl) s₁ B (by simpa [copyLocs] using X0) ⟨hB0.1, fun _ _ => rfl, rfl⟩ (Laid.zero _ _ _) c2
  have c11 : Steps p.tables e below (s₁.setTop (entryFrame m #[.ref b, .int (Int32.ofNat o), .ref d, .int (Int32.ofNat q), .int (Int32.ofNat len)] 7)) (T9.setTop (mkF m 46 #[.val (.ref b), .val (.int (Int32.ofNat (o + len))), .val (.ref d), .val (.int (Int32.ofNat (q + len))), .val (.int (Int32.ofNat len)), .val (.int (Int32.ofNat len)), z9] [.int (Int32.ofNat len)])) := g9.trans (by
    refine XS.iload X9.here hexec rfl (hb hbytes d3) rfl ?_
    refine XS.iload X9.here hexec rfl (hb hbytes d5) rfl ?_
    refine XS.icmpYes X9.here hexec rfl (pc0 := 7) rfl (hb hbytes d7) rfl (ii_ge_t (nlt32 (by omega) (Nat.le_refl _))) (by decide) rfl ?_
    refine XS.iload X9.here hexec rfl (hb hbytes d44) rfl ?_
    exact Steps.refl _)
  exact ⟨T9, some (.int (Int32.ofNat len)), _, _, _, X9, by simp, rfl, rfl, (fun h => by cases h), ⟨rfl, B9, p9.from hh0, f9⟩, fun fs hl => c11.trans (X9.ireturnOut hexec hret rfl (Or.inl rfl) (hb hbytes d46) hl)⟩
end Cmp5
namespace Cmp3
def yN : MethodName := ⟨"java/lang/StringUTF16", "compress", "([CII)[B"⟩
abbrev yB : ByteArray := jdk_52_method_16_code
theorem d0 : decode yB 0 = .ok (.iload_n 2, 1) := by decide +kernel
theorem d1 : decode yB 1 = .ok (.newarray .byte, 2) := by decide +kernel
theorem d3 : decode yB 3 = .ok (.astore_n 3, 1) := by decide +kernel
theorem d4 : decode yB 4 = .ok (.aload_n 0, 1) := by decide +kernel
theorem d5 : decode yB 5 = .ok (.iload_n 1, 1) := by decide +kernel
theorem d6 : decode yB 6 = .ok (.aload_n 3, 1) := by decide +kernel
theorem d7 : decode yB 7 = .ok (.iconst 0, 1) := by decide +kernel
theorem d8 : decode yB 8 = .ok (.iload_n 2, 1) := by decide +kernel
theorem d9 : decode yB 9 = .ok (.invokestatic 115, 3) := by decide +kernel
theorem d12 : decode yB 12 = .ok (.istore 4, 2) := by decide +kernel
theorem d14 : decode yB 14 = .ok (.iload 4, 2) := by decide +kernel
theorem d16 : decode yB 16 = .ok (.iload_n 2, 1) := by decide +kernel
theorem d17 : decode yB 17 = .ok (.if_icmp (.eq) 40, 3) := by decide +kernel
theorem d57 : decode yB 57 = .ok (.aload_n 3, 1) := by decide +kernel
theorem d58 : decode yB 58 = .ok (.areturn, 1) := by decide +kernel
def site : List Cond := [.arrayClass .byte, Cmp5.tab] ++ staticW U16 115 Cmp5.yN
def tab : Cond := tabOf yN yB 6 (some (.array .byte)) site
def P (b : Addr) (A : Cell) (o len : Nat) (args : Array Value) (s : State) : Prop := args = #[.ref b, .int (Int32.ofNat o), .int (Int32.ofNat len)] ∧ Ch b A s ∧ o + len ≤ A.slots.size ∧ len ≤ 536870912 ∧ ∀ i, i < len → ¬ 255 < cv A (o + i)
def E (b : Addr) (A : Cell) (o len : Nat) (r : Option Value) (s u : State) : Prop := NewArr .byte "[B" len (fun j => .int (lo8 (cv A (o + j)))) r s u ∧ u.heap.size = s.heap.size + 1
/-- no char of the range above 255: a new byte[] of their low bytes -/
theorem law (l : Launch) (b : Addr) (A : Cell) (o len : Nat) : Law l yN 3 3 1 18 yB 6 (some (.array .byte)) site (P b A o len) (E b A o len) [] 1 len := by
  refine Law.of_walk (plainFor_of_name (by decide +kernel)) (by decide +kernel) (by decide +kernel) (by decide) (fun _ _ h => by rw [h.1]; rfl) (fun _ U U' hal hh h => ⟨h.1, h.2.1.mv hal hh, h.2.2⟩) (fun r U U' V V' h1 hal h2 h => ⟨NewArr.mv r U U' V V' h1 hal h2 h.1, by rw [h1, h2]; exact h.2⟩) ?_
  intro p e s m args below meth c s₁ X0 hexec hbytes hml hret hlk hnm hown hh0 W hP
  obtain ⟨rfl, hA, l1, l2, hp⟩ := hP
  have a31 := hA.1.2.2.2
  have c1 : Steps p.tables e below (s₁.setTop (entryFrame m #[.ref b, .int (Int32.ofNat o), .int (Int32.ofNat len)] 6)) (s₁.setTop (mkF m 0 #[.val (.ref b), .val (.int (Int32.ofNat o)), .val (.int (Int32.ofNat len)), .unset, .unset, .unset] [])) := entry rfl
  have c2 : Steps p.tables e below (s₁.setTop (entryFrame m #[.ref b, .int (Int32.ofNat o), .int (Int32.ofNat len)] 6)) (s₁.setTop (mkF m 1 #[.val (.ref b), .val (.int (Int32.ofNat o)), .val (.int (Int32.ofNat len)), .unset, .unset, .unset] [.int (Int32.ofNat len)])) := c1.trans (by
    refine XS.iloadN X0.here hexec rfl (hb hbytes d0) rfl ?_
    exact Steps.refl _)
  obtain ⟨T3, B3, X3, ba3, bs3, bv3, bh3, bf3, st3⟩ := X0.anew hexec (atype := .byte) (wk W (.arrayClass .byte)) rfl (by show len * 1 ≤ _; omega) (by omega) (g := (mkF m 1 #[.val (.ref b), .val (.int (Int32.ofNat o)), .val (.int (Int32.ofNat len)), .unset, .unset, .unset] [.int (Int32.ofNat len)])) rfl (hb hbytes d1) (rest := []) rfl (Nat.le_refl _) (by show 0 + len ≤ len; omega)
  rw [hh0] at ba3 st3
  have kp3 : XT.Kept s T3 := (XT.Kept.of_eq hh0).push bh3
  have hA3 := hA.keep X3.warmed.alike (kp3 _ _ hA.1.1)
  have hne : b ≠ s.heap.size := hA.1.ne
  have c4 : Steps p.tables e below (s₁.setTop (entryFrame m #[.ref b, .int (Int32.ofNat o), .int (Int32.ofNat len)] 6)) (T3.setTop (mkF m 3 #[.val (.ref b), .val (.int (Int32.ofNat o)), .val (.int (Int32.ofNat len)), .unset, .unset, .unset] [.ref s.heap.size])) := c2.trans (st3 _ (Steps.refl _))
  have c5 : Steps p.tables e below (s₁.setTop (entryFrame m #[.ref b, .int (Int32.ofNat o), .int (Int32.ofNat len)] 6)) (T3.setTop (mkF m 9 #[.val (.ref b), .val (.int (Int32.ofNat o)), .val (.int (Int32.ofNat len)), .val (.ref s.heap.size), .unset, .unset] [.int (Int32.ofNat len), .int 0, .ref s.heap.size, .int (Int32.ofNat o), .ref b])) := c4.trans (by
    refine XS.astoreN X3.here hexec rfl (hb hbytes d3) rfl rfl rfl ?_
    refine XS.aloadN X3.here hexec rfl (hb hbytes d4) rfl rfl ?_
    refine XS.iloadN X3.here hexec rfl (hb hbytes d5) rfl ?_
    refine XS.aloadN X3.here hexec rfl (hb hbytes d6) rfl rfl ?_
    refine iconstV X3.here hexec rfl 0 (hb hbytes d7) (by decide) ?_
    refine XS.iloadN X3.here hexec rfl (hb hbytes d8) rfl ?_
    exact Steps.refl _)
  obtain ⟨v6, T6, X6, E6, g6⟩ := X3.callS hexec (Cmp5.law l b A s.heap.size B3 o 0 len) hown (wks W (staticW U16 115 Cmp5.yN)) (wk W Cmp5.tab) (W := 0) (Nat.le_of_ble_eq_true rfl) (Nat.le_of_ble_eq_true rfl) (Nat.le_refl _) (by show 0 + len + 0 ≤ len; omega) (g := (mkF m 9 #[.val (.ref b), .val (.int (Int32.ofNat o)), .val (.int (Int32.ofNat len)), .val (.ref s.heap.size), .unset, .unset] [.int (Int32.ofNat len), .int (Int32.ofNat 0), .ref s.heap.size, .int (Int32.ofNat o), .ref b])) rfl (by rw [hml]; rfl) c5 (argsL := [.ref b, .int (Int32.ofNat o), .ref s.heap.size, .int (Int32.ofNat 0), .int (Int32.ofNat len)]) (rest := []) rfl rfl (by show 2 * 0 + 0 ≤ _; decide) (hb hbytes d9) (⟨rfl, hA3, ba3, hne, l1, by rw [bs3]; simp, hp⟩)
  obtain ⟨rfl, B6, p6, f6⟩ := E6
  have c7 : Steps p.tables e below (s₁.setTop (entryFrame m #[.ref b, .int (Int32.ofNat o), .int (Int32.ofNat len)] 6)) (T6.setTop (mkF m 12 #[.val (.ref b), .val (.int (Int32.ofNat o)), .val (.int (Int32.ofNat len)), .val (.ref s.heap.size), .unset, .unset] [.int (Int32.ofNat len)])) := g6
  have c8 : Steps p.tables e below (s₁.setTop (entryFrame m #[.ref b, .int (Int32.ofNat o), .int (Int32.ofNat len)] 6)) (T6.setTop (mkF m 58 #[.val (.ref b), .val (.int (Int32.ofNat o)), .val (.int (Int32.ofNat len)), .val (.ref s.heap.size), .val (.int (Int32.ofNat len)), .unset] [.ref s.heap.size])) := c7.trans (by
    refine XS.istore X6.here hexec rfl (hb hbytes d12) rfl rfl ?_
    refine XS.iload X6.here hexec rfl (hb hbytes d14) rfl ?_
    refine XS.iloadN X6.here hexec rfl (hb hbytes d16) rfl ?_
    refine XS.icmpYes X6.here hexec rfl (pc0 := 17) rfl (hb hbytes d17) rfl (ii_eq_t rfl) (by decide) rfl ?_
    refine XS.aloadN X6.here hexec rfl (hb hbytes d57) rfl rfl ?_
    exact Steps.refl _)
  have X8 := X6.wide (L' := []) (cells' := 1) (slots' := len) (fun x hx hlt => by
    simp only [List.nil_append, copyLocs, List.mem_map, List.mem_range] at hx
    obtain ⟨i, -, rfl⟩ := hx
    exact absurd hlt (Nat.lt_irrefl _)) (Nat.le_refl _) (by omega)
  exact ⟨T6, some (.ref s.heap.size), _, _, _, X8, rfl, rfl, rfl, (fun h => by cases h), ⟨⟨rfl, B6, ba3.like (X3.warmed.alike.symm.trans X6.warmed.alike) p6.1 f6.1 f6.2.1 f6.2.2.1, f6.2.1.trans bv3, by rw [X6.warmed.alike.findClass, f6.1]; exact bf3, by rw [f6.2.2.1, bs3]; simp, fun j hj => by rw [f6.2.2.2 j, if_pos (by omega)]; rfl, kp3.put p6 (Nat.le_refl _)⟩, by rw [p6.2.2, bh3, hh0]; simp⟩, fun fs hl => c8.trans (X8.areturnOut hexec rfl hret rfl (hb hbytes d58) hl)⟩
end Cmp3
namespace CodL
def yN : MethodName := ⟨"java/lang/StringUTF16", "coderFromArrayLen", "([BI)B"⟩
abbrev yB : ByteArray := jdk_52_method_15_code
theorem d0 : decode yB 0 = .ok (.iload_n 1, 1) := by decide +kernel
theorem d1 : decode yB 1 = .ok (.aload_n 0, 1) := by decide +kernel
theorem d2 : decode yB 2 = .ok (.arraylength, 1) := by decide +kernel
theorem d3 : decode yB 3 = .ok (.isub, 1) := by decide +kernel
theorem d4 : decode yB 4 = .ok (.bipush 31, 2) := by decide +kernel
theorem d6 : decode yB 6 = .ok (.iushr, 1) := by decide +kernel
theorem d7 : decode yB 7 = .ok (.i2b, 1) := by decide +kernel
theorem d8 : decode yB 8 = .ok (.ireturn, 1) := by decide +kernel
def site : List Cond := []
def tab : Cond := tabOf yN yB 2 (some .byte) site
def P (d : Addr) (B : Cell) (args : Array Value) (s : State) : Prop := args = #[.ref d, .int (Int32.ofNat B.slots.size)] ∧ Arr .byte d B s
def E (r : Option Value) (s u : State) : Prop := XT.PureE (some (.int 0)) r s u
/-- an array as long as the number of chars: LATIN1 -/
theorem law (l : Launch) (d : Addr) (B : Cell) : Law l yN 2 2 0 0 yB 2 (some .byte) site (P d B) E [] 0 0 := by
  refine Law.of_walk (plainFor_of_name (by decide +kernel)) (by decide +kernel) (by decide +kernel) (by decide) (fun _ _ h => by rw [h.1]; rfl) (fun _ U U' hal hh h => ⟨h.1, h.2.mv hal hh⟩) (fun r U U' V V' h1 hal h2 h => XT.PureE.mv r U U' V V' h1 hal h2 h) ?_
  intro p e s m args below meth c s₁ X0 hexec hbytes hml hret hlk hnm hown hh0 W hP
  obtain ⟨rfl, hB⟩ := hP
  have hB0 := hB.mv X0.warmed.alike hh0
  have c1 : Steps p.tables e below (s₁.setTop (entryFrame m #[.ref d, .int (Int32.ofNat B.slots.size)] 2)) (s₁.setTop (mkF m 0 #[.val (.ref d), .val (.int (Int32.ofNat B.slots.size))] [])) := entry rfl
  have c2 : Steps p.tables e below (s₁.setTop (entryFrame m #[.ref d, .int (Int32.ofNat B.slots.size)] 2)) (s₁.setTop (mkF m 2 #[.val (.ref d), .val (.int (Int32.ofNat B.slots.size))] [.ref d, .int (Int32.ofNat B.slots.size)])) := c1.trans (by
    refine XS.iloadN X0.here hexec rfl (hb hbytes d0) rfl ?_
    refine XS.aloadN X0.here hexec rfl (hb hbytes d1) rfl rfl ?_
    exact Steps.refl _)
  have c3 : Steps p.tables e below (s₁.setTop (entryFrame m #[.ref d, .int (Int32.ofNat B.slots.size)] 2)) (s₁.setTop (mkF m 8 #[.val (.ref d), .val (.int (Int32.ofNat B.slots.size))] [.int (lo8 (ushr (Int32.ofNat B.slots.size - Int32.ofNat B.slots.size) 31))])) := c2.trans (by
    refine X0.alen hexec hB0 rfl rfl (hb hbytes d2) ?_
    refine XS.isub X0.here hexec rfl (hb hbytes d3) rfl ?_
    refine bipushV X0.here hexec rfl 31 (hb hbytes d4) (by decide) ?_
    refine iushr X0.here hexec rfl (hb hbytes d6) rfl ?_
    refine i2b X0.here hexec rfl (hb hbytes d7) rfl ?_
    exact Steps.refl _)
  have e0 : lo8 (ushr (Int32.ofNat B.slots.size - Int32.ofNat B.slots.size) 31) = 0 := by rw [Int32.sub_self]; decide
  rw [e0] at c3
  exact ⟨s₁, some (.int 0), _, _, _, X0, rfl, rfl, rfl, (fun h => by cases h), ⟨rfl, hh0⟩, fun fs hl => c3.trans (X0.ireturnOut hexec hret rfl (Or.inr (Or.inr (Or.inl rfl))) (hb hbytes d8) hl)⟩
end CodL
/-- the String at a is Latin-1 over a new byte[] (the heap's one new cell): the low bytes of the len chars of A from o on; every cell but a is kept -/
def Got (a : Addr) (D : Cell) (fV fC : Field) (A : Cell) (o len : Nat) (r : Option Value) (s u : State) : Prop := r = none ∧ ∃ D' V : Cell, Blank "java/lang/String" a D' u ∧ Same D D' [fV.slot, fC.slot] ∧ D'.slots[fV.slot]? = some (.ref s.heap.size) ∧ D'.slots[fC.slot]? = some (.int 0) ∧ Arr .byte s.heap.size V u ∧ V.vm = .none ∧ u.vm.findClass "[B" = some V.cls ∧ V.slots.size = len ∧ (∀ j, j < len → V.slots[j]? = some (.int (lo8 (cv A (o + j))))) ∧ (∀ (y : Addr) (c : Cell), y ≠ a → s.heap[y]? = some c → u.heap[y]? = some c) ∧ u.heap.size = s.heap.size + 1
theorem Got.mv {a : Addr} {D A : Cell} {fV fC : Field} {o len : Nat} : ∀ r (U U' V V' : State), U'.heap = U.heap → V.vm.Alike V'.vm → V'.heap = V.heap → Got a D fV fC A o len r U V → Got a D fV fC A o len r U' V' :=
  fun r U U' V V' h1 hal h2 ⟨e0, D', X, a1, a2, a3, a4, a5, a6, a7, a8, a9, a10, a11⟩ => ⟨e0, D', X, a1.mv hal h2, a2, by rw [h1]; exact a3, a4, by rw [h1]; exact a5.mv hal h2, a6, by rw [hal.findClass]; exact a7, a8, a9, by rw [h1, h2]; exact a10, by rw [h1, h2]; exact a11⟩
namespace New4
def yN : MethodName := ⟨"java/lang/String", "<init>", "([CIILjava/lang/Void;)V"⟩
abbrev yB : ByteArray := jdk_42_method_149_code
theorem d0 : decode yB 0 = .ok (.aload_n 0, 1) := by decide +kernel
theorem d1 : decode yB 1 = .ok (.invokespecial 1, 3) := by decide +kernel
theorem d4 : decode yB 4 = .ok (.iload_n 3, 1) := by decide +kernel
theorem d5 : decode yB 5 = .ok (.ifCond (.ne) 22, 3) := by decide +kernel
theorem d27 : decode yB 27 = .ok (.getstatic 38, 3) := by decide +kernel
theorem d30 : decode yB 30 = .ok (.ifCond (.eq) 28, 3) := by decide +kernel
theorem d33 : decode yB 33 = .ok (.aload_n 1, 1) := by decide +kernel
theorem d34 : decode yB 34 = .ok (.iload_n 2, 1) := by decide +kernel
theorem d35 : decode yB 35 = .ok (.iload_n 3, 1) := by decide +kernel
theorem d36 : decode yB 36 = .ok (.invokestatic 177, 3) := by decide +kernel
theorem d39 : decode yB 39 = .ok (.astore 5, 2) := by decide +kernel
theorem d41 : decode yB 41 = .ok (.aload_n 0, 1) := by decide +kernel
theorem d42 : decode yB 42 = .ok (.aload 5, 2) := by decide +kernel
theorem d44 : decode yB 44 = .ok (.iload_n 3, 1) := by decide +kernel
theorem d45 : decode yB 45 = .ok (.invokestatic 47, 3) := by decide +kernel
theorem d48 : decode yB 48 = .ok (.putfield 15, 3) := by decide +kernel
theorem d51 : decode yB 51 = .ok (.aload_n 0, 1) := by decide +kernel
theorem d52 : decode yB 52 = .ok (.aload 5, 2) := by decide +kernel
theorem d54 : decode yB 54 = .ok (.putfield 9, 3) := by decide +kernel
theorem d57 : decode yB 57 = .ok (.return_, 1) := by decide +kernel
def site : List Cond := [.fieldLink "java/lang/String" 38 "java/lang/String" "COMPACT_STRINGS" "Z", Cmp3.tab, CodL.tab, .laysFinal "java/lang/String" "java/lang/String" "value" "[B", .fieldLink "java/lang/String" 9 "java/lang/String" "value" "[B", .laysFinal "java/lang/String" "java/lang/String" "coder" "B", .fieldLink "java/lang/String" 15 "java/lang/String" "coder" "B"] ++ objW "java/lang/String" 1 ++ staticW "java/lang/String" 177 Cmp3.yN ++ staticW "java/lang/String" 47 CodL.yN
def tab : Cond := tabOf yN yB 6 none site
def P (a : Addr) (D : Cell) (fV fC : Field) (b : Addr) (A : Cell) (z : Int32) (o len : Nat) (args : Array Value) (s : State) : Prop := args = #[.ref a, .ref b, .int (Int32.ofNat o), .int (Int32.ofNat len), .null] ∧ Blank "java/lang/String" a D s ∧ Found "java/lang/String" "value" "[B" fV s ∧ Found "java/lang/String" "coder" "B" fC s ∧ Ch b A s ∧ StaticIs s "java/lang/String" "COMPACT_STRINGS" "Z" (.int z) ∧ ¬ z = 0 ∧ 0 < len ∧ o + len ≤ A.slots.size ∧ len ≤ 536870912 ∧ ∀ i, i < len → ¬ 255 < cv A (o + i)
def E (a : Addr) (D : Cell) (fV fC : Field) (A : Cell) (o len : Nat) (r : Option Value) (s u : State) : Prop := Got a D fV fC A o len r s u
/-- len > 0, no char of the range above 255: a Latin-1 String of their low bytes -/
theorem law (l : Launch) (a : Addr) (D : Cell) (fV fC : Field) (b : Addr) (A : Cell) (z : Int32) (o len : Nat) : Law l yN 5 4 2 35 yB 6 none site (P a D fV fC b A z o len) (E a D fV fC A o len) [⟨a, fC.slot⟩, ⟨a, fV.slot⟩] 1 len := by
  refine Law.of_walk (plainFor_of_name (by decide +kernel)) (by decide +kernel) (by decide +kernel) (by decide) (fun _ _ h => by rw [h.1]; rfl) (fun _ U U' hal hh h => ⟨h.1, h.2.1.mv hal hh, h.2.2.1.al hal, h.2.2.2.1.al hal, h.2.2.2.2.1.mv hal hh, h.2.2.2.2.2.1.there hal hh, h.2.2.2.2.2.2⟩) (fun r U U' V V' h1 hal h2 h => Got.mv r U U' V V' h1 hal h2 h) ?_
  intro p e s m args below meth c s₁ X0 hexec hbytes hml hret hlk hnm hown hh0 W hP
  obtain ⟨rfl, hB, f1, f2, hA, s1, hz, l0, l1, l2, hp⟩ := hP
  have a31 := hA.1.2.2.2
  have c1 : Steps p.tables e below (s₁.setTop (entryFrame m #[.ref a, .ref b, .int (Int32.ofNat o), .int (Int32.ofNat len), .null] 6)) (s₁.setTop (mkF m 0 #[.val (.ref a), .val (.ref b), .val (.int (Int32.ofNat o)), .val (.int (Int32.ofNat len)), .val .null, .unset] [])) := entry rfl
  have c2 : Steps p.tables e below (s₁.setTop (entryFrame m #[.ref a, .ref b, .int (Int32.ofNat o), .int (Int32.ofNat len), .null] 6)) (s₁.setTop (mkF m 1 #[.val (.ref a), .val (.ref b), .val (.int (Int32.ofNat o)), .val (.int (Int32.ofNat len)), .val .null, .unset] [.ref a])) := c1.trans (by
    refine XS.aloadN X0.here hexec rfl (hb hbytes d0) rfl rfl ?_
    exact Steps.refl _)
  obtain ⟨T3, X3, q3, st3⟩ := X0.oinit hexec hown (wks W (objW "java/lang/String" 1)) (g := (mkF m 1 #[.val (.ref a), .val (.ref b), .val (.int (Int32.ofNat o)), .val (.int (Int32.ofNat len)), .val .null, .unset] [.ref a])) rfl (by rw [hml]; rfl) (rest := []) rfl (hb hbytes d1) (W := 0) (by show 2 * 0 + 0 ≤ _; decide) (Nat.le_of_ble_eq_true rfl) (Nat.le_of_ble_eq_true rfl)
  have hh3 := q3.trans hh0
  have c4 : Steps p.tables e below (s₁.setTop (entryFrame m #[.ref a, .ref b, .int (Int32.ofNat o), .int (Int32.ofNat len), .null] 6)) (T3.setTop (mkF m 27 #[.val (.ref a), .val (.ref b), .val (.int (Int32.ofNat o)), .val (.int (Int32.ofNat len)), .val .null, .unset] [])) := (c2.trans (st3 _ (Steps.refl _))).trans (by
    refine XS.iloadN X3.here hexec rfl (hb hbytes d4) rfl ?_
    refine XS.ifYes X3.here hexec rfl (pc0 := 5) rfl (hb hbytes d5) rfl (i0_ne_t (nz32 (by omega) l0)) (by decide) rfl ?_
    exact Steps.refl _)
  obtain ⟨T5, X5, q5, st5⟩ := X3.sget hexec hown (wk W (.fieldLink "java/lang/String" 38 "java/lang/String" "COMPACT_STRINGS" "Z")) s1 (fun _ _ h => by rw [hh3]; exact h) (g := (mkF m 27 #[.val (.ref a), .val (.ref b), .val (.int (Int32.ofNat o)), .val (.int (Int32.ofNat len)), .val .null, .unset] [])) rfl (hb hbytes d27)
  have hh5 := q5.trans hh3
  have c6 : Steps p.tables e below (s₁.setTop (entryFrame m #[.ref a, .ref b, .int (Int32.ofNat o), .int (Int32.ofNat len), .null] 6)) (T5.setTop (mkF m 30 #[.val (.ref a), .val (.ref b), .val (.int (Int32.ofNat o)), .val (.int (Int32.ofNat len)), .val .null, .unset] [.int z])) := c4.trans (st5 _ (Steps.refl _))
  have c7 : Steps p.tables e below (s₁.setTop (entryFrame m #[.ref a, .ref b, .int (Int32.ofNat o), .int (Int32.ofNat len), .null] 6)) (T5.setTop (mkF m 36 #[.val (.ref a), .val (.ref b), .val (.int (Int32.ofNat o)), .val (.int (Int32.ofNat len)), .val .null, .unset] [.int (Int32.ofNat len), .int (Int32.ofNat o), .ref b])) := c6.trans (by
    refine XS.ifNo X5.here hexec rfl (hb hbytes d30) rfl (i0_eq_f hz) ?_
    refine XS.aloadN X5.here hexec rfl (hb hbytes d33) rfl rfl ?_
    refine XS.iloadN X5.here hexec rfl (hb hbytes d34) rfl ?_
    refine XS.iloadN X5.here hexec rfl (hb hbytes d35) rfl ?_
    exact Steps.refl _)
  obtain ⟨v8, T8, X8, E8, g8⟩ := X5.callS hexec (Cmp3.law l b A o len) hown (wks W (staticW "java/lang/String" 177 Cmp3.yN)) (wk W Cmp3.tab) (W := 0) (Nat.le_of_ble_eq_true rfl) (Nat.le_of_ble_eq_true rfl) (Nat.le_refl _) (by show 0 + len ≤ len; omega) (g := (mkF m 36 #[.val (.ref a), .val (.ref b), .val (.int (Int32.ofNat o)), .val (.int (Int32.ofNat len)), .val .null, .unset] [.int (Int32.ofNat len), .int (Int32.ofNat o), .ref b])) rfl (by rw [hml]; rfl) c7 (argsL := [.ref b, .int (Int32.ofNat o), .int (Int32.ofNat len)]) (rest := []) rfl rfl (by show 2 * 0 + 0 ≤ _; decide) (hb hbytes d36) (⟨rfl, hA.mv X5.warmed.alike hh5, l1, l2, hp⟩)
  obtain ⟨e8, z8⟩ := E8
  obtain ⟨rfl, N, n1, n2, n3, n4, n5, n6⟩ := NewArr.mv _ T5 s _ _ hh5.symm (Vm.Alike.refl _) rfl e8
  rw [hh5] at z8
  have hB1 := hB.keep X8.warmed.alike (n6 _ _ hB.1)
  have hne : s.heap.size ≠ a := (Nat.ne_of_lt (Array.getElem?_eq_some_iff.mp hB.1).1).symm
  have c9 : Steps p.tables e below (s₁.setTop (entryFrame m #[.ref a, .ref b, .int (Int32.ofNat o), .int (Int32.ofNat len), .null] 6)) (T8.setTop (mkF m 39 #[.val (.ref a), .val (.ref b), .val (.int (Int32.ofNat o)), .val (.int (Int32.ofNat len)), .val .null, .unset] [.ref s.heap.size])) := g8
  have c10 : Steps p.tables e below (s₁.setTop (entryFrame m #[.ref a, .ref b, .int (Int32.ofNat o), .int (Int32.ofNat len), .null] 6)) (T8.setTop (mkF m 45 #[.val (.ref a), .val (.ref b), .val (.int (Int32.ofNat o)), .val (.int (Int32.ofNat len)), .val .null, .val (.ref s.heap.size)] [.int (Int32.ofNat N.slots.size), .ref s.heap.size, .ref a])) := by
    have hc : Steps p.tables e below (s₁.setTop (entryFrame m #[.ref a, .ref b, .int (Int32.ofNat o), .int (Int32.ofNat len), .null] 6)) (T8.setTop (mkF m 45 #[.val (.ref a), .val (.ref b), .val (.int (Int32.ofNat o)), .val (.int (Int32.ofNat len)), .val .null, .val (.ref s.heap.size)] [.int (Int32.ofNat len), .ref s.heap.size, .ref a])) := c9.trans (by
      refine XS.astore X8.here hexec rfl (hb hbytes d39) rfl rfl rfl ?_
      refine XS.aloadN X8.here hexec rfl (hb hbytes d41) rfl rfl ?_
      refine XS.aload X8.here hexec rfl (hb hbytes d42) rfl rfl ?_
      refine XS.iloadN X8.here hexec rfl (hb hbytes d44) rfl ?_
      exact Steps.refl _)
    rw [n4]; exact hc
  obtain ⟨v11, T11, X11, E11, g11⟩ := X8.callS hexec (CodL.law l s.heap.size N) hown (wks W (staticW "java/lang/String" 47 CodL.yN)) (wk W CodL.tab) (W := 1) (Nat.le_of_ble_eq_true rfl) (Nat.le_of_ble_eq_true rfl) (Nat.le_refl _) (by show 0 + len + 0 ≤ len; omega) (g := (mkF m 45 #[.val (.ref a), .val (.ref b), .val (.int (Int32.ofNat o)), .val (.int (Int32.ofNat len)), .val .null, .val (.ref s.heap.size)] [.int (Int32.ofNat N.slots.size), .ref s.heap.size, .ref a])) rfl (by rw [hml]; rfl) c10 (argsL := [.ref s.heap.size, .int (Int32.ofNat N.slots.size)]) (rest := [.ref a]) rfl rfl (by show 2 * 0 + (1 + 0) ≤ _; decide) (hb hbytes d45) (⟨rfl, n1⟩)
  obtain ⟨rfl, q11⟩ := E11
  have hB11 := hB1.mv (X8.warmed.alike.symm.trans X11.warmed.alike) q11
  have c12 : Steps p.tables e below (s₁.setTop (entryFrame m #[.ref a, .ref b, .int (Int32.ofNat o), .int (Int32.ofNat len), .null] 6)) (T11.setTop (mkF m 48 #[.val (.ref a), .val (.ref b), .val (.int (Int32.ofNat o)), .val (.int (Int32.ofNat len)), .val .null, .val (.ref s.heap.size)] [.int 0, .ref a])) := g11
  obtain ⟨T13, X13, p13, bl13, sl13, st13⟩ := X11.finit hexec hown (wk W (.fieldLink "java/lang/String" 15 "java/lang/String" "coder" "B")) (Or.inr ⟨_, (wk W (.laysFinal "java/lang/String" "java/lang/String" "coder" "B"))⟩) (Or.inl ⟨rfl, hnm⟩) f2 (Or.inl rfl) hB11 (t := .byte) (by decide +kernel) rfl (g := (mkF m 48 #[.val (.ref a), .val (.ref b), .val (.int (Int32.ofNat o)), .val (.int (Int32.ofNat len)), .val .null, .val (.ref s.heap.size)] [.int 0, .ref a])) rfl (rest := []) rfl (hb hbytes d48)
  have c14 : Steps p.tables e below (s₁.setTop (entryFrame m #[.ref a, .ref b, .int (Int32.ofNat o), .int (Int32.ofNat len), .null] 6)) (T13.setTop (mkF m 54 #[.val (.ref a), .val (.ref b), .val (.int (Int32.ofNat o)), .val (.int (Int32.ofNat len)), .val .null, .val (.ref s.heap.size)] [.ref s.heap.size, .ref a])) := (c12.trans (st13 _ (Steps.refl _))).trans (by
    refine XS.aloadN X13.here hexec rfl (hb hbytes d51) rfl rfl ?_
    refine XS.aload X13.here hexec rfl (hb hbytes d52) rfl rfl ?_
    exact Steps.refl _)
  obtain ⟨T15, X15, p15, bl15, sl15, st15⟩ := X13.finit hexec hown (wk W (.fieldLink "java/lang/String" 9 "java/lang/String" "value" "[B")) (Or.inr ⟨_, (wk W (.laysFinal "java/lang/String" "java/lang/String" "value" "[B"))⟩) (Or.inl ⟨rfl, hnm⟩) f1 (Or.inl rfl) bl13 (t := (.array .byte)) (by decide +kernel) rfl (g := (mkF m 54 #[.val (.ref a), .val (.ref b), .val (.int (Int32.ofNat o)), .val (.int (Int32.ofNat len)), .val .null, .val (.ref s.heap.size)] [.ref s.heap.size, .ref a])) rfl (rest := []) rfl (hb hbytes d54)
  have c16 : Steps p.tables e below (s₁.setTop (entryFrame m #[.ref a, .ref b, .int (Int32.ofNat o), .int (Int32.ofNat len), .null] 6)) (T15.setTop (mkF m 57 #[.val (.ref a), .val (.ref b), .val (.int (Int32.ofNat o)), .val (.int (Int32.ofNat len)), .val .null, .val (.ref s.heap.size)] [])) := c14.trans (st15 _ (Steps.refl _))
  have ap := apart (Or.inr ⟨_, (wk W (.laysFinal "java/lang/String" "java/lang/String" "value" "[B"))⟩) (Or.inr ⟨_, (wk W (.laysFinal "java/lang/String" "java/lang/String" "coder" "B"))⟩) f1 f2 (t₁ := .array .byte) (t₂ := .byte) (by decide +kernel) (by decide +kernel) (by decide)
  have al := X8.warmed.alike.symm.trans X15.warmed.alike
  have n7 : T11.heap[s.heap.size]? = some N := by rw [q11]; exact n1.1
  exact ⟨T15, none, _, _, _, X15, by simp, rfl, by omega, (fun _ => rfl), ⟨rfl, _, N, bl15, ((Same.refl D _).set _ (by simp)).set _ (by simp), sl15, (Cell.slots_setSlot_ne _ ap).trans sl13, n1.keep al (p15.other hne (p13.other hne n7)), n2, by rw [al.findClass]; exact n3, n4, n5, fun y c h1 h2 => p15.other h1 (p13.other h1 (by rw [q11]; exact n6 y c h2)), by rw [p15.2.2, p13.2.2, q11]; exact z8⟩, fun fs hl => c16.trans (X15.returnOut hexec hret (hb hbytes d57) hl)⟩
end New4
namespace New1
def yN : MethodName := ⟨"java/lang/String", "<init>", "([C)V"⟩
abbrev yB : ByteArray := jdk_42_method_3_code
theorem d0 : decode yB 0 = .ok (.aload_n 0, 1) := by decide +kernel
theorem d1 : decode yB 1 = .ok (.aload_n 1, 1) := by decide +kernel
theorem d2 : decode yB 2 = .ok (.iconst 0, 1) := by decide +kernel
theorem d3 : decode yB 3 = .ok (.aload_n 1, 1) := by decide +kernel
theorem d4 : decode yB 4 = .ok (.arraylength, 1) := by decide +kernel
theorem d5 : decode yB 5 = .ok (.aconst_null, 1) := by decide +kernel
theorem d6 : decode yB 6 = .ok (.invokespecial 27, 3) := by decide +kernel
theorem d9 : decode yB 9 = .ok (.return_, 1) := by decide +kernel
def site : List Cond := [New4.tab] ++ initW "java/lang/String" 27 New4.yN
def tab : Cond := tabOf yN yB 2 none site
def P (a : Addr) (D : Cell) (fV fC : Field) (b : Addr) (A : Cell) (z : Int32) (args : Array Value) (s : State) : Prop := args = #[.ref a, .ref b] ∧ Blank "java/lang/String" a D s ∧ Found "java/lang/String" "value" "[B" fV s ∧ Found "java/lang/String" "coder" "B" fC s ∧ Ch b A s ∧ StaticIs s "java/lang/String" "COMPACT_STRINGS" "Z" (.int z) ∧ ¬ z = 0 ∧ 0 < A.slots.size ∧ A.slots.size ≤ 536870912 ∧ ∀ i, i < A.slots.size → ¬ 255 < cv A i
def E (a : Addr) (D : Cell) (fV fC : Field) (A : Cell) (r : Option Value) (s u : State) : Prop := Got a D fV fC A 0 A.slots.size r s u
/-- new String(chars), not empty, no char above 255: a Latin-1 String of their low bytes -/
theorem law (l : Launch) (a : Addr) (D : Cell) (fV fC : Field) (b : Addr) (A : Cell) (z : Int32) : Law l yN 2 1 3 52 yB 2 none site (P a D fV fC b A z) (E a D fV fC A) [⟨a, fC.slot⟩, ⟨a, fV.slot⟩] 1 A.slots.size := by
  refine Law.of_walk (plainFor_of_name (by decide +kernel)) (by decide +kernel) (by decide +kernel) (by decide) (fun _ _ h => by rw [h.1]; rfl) (fun _ U U' hal hh h => ⟨h.1, h.2.1.mv hal hh, h.2.2.1.al hal, h.2.2.2.1.al hal, h.2.2.2.2.1.mv hal hh, h.2.2.2.2.2.1.there hal hh, h.2.2.2.2.2.2⟩) (fun r U U' V V' h1 hal h2 h => Got.mv r U U' V V' h1 hal h2 h) ?_
  intro p e s m args below meth c s₁ X0 hexec hbytes hml hret hlk hnm hown hh0 W hP
  obtain ⟨rfl, hB, f1, f2, hA, s1, hz, l0, l2, hp⟩ := hP
  have c1 : Steps p.tables e below (s₁.setTop (entryFrame m #[.ref a, .ref b] 2)) (s₁.setTop (mkF m 0 #[.val (.ref a), .val (.ref b)] [])) := entry rfl
  have c2 : Steps p.tables e below (s₁.setTop (entryFrame m #[.ref a, .ref b] 2)) (s₁.setTop (mkF m 6 #[.val (.ref a), .val (.ref b)] [.null, .int (Int32.ofNat A.slots.size), .int 0, .ref b, .ref a])) := c1.trans (by
    refine XS.aloadN X0.here hexec rfl (hb hbytes d0) rfl rfl ?_
    refine XS.aloadN X0.here hexec rfl (hb hbytes d1) rfl rfl ?_
    refine iconstV X0.here hexec rfl 0 (hb hbytes d2) (by decide) ?_
    refine XS.aloadN X0.here hexec rfl (hb hbytes d3) rfl rfl ?_
    refine X0.alen hexec (hA.1.mv X0.warmed.alike hh0) rfl rfl (hb hbytes d4) ?_
    refine XS.aconstNull X0.here hexec rfl (hb hbytes d5) ?_
    exact Steps.refl _)
  obtain ⟨v3, T3, X3, E3, g3⟩ := X0.callN hexec (New4.law l a D fV fC b A z 0 A.slots.size) rfl hown (wks W (initW "java/lang/String" 27 New4.yN)) (W New4.tab (by simp only [site, List.mem_cons, List.mem_append, true_or, or_true])) (W := 0) (Nat.le_of_ble_eq_true rfl) (Nat.le_of_ble_eq_true rfl) (Nat.le_refl _) (by show 0 + A.slots.size ≤ A.slots.size; omega) (g := (mkF m 6 #[.val (.ref a), .val (.ref b)] [.null, .int (Int32.ofNat A.slots.size), .int (Int32.ofNat 0), .ref b, .ref a])) rfl (by rw [hml]; rfl) c2 (argsL := [.ref b, .int (Int32.ofNat 0), .int (Int32.ofNat A.slots.size), .null]) (rest := []) rfl rfl (by show 2 * 0 + 0 ≤ _; decide) (hb hbytes d6) (⟨rfl, hB.mv X0.warmed.alike hh0, f1.al X0.warmed.alike, f2.al X0.warmed.alike, hA.mv X0.warmed.alike hh0, s1.there X0.warmed.alike hh0, hz, l0, by omega, l2, fun i hi => by rw [Nat.zero_add]; exact hp i hi⟩)
  have e0 := Got.mv _ s₁ s _ _ hh0.symm (Vm.Alike.refl _) rfl E3
  obtain rfl := e0.1
  have c4 : Steps p.tables e below (s₁.setTop (entryFrame m #[.ref a, .ref b] 2)) (T3.setTop (mkF m 9 #[.val (.ref a), .val (.ref b)] [])) := g3
  exact ⟨T3, none, _, _, _, X3, by simp, rfl, by omega, (fun _ => rfl), e0, fun fs hl => c4.trans (X3.returnOut hexec hret (hb hbytes d9) hl)⟩
theorem pays {l : Launch} {R : Room} {p : Program} {e : Env} {below : List Frame} {s : State} {sargs : Array Value} {len W : Nat} (a : Addr) (D : Cell) (fV fC : Field) (b : Addr) (A : Cell) (z : Int32) (htab : tab.before sargs s = true) (hfr : 4 ≤ R.frames) (hlo : W + 65 ≤ R.locals) :
    Back l R p e below s sargs yN len W (fun A₁ a₁ => A₁.cells + 1 ≤ R.cells ∧ A₁.slots + A.slots.size ≤ R.slots ∧ P a D fV fC b A z a₁ A₁.U) (fun A₁ _ v₁ B₁ => E a D fV fC A v₁ A₁.U B₁.U ∧ B₁.locs = A₁.locs ++ [⟨a, fC.slot⟩, ⟨a, fV.slot⟩] ∧ B₁.cells = A₁.cells + 1 ∧ B₁.slots = A₁.slots + A.slots.size) :=
  (law l a D fV fC b A z).pays htab hfr (by omega)
end New1
end StrChars
namespace StrChars.Road
open Jvm Sem ClassFile Op Lib Jvm.Stand Jvm.Free Jvm.Free.XT
open Jvm.Lib.Cold (StaticIs)
abbrev ST : String := "java/lang/String"
/-- every table word that New1's law asks, flat -/
abbrev words : List Jvm.Cond := [.code New1.yN New1.yB 2 none, .initialized ST, .methodLink ST 27 New4.yN, .instanceMethod New4.yN,
  .code New4.yN New4.yB 6 none, .fieldLink ST 38 ST "COMPACT_STRINGS" "Z", .laysFinal ST ST "value" "[B", .fieldLink ST 9 ST "value" "[B", .laysFinal ST ST "coder" "B", .fieldLink ST 15 ST "coder" "B",
  .methodLink ST 1 Lib.objectInit, .instanceMethod Lib.objectInit, .code Lib.objectInit ⟨#[0xb1]⟩ 1 none, .methodLink ST 177 Cmp3.yN, .static Cmp3.yN, .methodLink ST 47 CodL.yN, .static CodL.yN,
  .code Cmp3.yN Cmp3.yB 6 (some (.array .byte)), .initialized U16, .arrayClass .byte, .methodLink U16 115 Cmp5.yN, .static Cmp5.yN, .code Cmp5.yN Cmp5.yB 7 (some .int), .code CodL.yN CodL.yB 2 (some .byte)]
theorem tab_of {a : Array Value} {s : State} (h : ∀ w ∈ words, w.before a s = true) : New1.tab.before a s = true := by
  have h5 : Cmp5.tab.before a s = true := unparts (wk h (.code Cmp5.yN Cmp5.yB 7 (some .int))) (wks h (.initialized Cmp5.yN.cls :: Cmp5.site))
  have hc : CodL.tab.before a s = true := unparts (wk h (.code CodL.yN CodL.yB 2 (some .byte))) (wks h (.initialized CodL.yN.cls :: CodL.site))
  have q5 : ∀ w ∈ Cmp5.tab :: words, w.before a s = true := fun w hw => (List.mem_cons.mp hw).elim (fun e => e ▸ h5) (h w)
  have h3 : Cmp3.tab.before a s = true := unparts (wk q5 (.code Cmp3.yN Cmp3.yB 6 (some (.array .byte)))) (wks q5 (.initialized Cmp3.yN.cls :: Cmp3.site))
  have q3 : ∀ w ∈ Cmp3.tab :: CodL.tab :: words, w.before a s = true := fun w hw => (List.mem_cons.mp hw).elim (fun e => e ▸ h3) fun hw => (List.mem_cons.mp hw).elim (fun e => e ▸ hc) (h w)
  have h4 : New4.tab.before a s = true := unparts (wk q3 (.code New4.yN New4.yB 6 none)) (wks q3 (.initialized New4.yN.cls :: New4.site))
  have q4 : ∀ w ∈ New4.tab :: words, w.before a s = true := fun w hw => (List.mem_cons.mp hw).elim (fun e => e ▸ h4) (h w)
  exact unparts (wk q4 (.code New1.yN New1.yB 2 none)) (wks q4 (.initialized New1.yN.cls :: New1.site))
/-- the words ride from the start Z to the walk's own state -/
theorem moved {Z s : State} {a0 args : Array Value} (hZ : Z.Warmed39 s.vm) (hw : ∀ d ∈ words, d.before a0 Z = true) : ∀ d ∈ words, d.before args s = true := fun d hd => by
  have q := hw d hd
  have t : ∀ d ∈ words, d = .arrayClass .byte ∨ (d.onTables && d.keepsFace) = true := by decide +kernel
  rcases t d hd with rfl | t
  · exact RoadKit.mvA hZ q
  · exact RoadKit.mv hZ q t
/-- WHAT COMES BACK, over the tables of the start Z: h the heap at the call, h' behind it -/
def Q (Z : State) (x : Addr) (A : Cell) (h : Heap) (v : Option Value) (h' : Heap) (L : List Loc) : Prop := v = none ∧ (∀ y ∈ L, y.base = x) ∧ RoadKit.Keep h h' [x] ∧ h'.size = h.size + 1 ∧ RoadKit.Exa Z h' x ST ∧ RoadKit.Fld Z h' x ST "value" "[B" (.ref h.size) ∧ RoadKit.Fld Z h' x ST "coder" "B" (.int 0) ∧
  (∃ V : Cell, RoadKit.Arr Z h' h.size V .byte ∧ V.vm = .none ∧ Z.vm.findClass "[B" = some V.cls ∧ V.slots.size = A.slots.size ∧ ∀ j, j < A.slots.size → V.slots[j]? = some (.int (lo8 (cv A j)))) ∧
  ∀ (O n d : String) (w : Value), RoadKit.Fld Z h x O n d w → RoadKit.slotOf Z O n d ≠ RoadKit.slotOf Z ST "value" "[B" → RoadKit.slotOf Z O n d ≠ RoadKit.slotOf Z ST "coder" "B" → RoadKit.Fld Z h' x O n d w
/-- **new String(chars) AT A CALL, IN THE ROAD'S FORM**: for specialBack behind newO: x the fresh String, b the char[] with the cell A -/
theorem back {p : Program} {l : Launch} {e : Env} {R : Room} {s : State} {args : Array Value} {below : List Frame} {len W : Nat} {Z : State} {a0 : Array Value} {h : Heap} (hZ : Z.Warmed39 s.vm) (hw : ∀ d ∈ words, d.before a0 Z = true) {kI : Nat} (wi : (Jvm.Cond.instantiable ST kI).before a0 Z = true)
    {x b : Addr} {A : Cell} {z : Int32} {v0 c0 : Value} (E : RoadKit.Exa Z h x ST) (V : RoadKit.Fld Z h x ST "value" "[B" v0) (C : RoadKit.Fld Z h x ST "coder" "B" c0) (K : RoadKit.Arr Z h b A .char) (hty : Typed .char A) (S : RoadKit.Sta Z h ST "COMPACT_STRINGS" "Z" (.int z)) (hz : ¬ z = 0)
    (l0 : 0 < A.slots.size) (l2 : A.slots.size ≤ 536870912) (hp : ∀ i, i < A.slots.size → ¬ 255 < cv A i) (hfr : 4 ≤ R.frames) (hlo : W + 65 ≤ R.locals) :
    Back l R p e below s args New1.yN len W (fun P a => a = #[.ref x, .ref b] ∧ P.U.heap = h ∧ P.cells + 1 ≤ R.cells ∧ P.slots + A.slots.size ≤ R.slots)
      (fun P _ v B => ∃ L, Q Z x A h v B.U.heap L ∧ B.locs = P.locs ++ L ∧ B.cells = P.cells + 1 ∧ B.slots = P.slots + A.slots.size) := by
  intro m meth c P g ig mk a X hg hsize hdg hW hn hp'
  obtain ⟨rfl, rfl, r1, r2⟩ := hp'
  have al : Z.vm.Alike P.U.vm := hZ.alike.trans X.warmed.alike
  obtain ⟨D, cfV, kV, iV, fV, hD, gV, stV, knV, obV, asV, slV⟩ := id V
  obtain ⟨D', cfC, kC, iC, fC, hD', gC, stC, -, -, asC, slC⟩ := id C
  cases hD.symm.trans hD'
  obtain ⟨D2, kD, e1, e2, e3, e4, e5⟩ := id E
  cases hD.symm.trans e1
  obtain ⟨c2, k2, i1, i2, i3, -⟩ := Cond.instantiable_spec wi
  cases e2.symm.trans i1
  cases e3.symm.trans i2
  obtain ⟨kU, u1, u2⟩ := al.2.2 _ _ e3
  have hB : Blank ST x D P.U := ⟨hD, ⟨knV, fun q hq => by rw [hq] at obV; cases obV⟩, by rw [al.findClass]; exact e2, kU, u1, by rw [u2]; exact i3, by rw [u2]; exact e5 i3⟩
  have F1 : Found ST "value" "[B" fV P.U := ⟨SBG.found_only al ⟨cfV, kV, iV, gV⟩, stV⟩
  have F2 : Found ST "coder" "B" fC P.U := ⟨SBG.found_only al ⟨cfC, kC, iC, gC⟩, stC⟩
  have hA : Ch b A P.U := ⟨⟨K.1, State.isArrayOf_alike al K.2.1, K.2.2, by omega⟩, hty⟩
  have hS : StaticIs P.U ST "COMPACT_STRINGS" "Z" (.int z) := by
    obtain ⟨cfS, iS, kS, fS, st, cS, t1, t2, t3, t4, t5, t6, t7⟩ := S
    exact StaticIs.there (s := { Z with heap := P.U.heap }) ⟨cfS, iS, kS, fS, st, cS, t1, t2, t3, t4, t5, (fun q => by rw [q] at t6; cases t6), t7⟩ al rfl
  obtain ⟨v, B, X', ⟨⟨hv, E', V', q1, q2, q3, q4, q5, q6, q7, q8, q9, q10, q11⟩, hl, hc, hs⟩, st⟩ := New1.pays x D fV fC b A z (tab_of (moved hZ hw)) hfr hlo m meth c P g ig mk _ X hg hsize hdg hW hn ⟨r1, r2, rfl, hB, F1, F2, hA, hS, hz, l0, l2, hp⟩
  have al' : Z.vm.Alike B.U.vm := hZ.alike.trans X'.warmed.alike
  have hsz : E'.slots.size = D.slots.size := by
    obtain ⟨-, -, -, kB, w1, w2, w3⟩ := q1
    obtain ⟨kB', y1, y2⟩ := al'.2.2 _ _ e3
    rw [q2.2.1] at w1
    cases w1.symm.trans y1
    rw [w3, e5 i3, y2]
  refine ⟨v, B, X', ⟨_, ⟨hv, ?_, ⟨by omega, fun y cy hy hn' => q10 y cy (by simpa using hn') hy, fun y cy hy => ?_⟩, q11, ⟨E', _, q1.1, by rw [q2.2.1]; exact e2, by rw [q2.2.1]; exact e3, by rw [q2.1]; exact obV, fun _ => by rw [hsz]; exact e5 i3⟩,
    ⟨E', cfV, kV, iV, fV, q1.1, gV, stV, by rw [q2.1]; exact knV, by rw [q2.1]; exact obV, by rw [q2.2.1]; exact asV, q3⟩, ⟨E', cfC, kC, iC, fC, q1.1, gC, stC, by rw [q2.1]; exact knV, by rw [q2.1]; exact obV, by rw [q2.2.1]; exact asC, q4⟩,
    ⟨V', ⟨q5.1, State.isArrayOf_alike al'.symm q5.2.1, q5.2.2.1⟩, q6, by rw [← al'.findClass]; exact q7, q8, fun j hj => by have := q9 j hj; rwa [Nat.zero_add] at this⟩, fun O n d w F n1 n2 => ?_⟩, hl, hc, hs⟩, st⟩
  · intro y hy
    simp only [List.mem_cons, List.not_mem_nil, or_false] at hy
    rcases hy with rfl | rfl <;> rfl
  · by_cases q : y = x
    · subst q
      cases hD.symm.trans hy
      exact ⟨E', q1.1, q2.2.1, q2.1, hsz⟩
    · exact ⟨cy, q10 y cy q hy, rfl, rfl, rfl⟩
  · obtain ⟨D3, cf, k, i, f, g1, g2, g3, g4, g5, g6, g7⟩ := F
    cases hD.symm.trans g1
    simp only [RoadKit.slotOf, g2, gV, gC, Option.map_some, Option.getD_some] at n1 n2
    exact ⟨E', cf, k, i, f, q1.1, g2, g3, by rw [q2.1]; exact g4, by rw [q2.1]; exact g5, by rw [q2.2.1]; exact g6, by rw [q2.2.2 f.slot (by simp [n1, n2])]; exact g7⟩
end StrChars.Road
namespace StrChars.Road
open Jvm Sem ClassFile Op Lib Jvm.Stand Jvm.Free Jvm.Free.XT
/-- WHAT COMES BACK, the byte[] as a list of values -/
def QA (Z : State) (x : Addr) (zn : Int32) (cs : List Int32) (h : Heap) (v : Option Value) (h' : Heap) (L : List Loc) : Prop := v = none ∧ (∀ y ∈ L, y.base = x) ∧ RoadKit.Keep h h' [x] ∧ h'.size = h.size + 1 ∧ RoadKit.Exa Z h' x ST ∧ RoadKit.Fld Z h' x ST "value" "[B" (.ref h.size) ∧ RoadKit.Fld Z h' x ST "coder" "B" (.int 0) ∧
  (∃ kb, Z.vm.findClass "[B" = some kb ∧ RoadKit.Arv Z h' h.size kb .byte zn (cs.map fun c => .int (lo8 c)) (.int 0)) ∧
  ∀ (O n d : String) (w : Value), RoadKit.Fld Z h x O n d w → RoadKit.slotOf Z O n d ≠ RoadKit.slotOf Z ST "value" "[B" → RoadKit.slotOf Z O n d ≠ RoadKit.slotOf Z ST "coder" "B" → RoadKit.Fld Z h' x O n d w
/-- **new String(chars) AT A CALL, THE ARRAYS AS LISTS**: the char[] at b holds cs, not empty, no char above 255 -/
theorem backArv {p : Program} {l : Launch} {e : Env} {R : Room} {s : State} {args : Array Value} {below : List Frame} {len W : Nat} {Z : State} {a0 : Array Value} {h : Heap} (hZ : Z.Warmed39 s.vm) (hw : ∀ d ∈ words, d.before a0 Z = true) {kI : Nat} (wi : (Jvm.Cond.instantiable ST kI).before a0 Z = true)
    {x b : Addr} {k : ClassId} {zn z : Int32} {cs : List Int32} {dv v0 c0 : Value} (E : RoadKit.Exa Z h x ST) (V : RoadKit.Fld Z h x ST "value" "[B" v0) (C : RoadKit.Fld Z h x ST "coder" "B" c0) (K : RoadKit.Arv Z h b k .char zn (cs.map Value.int) dv) (S : RoadKit.Sta Z h ST "COMPACT_STRINGS" "Z" (.int z)) (hz : ¬ z = 0)
    (hlen : zn.toNatClampNeg = cs.length) (h0 : 0 < cs.length) (hbig : cs.length ≤ 536870912) (hall : ∀ c ∈ cs, ¬ 255 < c) (hfr : 4 ≤ R.frames) (hlo : W + 65 ≤ R.locals) :
    Back l R p e below s args New1.yN len W (fun P a => a = #[.ref x, .ref b] ∧ P.U.heap = h ∧ P.cells + 1 ≤ R.cells ∧ P.slots + cs.length ≤ R.slots)
      (fun P _ v B => ∃ L, QA Z x zn cs h v B.U.heap L ∧ B.locs = P.locs ++ L ∧ B.cells = P.cells + 1 ∧ B.slots = P.slots + cs.length) := by
  obtain ⟨A, K1, K2, K3, K4, K5, K6⟩ := K
  have e : A.slots.size = cs.length := K3.trans hlen
  have hat : ∀ (i : Nat) (hi : i < cs.length), A.slots[i]? = some (.int cs[i]) := fun i hi => by rw [K5 i (by omega)]; simp [List.getD_eq_getElem?_getD, hi]
  have hcv : ∀ (i : Nat) (hi : i < cs.length), cv A i = cs[i] := fun i hi => by unfold cv; rw [hat i hi]
  have hty : Typed .char A := fun i v hv => by
    have hi : i < A.slots.size := (Array.getElem?_eq_some_iff.mp hv).1
    have q := K5 i hi
    rw [hv] at q
    rw [Option.some.inj q]
    exact K6 i hi
  refine Back.mono (back hZ hw wi E V C K1 hty S hz (by omega) (by omega) (fun i hi => by rw [hcv i (by omega)]; exact hall _ (List.getElem_mem _)) hfr hlo) (fun P a hp => ⟨hp.1, hp.2.1, hp.2.2.1, by rw [e]; exact hp.2.2.2⟩) (fun P a v B hp hq => ?_)
  obtain ⟨L, ⟨q1, q2, q3, q4, q5, q6, q7, ⟨V', v1, v2, v3, v4, v5⟩, q9⟩, hl, hc, hs⟩ := hq
  refine ⟨L, ⟨q1, q2, q3, q4, q5, q6, q7, ⟨V'.cls, v3, V', v1, rfl, by rw [v4, e, hlen], K4, fun i hi => ?_, fun i hi => ?_⟩, q9⟩, hl, hc, by rw [hs, e]⟩
  · have hi' : i < cs.length := by omega
    rw [v5 i (by omega), hcv i hi']; simp [List.getD_eq_getElem?_getD, hi']
  · have hi' : i < cs.length := by omega
    simp only [List.getD_eq_getElem?_getD, List.getElem?_map, List.getElem?_eq_getElem hi', Option.map_some, Option.getD_some]
    exact fits_lo8 _
end StrChars.Road
namespace StrChars.Road
open Jvm Sem ClassFile Op Lib Jvm.Stand Jvm.Free Jvm.Free.XT
/-- WHAT COMES BACK, in the writer's own shape -/
def QV (Z : State) (x : Addr) (N : Int32) (bs : List Int32) (h : Heap) (n0 : Nat) (v : Option Value) (h' : Heap) (L : List Loc) : Prop := v = none ∧ RoadKit.Fr n0 L ∧ RoadKit.Keep h h' [x] ∧ RoadKit.Exa Z h' x ST ∧ RoadKit.Fld Z h' x ST "coder" "B" (.int 0) ∧
  ∃ (t : Addr) (kb : ClassId), n0 ≤ t ∧ h.size ≤ t ∧ ¬ t = x ∧ RoadKit.Fld Z h' x ST "value" "[B" (.ref t) ∧ RoadKit.Arv Z h' t kb .byte N (bs.map Value.int) (.int 0)
/-- **new String(chars) AT A CALL, FOR THE WRITER**: a char[] of n known ints, each 0 to 255 -/
theorem backV {p : Program} {l : Launch} {e : Env} {R : Room} {s : State} {args : Array Value} {below : List Frame} {len W : Nat} {Z : State} {a0 : Array Value} {h : Heap} (hZ : Z.Warmed39 s.vm) (hw : ∀ d ∈ words, d.before a0 Z = true) {kI : Nat} (wi : (Jvm.Cond.instantiable ST kI).before a0 Z = true)
    {x b : Addr} {kC : ClassId} {cs bs : List Int32} {d v0 c0 : Value} {z N : Int32} {n n0 : Nat} (hx0 : n0 ≤ x) (hh0 : n0 ≤ h.size) (E : RoadKit.Exa Z h x ST) (V : RoadKit.Fld Z h x ST "value" "[B" v0) (C : RoadKit.Fld Z h x ST "coder" "B" c0) (K : RoadKit.Arv Z h b kC .char N (cs.map Value.int) d) (S : RoadKit.Sta Z h ST "COMPACT_STRINGS" "Z" (.int z)) (hz : ¬ z = 0)
    (hn : cs.length = n) (hN : N = Int32.ofNat n) (l0 : 0 < n) (l2 : n ≤ 4000) (hp : ∀ c ∈ cs, ¬ c < 0 ∧ ¬ (255 : Int32) < c) (hb : bs = cs.map (fun c => c.toInt8.toInt32)) (hfr : 4 ≤ R.frames) (hlo : W + 65 ≤ R.locals) :
    Back l R p e below s args (⟨"java/lang/String", "<init>", "([C)V"⟩ : MethodName) len W (fun P a => a = #[.ref x, .ref b] ∧ P.U.heap = h ∧ P.cells + 1 ≤ R.cells ∧ P.slots + n ≤ R.slots)
      (fun P _ v B => ∃ L, QV Z x N bs h n0 v B.U.heap L ∧ B.locs = P.locs ++ L ∧ B.cells = P.cells + 1 ∧ B.slots = P.slots + n) := by
  subst hn hN hb
  refine Back.mono (backArv hZ hw wi E V C K S hz (n32 (by omega)) l0 (by omega) (fun c hc => (hp c hc).2) hfr hlo) (fun P a hp => hp) (fun P a v B hp hq => ?_)
  obtain ⟨L, ⟨q1, q2, q3, q4, q5, q6, q7, ⟨kb, v1, v2⟩, q9⟩, hl, hc, hs⟩ := hq
  exact ⟨L, ⟨q1, fun y hy => by rw [q2 y hy]; exact hx0, q3, q5, q7, h.size, kb, hh0, Nat.le_refl _, Nat.ne_of_gt E.lt, q6, by rw [List.map_map]; exact v2⟩, hl, hc, hs⟩
end StrChars.Road
end Jvm.Pilot.@@N@@
namespace Jvm.Pilot.@@N@@
open Jvm Jvm.ClassFile Sem Op Lib Jvm.Free Jvm.Stand Jvm.LawKit Jvm.RoadKit Bundle Jvm.Pilot.@@N@@.Jvm.D
/-- the run from u comes to an end that P holds of -/
def Go (p : Program) (e : Env) (below : List Frame) (P : State → Outcome → Prop) (u : State) : Prop := ∃ t o, Steps p.tables e below u t ∧ t.status = .running ∧ Ended t below o ∧ P t o
section Own
variable {p : Program} {l : Launch} {e : Env} {R : Room} {s : State} {m : MethodId} {args : Array Value} {below : List Frame} {meth : Method} {c : Code} {T : State} {locs : List Loc} {cells slots : Nat} {Z : State} {a0 : Array Value} {h h' : Heap} {vm : Vm} {P : State → Outcome → Prop} {u w : State}
theorem Go.on (st : ∀ t, Steps p.tables e below w t → Steps p.tables e below u t) (k : Go p e below P w) : Go p e below P u := by
  obtain ⟨t, o, h, r⟩ := k; exact ⟨t, o, st t h, r⟩
theorem Go.fin {vm1 : Vm} {n : Nat} (X : Stand p l e R (s.setVm vm1) m args below meth c T locs cells slots) (hS : s.Since vm1 n) (hn : n ≤ T.heap.size) (hlk : meth.locks = false) {v : Option Value} (hv : meth.sig.returnType = none → v = none)
    (st : ∀ fs, (∀ (f : JFrame) (acts : List Action), f.method = m → f.locked = none → f.entered = [] → (doReturn e (T.setTop f) acts v).1 = T.setFrames fs) → Steps p.tables e below u (T.setFrames fs))
    (hP : ∀ fs, ReturnedEndW s (.returned v) (T.setFrames fs) locs cells slots → P (T.setFrames fs) (.returned v)) : Go p e below P u := by
  obtain ⟨fs, h1, h2, h3, h4⟩ := X.leaveW hS hn hv (hlocks := hlk)
  exact ⟨_, _, st fs h1, h2, h3, hP fs h4⟩
theorem Go.finH (X : Stand p l e R s m args below meth c T locs cells slots) (hlk : meth.locks = false) {v : Option Value} (hv : meth.sig.returnType = none → v = none)
    (st : ∀ fs, (∀ (f : JFrame) (acts : List Action), f.method = m → f.locked = none → f.entered = [] → (doReturn e (T.setTop f) acts v).1 = T.setFrames fs) → Steps p.tables e below u (T.setFrames fs))
    (hP : ∀ fs, FrameEnd s (.returned v) (T.setFrames fs) locs cells slots → P (T.setFrames fs) (.returned v)) : Go p e below P u := by
  obtain ⟨fs, h1, h2, h3, h4, h5⟩ := X.leave hv (hlocks := hlk)
  exact ⟨_, _, st fs h1, h2, h3, hP fs ⟨⟨v, rfl⟩, h4, h5⟩⟩
theorem endP {Q : Option Value → Heap → List Loc → Prop} {EL : List (String × Nat)} {v : Option Value} {k n : Nat} (q : Q v T.heap locs) (r : CHr Z EL s.vm s.heap T.vm T.heap) (hc : cells ≤ k) (hs : slots ≤ n) :
    ∀ fs, ReturnedEndW s (.returned v) (T.setFrames fs) locs cells slots → ∃ v' L, Outcome.returned v = .returned v' ∧ Q v' (T.setFrames fs).heap L ∧ CHr Z EL s.vm s.heap (T.setFrames fs).vm (T.setFrames fs).heap ∧ ReturnedEndW s (.returned v) (T.setFrames fs) L k n :=
  fun fs h => ⟨v, locs, rfl, q, r, h.1, h.2.1, h.2.2.1, h.2.2.2.mono hc hs⟩
theorem endH {Q : Option Value → Heap → List Loc → Prop} {v : Option Value} {k n : Nat} (q : Q v T.heap locs) (hc : cells ≤ k) (hs : slots ≤ n) :
    ∀ fs, FrameEnd s (.returned v) (T.setFrames fs) locs cells slots → ∃ v' L, Outcome.returned v = .returned v' ∧ Q v' (T.setFrames fs).heap L ∧ FrameEnd s (.returned v) (T.setFrames fs) L k n :=
  fun fs h => ⟨v, locs, rfl, q, h.1, h.2.1, h.2.2.mono hc hs⟩
/-- a String whose value is still null is no booked constant -/
theorem own_safeNull {EL : List (String × Nat)} {x : Addr} (hal : Z.vm.Alike vm) (E : Exa Z h x "java/lang/String") (F : Fld Z h x "java/lang/String" "value" "[B" .null) : Safe Z EL vm h x := fun B => by
  obtain ⟨cell, k, e1, e2, e3, -, -⟩ := E
  obtain ⟨p, -, u, a, -, q, -, G, rfl | rfl⟩ := B
  · obtain ⟨cell', cf, kf, i, f, f1, f2, -, -, -, -, f7⟩ := F
    obtain ⟨cS, ⟨⟨s1, -, -, ⟨c1, k1, i1, v1, -⟩, -, -, -, v2, -⟩, -⟩, -⟩ := G
    obtain ⟨k3, q3, -⟩ := State.fieldFound?_setVm (s := Z) (vm' := vm) hal f2
    have e4 := (show (Wst Z vm h).fieldFound? _ _ _ = _ from q3).symm.trans v1
    simp only [Option.some.injEq, Prod.mk.injEq] at e4
    cases (show h[q.sa]? = some q.sC from s1).symm.trans f1
    rw [← e4.2.2.2, f7] at v2
    cases v2
  · cases (show h[q.sd]? = some q.SA from G.hd).symm.trans e1
    obtain ⟨cS, -, -, f, -⟩ := G
    rw [show (Wst Z vm h).vm.findClass "[B" = Z.vm.findClass "[B" from hal.findClass _ _] at f
    obtain ⟨k1, q1, q2⟩ := Vm.findClass_spec f
    obtain ⟨k2, q3, q4⟩ := Vm.findClass_spec e2
    cases q1.symm.trans q3
    exact absurd (q2.symm.trans q4) (by decide)
end Own
theorem own_chr (x : Int32) : ∃ z : Int32, (x &&& (255 : Int32)).toUInt32.toUInt16.toUInt32.toInt32 = z ∧ ¬ z < 0 ∧ ¬ (255 : Int32) < z := by
  refine ⟨_, rfl, ?_⟩
  have t : ∀ k : Fin 256, ¬ ((Int32.ofNat k.val).toUInt32.toUInt16.toUInt32.toInt32) < 0 ∧ ¬ (255 : Int32) < ((Int32.ofNat k.val).toUInt32.toUInt16.toUInt32.toInt32) := by decide +kernel
  have h : (x &&& 255).toBitVec.toNat < 256 := by
    simp only [Int32.toBitVec_and, BitVec.toNat_and]
    exact Nat.lt_succ_of_le Nat.and_le_right
  have e : (x &&& 255) = Int32.ofNat (x &&& 255).toBitVec.toNat := by
    apply Int32.toBitVec_inj.mp
    show _ = BitVec.ofNat 32 _
    rw [BitVec.ofNat_toNat]; simp
  rw [e]
  exact t ⟨_, h⟩
theorem own_small {z : Int32} (h0 : ¬ z < 0) (h1 : ¬ (255 : Int32) < z) : ∃ k : Fin 256, z = Int32.ofNat k.val := by
  have a : z.toInt ≤ 255 := by rw [Int32.lt_iff_toInt_lt] at h1; have e1 : (255 : Int32).toInt = 255 := rfl; omega
  have b : 0 ≤ z.toInt := by rw [Int32.lt_iff_toInt_lt] at h0; have e1 : (0 : Int32).toInt = 0 := rfl; omega
  refine ⟨⟨z.toInt.toNat, by omega⟩, Int32.toInt_inj.mp ?_⟩
  show z.toInt = (Int32.ofNat z.toInt.toNat).toInt
  rw [Int32.toInt_ofNat_of_lt (by omega)]; omega
theorem own_nar {z : Int32} (h0 : ¬ z < 0) (h1 : ¬ (255 : Int32) < z) : nar .char z = z := by
  have t : ∀ k : Fin 256, nar .char (Int32.ofNat k.val) = Int32.ofNat k.val := by decide +kernel
  obtain ⟨k, rfl⟩ := own_small h0 h1
  exact t k
theorem own_and3 (x : Int32) : x &&& (3 : Int32) = 0 ∨ x &&& (3 : Int32) = 1 ∨ x &&& (3 : Int32) = 2 ∨ x &&& (3 : Int32) = 3 := by
  have t : ∀ k : Fin 4, Int32.ofNat k.val = 0 ∨ Int32.ofNat k.val = 1 ∨ Int32.ofNat k.val = 2 ∨ Int32.ofNat k.val = 3 := by decide +kernel
  have h : (x &&& 3).toBitVec.toNat < 4 := by
    simp only [Int32.toBitVec_and, BitVec.toNat_and]
    exact Nat.lt_succ_of_le Nat.and_le_right
  have e : (x &&& 3) = Int32.ofNat (x &&& 3).toBitVec.toNat := by
    apply Int32.toBitVec_inj.mp
    show _ = BitVec.ofNat 32 _
    rw [BitVec.ofNat_toNat]; simp
  rw [e]
  exact t ⟨_, h⟩
theorem own_up {cs : List Int32} (h : ∀ c ∈ cs, ¬ c < 0 ∧ ¬ (255 : Int32) < c) : ∀ c ∈ cs, ¬ c < 0 ∧ ¬ (65535 : Int32) < c := fun c hc => ⟨(h c hc).1, fun q => (h c hc).2 (by rw [Int32.lt_iff_toInt_lt] at q ⊢; have e1 : (65535 : Int32).toInt = 65535 := rfl; have e2 : (255 : Int32).toInt = 255 := rfl; omega)⟩
theorem own_nar8 (c : Int32) : nar .byte (c.toInt8.toInt32) = c.toInt8.toInt32 := by
  show ((c.toInt8.toInt32).toInt8).toInt32 = _
  rw [Int8.toInt8_toInt32]
/-- the chars of a String of n signs -/
def own_cs (n c0 c1 : Int32) : List Int32 := if n = 0 then [] else if n = 1 then [c0] else [c0, c1]
theorem own_cs0 (c0 c1 : Int32) : own_cs 0 c0 c1 = [] := rfl
theorem own_cs1 (c0 c1 : Int32) : own_cs 1 c0 c1 = [c0] := by simp [own_cs]
theorem own_cs2 (c0 c1 : Int32) : own_cs 2 c0 c1 = [c0, c1] := by simp [own_cs]
theorem own_all1 {a : Int32} (h : ¬ a < 0 ∧ ¬ (255 : Int32) < a) : ∀ c ∈ [a], ¬ c < 0 ∧ ¬ (255 : Int32) < c := fun c hc => by simp only [List.mem_cons, List.not_mem_nil, or_false] at hc; subst hc; exact h
theorem own_all2 {a b : Int32} (h : ¬ a < 0 ∧ ¬ (255 : Int32) < a) (h' : ¬ b < 0 ∧ ¬ (255 : Int32) < b) : ∀ c ∈ [a, b], ¬ c < 0 ∧ ¬ (255 : Int32) < c := fun c hc => by
  simp only [List.mem_cons, List.not_mem_nil, or_false] at hc
  rcases hc with rfl | rfl
  · exact h
  · exact h'
theorem own_len {n c0 c1 : Int32} {cs : List Int32} (e : cs = own_cs n c0 c1) : cs.length ≤ 4000 := by
  subst e; unfold own_cs; split
  · simp
  · split <;> simp
theorem own_eqv {v : Option Value} {A : Prop} (h : (v = some (.int 1) ∧ A) ∨ (v = some (.int 0) ∧ ¬ A)) : ∃ r : Int32, v = some (.int r) ∧ ((r = 1 ∧ A) ∨ (r = 0 ∧ ¬ A)) := by
  rcases h with ⟨h, a⟩ | ⟨h, a⟩
  · exact ⟨1, h, Or.inl ⟨rfl, a⟩⟩
  · exact ⟨0, h, Or.inr ⟨rfl, a⟩⟩
/-- two such Strings are alike just where the law says so -/
theorem own_csEq {n k c0 c1 d0 d1 : Int32} (hn : n = 0 ∨ n = 1 ∨ n = 2) (hk : k = 0 ∨ k = 1 ∨ k = 2) : own_cs n c0 c1 = own_cs k d0 d1 ↔ (n = k ∧ (n < 1 ∨ c0 = d0) ∧ (n < 2 ∨ c1 = d1)) := by
  rcases hn with rfl | rfl | rfl <;> rcases hk with rfl | rfl | rfl <;> simp [own_cs] <;> decide
theorem own_if01 {r : Int32} {A B : Prop} (h : (r = 1 ∧ A) ∨ (r = 0 ∧ ¬ A)) (e : A ↔ B) [Decidable B] : r = if B then 1 else 0 := by
  rcases h with ⟨rfl, a⟩ | ⟨rfl, a⟩
  · rw [if_pos (e.mp a)]
  · rw [if_neg (fun b => a (e.mpr b))]
theorem own_exaRef {args : Array Value} {s : State} {t : Term} {C : String} (h : (Jvm.Cond.exactly t C).value args s none s [] = some true) : ∃ a, t.eval args s none [] s = some (.ref a) := by
  obtain ⟨a, c, cell, k, h1, -⟩ := Cond.exactly_spec (Cond.before_iff.mpr h)
  exact ⟨a, h1⟩
theorem own_ord {args : Array Value} {s : State} {t : Term} {a : Addr} {C f d : String} {i : Int32} (ea : t.eval args s none [] s = some (.ref a)) (h1 : (Jvm.Cond.eq (.field t C f d) (.int i)).value args s none s [] = some true) : s.fieldOf? a C f d = some (.int i) := by
  have e1 : (Term.field t C f d).eval args s none [] s = s.fieldOf? a C f d := by simp [Term.eval, ea]
  simp only [Cond.value, e1, Term.int_eval] at h1
  cases hq : s.fieldOf? a C f d with
  | none => simp [hq] at h1
  | some v =>
    rw [hq] at h1
    cases v <;> simp at h1
    rw [h1]
abbrev yM0 : MethodName := ⟨"java/lang/String", "<init>", "([C)V"⟩
abbrev yM1 : MethodName := ⟨"java/lang/Object", "<init>", "()V"⟩
abbrev yM2 : MethodName := ⟨"com/example/realmwright/realmwright/KeycloakRoles", "<init>", "()V"⟩
abbrev yM3 : MethodName := ⟨"com/example/realmwright/realmwright/ByteLog", "<init>", "()V"⟩
abbrev yM4 : MethodName := ⟨"java/util/ArrayList", "<init>", "()V"⟩
abbrev yM5 : MethodName := ⟨"java/util/AbstractList", "<init>", "()V"⟩
abbrev yM6 : MethodName := ⟨"java/util/AbstractCollection", "<init>", "()V"⟩
abbrev yM7 : MethodName := ⟨"com/example/realmwright/realmwright/KeycloakRoles", "beginGroup", "()I"⟩
abbrev yM8 : MethodName := ⟨"com/example/realmwright/realmwright/KeycloakRoles", "addMapped", "(ILjava/lang/String;Ljava/lang/String;)V"⟩
abbrev yM9 : MethodName := ⟨"com/example/realmwright/realmwright/ByteLog", "writeCount", "(J)V"⟩
abbrev yM10 : MethodName := ⟨"com/example/realmwright/realmwright/ByteLog", "writeByte", "(I)V"⟩
abbrev yM11 : MethodName := ⟨"com/example/realmwright/realmwright/ByteLog", "lastBlock", "()[B"⟩
abbrev yM12 : MethodName := ⟨"java/util/List", "isEmpty", "()Z"⟩
abbrev yM13 : MethodName := ⟨"java/util/ArrayList", "isEmpty", "()Z"⟩
abbrev yM14 : MethodName := ⟨"java/util/List", "add", "(Ljava/lang/Object;)Z"⟩
abbrev yM15 : MethodName := ⟨"java/util/ArrayList", "add", "(Ljava/lang/Object;)Z"⟩
abbrev yM16 : MethodName := ⟨"java/util/ArrayList", "add", "(Ljava/lang/Object;[Ljava/lang/Object;I)V"⟩
abbrev yM17 : MethodName := ⟨"java/util/ArrayList", "grow", "()[Ljava/lang/Object;"⟩
abbrev yM18 : MethodName := ⟨"java/util/ArrayList", "grow", "(I)[Ljava/lang/Object;"⟩
abbrev yM19 : MethodName := ⟨"java/lang/Math", "max", "(II)I"⟩
abbrev yM20 : MethodName := ⟨"java/util/List", "size", "()I"⟩
abbrev yM21 : MethodName := ⟨"java/util/ArrayList", "size", "()I"⟩
abbrev yM22 : MethodName := ⟨"java/util/List", "get", "(I)Ljava/lang/Object;"⟩
abbrev yM23 : MethodName := ⟨"java/util/ArrayList", "get", "(I)Ljava/lang/Object;"⟩
abbrev yM24 : MethodName := ⟨"java/util/Objects", "checkIndex", "(II)I"⟩
abbrev yM25 : MethodName := ⟨"jdk/internal/util/Preconditions", "checkIndex", "(IILjava/util/function/BiFunction;)I"⟩
abbrev yM26 : MethodName := ⟨"java/util/ArrayList", "elementData", "(I)Ljava/lang/Object;"⟩
abbrev yM27 : MethodName := ⟨"com/example/realmwright/realmwright/KeycloakRoles", "key", "(Ljava/lang/String;Ljava/lang/String;)Ljava/lang/String;"⟩
abbrev yM28 : MethodName := ⟨"java/lang/StringBuilder", "<init>", "()V"⟩
abbrev yM29 : MethodName := ⟨"java/lang/AbstractStringBuilder", "<init>", "(I)V"⟩
abbrev yM30 : MethodName := ⟨"java/lang/StringBuilder", "append", "(Ljava/lang/String;)Ljava/lang/StringBuilder;"⟩
abbrev yM31 : MethodName := ⟨"java/lang/AbstractStringBuilder", "append", "(Ljava/lang/String;)Ljava/lang/AbstractStringBuilder;"⟩
abbrev yM32 : MethodName := ⟨"java/lang/String", "length", "()I"⟩
abbrev yM33 : MethodName := ⟨"java/lang/String", "coder", "()B"⟩
abbrev yM34 : MethodName := ⟨"java/lang/AbstractStringBuilder", "ensureCapacityInternal", "(I)V"⟩
abbrev yM35 : MethodName := ⟨"java/lang/AbstractStringBuilder", "putStringAt", "(ILjava/lang/String;)V"⟩
abbrev yM36 : MethodName := ⟨"java/lang/AbstractStringBuilder", "inflateIfNeededFor", "(Ljava/lang/String;)V"⟩
abbrev yM37 : MethodName := ⟨"java/lang/String", "getBytes", "([BIB)V"⟩
abbrev yM38 : MethodName := ⟨"java/lang/System", "arraycopy", "(Ljava/lang/Object;ILjava/lang/Object;II)V"⟩
abbrev yM39 : MethodName := ⟨"java/lang/StringBuilder", "toString", "()Ljava/lang/String;"⟩
abbrev yM40 : MethodName := ⟨"java/lang/String", "<init>", "(Ljava/lang/StringBuilder;)V"⟩
abbrev yM41 : MethodName := ⟨"java/lang/String", "<init>", "(Ljava/lang/AbstractStringBuilder;Ljava/lang/Void;)V"⟩
abbrev yM42 : MethodName := ⟨"java/lang/AbstractStringBuilder", "getValue", "()[B"⟩
abbrev yM43 : MethodName := ⟨"java/lang/AbstractStringBuilder", "length", "()I"⟩
abbrev yM44 : MethodName := ⟨"java/lang/StringBuilder", "length", "()I"⟩
abbrev yM45 : MethodName := ⟨"java/lang/AbstractStringBuilder", "isLatin1", "()Z"⟩
abbrev yM46 : MethodName := ⟨"java/util/Arrays", "copyOfRange", "([BII)[B"⟩
abbrev yM47 : MethodName := ⟨"java/util/Arrays", "copyOfRangeByte", "([BII)[B"⟩
abbrev yM48 : MethodName := ⟨"java/util/Arrays", "checkLength", "(II)V"⟩
abbrev yM49 : MethodName := ⟨"java/lang/Math", "min", "(II)I"⟩
abbrev yM50 : MethodName := ⟨"com/example/realmwright/realmwright/ByteLog", "writeString", "(Ljava/lang/String;)V"⟩
abbrev yM51 : MethodName := ⟨"java/lang/String", "getBytes", "(Ljava/nio/charset/Charset;)[B"⟩
abbrev yM52 : MethodName := ⟨"java/lang/String", "encode", "(Ljava/nio/charset/Charset;B[B)[B"⟩
abbrev yM53 : MethodName := ⟨"java/lang/String", "encodeUTF8", "(B[BZ)[B"⟩
abbrev yM54 : MethodName := ⟨"java/lang/StringCoding", "hasNegatives", "([BII)Z"⟩
abbrev yM55 : MethodName := ⟨"java/lang/StringCoding", "countPositives", "([BII)I"⟩
abbrev yM56 : MethodName := ⟨"[B", "clone", "()Ljava/lang/Object;"⟩
abbrev yM57 : MethodName := ⟨"java/lang/Object", "clone", "()Ljava/lang/Object;"⟩
abbrev yM58 : MethodName := ⟨"com/example/realmwright/realmwright/KeycloakRoles", "endGroup", "(IILjava/lang/String;)V"⟩
abbrev yM59 : MethodName := ⟨"java/lang/StringUTF16", "newBytesFor", "(I)[B"⟩
abbrev yM60 : MethodName := ⟨"java/lang/StringUTF16", "newBytesLength", "(I)I"⟩
abbrev yM61 : MethodName := ⟨"java/util/Arrays", "copyOf", "([BI)[B"⟩
set_option maxRecDepth 65536
set_option maxHeartbeats 40000000
abbrev HW (a0 : Array Value) (Z : State) : Prop := ∀ d ∈ tables_1, d.before a0 Z = true
theorem wm {a0 : Array Value} {Z : State} (hw : HW a0 Z) {d : Cond} (i : Nat) (h : tables_1[i]? = some d) : d.before a0 Z = true := hw _ (List.mem_of_getElem? h)
abbrev cD43 := jdk_123_method_2_code
abbrev cD42 := jdk_123_method_3_code
abbrev cD0 := jdk_22_method_1_code
abbrev cD6 := jdk_29_method_65_code
abbrev cD7 := jdk_29_method_69_code
abbrev cD9 := jdk_31_method_17_code
abbrev cD16 := jdk_38_method_18_code
abbrev cD17 := jdk_38_method_20_code
abbrev cD12 := jdk_38_method_24_code
abbrev cD13 := jdk_38_method_25_code
abbrev cD2 := jdk_38_method_2_code
abbrev cD10 := jdk_38_method_6_code
abbrev cD11 := jdk_38_method_7_code
abbrev cD15 := jdk_38_method_8_code
abbrev cD14 := jdk_38_method_9_code
abbrev cD1 := jdk_39_method_1_code
abbrev cD8 := jdk_41_method_11_code
abbrev cD23 := jdk_42_method_147_code
abbrev cD38 := jdk_42_method_150_code
abbrev cD21 := jdk_42_method_152_code
abbrev cD48 := jdk_42_method_18_code
abbrev cD47 := jdk_42_method_46_code
abbrev cD39 := jdk_42_method_53_code
abbrev cD22 := jdk_42_method_54_code
abbrev cD49 := jdk_42_method_64_code
abbrev cD45 := jdk_52_method_2_code
abbrev cD44 := jdk_52_method_3_code
abbrev cD46 := jdk_65_method_121_code
abbrev cD35 := jdk_65_method_131_code
abbrev cD37 := jdk_65_method_132_code
abbrev cD36 := jdk_65_method_133_code
abbrev cD30 := jdk_67_method_1_code
abbrev cD40 := jdk_67_method_42_code
abbrev cD28 := jdk_67_method_7_code
abbrev cD33 := jdk_67_method_93_code
abbrev cD27 := jdk_68_method_22_code
abbrev cD29 := jdk_68_method_2_code
abbrev cD31 := jdk_68_method_64_code
abbrev cD34 := jdk_68_method_68_code
abbrev cD32 := jdk_68_method_6_code
abbrev cD24 := jdk_68_method_71_code
abbrev cD26 := jdk_68_method_73_code
abbrev cD25 := jdk_68_method_9_code
abbrev cD19 := prog_1_method_10_code
abbrev cD18 := prog_1_method_11_code
abbrev cD3 := prog_1_method_1_code
abbrev cD20 := prog_1_method_2_code
abbrev cD50 := prog_1_method_3_code
abbrev cD4 := prog_22_method_1_code
abbrev cD5 := prog_22_method_4_code
abbrev cD52 := prog_22_method_5_code
abbrev cD51 := prog_22_method_6_code
abbrev cD41 := prog_22_method_8_code
def EL : List (String × Nat) := [("com/example/realmwright/realmwright/KeycloakRoles", 52)]
section Words
variable {a0 : Array Value} {Z : State}
theorem w_0 (hw : HW a0 Z) : (Cond.arrayClass FieldType.char).before a0 Z = true := wm hw 0 rfl
theorem w_1 (hw : HW a0 Z) : (Cond.classLink "com/example/realmwright/realmwright/KeycloakRolesBeginGroupPinLaw" 7 "java/lang/String").before a0 Z = true := wm hw 1 rfl
theorem w_2 (hw : HW a0 Z) : (Cond.instantiable "java/lang/String" 4).before a0 Z = true := wm hw 2 rfl
theorem w_3 (hw : HW a0 Z) : (Cond.initialized "java/lang/String").before a0 Z = true := wm hw 3 rfl
theorem w_4 (hw : HW a0 Z) : (Cond.methodLink "com/example/realmwright/realmwright/KeycloakRolesBeginGroupPinLaw" 9 yM0).before a0 Z = true := wm hw 4 rfl
theorem w_5 (hw : HW a0 Z) : (Cond.instanceMethod yM0).before a0 Z = true := wm hw 5 rfl
theorem w_6 (hw : HW a0 Z) : (Cond.code yM0 jdk_42_method_3_code 2 (none : Option Jvm.ClassFile.FieldType)).before a0 Z = true := wm hw 6 rfl
theorem w_11 (hw : HW a0 Z) : (Cond.methodLink "java/lang/String" 1 yM1).before a0 Z = true := wm hw 11 rfl
theorem w_12 (hw : HW a0 Z) : (Cond.instanceMethod yM1).before a0 Z = true := wm hw 12 rfl
theorem w_13 (hw : HW a0 Z) : (Cond.code yM1 object_method_1_code 1 (none : Option Jvm.ClassFile.FieldType)).before a0 Z = true := wm hw 13 rfl
theorem w_14 (hw : HW a0 Z) : (Cond.fieldLink "java/lang/String" 38 "java/lang/String" "COMPACT_STRINGS" "Z").before a0 Z = true := wm hw 14 rfl
theorem w_17 (hw : HW a0 Z) : (Cond.initialized "java/lang/StringUTF16").before a0 Z = true := wm hw 17 rfl
theorem w_19 (hw : HW a0 Z) : (Cond.arrayClass FieldType.byte).before a0 Z = true := wm hw 19 rfl
theorem w_26 (hw : HW a0 Z) : (Cond.fieldLink "java/lang/String" 15 "java/lang/String" "coder" "B").before a0 Z = true := wm hw 26 rfl
theorem w_27 (hw : HW a0 Z) : (Cond.laysFinal "java/lang/String" "java/lang/String" "coder" "B").before a0 Z = true := wm hw 27 rfl
theorem w_28 (hw : HW a0 Z) : (Cond.fieldLink "java/lang/String" 9 "java/lang/String" "value" "[B").before a0 Z = true := wm hw 28 rfl
theorem w_29 (hw : HW a0 Z) : (Cond.laysFinal "java/lang/String" "java/lang/String" "value" "[B").before a0 Z = true := wm hw 29 rfl
theorem w_30 (hw : HW a0 Z) : (Cond.classLink "com/example/realmwright/realmwright/KeycloakRolesBeginGroupPinLaw" 12 "com/example/realmwright/realmwright/KeycloakRoles").before a0 Z = true := wm hw 30 rfl
theorem w_31 (hw : HW a0 Z) : (Cond.instantiable "com/example/realmwright/realmwright/KeycloakRoles" 5).before a0 Z = true := wm hw 31 rfl
theorem w_32 (hw : HW a0 Z) : (Cond.initialized "com/example/realmwright/realmwright/KeycloakRoles").before a0 Z = true := wm hw 32 rfl
theorem w_33 (hw : HW a0 Z) : (Cond.methodLink "com/example/realmwright/realmwright/KeycloakRolesBeginGroupPinLaw" 14 yM2).before a0 Z = true := wm hw 33 rfl
theorem w_34 (hw : HW a0 Z) : (Cond.instanceMethod yM2).before a0 Z = true := wm hw 34 rfl
theorem w_35 (hw : HW a0 Z) : (Cond.code yM2 prog_22_method_1_code 1 (none : Option Jvm.ClassFile.FieldType)).before a0 Z = true := wm hw 35 rfl
theorem w_36 (hw : HW a0 Z) : (Cond.methodLink "com/example/realmwright/realmwright/KeycloakRoles" 1 yM1).before a0 Z = true := wm hw 36 rfl
theorem w_37 (hw : HW a0 Z) : (Cond.classLink "com/example/realmwright/realmwright/KeycloakRoles" 7 "com/example/realmwright/realmwright/ByteLog").before a0 Z = true := wm hw 37 rfl
theorem w_38 (hw : HW a0 Z) : (Cond.instantiable "com/example/realmwright/realmwright/ByteLog" 2).before a0 Z = true := wm hw 38 rfl
theorem w_39 (hw : HW a0 Z) : (Cond.initialized "com/example/realmwright/realmwright/ByteLog").before a0 Z = true := wm hw 39 rfl
theorem w_40 (hw : HW a0 Z) : (Cond.methodLink "com/example/realmwright/realmwright/KeycloakRoles" 9 yM3).before a0 Z = true := wm hw 40 rfl
theorem w_41 (hw : HW a0 Z) : (Cond.instanceMethod yM3).before a0 Z = true := wm hw 41 rfl
theorem w_42 (hw : HW a0 Z) : (Cond.code yM3 prog_1_method_1_code 1 (none : Option Jvm.ClassFile.FieldType)).before a0 Z = true := wm hw 42 rfl
theorem w_43 (hw : HW a0 Z) : (Cond.methodLink "com/example/realmwright/realmwright/ByteLog" 1 yM1).before a0 Z = true := wm hw 43 rfl
theorem w_44 (hw : HW a0 Z) : (Cond.classLink "com/example/realmwright/realmwright/ByteLog" 7 "java/util/ArrayList").before a0 Z = true := wm hw 44 rfl
theorem w_45 (hw : HW a0 Z) : (Cond.instantiable "java/util/ArrayList" 3).before a0 Z = true := wm hw 45 rfl
theorem w_46 (hw : HW a0 Z) : (Cond.initialized "java/util/ArrayList").before a0 Z = true := wm hw 46 rfl
theorem w_47 (hw : HW a0 Z) : (Cond.methodLink "com/example/realmwright/realmwright/ByteLog" 9 yM4).before a0 Z = true := wm hw 47 rfl
theorem w_48 (hw : HW a0 Z) : (Cond.instanceMethod yM4).before a0 Z = true := wm hw 48 rfl
theorem w_49 (hw : HW a0 Z) : (Cond.code yM4 jdk_38_method_2_code 1 (none : Option Jvm.ClassFile.FieldType)).before a0 Z = true := wm hw 49 rfl
theorem w_50 (hw : HW a0 Z) : (Cond.methodLink "java/util/ArrayList" 1 yM5).before a0 Z = true := wm hw 50 rfl
theorem w_51 (hw : HW a0 Z) : (Cond.instanceMethod yM5).before a0 Z = true := wm hw 51 rfl
theorem w_54 (hw : HW a0 Z) : (Cond.initialized "java/util/AbstractList").before a0 Z = true := wm hw 54 rfl
theorem w_55 (hw : HW a0 Z) : (Cond.code yM5 jdk_39_method_1_code 1 (none : Option Jvm.ClassFile.FieldType)).before a0 Z = true := wm hw 55 rfl
theorem w_56 (hw : HW a0 Z) : (Cond.methodLink "java/util/AbstractList" 1 yM6).before a0 Z = true := wm hw 56 rfl
theorem w_57 (hw : HW a0 Z) : (Cond.instanceMethod yM6).before a0 Z = true := wm hw 57 rfl
theorem w_60 (hw : HW a0 Z) : (Cond.initialized "java/util/AbstractCollection").before a0 Z = true := wm hw 60 rfl
theorem w_61 (hw : HW a0 Z) : (Cond.code yM6 jdk_22_method_1_code 1 (none : Option Jvm.ClassFile.FieldType)).before a0 Z = true := wm hw 61 rfl
theorem w_62 (hw : HW a0 Z) : (Cond.methodLink "java/util/AbstractCollection" 1 yM1).before a0 Z = true := wm hw 62 rfl
theorem w_63 (hw : HW a0 Z) : (Cond.fieldLink "java/util/AbstractList" 7 "java/util/AbstractList" "modCount" "I").before a0 Z = true := wm hw 63 rfl
theorem w_64 (hw : HW a0 Z) : (Cond.lays "java/util/ArrayList" "java/util/AbstractList" "modCount" "I").before a0 Z = true := wm hw 64 rfl
theorem w_65 (hw : HW a0 Z) : (Cond.fieldLink "java/util/ArrayList" 39 "java/util/ArrayList" "DEFAULTCAPACITY_EMPTY_ELEMENTDATA" "[Ljava/lang/Object;").before a0 Z = true := wm hw 65 rfl
theorem w_66 (hw : HW a0 Z) : (Cond.fieldLink "java/util/ArrayList" 9 "java/util/ArrayList" "elementData" "[Ljava/lang/Object;").before a0 Z = true := wm hw 66 rfl
theorem w_67 (hw : HW a0 Z) : (Cond.lays "java/util/ArrayList" "java/util/ArrayList" "elementData" "[Ljava/lang/Object;").before a0 Z = true := wm hw 67 rfl
theorem w_68 (hw : HW a0 Z) : (Cond.fieldLink "com/example/realmwright/realmwright/ByteLog" 10 "com/example/realmwright/realmwright/ByteLog" "blocks" "Ljava/util/List;").before a0 Z = true := wm hw 68 rfl
theorem w_69 (hw : HW a0 Z) : (Cond.laysFinal "com/example/realmwright/realmwright/ByteLog" "com/example/realmwright/realmwright/ByteLog" "blocks" "Ljava/util/List;").before a0 Z = true := wm hw 69 rfl
theorem w_70 (hw : HW a0 Z) : (Cond.fieldLink "com/example/realmwright/realmwright/KeycloakRoles" 10 "com/example/realmwright/realmwright/KeycloakRoles" "composites" "Lcom/example/realmwright/realmwright/ByteLog;").before a0 Z = true := wm hw 70 rfl
theorem w_71 (hw : HW a0 Z) : (Cond.laysFinal "com/example/realmwright/realmwright/KeycloakRoles" "com/example/realmwright/realmwright/KeycloakRoles" "composites" "Lcom/example/realmwright/realmwright/ByteLog;").before a0 Z = true := wm hw 71 rfl
theorem w_72 (hw : HW a0 Z) : (Cond.fieldLink "com/example/realmwright/realmwright/KeycloakRoles" 16 "com/example/realmwright/realmwright/KeycloakRoles" "groups" "Lcom/example/realmwright/realmwright/ByteLog;").before a0 Z = true := wm hw 72 rfl
theorem w_73 (hw : HW a0 Z) : (Cond.laysFinal "com/example/realmwright/realmwright/KeycloakRoles" "com/example/realmwright/realmwright/KeycloakRoles" "groups" "Lcom/example/realmwright/realmwright/ByteLog;").before a0 Z = true := wm hw 73 rfl
theorem w_74 (hw : HW a0 Z) : (Cond.methodLink "com/example/realmwright/realmwright/KeycloakRolesBeginGroupPinLaw" 15 yM7).before a0 Z = true := wm hw 74 rfl
theorem w_75 (hw : HW a0 Z) : (Cond.declares yM7).before a0 Z = true := wm hw 75 rfl
theorem w_76 (hw : HW a0 Z) : (Cond.instanceMethod yM7).before a0 Z = true := wm hw 76 rfl
theorem w_77 (hw : HW a0 Z) : (Cond.selects "com/example/realmwright/realmwright/KeycloakRoles" yM7 yM7).before a0 Z = true := wm hw 77 rfl
theorem w_78 (hw : HW a0 Z) : (Cond.code yM7 prog_22_method_4_code 1 (some FieldType.int)).before a0 Z = true := wm hw 78 rfl
theorem w_79 (hw : HW a0 Z) : (Cond.fieldLink "com/example/realmwright/realmwright/KeycloakRoles" 37 "com/example/realmwright/realmwright/KeycloakRoles" "groupCount" "I").before a0 Z = true := wm hw 79 rfl
theorem w_80 (hw : HW a0 Z) : (Cond.lays "com/example/realmwright/realmwright/KeycloakRoles" "com/example/realmwright/realmwright/KeycloakRoles" "groupCount" "I").before a0 Z = true := wm hw 80 rfl
theorem w_81 (hw : HW a0 Z) : (Cond.methodLink "com/example/realmwright/realmwright/KeycloakRolesBeginGroupPinLaw" 23 yM8).before a0 Z = true := wm hw 81 rfl
theorem w_82 (hw : HW a0 Z) : (Cond.declares yM8).before a0 Z = true := wm hw 82 rfl
theorem w_83 (hw : HW a0 Z) : (Cond.instanceMethod yM8).before a0 Z = true := wm hw 83 rfl
theorem w_84 (hw : HW a0 Z) : (Cond.selects "com/example/realmwright/realmwright/KeycloakRoles" yM8 yM8).before a0 Z = true := wm hw 84 rfl
theorem w_85 (hw : HW a0 Z) : (Cond.code yM8 prog_22_method_5_code 4 (none : Option Jvm.ClassFile.FieldType)).before a0 Z = true := wm hw 85 rfl
theorem w_86 (hw : HW a0 Z) : (Cond.methodLink "com/example/realmwright/realmwright/KeycloakRoles" 40 yM9).before a0 Z = true := wm hw 86 rfl
theorem w_87 (hw : HW a0 Z) : (Cond.declares yM9).before a0 Z = true := wm hw 87 rfl
theorem w_88 (hw : HW a0 Z) : (Cond.instanceMethod yM9).before a0 Z = true := wm hw 88 rfl
theorem w_89 (hw : HW a0 Z) : (Cond.selects "com/example/realmwright/realmwright/ByteLog" yM9 yM9).before a0 Z = true := wm hw 89 rfl
theorem w_90 (hw : HW a0 Z) : (Cond.code yM9 prog_1_method_2_code 5 (none : Option Jvm.ClassFile.FieldType)).before a0 Z = true := wm hw 90 rfl
theorem w_91 (hw : HW a0 Z) : (Cond.constantLong "com/example/realmwright/realmwright/ByteLog" 37 (128 : Int64)).before a0 Z = true := wm hw 91 rfl
theorem w_92 (hw : HW a0 Z) : (Cond.methodLink "com/example/realmwright/realmwright/ByteLog" 41 yM10).before a0 Z = true := wm hw 92 rfl
theorem w_93 (hw : HW a0 Z) : (Cond.instanceMethod yM10).before a0 Z = true := wm hw 93 rfl
theorem w_94 (hw : HW a0 Z) : (Cond.privateMethod yM10).before a0 Z = true := wm hw 94 rfl
theorem w_95 (hw : HW a0 Z) : (Cond.code yM10 prog_1_method_10_code 2 (none : Option Jvm.ClassFile.FieldType)).before a0 Z = true := wm hw 95 rfl
theorem w_96 (hw : HW a0 Z) : (Cond.methodLink "com/example/realmwright/realmwright/ByteLog" 61 yM11).before a0 Z = true := wm hw 96 rfl
theorem w_97 (hw : HW a0 Z) : (Cond.instanceMethod yM11).before a0 Z = true := wm hw 97 rfl
theorem w_98 (hw : HW a0 Z) : (Cond.privateMethod yM11).before a0 Z = true := wm hw 98 rfl
theorem w_99 (hw : HW a0 Z) : (Cond.code yM11 prog_1_method_11_code 2 (some (FieldType.array FieldType.byte))).before a0 Z = true := wm hw 99 rfl
theorem w_100 (hw : HW a0 Z) : (Cond.methodLink "com/example/realmwright/realmwright/ByteLog" 86 yM12).before a0 Z = true := wm hw 100 rfl
theorem w_101 (hw : HW a0 Z) : (Cond.declares yM12).before a0 Z = true := wm hw 101 rfl
theorem w_102 (hw : HW a0 Z) : (Cond.interfaceMethod "java/util/List" "java/util/List" "isEmpty" "()Z").before a0 Z = true := wm hw 102 rfl
theorem w_103 (hw : HW a0 Z) : (Cond.selects "java/util/ArrayList" yM12 yM13).before a0 Z = true := wm hw 103 rfl
theorem w_104 (hw : HW a0 Z) : (Cond.instanceMethod yM13).before a0 Z = true := wm hw 104 rfl
theorem w_105 (hw : HW a0 Z) : (Cond.publicMethod yM13).before a0 Z = true := wm hw 105 rfl
theorem w_106 (hw : HW a0 Z) : (Cond.unhidden "java/util/ArrayList" "isEmpty" "()Z").before a0 Z = true := wm hw 106 rfl
theorem w_107 (hw : HW a0 Z) : (Cond.castable "java/util/ArrayList" "java/util/List").before a0 Z = true := wm hw 107 rfl
theorem w_108 (hw : HW a0 Z) : (Cond.code yM13 jdk_38_method_9_code 1 (some FieldType.boolean)).before a0 Z = true := wm hw 108 rfl
theorem w_109 (hw : HW a0 Z) : (Cond.fieldLink "java/util/ArrayList" 48 "java/util/ArrayList" "size" "I").before a0 Z = true := wm hw 109 rfl
theorem w_110 (hw : HW a0 Z) : (Cond.lays "java/util/ArrayList" "java/util/ArrayList" "size" "I").before a0 Z = true := wm hw 110 rfl
theorem w_111 (hw : HW a0 Z) : (Cond.methodLink "com/example/realmwright/realmwright/ByteLog" 124 yM14).before a0 Z = true := wm hw 111 rfl
theorem w_112 (hw : HW a0 Z) : (Cond.declares yM14).before a0 Z = true := wm hw 112 rfl
theorem w_113 (hw : HW a0 Z) : (Cond.interfaceMethod "java/util/List" "java/util/List" "add" "(Ljava/lang/Object;)Z").before a0 Z = true := wm hw 113 rfl
theorem w_114 (hw : HW a0 Z) : (Cond.selects "java/util/ArrayList" yM14 yM15).before a0 Z = true := wm hw 114 rfl
theorem w_115 (hw : HW a0 Z) : (Cond.instanceMethod yM15).before a0 Z = true := wm hw 115 rfl
theorem w_116 (hw : HW a0 Z) : (Cond.publicMethod yM15).before a0 Z = true := wm hw 116 rfl
theorem w_117 (hw : HW a0 Z) : (Cond.unhidden "java/util/ArrayList" "add" "(Ljava/lang/Object;)Z").before a0 Z = true := wm hw 117 rfl
theorem w_118 (hw : HW a0 Z) : (Cond.code yM15 jdk_38_method_25_code 2 (some FieldType.boolean)).before a0 Z = true := wm hw 118 rfl
theorem w_119 (hw : HW a0 Z) : (Cond.fieldLink "java/util/ArrayList" 63 "java/util/ArrayList" "modCount" "I").before a0 Z = true := wm hw 119 rfl
theorem w_120 (hw : HW a0 Z) : (Cond.sameField "java/util/ArrayList" "java/util/AbstractList" "modCount" "I").before a0 Z = true := wm hw 120 rfl
theorem w_121 (hw : HW a0 Z) : (Cond.methodLink "java/util/ArrayList" 131 yM16).before a0 Z = true := wm hw 121 rfl
theorem w_122 (hw : HW a0 Z) : (Cond.instanceMethod yM16).before a0 Z = true := wm hw 122 rfl
theorem w_123 (hw : HW a0 Z) : (Cond.privateMethod yM16).before a0 Z = true := wm hw 123 rfl
theorem w_124 (hw : HW a0 Z) : (Cond.selects "java/util/ArrayList" yM16 yM16).before a0 Z = true := wm hw 124 rfl
theorem w_125 (hw : HW a0 Z) : (Cond.code yM16 jdk_38_method_24_code 4 (none : Option Jvm.ClassFile.FieldType)).before a0 Z = true := wm hw 125 rfl
theorem w_126 (hw : HW a0 Z) : (Cond.methodLink "java/util/ArrayList" 129 yM17).before a0 Z = true := wm hw 126 rfl
theorem w_127 (hw : HW a0 Z) : (Cond.instanceMethod yM17).before a0 Z = true := wm hw 127 rfl
theorem w_128 (hw : HW a0 Z) : (Cond.privateMethod yM17).before a0 Z = true := wm hw 128 rfl
theorem w_129 (hw : HW a0 Z) : (Cond.selects "java/util/ArrayList" yM17 yM17).before a0 Z = true := wm hw 129 rfl
theorem w_130 (hw : HW a0 Z) : (Cond.code yM17 jdk_38_method_7_code 1 (some (FieldType.array (FieldType.object "java/lang/Object")))).before a0 Z = true := wm hw 130 rfl
theorem w_131 (hw : HW a0 Z) : (Cond.methodLink "java/util/ArrayList" 69 yM18).before a0 Z = true := wm hw 131 rfl
theorem w_132 (hw : HW a0 Z) : (Cond.instanceMethod yM18).before a0 Z = true := wm hw 132 rfl
theorem w_133 (hw : HW a0 Z) : (Cond.privateMethod yM18).before a0 Z = true := wm hw 133 rfl
theorem w_134 (hw : HW a0 Z) : (Cond.selects "java/util/ArrayList" yM18 yM18).before a0 Z = true := wm hw 134 rfl
theorem w_135 (hw : HW a0 Z) : (Cond.code yM18 jdk_38_method_6_code 4 (some (FieldType.array (FieldType.object "java/lang/Object")))).before a0 Z = true := wm hw 135 rfl
theorem w_136 (hw : HW a0 Z) : (Cond.methodLink "java/util/ArrayList" 79 yM19).before a0 Z = true := wm hw 136 rfl
theorem w_137 (hw : HW a0 Z) : (Cond.static yM19).before a0 Z = true := wm hw 137 rfl
theorem w_138 (hw : HW a0 Z) : (Cond.initialized "java/lang/Math").before a0 Z = true := wm hw 138 rfl
theorem w_139 (hw : HW a0 Z) : (Cond.code yM19 jdk_29_method_65_code 2 (some FieldType.int)).before a0 Z = true := wm hw 139 rfl
theorem w_140 (hw : HW a0 Z) : (Cond.classLink "java/util/ArrayList" 7 "java/lang/Object").before a0 Z = true := wm hw 140 rfl
theorem w_141 (hw : HW a0 Z) : (Cond.arrayOver (FieldType.object "java/lang/Object")).before a0 Z = true := wm hw 141 rfl
theorem w_142 (hw : HW a0 Z) : (Cond.castable "[B" "java/lang/Object").before a0 Z = true := wm hw 142 rfl
theorem w_143 (hw : HW a0 Z) : (Cond.methodLink "com/example/realmwright/realmwright/ByteLog" 92 yM20).before a0 Z = true := wm hw 143 rfl
theorem w_144 (hw : HW a0 Z) : (Cond.declares yM20).before a0 Z = true := wm hw 144 rfl
theorem w_145 (hw : HW a0 Z) : (Cond.interfaceMethod "java/util/List" "java/util/List" "size" "()I").before a0 Z = true := wm hw 145 rfl
theorem w_146 (hw : HW a0 Z) : (Cond.selects "java/util/ArrayList" yM20 yM21).before a0 Z = true := wm hw 146 rfl
theorem w_147 (hw : HW a0 Z) : (Cond.instanceMethod yM21).before a0 Z = true := wm hw 147 rfl
theorem w_148 (hw : HW a0 Z) : (Cond.publicMethod yM21).before a0 Z = true := wm hw 148 rfl
theorem w_149 (hw : HW a0 Z) : (Cond.unhidden "java/util/ArrayList" "size" "()I").before a0 Z = true := wm hw 149 rfl
theorem w_150 (hw : HW a0 Z) : (Cond.code yM21 jdk_38_method_8_code 1 (some FieldType.int)).before a0 Z = true := wm hw 150 rfl
theorem w_151 (hw : HW a0 Z) : (Cond.methodLink "com/example/realmwright/realmwright/ByteLog" 128 yM22).before a0 Z = true := wm hw 151 rfl
theorem w_152 (hw : HW a0 Z) : (Cond.declares yM22).before a0 Z = true := wm hw 152 rfl
theorem w_153 (hw : HW a0 Z) : (Cond.interfaceMethod "java/util/List" "java/util/List" "get" "(I)Ljava/lang/Object;").before a0 Z = true := wm hw 153 rfl
theorem w_154 (hw : HW a0 Z) : (Cond.selects "java/util/ArrayList" yM22 yM23).before a0 Z = true := wm hw 154 rfl
theorem w_155 (hw : HW a0 Z) : (Cond.instanceMethod yM23).before a0 Z = true := wm hw 155 rfl
theorem w_156 (hw : HW a0 Z) : (Cond.publicMethod yM23).before a0 Z = true := wm hw 156 rfl
theorem w_157 (hw : HW a0 Z) : (Cond.unhidden "java/util/ArrayList" "get" "(I)Ljava/lang/Object;").before a0 Z = true := wm hw 157 rfl
theorem w_158 (hw : HW a0 Z) : (Cond.code yM23 jdk_38_method_20_code 2 (some (FieldType.object "java/lang/Object"))).before a0 Z = true := wm hw 158 rfl
theorem w_159 (hw : HW a0 Z) : (Cond.methodLink "java/util/ArrayList" 118 yM24).before a0 Z = true := wm hw 159 rfl
theorem w_160 (hw : HW a0 Z) : (Cond.static yM24).before a0 Z = true := wm hw 160 rfl
theorem w_161 (hw : HW a0 Z) : (Cond.initialized "java/util/Objects").before a0 Z = true := wm hw 161 rfl
theorem w_162 (hw : HW a0 Z) : (Cond.code yM24 jdk_31_method_17_code 2 (some FieldType.int)).before a0 Z = true := wm hw 162 rfl
theorem w_163 (hw : HW a0 Z) : (Cond.methodLink "java/util/Objects" 105 yM25).before a0 Z = true := wm hw 163 rfl
theorem w_164 (hw : HW a0 Z) : (Cond.static yM25).before a0 Z = true := wm hw 164 rfl
theorem w_165 (hw : HW a0 Z) : (Cond.initialized "jdk/internal/util/Preconditions").before a0 Z = true := wm hw 165 rfl
theorem w_166 (hw : HW a0 Z) : (Cond.code yM25 jdk_41_method_11_code 3 (some FieldType.int)).before a0 Z = true := wm hw 166 rfl
theorem w_167 (hw : HW a0 Z) : (Cond.methodLink "java/util/ArrayList" 123 yM26).before a0 Z = true := wm hw 167 rfl
theorem w_168 (hw : HW a0 Z) : (Cond.declares yM26).before a0 Z = true := wm hw 168 rfl
theorem w_169 (hw : HW a0 Z) : (Cond.instanceMethod yM26).before a0 Z = true := wm hw 169 rfl
theorem w_170 (hw : HW a0 Z) : (Cond.selects "java/util/ArrayList" yM26 yM26).before a0 Z = true := wm hw 170 rfl
theorem w_171 (hw : HW a0 Z) : (Cond.code yM26 jdk_38_method_18_code 2 (some (FieldType.object "java/lang/Object"))).before a0 Z = true := wm hw 171 rfl
theorem w_172 (hw : HW a0 Z) : (Cond.classLink "com/example/realmwright/realmwright/ByteLog" 132 "[B").before a0 Z = true := wm hw 172 rfl
theorem w_174 (hw : HW a0 Z) : (Cond.fieldLink "com/example/realmwright/realmwright/ByteLog" 65 "com/example/realmwright/realmwright/ByteLog" "used" "I").before a0 Z = true := wm hw 174 rfl
theorem w_175 (hw : HW a0 Z) : (Cond.lays "com/example/realmwright/realmwright/ByteLog" "com/example/realmwright/realmwright/ByteLog" "used" "I").before a0 Z = true := wm hw 175 rfl
theorem w_176 (hw : HW a0 Z) : (Cond.methodLink "com/example/realmwright/realmwright/KeycloakRoles" 19 yM27).before a0 Z = true := wm hw 176 rfl
theorem w_177 (hw : HW a0 Z) : (Cond.static yM27).before a0 Z = true := wm hw 177 rfl
theorem w_178 (hw : HW a0 Z) : (Cond.code yM27 prog_22_method_8_code 2 (some (FieldType.object "java/lang/String"))).before a0 Z = true := wm hw 178 rfl
theorem w_179 (hw : HW a0 Z) : (Cond.classLink "com/example/realmwright/realmwright/KeycloakRoles" 49 "java/lang/StringBuilder").before a0 Z = true := wm hw 179 rfl
theorem w_180 (hw : HW a0 Z) : (Cond.instantiable "java/lang/StringBuilder" 4).before a0 Z = true := wm hw 180 rfl
theorem w_181 (hw : HW a0 Z) : (Cond.initialized "java/lang/StringBuilder").before a0 Z = true := wm hw 181 rfl
theorem w_182 (hw : HW a0 Z) : (Cond.methodLink "com/example/realmwright/realmwright/KeycloakRoles" 51 yM28).before a0 Z = true := wm hw 182 rfl
theorem w_183 (hw : HW a0 Z) : (Cond.instanceMethod yM28).before a0 Z = true := wm hw 183 rfl
theorem w_184 (hw : HW a0 Z) : (Cond.code yM28 jdk_67_method_1_code 1 (none : Option Jvm.ClassFile.FieldType)).before a0 Z = true := wm hw 184 rfl
theorem w_185 (hw : HW a0 Z) : (Cond.methodLink "java/lang/StringBuilder" 1 yM29).before a0 Z = true := wm hw 185 rfl
theorem w_186 (hw : HW a0 Z) : (Cond.instanceMethod yM29).before a0 Z = true := wm hw 186 rfl
theorem w_189 (hw : HW a0 Z) : (Cond.initialized "java/lang/AbstractStringBuilder").before a0 Z = true := wm hw 189 rfl
theorem w_190 (hw : HW a0 Z) : (Cond.code yM29 jdk_68_method_2_code 2 (none : Option Jvm.ClassFile.FieldType)).before a0 Z = true := wm hw 190 rfl
theorem w_191 (hw : HW a0 Z) : (Cond.methodLink "java/lang/AbstractStringBuilder" 3 yM1).before a0 Z = true := wm hw 191 rfl
theorem w_192 (hw : HW a0 Z) : (Cond.fieldLink "java/lang/AbstractStringBuilder" 18 "java/lang/String" "COMPACT_STRINGS" "Z").before a0 Z = true := wm hw 192 rfl
theorem w_193 (hw : HW a0 Z) : (Cond.fieldLink "java/lang/AbstractStringBuilder" 15 "java/lang/AbstractStringBuilder" "value" "[B").before a0 Z = true := wm hw 193 rfl
theorem w_194 (hw : HW a0 Z) : (Cond.lays "java/lang/StringBuilder" "java/lang/AbstractStringBuilder" "value" "[B").before a0 Z = true := wm hw 194 rfl
theorem w_195 (hw : HW a0 Z) : (Cond.fieldLink "java/lang/AbstractStringBuilder" 22 "java/lang/AbstractStringBuilder" "coder" "B").before a0 Z = true := wm hw 195 rfl
theorem w_196 (hw : HW a0 Z) : (Cond.lays "java/lang/StringBuilder" "java/lang/AbstractStringBuilder" "coder" "B").before a0 Z = true := wm hw 196 rfl
theorem w_197 (hw : HW a0 Z) : (Cond.stringLink "com/example/realmwright/realmwright/KeycloakRoles" 52 "realm ").before a0 Z = true := wm hw 197 rfl
theorem w_200 (hw : HW a0 Z) : (Cond.methodLink "com/example/realmwright/realmwright/KeycloakRoles" 54 yM30).before a0 Z = true := wm hw 200 rfl
theorem w_201 (hw : HW a0 Z) : (Cond.declares yM30).before a0 Z = true := wm hw 201 rfl
theorem w_202 (hw : HW a0 Z) : (Cond.instanceMethod yM30).before a0 Z = true := wm hw 202 rfl
theorem w_203 (hw : HW a0 Z) : (Cond.selects "java/lang/StringBuilder" yM30 yM30).before a0 Z = true := wm hw 203 rfl
theorem w_204 (hw : HW a0 Z) : (Cond.code yM30 jdk_67_method_7_code 2 (some (FieldType.object "java/lang/StringBuilder"))).before a0 Z = true := wm hw 204 rfl
theorem w_205 (hw : HW a0 Z) : (Cond.methodLink "java/lang/StringBuilder" 29 yM31).before a0 Z = true := wm hw 205 rfl
theorem w_206 (hw : HW a0 Z) : (Cond.instanceMethod yM31).before a0 Z = true := wm hw 206 rfl
theorem w_207 (hw : HW a0 Z) : (Cond.superclass "java/lang/StringBuilder" "java/lang/AbstractStringBuilder").before a0 Z = true := wm hw 207 rfl
theorem w_209 (hw : HW a0 Z) : (Cond.code yM31 jdk_68_method_22_code 3 (some (FieldType.object "java/lang/AbstractStringBuilder"))).before a0 Z = true := wm hw 209 rfl
theorem w_210 (hw : HW a0 Z) : (Cond.methodLink "java/lang/AbstractStringBuilder" 32 yM32).before a0 Z = true := wm hw 210 rfl
theorem w_211 (hw : HW a0 Z) : (Cond.declares yM32).before a0 Z = true := wm hw 211 rfl
theorem w_212 (hw : HW a0 Z) : (Cond.instanceMethod yM32).before a0 Z = true := wm hw 212 rfl
theorem w_213 (hw : HW a0 Z) : (Cond.selects "java/lang/String" yM32 yM32).before a0 Z = true := wm hw 213 rfl
theorem w_214 (hw : HW a0 Z) : (Cond.code yM32 jdk_42_method_54_code 1 (some FieldType.int)).before a0 Z = true := wm hw 214 rfl
theorem w_215 (hw : HW a0 Z) : (Cond.methodLink "java/lang/String" 335 yM33).before a0 Z = true := wm hw 215 rfl
theorem w_216 (hw : HW a0 Z) : (Cond.declares yM33).before a0 Z = true := wm hw 216 rfl
theorem w_217 (hw : HW a0 Z) : (Cond.instanceMethod yM33).before a0 Z = true := wm hw 217 rfl
theorem w_218 (hw : HW a0 Z) : (Cond.selects "java/lang/String" yM33 yM33).before a0 Z = true := wm hw 218 rfl
theorem w_219 (hw : HW a0 Z) : (Cond.code yM33 jdk_42_method_152_code 1 (some FieldType.byte)).before a0 Z = true := wm hw 219 rfl
theorem w_220 (hw : HW a0 Z) : (Cond.fieldLink "java/lang/AbstractStringBuilder" 79 "java/lang/AbstractStringBuilder" "count" "I").before a0 Z = true := wm hw 220 rfl
theorem w_221 (hw : HW a0 Z) : (Cond.lays "java/lang/StringBuilder" "java/lang/AbstractStringBuilder" "count" "I").before a0 Z = true := wm hw 221 rfl
theorem w_222 (hw : HW a0 Z) : (Cond.methodLink "java/lang/AbstractStringBuilder" 100 yM34).before a0 Z = true := wm hw 222 rfl
theorem w_223 (hw : HW a0 Z) : (Cond.instanceMethod yM34).before a0 Z = true := wm hw 223 rfl
theorem w_224 (hw : HW a0 Z) : (Cond.privateMethod yM34).before a0 Z = true := wm hw 224 rfl
theorem w_225 (hw : HW a0 Z) : (Cond.selects "java/lang/StringBuilder" yM34 yM34).before a0 Z = true := wm hw 225 rfl
theorem w_226 (hw : HW a0 Z) : (Cond.code yM34 jdk_68_method_9_code 3 (none : Option Jvm.ClassFile.FieldType)).before a0 Z = true := wm hw 226 rfl
theorem w_227 (hw : HW a0 Z) : (Cond.methodLink "java/lang/AbstractStringBuilder" 208 yM35).before a0 Z = true := wm hw 227 rfl
theorem w_228 (hw : HW a0 Z) : (Cond.instanceMethod yM35).before a0 Z = true := wm hw 228 rfl
theorem w_229 (hw : HW a0 Z) : (Cond.privateMethod yM35).before a0 Z = true := wm hw 229 rfl
theorem w_230 (hw : HW a0 Z) : (Cond.selects "java/lang/StringBuilder" yM35 yM35).before a0 Z = true := wm hw 230 rfl
theorem w_231 (hw : HW a0 Z) : (Cond.code yM35 jdk_68_method_73_code 3 (none : Option Jvm.ClassFile.FieldType)).before a0 Z = true := wm hw 231 rfl
theorem w_232 (hw : HW a0 Z) : (Cond.methodLink "java/lang/AbstractStringBuilder" 397 yM36).before a0 Z = true := wm hw 232 rfl
theorem w_233 (hw : HW a0 Z) : (Cond.instanceMethod yM36).before a0 Z = true := wm hw 233 rfl
theorem w_234 (hw : HW a0 Z) : (Cond.privateMethod yM36).before a0 Z = true := wm hw 234 rfl
theorem w_235 (hw : HW a0 Z) : (Cond.selects "java/lang/StringBuilder" yM36 yM36).before a0 Z = true := wm hw 235 rfl
theorem w_236 (hw : HW a0 Z) : (Cond.code yM36 jdk_68_method_71_code 2 (none : Option Jvm.ClassFile.FieldType)).before a0 Z = true := wm hw 236 rfl
theorem w_237 (hw : HW a0 Z) : (Cond.methodLink "java/lang/AbstractStringBuilder" 40 yM33).before a0 Z = true := wm hw 237 rfl
theorem w_238 (hw : HW a0 Z) : (Cond.methodLink "java/lang/AbstractStringBuilder" 399 yM37).before a0 Z = true := wm hw 238 rfl
theorem w_239 (hw : HW a0 Z) : (Cond.declares yM37).before a0 Z = true := wm hw 239 rfl
theorem w_240 (hw : HW a0 Z) : (Cond.instanceMethod yM37).before a0 Z = true := wm hw 240 rfl
theorem w_241 (hw : HW a0 Z) : (Cond.selects "java/lang/String" yM37 yM37).before a0 Z = true := wm hw 241 rfl
theorem w_242 (hw : HW a0 Z) : (Cond.code yM37 jdk_42_method_147_code 4 (none : Option Jvm.ClassFile.FieldType)).before a0 Z = true := wm hw 242 rfl
theorem w_243 (hw : HW a0 Z) : (Cond.methodLink "java/lang/String" 212 yM38).before a0 Z = true := wm hw 243 rfl
theorem w_244 (hw : HW a0 Z) : (Cond.static yM38).before a0 Z = true := wm hw 244 rfl
theorem w_245 (hw : HW a0 Z) : (Cond.initialized "java/lang/System").before a0 Z = true := wm hw 245 rfl
theorem w_246 (hw : HW a0 Z) : (Cond.native yM38).before a0 Z = true := wm hw 246 rfl
theorem w_247 (hw : HW a0 Z) : (Cond.methodLink "com/example/realmwright/realmwright/KeycloakRoles" 58 yM39).before a0 Z = true := wm hw 247 rfl
theorem w_248 (hw : HW a0 Z) : (Cond.declares yM39).before a0 Z = true := wm hw 248 rfl
theorem w_249 (hw : HW a0 Z) : (Cond.instanceMethod yM39).before a0 Z = true := wm hw 249 rfl
theorem w_250 (hw : HW a0 Z) : (Cond.selects "java/lang/StringBuilder" yM39 yM39).before a0 Z = true := wm hw 250 rfl
theorem w_251 (hw : HW a0 Z) : (Cond.code yM39 jdk_67_method_42_code 1 (some (FieldType.object "java/lang/String"))).before a0 Z = true := wm hw 251 rfl
theorem w_252 (hw : HW a0 Z) : (Cond.classLink "java/lang/StringBuilder" 18 "java/lang/String").before a0 Z = true := wm hw 252 rfl
theorem w_253 (hw : HW a0 Z) : (Cond.methodLink "java/lang/StringBuilder" 137 yM40).before a0 Z = true := wm hw 253 rfl
theorem w_254 (hw : HW a0 Z) : (Cond.instanceMethod yM40).before a0 Z = true := wm hw 254 rfl
theorem w_255 (hw : HW a0 Z) : (Cond.code yM40 jdk_42_method_53_code 2 (none : Option Jvm.ClassFile.FieldType)).before a0 Z = true := wm hw 255 rfl
theorem w_256 (hw : HW a0 Z) : (Cond.methodLink "java/lang/String" 489 yM41).before a0 Z = true := wm hw 256 rfl
theorem w_257 (hw : HW a0 Z) : (Cond.instanceMethod yM41).before a0 Z = true := wm hw 257 rfl
theorem w_258 (hw : HW a0 Z) : (Cond.code yM41 jdk_42_method_150_code 5 (none : Option Jvm.ClassFile.FieldType)).before a0 Z = true := wm hw 258 rfl
theorem w_259 (hw : HW a0 Z) : (Cond.methodLink "java/lang/String" 552 yM42).before a0 Z = true := wm hw 259 rfl
theorem w_260 (hw : HW a0 Z) : (Cond.declares yM42).before a0 Z = true := wm hw 260 rfl
theorem w_261 (hw : HW a0 Z) : (Cond.instanceMethod yM42).before a0 Z = true := wm hw 261 rfl
theorem w_262 (hw : HW a0 Z) : (Cond.selects "java/lang/StringBuilder" yM42 yM42).before a0 Z = true := wm hw 262 rfl
theorem w_263 (hw : HW a0 Z) : (Cond.code yM42 jdk_68_method_64_code 1 (some (FieldType.array FieldType.byte))).before a0 Z = true := wm hw 263 rfl
theorem w_264 (hw : HW a0 Z) : (Cond.methodLink "java/lang/String" 549 yM43).before a0 Z = true := wm hw 264 rfl
theorem w_265 (hw : HW a0 Z) : (Cond.declares yM43).before a0 Z = true := wm hw 265 rfl
theorem w_266 (hw : HW a0 Z) : (Cond.instanceMethod yM43).before a0 Z = true := wm hw 266 rfl
theorem w_267 (hw : HW a0 Z) : (Cond.selects "java/lang/StringBuilder" yM43 yM44).before a0 Z = true := wm hw 267 rfl
theorem w_268 (hw : HW a0 Z) : (Cond.instanceMethod yM44).before a0 Z = true := wm hw 268 rfl
theorem w_269 (hw : HW a0 Z) : (Cond.code yM44 jdk_67_method_93_code 1 (some FieldType.int)).before a0 Z = true := wm hw 269 rfl
theorem w_270 (hw : HW a0 Z) : (Cond.methodLink "java/lang/StringBuilder" 343 yM43).before a0 Z = true := wm hw 270 rfl
theorem w_271 (hw : HW a0 Z) : (Cond.code yM43 jdk_68_method_6_code 1 (some FieldType.int)).before a0 Z = true := wm hw 271 rfl
theorem w_272 (hw : HW a0 Z) : (Cond.methodLink "java/lang/String" 1047 yM45).before a0 Z = true := wm hw 272 rfl
theorem w_273 (hw : HW a0 Z) : (Cond.declares yM45).before a0 Z = true := wm hw 273 rfl
theorem w_274 (hw : HW a0 Z) : (Cond.instanceMethod yM45).before a0 Z = true := wm hw 274 rfl
theorem w_275 (hw : HW a0 Z) : (Cond.selects "java/lang/StringBuilder" yM45 yM45).before a0 Z = true := wm hw 275 rfl
theorem w_276 (hw : HW a0 Z) : (Cond.code yM45 jdk_68_method_68_code 1 (some FieldType.boolean)).before a0 Z = true := wm hw 276 rfl
theorem w_277 (hw : HW a0 Z) : (Cond.methodLink "java/lang/String" 54 yM46).before a0 Z = true := wm hw 277 rfl
theorem w_278 (hw : HW a0 Z) : (Cond.static yM46).before a0 Z = true := wm hw 278 rfl
theorem w_279 (hw : HW a0 Z) : (Cond.initialized "java/util/Arrays").before a0 Z = true := wm hw 279 rfl
theorem w_280 (hw : HW a0 Z) : (Cond.code yM46 jdk_65_method_132_code 3 (some (FieldType.array FieldType.byte))).before a0 Z = true := wm hw 280 rfl
theorem w_281 (hw : HW a0 Z) : (Cond.methodLink "java/util/Arrays" 339 yM47).before a0 Z = true := wm hw 281 rfl
theorem w_282 (hw : HW a0 Z) : (Cond.static yM47).before a0 Z = true := wm hw 282 rfl
theorem w_283 (hw : HW a0 Z) : (Cond.code yM47 jdk_65_method_133_code 5 (some (FieldType.array FieldType.byte))).before a0 Z = true := wm hw 283 rfl
theorem w_284 (hw : HW a0 Z) : (Cond.methodLink "java/util/Arrays" 343 yM48).before a0 Z = true := wm hw 284 rfl
theorem w_285 (hw : HW a0 Z) : (Cond.static yM48).before a0 Z = true := wm hw 285 rfl
theorem w_286 (hw : HW a0 Z) : (Cond.code yM48 jdk_65_method_131_code 2 (none : Option Jvm.ClassFile.FieldType)).before a0 Z = true := wm hw 286 rfl
theorem w_287 (hw : HW a0 Z) : (Cond.methodLink "java/util/Arrays" 304 yM49).before a0 Z = true := wm hw 287 rfl
theorem w_288 (hw : HW a0 Z) : (Cond.static yM49).before a0 Z = true := wm hw 288 rfl
theorem w_289 (hw : HW a0 Z) : (Cond.code yM49 jdk_29_method_69_code 2 (some FieldType.int)).before a0 Z = true := wm hw 289 rfl
theorem w_290 (hw : HW a0 Z) : (Cond.methodLink "java/util/Arrays" 150 yM38).before a0 Z = true := wm hw 290 rfl
theorem w_291 (hw : HW a0 Z) : (Cond.methodLink "com/example/realmwright/realmwright/KeycloakRoles" 23 yM50).before a0 Z = true := wm hw 291 rfl
theorem w_292 (hw : HW a0 Z) : (Cond.declares yM50).before a0 Z = true := wm hw 292 rfl
theorem w_293 (hw : HW a0 Z) : (Cond.instanceMethod yM50).before a0 Z = true := wm hw 293 rfl
theorem w_294 (hw : HW a0 Z) : (Cond.selects "com/example/realmwright/realmwright/ByteLog" yM50 yM50).before a0 Z = true := wm hw 294 rfl
theorem w_295 (hw : HW a0 Z) : (Cond.code yM50 prog_1_method_3_code 6 (none : Option Jvm.ClassFile.FieldType)).before a0 Z = true := wm hw 295 rfl
theorem w_296 (hw : HW a0 Z) : (Cond.fieldLink "com/example/realmwright/realmwright/ByteLog" 49 "java/nio/charset/StandardCharsets" "UTF_8" "Ljava/nio/charset/Charset;").before a0 Z = true := wm hw 296 rfl
theorem w_298 (hw : HW a0 Z) : (Cond.methodLink "com/example/realmwright/realmwright/ByteLog" 55 yM51).before a0 Z = true := wm hw 298 rfl
theorem w_299 (hw : HW a0 Z) : (Cond.declares yM51).before a0 Z = true := wm hw 299 rfl
theorem w_300 (hw : HW a0 Z) : (Cond.instanceMethod yM51).before a0 Z = true := wm hw 300 rfl
theorem w_301 (hw : HW a0 Z) : (Cond.selects "java/lang/String" yM51 yM51).before a0 Z = true := wm hw 301 rfl
theorem w_302 (hw : HW a0 Z) : (Cond.code yM51 jdk_42_method_64_code 2 (some (FieldType.array FieldType.byte))).before a0 Z = true := wm hw 302 rfl
theorem w_303 (hw : HW a0 Z) : (Cond.methodLink "java/lang/String" 535 yM52).before a0 Z = true := wm hw 303 rfl
theorem w_304 (hw : HW a0 Z) : (Cond.static yM52).before a0 Z = true := wm hw 304 rfl
theorem w_305 (hw : HW a0 Z) : (Cond.code yM52 jdk_42_method_18_code 3 (some (FieldType.array FieldType.byte))).before a0 Z = true := wm hw 305 rfl
theorem w_306 (hw : HW a0 Z) : (Cond.fieldLink "java/lang/String" 86 "sun/nio/cs/UTF_8" "INSTANCE" "Lsun/nio/cs/UTF_8;").before a0 Z = true := wm hw 306 rfl
theorem w_308 (hw : HW a0 Z) : (Cond.methodLink "java/lang/String" 252 yM53).before a0 Z = true := wm hw 308 rfl
theorem w_309 (hw : HW a0 Z) : (Cond.static yM53).before a0 Z = true := wm hw 309 rfl
theorem w_310 (hw : HW a0 Z) : (Cond.code yM53 jdk_42_method_46_code 9 (some (FieldType.array FieldType.byte))).before a0 Z = true := wm hw 310 rfl
theorem w_311 (hw : HW a0 Z) : (Cond.methodLink "java/lang/String" 128 yM54).before a0 Z = true := wm hw 311 rfl
theorem w_312 (hw : HW a0 Z) : (Cond.static yM54).before a0 Z = true := wm hw 312 rfl
theorem w_313 (hw : HW a0 Z) : (Cond.initialized "java/lang/StringCoding").before a0 Z = true := wm hw 313 rfl
theorem w_314 (hw : HW a0 Z) : (Cond.code yM54 jdk_123_method_2_code 3 (some FieldType.boolean)).before a0 Z = true := wm hw 314 rfl
theorem w_315 (hw : HW a0 Z) : (Cond.methodLink "java/lang/StringCoding" 7 yM55).before a0 Z = true := wm hw 315 rfl
theorem w_316 (hw : HW a0 Z) : (Cond.static yM55).before a0 Z = true := wm hw 316 rfl
theorem w_317 (hw : HW a0 Z) : (Cond.code yM55 jdk_123_method_3_code 5 (some FieldType.int)).before a0 Z = true := wm hw 317 rfl
theorem w_318 (hw : HW a0 Z) : (Cond.methodLink "java/lang/String" 279 yM56).before a0 Z = true := wm hw 318 rfl
theorem w_319 (hw : HW a0 Z) : (Cond.sameMethod "[B" "java/lang/Object" "clone" "()Ljava/lang/Object;").before a0 Z = true := wm hw 319 rfl
theorem w_321 (hw : HW a0 Z) : (Cond.instanceMethod yM57).before a0 Z = true := wm hw 321 rfl
theorem w_322 (hw : HW a0 Z) : (Cond.selects "[B" yM56 yM57).before a0 Z = true := wm hw 322 rfl
theorem w_323 (hw : HW a0 Z) : (Cond.native yM57).before a0 Z = true := wm hw 323 rfl
theorem w_324 (hw : HW a0 Z) : (Cond.castable "[B" "java/lang/Cloneable").before a0 Z = true := wm hw 324 rfl
theorem w_325 (hw : HW a0 Z) : (Cond.classLink "java/lang/String" 280 "[B").before a0 Z = true := wm hw 325 rfl
theorem w_326 (hw : HW a0 Z) : (Cond.methodLink "com/example/realmwright/realmwright/ByteLog" 45 yM9).before a0 Z = true := wm hw 326 rfl
theorem w_327 (hw : HW a0 Z) : (Cond.methodLink "com/example/realmwright/realmwright/ByteLog" 69 yM49).before a0 Z = true := wm hw 327 rfl
theorem w_328 (hw : HW a0 Z) : (Cond.methodLink "com/example/realmwright/realmwright/ByteLog" 75 yM38).before a0 Z = true := wm hw 328 rfl
theorem w_329 (hw : HW a0 Z) : (Cond.methodLink "com/example/realmwright/realmwright/KeycloakRolesBeginGroupPinLaw" 19 yM58).before a0 Z = true := wm hw 329 rfl
theorem w_330 (hw : HW a0 Z) : (Cond.declares yM58).before a0 Z = true := wm hw 330 rfl
theorem w_331 (hw : HW a0 Z) : (Cond.instanceMethod yM58).before a0 Z = true := wm hw 331 rfl
theorem w_332 (hw : HW a0 Z) : (Cond.selects "com/example/realmwright/realmwright/KeycloakRoles" yM58 yM58).before a0 Z = true := wm hw 332 rfl
theorem w_333 (hw : HW a0 Z) : (Cond.code yM58 prog_22_method_6_code 4 (none : Option Jvm.ClassFile.FieldType)).before a0 Z = true := wm hw 333 rfl
theorem w_334 (hw : HW a0 Z) : (Cond.methodLink "java/lang/String" 60 yM59).before a0 Z = true := wm hw 334 rfl
theorem w_335 (hw : HW a0 Z) : (Cond.static yM59).before a0 Z = true := wm hw 335 rfl
theorem w_336 (hw : HW a0 Z) : (Cond.code yM59 jdk_52_method_2_code 1 (some (FieldType.array FieldType.byte))).before a0 Z = true := wm hw 336 rfl
theorem w_337 (hw : HW a0 Z) : (Cond.methodLink "java/lang/StringUTF16" 11 yM60).before a0 Z = true := wm hw 337 rfl
theorem w_338 (hw : HW a0 Z) : (Cond.static yM60).before a0 Z = true := wm hw 338 rfl
theorem w_339 (hw : HW a0 Z) : (Cond.code yM60 jdk_52_method_3_code 1 (some FieldType.int)).before a0 Z = true := wm hw 339 rfl
theorem w_340 (hw : HW a0 Z) : (Cond.constant "java/lang/StringUTF16" 20 (1073741823 : Int32)).before a0 Z = true := wm hw 340 rfl
theorem w_341 (hw : HW a0 Z) : (Cond.methodLink "java/lang/String" 102 yM61).before a0 Z = true := wm hw 341 rfl
theorem w_342 (hw : HW a0 Z) : (Cond.static yM61).before a0 Z = true := wm hw 342 rfl
theorem w_343 (hw : HW a0 Z) : (Cond.code yM61 jdk_65_method_121_code 3 (some (FieldType.array FieldType.byte))).before a0 Z = true := wm hw 343 rfl
end Words
theorem d43_0 : decode cD43 0 = .ok (.aload_n 0, 1) := by decide +kernel
theorem d43_1 : decode cD43 1 = .ok (.iload_n 1, 1) := by decide +kernel
theorem d43_2 : decode cD43 2 = .ok (.iload_n 2, 1) := by decide +kernel
theorem d43_3 : decode cD43 3 = .ok (.invokestatic 7, 3) := by decide +kernel
theorem d43_6 : decode cD43 6 = .ok (.iload_n 2, 1) := by decide +kernel
theorem d43_7 : decode cD43 7 = .ok (.if_icmp .eq 7, 3) := by decide +kernel
theorem d43_10 : decode cD43 10 = .ok (.iconst 1, 1) := by decide +kernel
theorem d43_11 : decode cD43 11 = .ok (.goto 4, 3) := by decide +kernel
theorem d43_14 : decode cD43 14 = .ok (.iconst 0, 1) := by decide +kernel
theorem d43_15 : decode cD43 15 = .ok (.ireturn, 1) := by decide +kernel
theorem d42_0 : decode cD42 0 = .ok (.iload_n 1, 1) := by decide +kernel
theorem d42_1 : decode cD42 1 = .ok (.iload_n 2, 1) := by decide +kernel
theorem d42_2 : decode cD42 2 = .ok (.iadd, 1) := by decide +kernel
theorem d42_3 : decode cD42 3 = .ok (.istore_n 3, 1) := by decide +kernel
theorem d42_4 : decode cD42 4 = .ok (.iload_n 1, 1) := by decide +kernel
theorem d42_5 : decode cD42 5 = .ok (.istore 4, 2) := by decide +kernel
theorem d42_7 : decode cD42 7 = .ok (.iload 4, 2) := by decide +kernel
theorem d42_9 : decode cD42 9 = .ok (.iload_n 3, 1) := by decide +kernel
theorem d42_10 : decode cD42 10 = .ok (.if_icmp .ge 21, 3) := by decide +kernel
theorem d42_13 : decode cD42 13 = .ok (.aload_n 0, 1) := by decide +kernel
theorem d42_14 : decode cD42 14 = .ok (.iload 4, 2) := by decide +kernel
theorem d42_16 : decode cD42 16 = .ok (.baload, 1) := by decide +kernel
theorem d42_17 : decode cD42 17 = .ok (.ifCond .ge 8, 3) := by decide +kernel
theorem d42_20 : decode cD42 20 = .ok (.iload 4, 2) := by decide +kernel
theorem d42_22 : decode cD42 22 = .ok (.iload_n 1, 1) := by decide +kernel
theorem d42_23 : decode cD42 23 = .ok (.isub, 1) := by decide +kernel
theorem d42_24 : decode cD42 24 = .ok (.ireturn, 1) := by decide +kernel
theorem d42_25 : decode cD42 25 = .ok (.iinc 4 1, 3) := by decide +kernel
theorem d42_28 : decode cD42 28 = .ok (.goto (-21), 3) := by decide +kernel
theorem d42_31 : decode cD42 31 = .ok (.iload_n 2, 1) := by decide +kernel
theorem d42_32 : decode cD42 32 = .ok (.ireturn, 1) := by decide +kernel
theorem d0_0 : decode cD0 0 = .ok (.aload_n 0, 1) := by decide +kernel
theorem d0_1 : decode cD0 1 = .ok (.invokespecial 1, 3) := by decide +kernel
theorem d0_4 : decode cD0 4 = .ok (.return_, 1) := by decide +kernel
theorem d6_0 : decode cD6 0 = .ok (.iload_n 0, 1) := by decide +kernel
theorem d6_1 : decode cD6 1 = .ok (.iload_n 1, 1) := by decide +kernel
theorem d6_2 : decode cD6 2 = .ok (.if_icmp .lt 7, 3) := by decide +kernel
theorem d6_5 : decode cD6 5 = .ok (.iload_n 0, 1) := by decide +kernel
theorem d6_6 : decode cD6 6 = .ok (.goto 4, 3) := by decide +kernel
theorem d6_10 : decode cD6 10 = .ok (.ireturn, 1) := by decide +kernel
theorem d7_0 : decode cD7 0 = .ok (.iload_n 0, 1) := by decide +kernel
theorem d7_1 : decode cD7 1 = .ok (.iload_n 1, 1) := by decide +kernel
theorem d7_2 : decode cD7 2 = .ok (.if_icmp .gt 7, 3) := by decide +kernel
theorem d7_5 : decode cD7 5 = .ok (.iload_n 0, 1) := by decide +kernel
theorem d7_6 : decode cD7 6 = .ok (.goto 4, 3) := by decide +kernel
theorem d7_9 : decode cD7 9 = .ok (.iload_n 1, 1) := by decide +kernel
theorem d7_10 : decode cD7 10 = .ok (.ireturn, 1) := by decide +kernel
theorem d9_0 : decode cD9 0 = .ok (.iload_n 0, 1) := by decide +kernel
theorem d9_1 : decode cD9 1 = .ok (.iload_n 1, 1) := by decide +kernel
theorem d9_2 : decode cD9 2 = .ok (.aconst_null, 1) := by decide +kernel
theorem d9_3 : decode cD9 3 = .ok (.invokestatic 105, 3) := by decide +kernel
theorem d9_6 : decode cD9 6 = .ok (.ireturn, 1) := by decide +kernel
theorem d16_0 : decode cD16 0 = .ok (.aload_n 0, 1) := by decide +kernel
theorem d16_1 : decode cD16 1 = .ok (.getfield 9, 3) := by decide +kernel
theorem d16_4 : decode cD16 4 = .ok (.iload_n 1, 1) := by decide +kernel
theorem d16_5 : decode cD16 5 = .ok (.aaload, 1) := by decide +kernel
theorem d16_6 : decode cD16 6 = .ok (.areturn, 1) := by decide +kernel
theorem d17_0 : decode cD17 0 = .ok (.iload_n 1, 1) := by decide +kernel
theorem d17_1 : decode cD17 1 = .ok (.aload_n 0, 1) := by decide +kernel
theorem d17_2 : decode cD17 2 = .ok (.getfield 48, 3) := by decide +kernel
theorem d17_5 : decode cD17 5 = .ok (.invokestatic 118, 3) := by decide +kernel
theorem d17_8 : decode cD17 8 = .ok (.pop, 1) := by decide +kernel
theorem d17_9 : decode cD17 9 = .ok (.aload_n 0, 1) := by decide +kernel
theorem d17_10 : decode cD17 10 = .ok (.iload_n 1, 1) := by decide +kernel
theorem d17_11 : decode cD17 11 = .ok (.invokevirtual 123, 3) := by decide +kernel
theorem d17_14 : decode cD17 14 = .ok (.areturn, 1) := by decide +kernel
theorem d12_0 : decode cD12 0 = .ok (.iload_n 3, 1) := by decide +kernel
theorem d12_1 : decode cD12 1 = .ok (.aload_n 2, 1) := by decide +kernel
theorem d12_2 : decode cD12 2 = .ok (.arraylength, 1) := by decide +kernel
theorem d12_3 : decode cD12 3 = .ok (.if_icmp .ne 8, 3) := by decide +kernel
theorem d12_6 : decode cD12 6 = .ok (.aload_n 0, 1) := by decide +kernel
theorem d12_7 : decode cD12 7 = .ok (.invokevirtual 129, 3) := by decide +kernel
theorem d12_10 : decode cD12 10 = .ok (.astore_n 2, 1) := by decide +kernel
theorem d12_11 : decode cD12 11 = .ok (.aload_n 2, 1) := by decide +kernel
theorem d12_12 : decode cD12 12 = .ok (.iload_n 3, 1) := by decide +kernel
theorem d12_13 : decode cD12 13 = .ok (.aload_n 1, 1) := by decide +kernel
theorem d12_14 : decode cD12 14 = .ok (.aastore, 1) := by decide +kernel
theorem d12_15 : decode cD12 15 = .ok (.aload_n 0, 1) := by decide +kernel
theorem d12_16 : decode cD12 16 = .ok (.iload_n 3, 1) := by decide +kernel
theorem d12_17 : decode cD12 17 = .ok (.iconst 1, 1) := by decide +kernel
theorem d12_18 : decode cD12 18 = .ok (.iadd, 1) := by decide +kernel
theorem d12_19 : decode cD12 19 = .ok (.putfield 48, 3) := by decide +kernel
theorem d12_22 : decode cD12 22 = .ok (.return_, 1) := by decide +kernel
theorem d13_0 : decode cD13 0 = .ok (.aload_n 0, 1) := by decide +kernel
theorem d13_1 : decode cD13 1 = .ok (.dup, 1) := by decide +kernel
theorem d13_2 : decode cD13 2 = .ok (.getfield 63, 3) := by decide +kernel
theorem d13_5 : decode cD13 5 = .ok (.iconst 1, 1) := by decide +kernel
theorem d13_6 : decode cD13 6 = .ok (.iadd, 1) := by decide +kernel
theorem d13_7 : decode cD13 7 = .ok (.putfield 63, 3) := by decide +kernel
theorem d13_10 : decode cD13 10 = .ok (.aload_n 0, 1) := by decide +kernel
theorem d13_11 : decode cD13 11 = .ok (.aload_n 1, 1) := by decide +kernel
theorem d13_12 : decode cD13 12 = .ok (.aload_n 0, 1) := by decide +kernel
theorem d13_13 : decode cD13 13 = .ok (.getfield 9, 3) := by decide +kernel
theorem d13_16 : decode cD13 16 = .ok (.aload_n 0, 1) := by decide +kernel
theorem d13_17 : decode cD13 17 = .ok (.getfield 48, 3) := by decide +kernel
theorem d13_20 : decode cD13 20 = .ok (.invokevirtual 131, 3) := by decide +kernel
theorem d13_23 : decode cD13 23 = .ok (.iconst 1, 1) := by decide +kernel
theorem d13_24 : decode cD13 24 = .ok (.ireturn, 1) := by decide +kernel
theorem d2_0 : decode cD2 0 = .ok (.aload_n 0, 1) := by decide +kernel
theorem d2_1 : decode cD2 1 = .ok (.invokespecial 1, 3) := by decide +kernel
theorem d2_4 : decode cD2 4 = .ok (.aload_n 0, 1) := by decide +kernel
theorem d2_5 : decode cD2 5 = .ok (.getstatic 39, 3) := by decide +kernel
theorem d2_8 : decode cD2 8 = .ok (.putfield 9, 3) := by decide +kernel
theorem d2_11 : decode cD2 11 = .ok (.return_, 1) := by decide +kernel
theorem d10_0 : decode cD10 0 = .ok (.aload_n 0, 1) := by decide +kernel
theorem d10_1 : decode cD10 1 = .ok (.getfield 9, 3) := by decide +kernel
theorem d10_4 : decode cD10 4 = .ok (.arraylength, 1) := by decide +kernel
theorem d10_5 : decode cD10 5 = .ok (.istore_n 2, 1) := by decide +kernel
theorem d10_6 : decode cD10 6 = .ok (.iload_n 2, 1) := by decide +kernel
theorem d10_7 : decode cD10 7 = .ok (.ifCond .gt 13, 3) := by decide +kernel
theorem d10_10 : decode cD10 10 = .ok (.aload_n 0, 1) := by decide +kernel
theorem d10_11 : decode cD10 11 = .ok (.getfield 9, 3) := by decide +kernel
theorem d10_14 : decode cD10 14 = .ok (.getstatic 39, 3) := by decide +kernel
theorem d10_17 : decode cD10 17 = .ok (.if_acmp .eq 28, 3) := by decide +kernel
theorem d10_45 : decode cD10 45 = .ok (.aload_n 0, 1) := by decide +kernel
theorem d10_46 : decode cD10 46 = .ok (.bipush 10, 2) := by decide +kernel
theorem d10_48 : decode cD10 48 = .ok (.iload_n 1, 1) := by decide +kernel
theorem d10_49 : decode cD10 49 = .ok (.invokestatic 79, 3) := by decide +kernel
theorem d10_52 : decode cD10 52 = .ok (.anewarray 7, 3) := by decide +kernel
theorem d10_55 : decode cD10 55 = .ok (.dup_x1, 1) := by decide +kernel
theorem d10_56 : decode cD10 56 = .ok (.putfield 9, 3) := by decide +kernel
theorem d10_59 : decode cD10 59 = .ok (.areturn, 1) := by decide +kernel
theorem d11_0 : decode cD11 0 = .ok (.aload_n 0, 1) := by decide +kernel
theorem d11_1 : decode cD11 1 = .ok (.aload_n 0, 1) := by decide +kernel
theorem d11_2 : decode cD11 2 = .ok (.getfield 48, 3) := by decide +kernel
theorem d11_5 : decode cD11 5 = .ok (.iconst 1, 1) := by decide +kernel
theorem d11_6 : decode cD11 6 = .ok (.iadd, 1) := by decide +kernel
theorem d11_7 : decode cD11 7 = .ok (.invokevirtual 69, 3) := by decide +kernel
theorem d11_10 : decode cD11 10 = .ok (.areturn, 1) := by decide +kernel
theorem d15_0 : decode cD15 0 = .ok (.aload_n 0, 1) := by decide +kernel
theorem d15_1 : decode cD15 1 = .ok (.getfield 48, 3) := by decide +kernel
theorem d15_4 : decode cD15 4 = .ok (.ireturn, 1) := by decide +kernel
theorem d14_0 : decode cD14 0 = .ok (.aload_n 0, 1) := by decide +kernel
theorem d14_1 : decode cD14 1 = .ok (.getfield 48, 3) := by decide +kernel
theorem d14_4 : decode cD14 4 = .ok (.ifCond .ne 7, 3) := by decide +kernel
theorem d14_7 : decode cD14 7 = .ok (.iconst 1, 1) := by decide +kernel
theorem d14_8 : decode cD14 8 = .ok (.goto 4, 3) := by decide +kernel
theorem d14_11 : decode cD14 11 = .ok (.iconst 0, 1) := by decide +kernel
theorem d14_12 : decode cD14 12 = .ok (.ireturn, 1) := by decide +kernel
theorem d1_0 : decode cD1 0 = .ok (.aload_n 0, 1) := by decide +kernel
theorem d1_1 : decode cD1 1 = .ok (.invokespecial 1, 3) := by decide +kernel
theorem d1_4 : decode cD1 4 = .ok (.aload_n 0, 1) := by decide +kernel
theorem d1_5 : decode cD1 5 = .ok (.iconst 0, 1) := by decide +kernel
theorem d1_6 : decode cD1 6 = .ok (.putfield 7, 3) := by decide +kernel
theorem d1_9 : decode cD1 9 = .ok (.return_, 1) := by decide +kernel
theorem d8_0 : decode cD8 0 = .ok (.iload_n 0, 1) := by decide +kernel
theorem d8_1 : decode cD8 1 = .ok (.ifCond .lt 8, 3) := by decide +kernel
theorem d8_4 : decode cD8 4 = .ok (.iload_n 0, 1) := by decide +kernel
theorem d8_5 : decode cD8 5 = .ok (.iload_n 1, 1) := by decide +kernel
theorem d8_6 : decode cD8 6 = .ok (.if_icmp .lt 10, 3) := by decide +kernel
theorem d8_16 : decode cD8 16 = .ok (.iload_n 0, 1) := by decide +kernel
theorem d8_17 : decode cD8 17 = .ok (.ireturn, 1) := by decide +kernel
theorem d23_0 : decode cD23 0 = .ok (.aload_n 0, 1) := by decide +kernel
theorem d23_1 : decode cD23 1 = .ok (.invokevirtual 335, 3) := by decide +kernel
theorem d23_4 : decode cD23 4 = .ok (.iload_n 3, 1) := by decide +kernel
theorem d23_5 : decode cD23 5 = .ok (.if_icmp .ne 23, 3) := by decide +kernel
theorem d23_8 : decode cD23 8 = .ok (.aload_n 0, 1) := by decide +kernel
theorem d23_9 : decode cD23 9 = .ok (.getfield 9, 3) := by decide +kernel
theorem d23_12 : decode cD23 12 = .ok (.iconst 0, 1) := by decide +kernel
theorem d23_13 : decode cD23 13 = .ok (.aload_n 1, 1) := by decide +kernel
theorem d23_14 : decode cD23 14 = .ok (.iload_n 2, 1) := by decide +kernel
theorem d23_15 : decode cD23 15 = .ok (.iload_n 3, 1) := by decide +kernel
theorem d23_16 : decode cD23 16 = .ok (.ishl, 1) := by decide +kernel
theorem d23_17 : decode cD23 17 = .ok (.aload_n 0, 1) := by decide +kernel
theorem d23_18 : decode cD23 18 = .ok (.getfield 9, 3) := by decide +kernel
theorem d23_21 : decode cD23 21 = .ok (.arraylength, 1) := by decide +kernel
theorem d23_22 : decode cD23 22 = .ok (.invokestatic 212, 3) := by decide +kernel
theorem d23_25 : decode cD23 25 = .ok (.goto 18, 3) := by decide +kernel
theorem d23_43 : decode cD23 43 = .ok (.return_, 1) := by decide +kernel
theorem d38_0 : decode cD38 0 = .ok (.aload_n 0, 1) := by decide +kernel
theorem d38_1 : decode cD38 1 = .ok (.invokespecial 1, 3) := by decide +kernel
theorem d38_4 : decode cD38 4 = .ok (.aload_n 1, 1) := by decide +kernel
theorem d38_5 : decode cD38 5 = .ok (.invokevirtual 552, 3) := by decide +kernel
theorem d38_8 : decode cD38 8 = .ok (.astore_n 3, 1) := by decide +kernel
theorem d38_9 : decode cD38 9 = .ok (.aload_n 1, 1) := by decide +kernel
theorem d38_10 : decode cD38 10 = .ok (.invokevirtual 549, 3) := by decide +kernel
theorem d38_13 : decode cD38 13 = .ok (.istore 4, 2) := by decide +kernel
theorem d38_15 : decode cD38 15 = .ok (.aload_n 1, 1) := by decide +kernel
theorem d38_16 : decode cD38 16 = .ok (.invokevirtual 1047, 3) := by decide +kernel
theorem d38_19 : decode cD38 19 = .ok (.ifCond .eq 22, 3) := by decide +kernel
theorem d38_22 : decode cD38 22 = .ok (.aload_n 0, 1) := by decide +kernel
theorem d38_23 : decode cD38 23 = .ok (.iconst 0, 1) := by decide +kernel
theorem d38_24 : decode cD38 24 = .ok (.putfield 15, 3) := by decide +kernel
theorem d38_27 : decode cD38 27 = .ok (.aload_n 0, 1) := by decide +kernel
theorem d38_28 : decode cD38 28 = .ok (.aload_n 3, 1) := by decide +kernel
theorem d38_29 : decode cD38 29 = .ok (.iconst 0, 1) := by decide +kernel
theorem d38_30 : decode cD38 30 = .ok (.iload 4, 2) := by decide +kernel
theorem d38_32 : decode cD38 32 = .ok (.invokestatic 54, 3) := by decide +kernel
theorem d38_35 : decode cD38 35 = .ok (.putfield 9, 3) := by decide +kernel
theorem d38_38 : decode cD38 38 = .ok (.goto 59, 3) := by decide +kernel
theorem d38_97 : decode cD38 97 = .ok (.return_, 1) := by decide +kernel
theorem d21_0 : decode cD21 0 = .ok (.getstatic 38, 3) := by decide +kernel
theorem d21_3 : decode cD21 3 = .ok (.ifCond .eq 10, 3) := by decide +kernel
theorem d21_6 : decode cD21 6 = .ok (.aload_n 0, 1) := by decide +kernel
theorem d21_7 : decode cD21 7 = .ok (.getfield 15, 3) := by decide +kernel
theorem d21_10 : decode cD21 10 = .ok (.goto 4, 3) := by decide +kernel
theorem d21_14 : decode cD21 14 = .ok (.ireturn, 1) := by decide +kernel
theorem d48_0 : decode cD48 0 = .ok (.aload_n 0, 1) := by decide +kernel
theorem d48_1 : decode cD48 1 = .ok (.getstatic 86, 3) := by decide +kernel
theorem d48_4 : decode cD48 4 = .ok (.if_acmp .ne 10, 3) := by decide +kernel
theorem d48_7 : decode cD48 7 = .ok (.iload_n 1, 1) := by decide +kernel
theorem d48_8 : decode cD48 8 = .ok (.aload_n 2, 1) := by decide +kernel
theorem d48_9 : decode cD48 9 = .ok (.iconst 1, 1) := by decide +kernel
theorem d48_10 : decode cD48 10 = .ok (.invokestatic 252, 3) := by decide +kernel
theorem d48_13 : decode cD48 13 = .ok (.areturn, 1) := by decide +kernel
theorem d47_0 : decode cD47 0 = .ok (.iload_n 0, 1) := by decide +kernel
theorem d47_1 : decode cD47 1 = .ok (.iconst 1, 1) := by decide +kernel
theorem d47_2 : decode cD47 2 = .ok (.if_icmp .ne 9, 3) := by decide +kernel
theorem d47_11 : decode cD47 11 = .ok (.aload_n 1, 1) := by decide +kernel
theorem d47_12 : decode cD47 12 = .ok (.iconst 0, 1) := by decide +kernel
theorem d47_13 : decode cD47 13 = .ok (.aload_n 1, 1) := by decide +kernel
theorem d47_14 : decode cD47 14 = .ok (.arraylength, 1) := by decide +kernel
theorem d47_15 : decode cD47 15 = .ok (.invokestatic 128, 3) := by decide +kernel
theorem d47_18 : decode cD47 18 = .ok (.ifCond .ne 11, 3) := by decide +kernel
theorem d47_21 : decode cD47 21 = .ok (.aload_n 1, 1) := by decide +kernel
theorem d47_22 : decode cD47 22 = .ok (.invokevirtual 279, 3) := by decide +kernel
theorem d47_25 : decode cD47 25 = .ok (.checkcast 280, 3) := by decide +kernel
theorem d47_28 : decode cD47 28 = .ok (.areturn, 1) := by decide +kernel
theorem d47_29 : decode cD47 29 = .ok (.iconst 0, 1) := by decide +kernel
theorem d47_30 : decode cD47 30 = .ok (.istore_n 3, 1) := by decide +kernel
theorem d47_31 : decode cD47 31 = .ok (.aload_n 1, 1) := by decide +kernel
theorem d47_32 : decode cD47 32 = .ok (.arraylength, 1) := by decide +kernel
theorem d47_33 : decode cD47 33 = .ok (.invokestatic 60, 3) := by decide +kernel
theorem d47_36 : decode cD47 36 = .ok (.astore 4, 2) := by decide +kernel
theorem d47_38 : decode cD47 38 = .ok (.aload_n 1, 1) := by decide +kernel
theorem d47_39 : decode cD47 39 = .ok (.astore 5, 2) := by decide +kernel
theorem d47_41 : decode cD47 41 = .ok (.aload 5, 2) := by decide +kernel
theorem d47_43 : decode cD47 43 = .ok (.arraylength, 1) := by decide +kernel
theorem d47_44 : decode cD47 44 = .ok (.istore 6, 2) := by decide +kernel
theorem d47_46 : decode cD47 46 = .ok (.iconst 0, 1) := by decide +kernel
theorem d47_47 : decode cD47 47 = .ok (.istore 7, 2) := by decide +kernel
theorem d47_49 : decode cD47 49 = .ok (.iload 7, 2) := by decide +kernel
theorem d47_51 : decode cD47 51 = .ok (.iload 6, 2) := by decide +kernel
theorem d47_53 : decode cD47 53 = .ok (.if_icmp .ge 71, 3) := by decide +kernel
theorem d47_56 : decode cD47 56 = .ok (.aload 5, 2) := by decide +kernel
theorem d47_58 : decode cD47 58 = .ok (.iload 7, 2) := by decide +kernel
theorem d47_60 : decode cD47 60 = .ok (.baload, 1) := by decide +kernel
theorem d47_61 : decode cD47 61 = .ok (.istore 8, 2) := by decide +kernel
theorem d47_63 : decode cD47 63 = .ok (.iload 8, 2) := by decide +kernel
theorem d47_65 : decode cD47 65 = .ok (.ifCond .ge 44, 3) := by decide +kernel
theorem d47_68 : decode cD47 68 = .ok (.aload 4, 2) := by decide +kernel
theorem d47_70 : decode cD47 70 = .ok (.iload_n 3, 1) := by decide +kernel
theorem d47_71 : decode cD47 71 = .ok (.iinc 3 1, 3) := by decide +kernel
theorem d47_74 : decode cD47 74 = .ok (.sipush 192, 3) := by decide +kernel
theorem d47_77 : decode cD47 77 = .ok (.iload 8, 2) := by decide +kernel
theorem d47_79 : decode cD47 79 = .ok (.sipush 255, 3) := by decide +kernel
theorem d47_82 : decode cD47 82 = .ok (.iand, 1) := by decide +kernel
theorem d47_83 : decode cD47 83 = .ok (.bipush 6, 2) := by decide +kernel
theorem d47_85 : decode cD47 85 = .ok (.ishr, 1) := by decide +kernel
theorem d47_86 : decode cD47 86 = .ok (.ior, 1) := by decide +kernel
theorem d47_87 : decode cD47 87 = .ok (.i2b, 1) := by decide +kernel
theorem d47_88 : decode cD47 88 = .ok (.bastore, 1) := by decide +kernel
theorem d47_89 : decode cD47 89 = .ok (.aload 4, 2) := by decide +kernel
theorem d47_91 : decode cD47 91 = .ok (.iload_n 3, 1) := by decide +kernel
theorem d47_92 : decode cD47 92 = .ok (.iinc 3 1, 3) := by decide +kernel
theorem d47_95 : decode cD47 95 = .ok (.sipush 128, 3) := by decide +kernel
theorem d47_98 : decode cD47 98 = .ok (.iload 8, 2) := by decide +kernel
theorem d47_100 : decode cD47 100 = .ok (.bipush 63, 2) := by decide +kernel
theorem d47_102 : decode cD47 102 = .ok (.iand, 1) := by decide +kernel
theorem d47_103 : decode cD47 103 = .ok (.ior, 1) := by decide +kernel
theorem d47_104 : decode cD47 104 = .ok (.i2b, 1) := by decide +kernel
theorem d47_105 : decode cD47 105 = .ok (.bastore, 1) := by decide +kernel
theorem d47_106 : decode cD47 106 = .ok (.goto 12, 3) := by decide +kernel
theorem d47_109 : decode cD47 109 = .ok (.aload 4, 2) := by decide +kernel
theorem d47_111 : decode cD47 111 = .ok (.iload_n 3, 1) := by decide +kernel
theorem d47_112 : decode cD47 112 = .ok (.iinc 3 1, 3) := by decide +kernel
theorem d47_115 : decode cD47 115 = .ok (.iload 8, 2) := by decide +kernel
theorem d47_117 : decode cD47 117 = .ok (.bastore, 1) := by decide +kernel
theorem d47_118 : decode cD47 118 = .ok (.iinc 7 1, 3) := by decide +kernel
theorem d47_121 : decode cD47 121 = .ok (.goto (-72), 3) := by decide +kernel
theorem d47_124 : decode cD47 124 = .ok (.iload_n 3, 1) := by decide +kernel
theorem d47_125 : decode cD47 125 = .ok (.aload 4, 2) := by decide +kernel
theorem d47_127 : decode cD47 127 = .ok (.arraylength, 1) := by decide +kernel
theorem d47_128 : decode cD47 128 = .ok (.if_icmp .ne 6, 3) := by decide +kernel
theorem d47_134 : decode cD47 134 = .ok (.aload 4, 2) := by decide +kernel
theorem d47_136 : decode cD47 136 = .ok (.iload_n 3, 1) := by decide +kernel
theorem d47_137 : decode cD47 137 = .ok (.invokestatic 102, 3) := by decide +kernel
theorem d47_140 : decode cD47 140 = .ok (.areturn, 1) := by decide +kernel
theorem d39_0 : decode cD39 0 = .ok (.aload_n 0, 1) := by decide +kernel
theorem d39_1 : decode cD39 1 = .ok (.aload_n 1, 1) := by decide +kernel
theorem d39_2 : decode cD39 2 = .ok (.aconst_null, 1) := by decide +kernel
theorem d39_3 : decode cD39 3 = .ok (.invokespecial 489, 3) := by decide +kernel
theorem d39_6 : decode cD39 6 = .ok (.return_, 1) := by decide +kernel
theorem d22_0 : decode cD22 0 = .ok (.aload_n 0, 1) := by decide +kernel
theorem d22_1 : decode cD22 1 = .ok (.getfield 9, 3) := by decide +kernel
theorem d22_4 : decode cD22 4 = .ok (.arraylength, 1) := by decide +kernel
theorem d22_5 : decode cD22 5 = .ok (.aload_n 0, 1) := by decide +kernel
theorem d22_6 : decode cD22 6 = .ok (.invokevirtual 335, 3) := by decide +kernel
theorem d22_9 : decode cD22 9 = .ok (.ishr, 1) := by decide +kernel
theorem d22_10 : decode cD22 10 = .ok (.ireturn, 1) := by decide +kernel
theorem d49_0 : decode cD49 0 = .ok (.aload_n 1, 1) := by decide +kernel
theorem d49_1 : decode cD49 1 = .ok (.ifnonnull 11, 3) := by decide +kernel
theorem d49_12 : decode cD49 12 = .ok (.aload_n 1, 1) := by decide +kernel
theorem d49_13 : decode cD49 13 = .ok (.aload_n 0, 1) := by decide +kernel
theorem d49_14 : decode cD49 14 = .ok (.invokevirtual 335, 3) := by decide +kernel
theorem d49_17 : decode cD49 17 = .ok (.aload_n 0, 1) := by decide +kernel
theorem d49_18 : decode cD49 18 = .ok (.getfield 9, 3) := by decide +kernel
theorem d49_21 : decode cD49 21 = .ok (.invokestatic 535, 3) := by decide +kernel
theorem d49_24 : decode cD49 24 = .ok (.areturn, 1) := by decide +kernel
theorem d45_0 : decode cD45 0 = .ok (.iload_n 0, 1) := by decide +kernel
theorem d45_1 : decode cD45 1 = .ok (.invokestatic 11, 3) := by decide +kernel
theorem d45_4 : decode cD45 4 = .ok (.newarray .byte, 2) := by decide +kernel
theorem d45_6 : decode cD45 6 = .ok (.areturn, 1) := by decide +kernel
theorem d44_0 : decode cD44 0 = .ok (.iload_n 0, 1) := by decide +kernel
theorem d44_1 : decode cD44 1 = .ok (.ifCond .ge 11, 3) := by decide +kernel
theorem d44_12 : decode cD44 12 = .ok (.iload_n 0, 1) := by decide +kernel
theorem d44_13 : decode cD44 13 = .ok (.ldc 20, 2) := by decide +kernel
theorem d44_15 : decode cD44 15 = .ok (.if_icmp .lt 40, 3) := by decide +kernel
theorem d44_55 : decode cD44 55 = .ok (.iload_n 0, 1) := by decide +kernel
theorem d44_56 : decode cD44 56 = .ok (.iconst 1, 1) := by decide +kernel
theorem d44_57 : decode cD44 57 = .ok (.ishl, 1) := by decide +kernel
theorem d44_58 : decode cD44 58 = .ok (.ireturn, 1) := by decide +kernel
theorem d46_0 : decode cD46 0 = .ok (.iload_n 1, 1) := by decide +kernel
theorem d46_1 : decode cD46 1 = .ok (.aload_n 0, 1) := by decide +kernel
theorem d46_2 : decode cD46 2 = .ok (.arraylength, 1) := by decide +kernel
theorem d46_3 : decode cD46 3 = .ok (.if_icmp .ne 11, 3) := by decide +kernel
theorem d46_14 : decode cD46 14 = .ok (.iload_n 1, 1) := by decide +kernel
theorem d46_15 : decode cD46 15 = .ok (.newarray .byte, 2) := by decide +kernel
theorem d46_17 : decode cD46 17 = .ok (.astore_n 2, 1) := by decide +kernel
theorem d46_18 : decode cD46 18 = .ok (.aload_n 0, 1) := by decide +kernel
theorem d46_19 : decode cD46 19 = .ok (.iconst 0, 1) := by decide +kernel
theorem d46_20 : decode cD46 20 = .ok (.aload_n 2, 1) := by decide +kernel
theorem d46_21 : decode cD46 21 = .ok (.iconst 0, 1) := by decide +kernel
theorem d46_22 : decode cD46 22 = .ok (.aload_n 0, 1) := by decide +kernel
theorem d46_23 : decode cD46 23 = .ok (.arraylength, 1) := by decide +kernel
theorem d46_24 : decode cD46 24 = .ok (.iload_n 1, 1) := by decide +kernel
theorem d46_25 : decode cD46 25 = .ok (.invokestatic 304, 3) := by decide +kernel
theorem d46_28 : decode cD46 28 = .ok (.invokestatic 150, 3) := by decide +kernel
theorem d46_31 : decode cD46 31 = .ok (.aload_n 2, 1) := by decide +kernel
theorem d46_32 : decode cD46 32 = .ok (.areturn, 1) := by decide +kernel
theorem d35_0 : decode cD35 0 = .ok (.iload_n 1, 1) := by decide +kernel
theorem d35_1 : decode cD35 1 = .ok (.iload_n 0, 1) := by decide +kernel
theorem d35_2 : decode cD35 2 = .ok (.if_icmp .ge 35, 3) := by decide +kernel
theorem d35_37 : decode cD35 37 = .ok (.return_, 1) := by decide +kernel
theorem d37_0 : decode cD37 0 = .ok (.iload_n 1, 1) := by decide +kernel
theorem d37_1 : decode cD37 1 = .ok (.ifCond .ne 9, 3) := by decide +kernel
theorem d37_4 : decode cD37 4 = .ok (.iload_n 2, 1) := by decide +kernel
theorem d37_5 : decode cD37 5 = .ok (.aload_n 0, 1) := by decide +kernel
theorem d37_6 : decode cD37 6 = .ok (.arraylength, 1) := by decide +kernel
theorem d37_7 : decode cD37 7 = .ok (.if_icmp .eq 10, 3) := by decide +kernel
theorem d37_10 : decode cD37 10 = .ok (.aload_n 0, 1) := by decide +kernel
theorem d37_11 : decode cD37 11 = .ok (.iload_n 1, 1) := by decide +kernel
theorem d37_12 : decode cD37 12 = .ok (.iload_n 2, 1) := by decide +kernel
theorem d37_13 : decode cD37 13 = .ok (.invokestatic 339, 3) := by decide +kernel
theorem d37_16 : decode cD37 16 = .ok (.areturn, 1) := by decide +kernel
theorem d36_0 : decode cD36 0 = .ok (.iload_n 1, 1) := by decide +kernel
theorem d36_1 : decode cD36 1 = .ok (.iload_n 2, 1) := by decide +kernel
theorem d36_2 : decode cD36 2 = .ok (.invokestatic 343, 3) := by decide +kernel
theorem d36_5 : decode cD36 5 = .ok (.iload_n 2, 1) := by decide +kernel
theorem d36_6 : decode cD36 6 = .ok (.iload_n 1, 1) := by decide +kernel
theorem d36_7 : decode cD36 7 = .ok (.isub, 1) := by decide +kernel
theorem d36_8 : decode cD36 8 = .ok (.istore_n 3, 1) := by decide +kernel
theorem d36_9 : decode cD36 9 = .ok (.iload_n 3, 1) := by decide +kernel
theorem d36_10 : decode cD36 10 = .ok (.newarray .byte, 2) := by decide +kernel
theorem d36_12 : decode cD36 12 = .ok (.astore 4, 2) := by decide +kernel
theorem d36_14 : decode cD36 14 = .ok (.aload_n 0, 1) := by decide +kernel
theorem d36_15 : decode cD36 15 = .ok (.iload_n 1, 1) := by decide +kernel
theorem d36_16 : decode cD36 16 = .ok (.aload 4, 2) := by decide +kernel
theorem d36_18 : decode cD36 18 = .ok (.iconst 0, 1) := by decide +kernel
theorem d36_19 : decode cD36 19 = .ok (.aload_n 0, 1) := by decide +kernel
theorem d36_20 : decode cD36 20 = .ok (.arraylength, 1) := by decide +kernel
theorem d36_21 : decode cD36 21 = .ok (.iload_n 1, 1) := by decide +kernel
theorem d36_22 : decode cD36 22 = .ok (.isub, 1) := by decide +kernel
theorem d36_23 : decode cD36 23 = .ok (.iload_n 3, 1) := by decide +kernel
theorem d36_24 : decode cD36 24 = .ok (.invokestatic 304, 3) := by decide +kernel
theorem d36_27 : decode cD36 27 = .ok (.invokestatic 150, 3) := by decide +kernel
theorem d36_30 : decode cD36 30 = .ok (.aload 4, 2) := by decide +kernel
theorem d36_32 : decode cD36 32 = .ok (.areturn, 1) := by decide +kernel
theorem d30_0 : decode cD30 0 = .ok (.aload_n 0, 1) := by decide +kernel
theorem d30_1 : decode cD30 1 = .ok (.bipush 16, 2) := by decide +kernel
theorem d30_3 : decode cD30 3 = .ok (.invokespecial 1, 3) := by decide +kernel
theorem d30_6 : decode cD30 6 = .ok (.return_, 1) := by decide +kernel
theorem d40_0 : decode cD40 0 = .ok (.new 18, 3) := by decide +kernel
theorem d40_3 : decode cD40 3 = .ok (.dup, 1) := by decide +kernel
theorem d40_4 : decode cD40 4 = .ok (.aload_n 0, 1) := by decide +kernel
theorem d40_5 : decode cD40 5 = .ok (.invokespecial 137, 3) := by decide +kernel
theorem d40_8 : decode cD40 8 = .ok (.areturn, 1) := by decide +kernel
theorem d28_0 : decode cD28 0 = .ok (.aload_n 0, 1) := by decide +kernel
theorem d28_1 : decode cD28 1 = .ok (.aload_n 1, 1) := by decide +kernel
theorem d28_2 : decode cD28 2 = .ok (.invokespecial 29, 3) := by decide +kernel
theorem d28_5 : decode cD28 5 = .ok (.pop, 1) := by decide +kernel
theorem d28_6 : decode cD28 6 = .ok (.aload_n 0, 1) := by decide +kernel
theorem d28_7 : decode cD28 7 = .ok (.areturn, 1) := by decide +kernel
theorem d33_0 : decode cD33 0 = .ok (.aload_n 0, 1) := by decide +kernel
theorem d33_1 : decode cD33 1 = .ok (.invokespecial 343, 3) := by decide +kernel
theorem d33_4 : decode cD33 4 = .ok (.ireturn, 1) := by decide +kernel
theorem d27_0 : decode cD27 0 = .ok (.aload_n 1, 1) := by decide +kernel
theorem d27_1 : decode cD27 1 = .ok (.ifnonnull 8, 3) := by decide +kernel
theorem d27_9 : decode cD27 9 = .ok (.aload_n 1, 1) := by decide +kernel
theorem d27_10 : decode cD27 10 = .ok (.invokevirtual 32, 3) := by decide +kernel
theorem d27_13 : decode cD27 13 = .ok (.istore_n 2, 1) := by decide +kernel
theorem d27_14 : decode cD27 14 = .ok (.aload_n 0, 1) := by decide +kernel
theorem d27_15 : decode cD27 15 = .ok (.aload_n 0, 1) := by decide +kernel
theorem d27_16 : decode cD27 16 = .ok (.getfield 79, 3) := by decide +kernel
theorem d27_19 : decode cD27 19 = .ok (.iload_n 2, 1) := by decide +kernel
theorem d27_20 : decode cD27 20 = .ok (.iadd, 1) := by decide +kernel
theorem d27_21 : decode cD27 21 = .ok (.invokevirtual 100, 3) := by decide +kernel
theorem d27_24 : decode cD27 24 = .ok (.aload_n 0, 1) := by decide +kernel
theorem d27_25 : decode cD27 25 = .ok (.aload_n 0, 1) := by decide +kernel
theorem d27_26 : decode cD27 26 = .ok (.getfield 79, 3) := by decide +kernel
theorem d27_29 : decode cD27 29 = .ok (.aload_n 1, 1) := by decide +kernel
theorem d27_30 : decode cD27 30 = .ok (.invokevirtual 208, 3) := by decide +kernel
theorem d27_33 : decode cD27 33 = .ok (.aload_n 0, 1) := by decide +kernel
theorem d27_34 : decode cD27 34 = .ok (.dup, 1) := by decide +kernel
theorem d27_35 : decode cD27 35 = .ok (.getfield 79, 3) := by decide +kernel
theorem d27_38 : decode cD27 38 = .ok (.iload_n 2, 1) := by decide +kernel
theorem d27_39 : decode cD27 39 = .ok (.iadd, 1) := by decide +kernel
theorem d27_40 : decode cD27 40 = .ok (.putfield 79, 3) := by decide +kernel
theorem d27_43 : decode cD27 43 = .ok (.aload_n 0, 1) := by decide +kernel
theorem d27_44 : decode cD27 44 = .ok (.areturn, 1) := by decide +kernel
theorem d29_0 : decode cD29 0 = .ok (.aload_n 0, 1) := by decide +kernel
theorem d29_1 : decode cD29 1 = .ok (.invokespecial 3, 3) := by decide +kernel
theorem d29_4 : decode cD29 4 = .ok (.getstatic 18, 3) := by decide +kernel
theorem d29_7 : decode cD29 7 = .ok (.ifCond .eq 18, 3) := by decide +kernel
theorem d29_10 : decode cD29 10 = .ok (.aload_n 0, 1) := by decide +kernel
theorem d29_11 : decode cD29 11 = .ok (.iload_n 1, 1) := by decide +kernel
theorem d29_12 : decode cD29 12 = .ok (.newarray .byte, 2) := by decide +kernel
theorem d29_14 : decode cD29 14 = .ok (.putfield 15, 3) := by decide +kernel
theorem d29_17 : decode cD29 17 = .ok (.aload_n 0, 1) := by decide +kernel
theorem d29_18 : decode cD29 18 = .ok (.iconst 0, 1) := by decide +kernel
theorem d29_19 : decode cD29 19 = .ok (.putfield 22, 3) := by decide +kernel
theorem d29_22 : decode cD29 22 = .ok (.goto 16, 3) := by decide +kernel
theorem d29_38 : decode cD29 38 = .ok (.return_, 1) := by decide +kernel
theorem d31_0 : decode cD31 0 = .ok (.aload_n 0, 1) := by decide +kernel
theorem d31_1 : decode cD31 1 = .ok (.getfield 15, 3) := by decide +kernel
theorem d31_4 : decode cD31 4 = .ok (.areturn, 1) := by decide +kernel
theorem d34_0 : decode cD34 0 = .ok (.getstatic 18, 3) := by decide +kernel
theorem d34_3 : decode cD34 3 = .ok (.ifCond .eq 14, 3) := by decide +kernel
theorem d34_6 : decode cD34 6 = .ok (.aload_n 0, 1) := by decide +kernel
theorem d34_7 : decode cD34 7 = .ok (.getfield 22, 3) := by decide +kernel
theorem d34_10 : decode cD34 10 = .ok (.ifCond .ne 7, 3) := by decide +kernel
theorem d34_13 : decode cD34 13 = .ok (.iconst 1, 1) := by decide +kernel
theorem d34_14 : decode cD34 14 = .ok (.goto 4, 3) := by decide +kernel
theorem d34_18 : decode cD34 18 = .ok (.ireturn, 1) := by decide +kernel
theorem d32_0 : decode cD32 0 = .ok (.aload_n 0, 1) := by decide +kernel
theorem d32_1 : decode cD32 1 = .ok (.getfield 79, 3) := by decide +kernel
theorem d32_4 : decode cD32 4 = .ok (.ireturn, 1) := by decide +kernel
theorem d24_0 : decode cD24 0 = .ok (.getstatic 18, 3) := by decide +kernel
theorem d24_3 : decode cD24 3 = .ok (.ifCond .eq 18, 3) := by decide +kernel
theorem d24_6 : decode cD24 6 = .ok (.aload_n 0, 1) := by decide +kernel
theorem d24_7 : decode cD24 7 = .ok (.getfield 22, 3) := by decide +kernel
theorem d24_10 : decode cD24 10 = .ok (.aload_n 1, 1) := by decide +kernel
theorem d24_11 : decode cD24 11 = .ok (.invokevirtual 40, 3) := by decide +kernel
theorem d24_14 : decode cD24 14 = .ok (.if_icmp .eq 7, 3) := by decide +kernel
theorem d24_21 : decode cD24 21 = .ok (.return_, 1) := by decide +kernel
theorem d26_0 : decode cD26 0 = .ok (.aload_n 0, 1) := by decide +kernel
theorem d26_1 : decode cD26 1 = .ok (.aload_n 2, 1) := by decide +kernel
theorem d26_2 : decode cD26 2 = .ok (.invokevirtual 397, 3) := by decide +kernel
theorem d26_5 : decode cD26 5 = .ok (.aload_n 2, 1) := by decide +kernel
theorem d26_6 : decode cD26 6 = .ok (.aload_n 0, 1) := by decide +kernel
theorem d26_7 : decode cD26 7 = .ok (.getfield 15, 3) := by decide +kernel
theorem d26_10 : decode cD26 10 = .ok (.iload_n 1, 1) := by decide +kernel
theorem d26_11 : decode cD26 11 = .ok (.aload_n 0, 1) := by decide +kernel
theorem d26_12 : decode cD26 12 = .ok (.getfield 22, 3) := by decide +kernel
theorem d26_15 : decode cD26 15 = .ok (.invokevirtual 399, 3) := by decide +kernel
theorem d26_18 : decode cD26 18 = .ok (.return_, 1) := by decide +kernel
theorem d25_0 : decode cD25 0 = .ok (.aload_n 0, 1) := by decide +kernel
theorem d25_1 : decode cD25 1 = .ok (.getfield 15, 3) := by decide +kernel
theorem d25_4 : decode cD25 4 = .ok (.arraylength, 1) := by decide +kernel
theorem d25_5 : decode cD25 5 = .ok (.aload_n 0, 1) := by decide +kernel
theorem d25_6 : decode cD25 6 = .ok (.getfield 22, 3) := by decide +kernel
theorem d25_9 : decode cD25 9 = .ok (.ishr, 1) := by decide +kernel
theorem d25_10 : decode cD25 10 = .ok (.istore_n 2, 1) := by decide +kernel
theorem d25_11 : decode cD25 11 = .ok (.iload_n 1, 1) := by decide +kernel
theorem d25_12 : decode cD25 12 = .ok (.iload_n 2, 1) := by decide +kernel
theorem d25_13 : decode cD25 13 = .ok (.isub, 1) := by decide +kernel
theorem d25_14 : decode cD25 14 = .ok (.ifCond .le 24, 3) := by decide +kernel
theorem d25_38 : decode cD25 38 = .ok (.return_, 1) := by decide +kernel
theorem d19_0 : decode cD19 0 = .ok (.aload_n 0, 1) := by decide +kernel
theorem d19_1 : decode cD19 1 = .ok (.invokevirtual 61, 3) := by decide +kernel
theorem d19_4 : decode cD19 4 = .ok (.aload_n 0, 1) := by decide +kernel
theorem d19_5 : decode cD19 5 = .ok (.dup, 1) := by decide +kernel
theorem d19_6 : decode cD19 6 = .ok (.getfield 65, 3) := by decide +kernel
theorem d19_9 : decode cD19 9 = .ok (.dup_x1, 1) := by decide +kernel
theorem d19_10 : decode cD19 10 = .ok (.iconst 1, 1) := by decide +kernel
theorem d19_11 : decode cD19 11 = .ok (.iadd, 1) := by decide +kernel
theorem d19_12 : decode cD19 12 = .ok (.putfield 65, 3) := by decide +kernel
theorem d19_15 : decode cD19 15 = .ok (.iload_n 1, 1) := by decide +kernel
theorem d19_16 : decode cD19 16 = .ok (.i2b, 1) := by decide +kernel
theorem d19_17 : decode cD19 17 = .ok (.bastore, 1) := by decide +kernel
theorem d19_18 : decode cD19 18 = .ok (.return_, 1) := by decide +kernel
theorem d18_0 : decode cD18 0 = .ok (.aload_n 0, 1) := by decide +kernel
theorem d18_1 : decode cD18 1 = .ok (.getfield 10, 3) := by decide +kernel
theorem d18_4 : decode cD18 4 = .ok (.invokeinterface 86 1, 5) := by decide +kernel
theorem d18_9 : decode cD18 9 = .ok (.ifCond .eq 17, 3) := by decide +kernel
theorem d18_12 : decode cD18 12 = .ok (.aload_n 0, 1) := by decide +kernel
theorem d18_13 : decode cD18 13 = .ok (.getfield 10, 3) := by decide +kernel
theorem d18_16 : decode cD18 16 = .ok (.bipush 64, 2) := by decide +kernel
theorem d18_18 : decode cD18 18 = .ok (.newarray .byte, 2) := by decide +kernel
theorem d18_20 : decode cD18 20 = .ok (.invokeinterface 124 2, 5) := by decide +kernel
theorem d18_25 : decode cD18 25 = .ok (.pop, 1) := by decide +kernel
theorem d18_26 : decode cD18 26 = .ok (.aload_n 0, 1) := by decide +kernel
theorem d18_27 : decode cD18 27 = .ok (.getfield 10, 3) := by decide +kernel
theorem d18_30 : decode cD18 30 = .ok (.aload_n 0, 1) := by decide +kernel
theorem d18_31 : decode cD18 31 = .ok (.getfield 10, 3) := by decide +kernel
theorem d18_34 : decode cD18 34 = .ok (.invokeinterface 92 1, 5) := by decide +kernel
theorem d18_39 : decode cD18 39 = .ok (.iconst 1, 1) := by decide +kernel
theorem d18_40 : decode cD18 40 = .ok (.isub, 1) := by decide +kernel
theorem d18_41 : decode cD18 41 = .ok (.invokeinterface 128 2, 5) := by decide +kernel
theorem d18_46 : decode cD18 46 = .ok (.checkcast 132, 3) := by decide +kernel
theorem d18_49 : decode cD18 49 = .ok (.astore_n 1, 1) := by decide +kernel
theorem d18_50 : decode cD18 50 = .ok (.aload_n 0, 1) := by decide +kernel
theorem d18_51 : decode cD18 51 = .ok (.getfield 65, 3) := by decide +kernel
theorem d18_54 : decode cD18 54 = .ok (.aload_n 1, 1) := by decide +kernel
theorem d18_55 : decode cD18 55 = .ok (.arraylength, 1) := by decide +kernel
theorem d18_56 : decode cD18 56 = .ok (.if_icmp .ne 39, 3) := by decide +kernel
theorem d18_95 : decode cD18 95 = .ok (.aload_n 0, 1) := by decide +kernel
theorem d18_96 : decode cD18 96 = .ok (.getfield 65, 3) := by decide +kernel
theorem d18_99 : decode cD18 99 = .ok (.aload_n 1, 1) := by decide +kernel
theorem d18_100 : decode cD18 100 = .ok (.arraylength, 1) := by decide +kernel
theorem d18_101 : decode cD18 101 = .ok (.if_icmp .ne 24, 3) := by decide +kernel
theorem d18_125 : decode cD18 125 = .ok (.aload_n 1, 1) := by decide +kernel
theorem d18_126 : decode cD18 126 = .ok (.areturn, 1) := by decide +kernel
theorem d3_0 : decode cD3 0 = .ok (.aload_n 0, 1) := by decide +kernel
theorem d3_1 : decode cD3 1 = .ok (.invokespecial 1, 3) := by decide +kernel
theorem d3_4 : decode cD3 4 = .ok (.aload_n 0, 1) := by decide +kernel
theorem d3_5 : decode cD3 5 = .ok (.new 7, 3) := by decide +kernel
theorem d3_8 : decode cD3 8 = .ok (.dup, 1) := by decide +kernel
theorem d3_9 : decode cD3 9 = .ok (.invokespecial 9, 3) := by decide +kernel
theorem d3_12 : decode cD3 12 = .ok (.putfield 10, 3) := by decide +kernel
theorem d3_15 : decode cD3 15 = .ok (.return_, 1) := by decide +kernel
theorem d20_0 : decode cD20 0 = .ok (.lload_n 1, 1) := by decide +kernel
theorem d20_1 : decode cD20 1 = .ok (.lconst 0, 1) := by decide +kernel
theorem d20_2 : decode cD20 2 = .ok (.lcmp, 1) := by decide +kernel
theorem d20_3 : decode cD20 3 = .ok (.ifCond .ge 30, 3) := by decide +kernel
theorem d20_33 : decode cD20 33 = .ok (.lload_n 1, 1) := by decide +kernel
theorem d20_34 : decode cD20 34 = .ok (.lstore_n 3, 1) := by decide +kernel
theorem d20_35 : decode cD20 35 = .ok (.lload_n 3, 1) := by decide +kernel
theorem d20_36 : decode cD20 36 = .ok (.ldc2_w 37, 3) := by decide +kernel
theorem d20_39 : decode cD20 39 = .ok (.lcmp, 1) := by decide +kernel
theorem d20_40 : decode cD20 40 = .ok (.ifCond .lt 25, 3) := by decide +kernel
theorem d20_65 : decode cD20 65 = .ok (.aload_n 0, 1) := by decide +kernel
theorem d20_66 : decode cD20 66 = .ok (.lload_n 3, 1) := by decide +kernel
theorem d20_67 : decode cD20 67 = .ok (.l2i, 1) := by decide +kernel
theorem d20_68 : decode cD20 68 = .ok (.invokevirtual 41, 3) := by decide +kernel
theorem d20_71 : decode cD20 71 = .ok (.return_, 1) := by decide +kernel
theorem d50_0 : decode cD50 0 = .ok (.aload_n 1, 1) := by decide +kernel
theorem d50_1 : decode cD50 1 = .ok (.ifnonnull 9, 3) := by decide +kernel
theorem d50_4 : decode cD50 4 = .ok (.aload_n 0, 1) := by decide +kernel
theorem d50_5 : decode cD50 5 = .ok (.lconst 0, 1) := by decide +kernel
theorem d50_6 : decode cD50 6 = .ok (.invokevirtual 45, 3) := by decide +kernel
theorem d50_9 : decode cD50 9 = .ok (.return_, 1) := by decide +kernel
theorem d50_10 : decode cD50 10 = .ok (.aload_n 1, 1) := by decide +kernel
theorem d50_11 : decode cD50 11 = .ok (.getstatic 49, 3) := by decide +kernel
theorem d50_14 : decode cD50 14 = .ok (.invokevirtual 55, 3) := by decide +kernel
theorem d50_17 : decode cD50 17 = .ok (.astore_n 2, 1) := by decide +kernel
theorem d50_18 : decode cD50 18 = .ok (.aload_n 0, 1) := by decide +kernel
theorem d50_19 : decode cD50 19 = .ok (.aload_n 2, 1) := by decide +kernel
theorem d50_20 : decode cD50 20 = .ok (.arraylength, 1) := by decide +kernel
theorem d50_21 : decode cD50 21 = .ok (.iconst 1, 1) := by decide +kernel
theorem d50_22 : decode cD50 22 = .ok (.iadd, 1) := by decide +kernel
theorem d50_23 : decode cD50 23 = .ok (.i2l, 1) := by decide +kernel
theorem d50_24 : decode cD50 24 = .ok (.invokevirtual 45, 3) := by decide +kernel
theorem d50_27 : decode cD50 27 = .ok (.iconst 0, 1) := by decide +kernel
theorem d50_28 : decode cD50 28 = .ok (.istore_n 3, 1) := by decide +kernel
theorem d50_29 : decode cD50 29 = .ok (.iload_n 3, 1) := by decide +kernel
theorem d50_30 : decode cD50 30 = .ok (.aload_n 2, 1) := by decide +kernel
theorem d50_31 : decode cD50 31 = .ok (.arraylength, 1) := by decide +kernel
theorem d50_32 : decode cD50 32 = .ok (.if_icmp .ge 58, 3) := by decide +kernel
theorem d50_35 : decode cD50 35 = .ok (.aload_n 0, 1) := by decide +kernel
theorem d50_36 : decode cD50 36 = .ok (.invokevirtual 61, 3) := by decide +kernel
theorem d50_39 : decode cD50 39 = .ok (.astore 4, 2) := by decide +kernel
theorem d50_41 : decode cD50 41 = .ok (.aload_n 2, 1) := by decide +kernel
theorem d50_42 : decode cD50 42 = .ok (.arraylength, 1) := by decide +kernel
theorem d50_43 : decode cD50 43 = .ok (.iload_n 3, 1) := by decide +kernel
theorem d50_44 : decode cD50 44 = .ok (.isub, 1) := by decide +kernel
theorem d50_45 : decode cD50 45 = .ok (.aload 4, 2) := by decide +kernel
theorem d50_47 : decode cD50 47 = .ok (.arraylength, 1) := by decide +kernel
theorem d50_48 : decode cD50 48 = .ok (.aload_n 0, 1) := by decide +kernel
theorem d50_49 : decode cD50 49 = .ok (.getfield 65, 3) := by decide +kernel
theorem d50_52 : decode cD50 52 = .ok (.isub, 1) := by decide +kernel
theorem d50_53 : decode cD50 53 = .ok (.invokestatic 69, 3) := by decide +kernel
theorem d50_56 : decode cD50 56 = .ok (.istore 5, 2) := by decide +kernel
theorem d50_58 : decode cD50 58 = .ok (.aload_n 2, 1) := by decide +kernel
theorem d50_59 : decode cD50 59 = .ok (.iload_n 3, 1) := by decide +kernel
theorem d50_60 : decode cD50 60 = .ok (.aload 4, 2) := by decide +kernel
theorem d50_62 : decode cD50 62 = .ok (.aload_n 0, 1) := by decide +kernel
theorem d50_63 : decode cD50 63 = .ok (.getfield 65, 3) := by decide +kernel
theorem d50_66 : decode cD50 66 = .ok (.iload 5, 2) := by decide +kernel
theorem d50_68 : decode cD50 68 = .ok (.invokestatic 75, 3) := by decide +kernel
theorem d50_71 : decode cD50 71 = .ok (.aload_n 0, 1) := by decide +kernel
theorem d50_72 : decode cD50 72 = .ok (.dup, 1) := by decide +kernel
theorem d50_73 : decode cD50 73 = .ok (.getfield 65, 3) := by decide +kernel
theorem d50_76 : decode cD50 76 = .ok (.iload 5, 2) := by decide +kernel
theorem d50_78 : decode cD50 78 = .ok (.iadd, 1) := by decide +kernel
theorem d50_79 : decode cD50 79 = .ok (.putfield 65, 3) := by decide +kernel
theorem d50_82 : decode cD50 82 = .ok (.iload_n 3, 1) := by decide +kernel
theorem d50_83 : decode cD50 83 = .ok (.iload 5, 2) := by decide +kernel
theorem d50_85 : decode cD50 85 = .ok (.iadd, 1) := by decide +kernel
theorem d50_86 : decode cD50 86 = .ok (.istore_n 3, 1) := by decide +kernel
theorem d50_87 : decode cD50 87 = .ok (.goto (-58), 3) := by decide +kernel
theorem d50_90 : decode cD50 90 = .ok (.return_, 1) := by decide +kernel
theorem d4_0 : decode cD4 0 = .ok (.aload_n 0, 1) := by decide +kernel
theorem d4_1 : decode cD4 1 = .ok (.invokespecial 1, 3) := by decide +kernel
theorem d4_4 : decode cD4 4 = .ok (.aload_n 0, 1) := by decide +kernel
theorem d4_5 : decode cD4 5 = .ok (.new 7, 3) := by decide +kernel
theorem d4_8 : decode cD4 8 = .ok (.dup, 1) := by decide +kernel
theorem d4_9 : decode cD4 9 = .ok (.invokespecial 9, 3) := by decide +kernel
theorem d4_12 : decode cD4 12 = .ok (.putfield 10, 3) := by decide +kernel
theorem d4_15 : decode cD4 15 = .ok (.aload_n 0, 1) := by decide +kernel
theorem d4_16 : decode cD4 16 = .ok (.new 7, 3) := by decide +kernel
theorem d4_19 : decode cD4 19 = .ok (.dup, 1) := by decide +kernel
theorem d4_20 : decode cD4 20 = .ok (.invokespecial 9, 3) := by decide +kernel
theorem d4_23 : decode cD4 23 = .ok (.putfield 16, 3) := by decide +kernel
theorem d4_26 : decode cD4 26 = .ok (.return_, 1) := by decide +kernel
theorem d5_0 : decode cD5 0 = .ok (.aload_n 0, 1) := by decide +kernel
theorem d5_1 : decode cD5 1 = .ok (.dup, 1) := by decide +kernel
theorem d5_2 : decode cD5 2 = .ok (.getfield 37, 3) := by decide +kernel
theorem d5_5 : decode cD5 5 = .ok (.dup_x1, 1) := by decide +kernel
theorem d5_6 : decode cD5 6 = .ok (.iconst 1, 1) := by decide +kernel
theorem d5_7 : decode cD5 7 = .ok (.iadd, 1) := by decide +kernel
theorem d5_8 : decode cD5 8 = .ok (.putfield 37, 3) := by decide +kernel
theorem d5_11 : decode cD5 11 = .ok (.ireturn, 1) := by decide +kernel
theorem d52_0 : decode cD52 0 = .ok (.aload_n 0, 1) := by decide +kernel
theorem d52_1 : decode cD52 1 = .ok (.getfield 16, 3) := by decide +kernel
theorem d52_4 : decode cD52 4 = .ok (.lconst 1, 1) := by decide +kernel
theorem d52_5 : decode cD52 5 = .ok (.invokevirtual 40, 3) := by decide +kernel
theorem d52_8 : decode cD52 8 = .ok (.aload_n 0, 1) := by decide +kernel
theorem d52_9 : decode cD52 9 = .ok (.getfield 16, 3) := by decide +kernel
theorem d52_12 : decode cD52 12 = .ok (.iload_n 1, 1) := by decide +kernel
theorem d52_13 : decode cD52 13 = .ok (.i2l, 1) := by decide +kernel
theorem d52_14 : decode cD52 14 = .ok (.invokevirtual 40, 3) := by decide +kernel
theorem d52_17 : decode cD52 17 = .ok (.aload_n 0, 1) := by decide +kernel
theorem d52_18 : decode cD52 18 = .ok (.getfield 16, 3) := by decide +kernel
theorem d52_21 : decode cD52 21 = .ok (.aload_n 2, 1) := by decide +kernel
theorem d52_22 : decode cD52 22 = .ok (.aload_n 3, 1) := by decide +kernel
theorem d52_23 : decode cD52 23 = .ok (.invokestatic 19, 3) := by decide +kernel
theorem d52_26 : decode cD52 26 = .ok (.invokevirtual 23, 3) := by decide +kernel
theorem d52_29 : decode cD52 29 = .ok (.return_, 1) := by decide +kernel
theorem d51_0 : decode cD51 0 = .ok (.aload_n 0, 1) := by decide +kernel
theorem d51_1 : decode cD51 1 = .ok (.getfield 16, 3) := by decide +kernel
theorem d51_4 : decode cD51 4 = .ok (.lconst 0, 1) := by decide +kernel
theorem d51_5 : decode cD51 5 = .ok (.invokevirtual 40, 3) := by decide +kernel
theorem d51_8 : decode cD51 8 = .ok (.aload_n 0, 1) := by decide +kernel
theorem d51_9 : decode cD51 9 = .ok (.getfield 16, 3) := by decide +kernel
theorem d51_12 : decode cD51 12 = .ok (.iload_n 1, 1) := by decide +kernel
theorem d51_13 : decode cD51 13 = .ok (.i2l, 1) := by decide +kernel
theorem d51_14 : decode cD51 14 = .ok (.invokevirtual 40, 3) := by decide +kernel
theorem d51_17 : decode cD51 17 = .ok (.aload_n 0, 1) := by decide +kernel
theorem d51_18 : decode cD51 18 = .ok (.getfield 16, 3) := by decide +kernel
theorem d51_21 : decode cD51 21 = .ok (.iload_n 2, 1) := by decide +kernel
theorem d51_22 : decode cD51 22 = .ok (.iconst 1, 1) := by decide +kernel
theorem d51_23 : decode cD51 23 = .ok (.iadd, 1) := by decide +kernel
theorem d51_24 : decode cD51 24 = .ok (.i2l, 1) := by decide +kernel
theorem d51_25 : decode cD51 25 = .ok (.invokevirtual 40, 3) := by decide +kernel
theorem d51_28 : decode cD51 28 = .ok (.aload_n 0, 1) := by decide +kernel
theorem d51_29 : decode cD51 29 = .ok (.getfield 16, 3) := by decide +kernel
theorem d51_32 : decode cD51 32 = .ok (.aload_n 3, 1) := by decide +kernel
theorem d51_33 : decode cD51 33 = .ok (.invokevirtual 23, 3) := by decide +kernel
theorem d51_36 : decode cD51 36 = .ok (.return_, 1) := by decide +kernel
theorem d41_0 : decode cD41 0 = .ok (.aload_n 0, 1) := by decide +kernel
theorem d41_1 : decode cD41 1 = .ok (.ifnonnull 25, 3) := by decide +kernel
theorem d41_4 : decode cD41 4 = .ok (.new 49, 3) := by decide +kernel
theorem d41_7 : decode cD41 7 = .ok (.dup, 1) := by decide +kernel
theorem d41_8 : decode cD41 8 = .ok (.invokespecial 51, 3) := by decide +kernel
theorem d41_11 : decode cD41 11 = .ok (.ldc 52, 2) := by decide +kernel
theorem d41_13 : decode cD41 13 = .ok (.invokevirtual 54, 3) := by decide +kernel
theorem d41_16 : decode cD41 16 = .ok (.aload_n 1, 1) := by decide +kernel
theorem d41_17 : decode cD41 17 = .ok (.invokevirtual 54, 3) := by decide +kernel
theorem d41_20 : decode cD41 20 = .ok (.invokevirtual 58, 3) := by decide +kernel
theorem d41_23 : decode cD41 23 = .ok (.goto 43, 3) := by decide +kernel
theorem d41_66 : decode cD41 66 = .ok (.areturn, 1) := by decide +kernel
theorem pd_0 : parseMethodDescriptor "()V" = some ⟨[], none⟩ := by decide +kernel
theorem pd_1 : parseMethodDescriptor "(IILjava/util/function/BiFunction;)I" = some ⟨[.int, .int, (.object "java/util/function/BiFunction")], some .int⟩ := by decide +kernel
theorem pd_2 : parseMethodDescriptor "(II)I" = some ⟨[.int, .int], some .int⟩ := by decide +kernel
theorem pd_3 : parseMethodDescriptor "(I)[Ljava/lang/Object;" = some ⟨[.int], some (.array (.object "java/lang/Object"))⟩ := by decide +kernel
theorem pd_4 : parseMethodDescriptor "()[Ljava/lang/Object;" = some ⟨[], some (.array (.object "java/lang/Object"))⟩ := by decide +kernel
theorem pd_5 : parseMethodDescriptor "(Ljava/lang/Object;[Ljava/lang/Object;I)V" = some ⟨[(.object "java/lang/Object"), (.array (.object "java/lang/Object")), .int], none⟩ := by decide +kernel
theorem pd_6 : parseMethodDescriptor "(I)Ljava/lang/Object;" = some ⟨[.int], some (.object "java/lang/Object")⟩ := by decide +kernel
theorem pd_7 : parseMethodDescriptor "()Z" = some ⟨[], some .boolean⟩ := by decide +kernel
theorem pd_8 : parseMethodDescriptor "()I" = some ⟨[], some .int⟩ := by decide +kernel
theorem pd_9 : parseMethodDescriptor "(Ljava/lang/Object;)Z" = some ⟨[(.object "java/lang/Object")], some .boolean⟩ := by decide +kernel
theorem pd_10 : parseMethodDescriptor "()[B" = some ⟨[], some (.array .byte)⟩ := by decide +kernel
theorem pd_11 : parseMethodDescriptor "(I)V" = some ⟨[.int], none⟩ := by decide +kernel
theorem pd_12 : parseMethodDescriptor "()B" = some ⟨[], some .byte⟩ := by decide +kernel
theorem pd_13 : parseMethodDescriptor "(Ljava/lang/String;)V" = some ⟨[(.object "java/lang/String")], none⟩ := by decide +kernel
theorem pd_14 : parseMethodDescriptor "([BIB)V" = some ⟨[(.array .byte), .int, .byte], none⟩ := by decide +kernel
theorem pd_15 : parseMethodDescriptor "(ILjava/lang/String;)V" = some ⟨[.int, (.object "java/lang/String")], none⟩ := by decide +kernel
theorem pd_16 : parseMethodDescriptor "(Ljava/lang/String;)Ljava/lang/AbstractStringBuilder;" = some ⟨[(.object "java/lang/String")], some (.object "java/lang/AbstractStringBuilder")⟩ := by decide +kernel
theorem pd_17 : parseMethodDescriptor "(II)V" = some ⟨[.int, .int], none⟩ := by decide +kernel
theorem pd_18 : parseMethodDescriptor "([BII)[B" = some ⟨[(.array .byte), .int, .int], some (.array .byte)⟩ := by decide +kernel
theorem pd_19 : parseMethodDescriptor "(Ljava/lang/AbstractStringBuilder;Ljava/lang/Void;)V" = some ⟨[(.object "java/lang/AbstractStringBuilder"), (.object "java/lang/Void")], none⟩ := by decide +kernel
theorem pd_20 : parseMethodDescriptor "(Ljava/lang/StringBuilder;)V" = some ⟨[(.object "java/lang/StringBuilder")], none⟩ := by decide +kernel
theorem pd_21 : parseMethodDescriptor "(Ljava/lang/String;)Ljava/lang/StringBuilder;" = some ⟨[(.object "java/lang/String")], some (.object "java/lang/StringBuilder")⟩ := by decide +kernel
theorem pd_22 : parseMethodDescriptor "()Ljava/lang/String;" = some ⟨[], some (.object "java/lang/String")⟩ := by decide +kernel
theorem pd_23 : parseMethodDescriptor "([BII)I" = some ⟨[(.array .byte), .int, .int], some .int⟩ := by decide +kernel
theorem pd_24 : parseMethodDescriptor "(I)I" = some ⟨[.int], some .int⟩ := by decide +kernel
theorem pd_25 : parseMethodDescriptor "([BII)Z" = some ⟨[(.array .byte), .int, .int], some .boolean⟩ := by decide +kernel
theorem pd_26 : parseMethodDescriptor "(I)[B" = some ⟨[.int], some (.array .byte)⟩ := by decide +kernel
theorem pd_27 : parseMethodDescriptor "([BI)[B" = some ⟨[(.array .byte), .int], some (.array .byte)⟩ := by decide +kernel
theorem pd_28 : parseMethodDescriptor "(B[BZ)[B" = some ⟨[.byte, (.array .byte), .boolean], some (.array .byte)⟩ := by decide +kernel
theorem pd_29 : parseMethodDescriptor "(Ljava/nio/charset/Charset;B[B)[B" = some ⟨[(.object "java/nio/charset/Charset"), .byte, (.array .byte)], some (.array .byte)⟩ := by decide +kernel
theorem pd_30 : parseMethodDescriptor "(J)V" = some ⟨[.long], none⟩ := by decide +kernel
theorem pd_31 : parseMethodDescriptor "(Ljava/nio/charset/Charset;)[B" = some ⟨[(.object "java/nio/charset/Charset")], some (.array .byte)⟩ := by decide +kernel
theorem pd_32 : parseMethodDescriptor "(Ljava/lang/String;Ljava/lang/String;)Ljava/lang/String;" = some ⟨[(.object "java/lang/String"), (.object "java/lang/String")], some (.object "java/lang/String")⟩ := by decide +kernel
theorem pd_33 : parseMethodDescriptor "([C)V" = some ⟨[(.array .char)], none⟩ := by decide +kernel
theorem pd_34 : parseMethodDescriptor "(IILjava/lang/String;)V" = some ⟨[.int, .int, (.object "java/lang/String")], none⟩ := by decide +kernel
theorem pd_35 : parseMethodDescriptor "(ILjava/lang/String;Ljava/lang/String;)V" = some ⟨[.int, (.object "java/lang/String"), (.object "java/lang/String")], none⟩ := by decide +kernel
theorem sAt {a0 : Array Value} {Z : State} (hw : HW a0 Z) : ∀ d ∈ Bundle.stringAtoms, d.before a0 Z = true := fun d hd => hw d ((by decide +kernel : ∀ d ∈ Bundle.stringAtoms, d ∈ tables_1) d hd)
theorem hStrW {a0 : Array Value} {Z : State} (hw : HW a0 Z) : ∀ d ∈ StrChars.Road.words, d.before a0 Z = true := fun d hd => hw d ((by decide +kernel : ∀ d ∈ StrChars.Road.words, d ∈ tables_1) d hd)
/-- a class that a selected method stands in is no interface -/
theorem own_noface {args : Array Value} {s : State} {C : String} {y z : MethodName} (hsel : (Cond.selects C z z).before args s = true) (hc : y.cls = z.cls) : NotFace s y := fun r0 h0 => by
  obtain ⟨c2, r2, m2, q1, q2, q3, q4, kP, hkP, hkPi⟩ := Cond.selects_spec hsel
  have e1 := findClass_of_methodNamed h0
  have e2 := findClass_of_methodNamed q3
  rw [hc] at e1
  rw [← Option.some.inj (e1.symm.trans e2)] at hkP
  exact ⟨kP, hkP, hkPi⟩
/-- the log's one block: 64 bytes, their contents untold -/
def own_blk (Z : State) (h : Heap) (a : Addr) (k : ClassId) : Prop := ∃ vs : List Value, vs.length = 64 ∧ Arv Z h a k .byte (64 : Int32) vs (.int 0)
section Blk
variable {Z : State} {h h' : Heap} {a b : Addr} {k : ClassId} {sl : Nat} {v : Value} {ws : List Addr}
theorem own_blk.lt (F : own_blk Z h a k) : a < h.size := by obtain ⟨vs, -, F⟩ := F; exact F.lt
theorem own_blk.ext (F : own_blk Z h a k) (E : Ext h h') : own_blk Z h' a k := by obtain ⟨vs, l, F⟩ := F; exact ⟨vs, l, F.ext E⟩
theorem own_blk.other (F : own_blk Z h b k) (W : Wr h h' a sl v) (q : b ≠ a) : own_blk Z h' b k := by obtain ⟨vs, l, F⟩ := F; exact ⟨vs, l, F.other W q⟩
theorem own_blk.keep (F : own_blk Z h a k) (K : Keep h h' ws) (q : a ∉ ws) : own_blk Z h' a k := by obtain ⟨vs, l, F⟩ := F; exact ⟨vs, l, F.keep K q⟩
theorem own_blkNew (F : Arv Z h a k .byte (64 : Int32) [] (.int 0)) : own_blk Z h a k := ⟨List.replicate 64 (.int 0), by simp, F.pad (pad_rep [] _ 64)⟩
end Blk
def own_us (k u : Int32) : Prop := ¬ u < 0 ∧ u < k
theorem own_usE {k u : Int32} (h : own_us k u) : 0 ≤ u.toInt ∧ u.toInt < k.toInt := by
  obtain ⟨h1, h2⟩ := h
  rw [Int32.lt_iff_toInt_lt] at h1 h2
  have e : (0 : Int32).toInt = 0 := rfl
  omega
theorem own_usA {k u : Int32} {n : Int} (c : Int32) (h : 0 ≤ u.toInt ∧ u.toInt < n) (hc : c.toInt = 1 ∨ c.toInt = 7 ∨ c.toInt = 8) (hn : n ≤ 100) : (u + c).toInt = u.toInt + c.toInt := by
  rw [Int32.toInt_add, Int.bmod_eq_of_le (by omega) (by omega)]
theorem own_usI {k u : Int32} (h0 : 0 ≤ u.toInt) (h : u.toInt < k.toInt) : own_us k u := by
  refine ⟨?_, ?_⟩
  · rw [Int32.lt_iff_toInt_lt]; have e : (0 : Int32).toInt = 0 := rfl; omega
  · rw [Int32.lt_iff_toInt_lt]; exact h
theorem own_us1 {k u : Int32} (h : own_us k u) (hk : k.toInt ≤ 60) : own_us (k + 1) (u + 1) := by
  have a := own_usE h
  have e1 : (1 : Int32).toInt = 1 := rfl
  have p := own_usA (k := k) (n := 60) (1 : Int32) ⟨a.1, by omega⟩ (Or.inl rfl) (by decide)
  have q : (k + 1).toInt = k.toInt + 1 := by rw [Int32.toInt_add, Int.bmod_eq_of_le (by omega) (by omega), e1]
  exact own_usI (by omega) (by omega)
theorem own_usL {k k' u : Int32} (h : own_us k u) (hk : k.toInt ≤ k'.toInt) : own_us k' u := by
  have a := own_usE h
  exact own_usI a.1 (by omega)
theorem own_us64 {u : Int32} (h : own_us (60 : Int32) u) : ¬ u = (64 : Int32) := fun e => by subst e; exact absurd h (by unfold own_us; decide)
theorem own_us20 {u : Int32} (h : own_us (20 : Int32) u) : own_us (60 : Int32) u := own_usL h (by decide)
theorem own_us20' {u : Int32} (h : own_us (20 : Int32) u) : own_us (60 : Int32) (u + (1 : Int32)) := own_usL (own_us1 h (by decide)) (by decide)
theorem own_us40 {u : Int32} (h : own_us (40 : Int32) u) : own_us (60 : Int32) u := own_usL h (by decide)
theorem own_us41 {u : Int32} (h : own_us (40 : Int32) u) : own_us (60 : Int32) (u + (1 : Int32)) := own_usL (own_us1 h (by decide)) (by decide)
theorem own_us42 {u : Int32} (h : own_us (40 : Int32) u) : own_us (60 : Int32) ((u + (1 : Int32)) + (1 : Int32)) := own_usL (own_us1 (own_us1 h (by decide)) (by decide)) (by decide)
theorem own_us43 {u : Int32} (h : own_us (40 : Int32) u) : own_us (60 : Int32) (((u + (1 : Int32)) + (1 : Int32)) + (1 : Int32)) := own_usL (own_us1 (own_us1 (own_us1 h (by decide)) (by decide)) (by decide)) (by decide)
theorem own_us10 {u : Int32} (h : own_us (10 : Int32) u) : own_us (60 : Int32) u := own_usL h (by decide)
theorem own_us11 {u : Int32} (h : own_us (10 : Int32) u) : own_us (60 : Int32) (u + (1 : Int32)) := own_usL (own_us1 h (by decide)) (by decide)
theorem own_us12 {u : Int32} (h : own_us (10 : Int32) u) : own_us (20 : Int32) ((u + (1 : Int32)) + (1 : Int32)) := own_usL (own_us1 (own_us1 h (by decide)) (by decide)) (by decide)
theorem own_usV {u : Int32} (h : own_us (20 : Int32) u) (c : Int32) (hc : c.toInt = 7 ∨ c.toInt = 8) : 0 ≤ (u + 1).toInt ∧ (u + 1).toInt < 21 ∧ ((u + 1) + c).toInt = (u + 1).toInt + c.toInt := by
  have a := own_usE (own_us1 h (by decide))
  have e : ((20 : Int32) + 1).toInt = 21 := rfl
  rw [e] at a
  exact ⟨a.1, a.2, own_usA (k := 0) (n := 21) c a (Or.inr hc) (by decide)⟩
theorem own_usW7 {u : Int32} (h : own_us (20 : Int32) u) : own_us (40 : Int32) ((u + (1 : Int32)) + (7 : Int32)) := by
  have a := own_usV h 7 (Or.inl rfl)
  have e : (40 : Int32).toInt = 40 := rfl
  have e7 : (7 : Int32).toInt = 7 := rfl
  exact own_usI (by omega) (by omega)
theorem own_usW8 {u : Int32} (h : own_us (20 : Int32) u) : own_us (40 : Int32) ((u + (1 : Int32)) + (8 : Int32)) := by
  have a := own_usV h 8 (Or.inr rfl)
  have e : (40 : Int32).toInt = 40 := rfl
  have e7 : (8 : Int32).toInt = 8 := rfl
  exact own_usI (by omega) (by omega)
theorem own_usM {u : Int32} (h : own_us (20 : Int32) u) : ((64 : Int32) - (u + (1 : Int32))).toInt = 64 - (u + 1).toInt := by
  have a := own_usV h 7 (Or.inl rfl)
  have e : (64 : Int32).toInt = 64 := rfl
  rw [Int32.toInt_sub, e, Int.bmod_eq_of_le (by omega) (by omega)]
theorem own_usM7 {u : Int32} (h : own_us (20 : Int32) u) : ¬ ((64 : Int32) - (u + (1 : Int32))) < (7 : Int32) := by
  have a := own_usV h 7 (Or.inl rfl)
  rw [Int32.lt_iff_toInt_lt, own_usM h]; have e : (7 : Int32).toInt = 7 := rfl; omega
theorem own_usM8 {u : Int32} (h : own_us (20 : Int32) u) : ¬ ((64 : Int32) - (u + (1 : Int32))) < (8 : Int32) := by
  have a := own_usV h 7 (Or.inl rfl)
  rw [Int32.lt_iff_toInt_lt, own_usM h]; have e : (8 : Int32).toInt = 8 := rfl; omega
theorem own_usC7 {u : Int32} (h : own_us (20 : Int32) u) : (u + (1 : Int32)).toNatClampNeg + (7 : Int32).toNatClampNeg ≤ 64 := by
  have a := own_usV h 7 (Or.inl rfl)
  have e : (7 : Int32).toNatClampNeg = 7 := rfl
  rw [e]; simp only [Int32.toNatClampNeg]; omega
theorem own_usC8 {u : Int32} (h : own_us (20 : Int32) u) : (u + (1 : Int32)).toNatClampNeg + (8 : Int32).toNatClampNeg ≤ 64 := by
  have a := own_usV h 7 (Or.inl rfl)
  have e : (8 : Int32).toNatClampNeg = 8 := rfl
  rw [e]; simp only [Int32.toNatClampNeg]; omega
theorem own_selI {s : State} {args : Array Value} {y : MethodName} {n : Nat} (hcls : (Cond.instantiable y.cls n).before args s = true) (hpriv : s.PrivateAt y) (hinst : (Cond.instanceMethod y).before args s = true) (hy : y.cls ≠ "java/lang/invoke/MethodHandle" ∧ y.cls ≠ "java/lang/invoke/VarHandle") : (Cond.selects y.cls y y).before args s = true := by
  obtain ⟨ci, ki, i1, i2, -, i4, -⟩ := Cond.instantiable_spec hcls
  exact Stand.selects_self_of_private i1 i2 (by simp only [Bool.or_eq_false_iff] at i4; exact i4.1) hpriv hinst hy
theorem own_selN {s : State} {args : Array Value} {y : MethodName} {C : String} (hsel : (Cond.selects C y y).before args s = true) (hpriv : s.PrivateAt y) (hinst : (Cond.instanceMethod y).before args s = true) (hy : y.cls ≠ "java/lang/invoke/MethodHandle" ∧ y.cls ≠ "java/lang/invoke/VarHandle") : (Cond.selects y.cls y y).before args s = true := by
  obtain ⟨c2, r2, m2, -, -, q3, -, kP, hkP, hkPi⟩ := Cond.selects_spec hsel
  exact Stand.selects_self_of_private (findClass_of_methodNamed q3) hkP hkPi hpriv hinst hy
theorem own_same {s : State} {args : Array Value} {y y' : MethodName} {C : String} (hi : (Cond.instanceMethod y).before args s = true) (hs : (Cond.selects C y' y').before args s = true) (e : y'.cls = y.cls) (hy : y.cls ≠ "java/lang/invoke/MethodHandle" ∧ y.cls ≠ "java/lang/invoke/VarHandle") : (Cond.sameMethod y.cls y.cls y.name y.desc).before args s = true := by
  obtain ⟨mk, mm, hn, hm, -, -⟩ := Cond.instanceMethod_spec hi
  obtain ⟨c2, r2, m2, -, -, q3, -, kP, hkP, hkPi⟩ := Cond.selects_spec hs
  have hf := State.methodFound?_of_named hn hy
  have hc := findClass_of_methodNamed hn
  have hc2 := findClass_of_methodNamed q3
  rw [e] at hc2
  have ec : m2.cls = mk.cls := Option.some.inj (hc2.symm.trans hc)
  rw [ec] at hkP
  have hn' : s.methodNamed? ⟨y.cls, y.name, y.desc⟩ = some mk := hn
  simp [Cond.before, Cond.holds, Cond.value, hc, hf, hn', hkP, hkPi]
section Stp
variable {p : Program} {l : Launch} {e : Env} {R : Room} {s : State} {m : MethodId} {args : Array Value} {below : List Frame} {meth : Method} {c : Code} {T : State} {locs : List Loc} {cells slots : Nat} {Z : State} {h : Heap} {a0 : Array Value}
theorem own_stBlk (X : Stand p l e R s m args below meth c T locs cells slots) (hx : p.tables.exec = Jvm.exec) (hZ : Z.Warmed39 s.vm) (eT : T.heap = h) {a : Addr} {k : ClassId} (V : own_blk Z h a k) {j x : Int32} (hj : own_us (60 : Int32) j)
    {g : JFrame} (hg : g.method = m) {rest : List Value} (hs : g.stack = .int x :: .int j :: .ref a :: rest) (hd : decode c.code g.pc = .ok (.bastore, 1)) :
    ∃ (T' : State) (h' : Heap), Stand p l e R s m args below meth c T' (locs ++ [⟨a, j.toNatClampNeg⟩]) cells slots ∧ T'.heap = h' ∧ Wr h h' a j.toNatClampNeg (.int (nar .byte x)) ∧ own_blk Z h' a k ∧
      ∀ target, Steps p.tables e below (T'.setTop { g with pc := g.pc + 1, stack := rest }) target → Steps p.tables e below (T.setTop g) target := by
  obtain ⟨vs, hl, cl, A, q, S, M, H, U⟩ := id V
  have a1 := own_usE hj
  have e60 : (60 : Int32).toInt = 60 := rfl
  obtain ⟨T', h', X', e', W', st⟩ := stB X hx hZ eT A (j := j) (inb_of S ⟨hj.1, by rw [Int32.lt_iff_toInt_lt]; have e64 : (64 : Int32).toInt = 64 := rfl; omega⟩) (g := g) hg hs hd
  exact ⟨T', h', X', e', W', ⟨_, by simp [hl], Arv.set A q S M H U (fits_nar_byte _) W' j.toNatClampNeg rfl (by rw [hl]; simp only [Int32.toNatClampNeg]; omega)⟩, st⟩
theorem own_cpBlk (X : Stand p l e R s m args below meth c T locs cells slots) (hx : p.tables.exec = Jvm.exec) (hZ : Z.Warmed39 s.vm) {own : String} {index : Nat} (hown : s.vm.findClass own = some m.cls)
    (w1 : (Cond.methodLink own index Jvm.Stand.acN).before a0 Z = true) (w2 : (Cond.native Jvm.Stand.acN).before a0 Z = true) (w3 : (Cond.static Jvm.Stand.acN).before a0 Z = true) (w4 : (Cond.initialized "java/lang/System").before a0 Z = true) (eT : T.heap = h)
    {a b : Addr} {k k' : ClassId} {dp nn : Int32} {vs : List Value} {dv : Value} (A : Arv Z h a k .byte nn vs dv) (B : own_blk Z h b k') (hd : own_us (60 : Int32) dp) (hC : dp.toNatClampNeg + nn.toNatClampNeg ≤ 64) {n0 : Nat} (N : Fr n0 locs) (ge : n0 ≤ b)
    {g : JFrame} (hg : g.method = m) (hsize : g.locals.size = c.maxLocals) {rest : List Value} (hs : g.stack = .int nn :: .int dp :: .ref b :: .int (0 : Int32) :: .ref a :: rest) (hdc : decode c.code g.pc = .ok (.invokestatic index, 3))
    (hf : 1 ≤ R.frames) {W : Nat} (hW : 2 * g.monitorRoom + (rest.map fun v => v.category).sum ≤ W) (hlo : W + (nativeFrameWords "java/lang/System" "arraycopy" 5 + 11) ≤ R.locals) :
    ∃ T' h' L, Stand p l e R s m args below meth c T' L cells slots ∧ T'.heap = h' ∧ Fr n0 L ∧ Keep h h' [b] ∧ own_blk Z h' b k' ∧
      ∀ target, Steps p.tables e below (T'.setTop { g with pc := g.pc + 3, stack := rest }) target → Steps p.tables e below (T.setTop g) target := by
  obtain ⟨vd, hl, V⟩ := B
  have M : ¬ nn < 0 := by obtain ⟨cl, -, -, -, M, -⟩ := A; exact M
  have e64 : (64 : Int32).toNatClampNeg = 64 := rfl
  have e0 : (0 : Int32).toNatClampNeg = 0 := rfl
  obtain ⟨T', h', L, X', e', N', K, V', st⟩ := cpA X hx hZ hown w1 w2 w3 w4 eT A V (Or.inl ⟨rfl, rfl⟩) (sp := (0 : Int32)) (dp := dp) (nn := nn) (by decide) hd.1 M (by rw [e0]; omega) (by rw [e64]; omega) rfl (by rw [hl]; omega) N ge (g := g) hg hsize hs hdc hf hW hlo
  refine ⟨T', h', L, X', e', N', K, ⟨_, ?_, V'⟩, st⟩
  simp only [List.length_append, List.length_take, List.length_drop, List.length_map, List.length_range, hl]; omega
end Stp
theorem own_safeBlk {Z : State} {a0 : Array Value} {vm : Vm} {h : Heap} {x : Addr} {k : ClassId} (hW : Z.Warmed39 vm) (hw : HW a0 Z) (H : CHv Z EL vm h) (E : Exa Z h x "[B") (V : own_blk Z h x k) : Safe Z EL vm h x := fun B => by
  obtain ⟨vs, -, cl, A, -, S, -⟩ := V
  obtain ⟨cell, kx, e1, e2, e3, -, -⟩ := E
  have hal : Z.vm.Alike vm := hW.alike
  obtain ⟨p, hp, u, a, hb, q, -, G, rfl | rfl⟩ := B
  · cases (show h[q.sa]? = some q.sC from G.ha).symm.trans e1
    obtain ⟨cS, ⟨-, hfS, hcS⟩, -⟩ := G
    have hfS : vm.findClass "java/lang/String" = some cS := hfS
    rw [hal.findClass] at hfS
    obtain ⟨k1, q1, q2⟩ := Vm.findClass_spec hfS
    obtain ⟨k2, q3, q4⟩ := Vm.findClass_spec e2
    rw [← hcS] at q1
    cases q1.symm.trans q3
    exact absurd (q2.symm.trans q4) (by decide)
  · cases (show h[q.sd]? = some q.SA from G.hd).symm.trans A.1
    obtain ⟨cS, -, -, -, hbyt⟩ := G
    simp only [EL, List.mem_cons, List.not_mem_nil, or_false] at hp
    subst hp
    obtain ⟨c, kk, cf, i, hf, hk, hcf, hpool, hu, -⟩ := hb
    have w2 : (Cond.stringLink "com/example/realmwright/realmwright/KeycloakRoles" 52 "realm ").before a0 (Wst Z vm h) = true := mvS (s := { Z with heap := h }) hW (w_197 hw)
    obtain ⟨k0', cf', i', units, hkx, hcf', hp', hu', -, htext, -⟩ := Cond.stringLink_spec (s := Wst Z vm h) hf w2
    cases (show vm.classes[c]? = some k0' from hkx).symm.trans hk
    cases hcf'.symm.trans hcf
    cases hp'.symm.trans hpool
    obtain rfl : units = u := by have q := hu'.symm.trans hu; simpa using q
    have hlat := Jvm.ClassFile.lat_of_text htext (by decide)
    have hsl : q.SA.slots = units.map fun u => Value.int (Jvm.Lit.byteI u) := by rw [hbyt, SBG.stringBytes_lat hlat]; rfl
    have hsz : q.SA.slots.size = units.size := by rw [hsl, Array.size_map]
    have hul : units.size = 6 := by
      have := congrArg List.length (Jvm.ClassFile.units_of_text htext (by decide))
      simpa using this
    rw [hsz, hul] at S
    exact absurd S (by decide)
theorem own_eqStat {args : Array Value} {s : State} {a b : Term} {x : Addr} (ha : a.eval args s none [] s = some (.ref x)) (h : (Cond.eq a b).value args s none s [] = some true) : b.eval args s none [] s = some (.ref x) := by
  cases hb : b.eval args s none [] s with
  | none => simp [Cond.value, ha, hb] at h
  | some y =>
    simp only [Cond.value, ha, hb] at h
    cases y <;> simp at h ⊢
    exact h.symm
theorem own_eqE {args : Array Value} {s : State} {a b : Term} {y : Value} (h : (Cond.eq a b).value args s none s [] = some true) (hb : b.eval args s none [] s = some y) (hy : (∃ z, y = .int z) ∨ y.isRef = true) : a.eval args s none [] s = some y := by
  cases ha : a.eval args s none [] s with
  | none => simp [Cond.value, ha] at h
  | some x =>
    simp only [Cond.value, ha, hb] at h
    cases x <;> cases y <;> simp [Value.isRef] at h hy ⊢ <;> exact h
theorem own_arvS {args : Array Value} {s : State} {t : Term} {x : Addr} {ty : FieldType} {z : Int32} {vs : List Value} {dv : Value} (hf : Fit s) (ht : t.eval args s none [] s = some (.ref x)) (ha : (Cond.arrayOf t ty).value args s none s [] = some true) (hl : (Cond.eq (.length t) (.int z)).value args s none s [] = some true) (hz : ¬ z < 0) (hn : z.toNatClampNeg = vs.length) (hv : ∀ c : Cell, s.heap[x]? = some c → HasL c 0 vs) : ∃ k, Arv s s.heap x k ty z vs dv := by
  obtain ⟨c, A⟩ := Arr.start ht ha
  have e := own_eqE hl (Term.int_eval z) (Or.inl ⟨_, rfl⟩)
  have aat : s.arrayAt? x = some c := A.fin (Vm.Alike.refl _)
  have q : c.slots.size < 2 ^ 31 := Decidable.byContradiction fun n => by
    have e2 : (Term.length t).eval args s none [] s = none := by simp only [Term.eval, ht, aat, Option.bind_eq_bind, Option.bind_some]; exact if_neg n
    rw [e2] at e; cases e
  have e3 := (len_f ht aat q).symm.trans e
  exact ⟨_, Arv.start hf A q (by simpa using e3) hz hn (hv c A.1)⟩
def Q_rmAC (Z : State) (a1 : Addr) (h0 : Heap) (vv : Option Value) (h : Heap) (L : List Loc) : Prop := vv = none ∧ Fr Z.heap.size L ∧ h = h0
theorem ef_rmAC (m : MethodId) (x0 : Addr)   : entryFrame m #[(.ref x0)] 1 = mkF m 0 #[.val (.ref x0)] [] := rfl
theorem rmAC (l : Launch) (Z : State) (a0 : Array Value) (hw : HW a0 Z) (ws : List Cond) (a1 : Addr) (h0 : Heap) :
    MetFree l yM6 (head1 (Cond.code yM6 jdk_22_method_1_code 1 none :: ws) (⟨1, 0, 0, 12⟩ : Room)) (fun a U => a = #[(.ref a1)] ∧ Z.Warmed39 U.vm ∧ U.heap = h0) (fun _ _ _ _ _ => True) (fun _ U o U' => ∃ v L, o = .returned v ∧ Q_rmAC Z a1 h0 v U'.heap L ∧ FrameEnd U o U' L (⟨1, 0, 0, 12⟩ : Room).cells (⟨1, 0, 0, 12⟩ : Room).slots) := by
  refine MetFree.of_bodySF (plainFor_of_name (by first | (simp [plainName, overriddenIn]; done) | decide +kernel)) hisR ?_
  intro p e s m args below meth c s₁ Bd hml0 hP hK
  obtain ⟨rfl, hZ0', hh⟩ := hP
  have hx := Bd.exec
  have hby := Bd.bytes
  have hml : c.maxLocals = 1 := hml0
  have hZ0 : Z.Warmed39 s.vm := hZ0'
  have hown0 : s.vm.findClass "java/util/AbstractCollection" = some m.cls := findClass_of_methodNamed Bd.named
  have hnm := (name_of_methodNamed Bd.named Bd.method).1
  have hlk : meth.locks = false := Bd.notSynchronized
  have X0 : Stand p l e (⟨1, 0, 0, 12⟩ : Room) s m #[(.ref a1)] below meth c s₁ [] 0 0 := Stand.of_body Bd
  have e0 : s₁.heap = h0 := by rw [← hh, Bd.state]; rfl
  have N0 := Fr.nil Z.heap.size
  have KP0 : Keep h0 h0 ([] : List Addr) := Keep.refl _ _
  show Go p e below (fun t o => ∃ v L, o = .returned v ∧ Q_rmAC Z a1 h0 v t.heap L ∧ FrameEnd s o t L (⟨1, 0, 0, 12⟩ : Room).cells (⟨1, 0, 0, 12⟩ : Room).slots) (s₁.setTop (entryFrame m #[(.ref a1)] 1))
  refine Go.on (w := s₁.setTop (mkF m 0 #[rv a1] [])) (fun t k => castTop (ef_rmAC m a1) k) ?_
  obtain ⟨T1, X1, e1, st1⟩ := initO X0 hx hZ0 hown0 (w_62 hw) (w_12 hw) (w_13 hw) e0 (g := (mkF m 1 #[rv a1] [(.ref a1)])) rfl (by rw [hml]; rfl) rfl (hb hby d0_1) (by decide) (W := 0) (by show 2 * 0 + _ ≤ _; exact Nat.le_of_eq rfl) (by decide)
  refine Go.on (w := T1.setTop (mkF m 4 #[rv a1] [])) (fun t k => XS.aloadN X0.here hx rfl (hb hby d0_0) rfl rfl (st1 _ k)) ?_
  refine Go.finH X1 hlk (v := none) (fun _ => rfl) (fun fs hr => ?_) (endH (Q := Q_rmAC Z a1 h0) (by rw [e1]; exact ⟨rfl, N0, rfl⟩) (by decide) (by decide))
  exact X1.returnOut hx Bd.returns (hb hby d0_4) hr
def Q_rmAB (Z : State) (a1 : Addr) (h0 : Heap) (vv : Option Value) (h : Heap) (L : List Loc) : Prop := vv = none ∧ Fr Z.heap.size L ∧ Keep h0 h [a1] ∧ Exa Z h a1 "java/util/ArrayList" ∧ Fld Z h a1 "java/util/AbstractList" "modCount" "I" (.int 0) ∧ Fld Z h a1 "java/util/ArrayList" "elementData" "[Ljava/lang/Object;" .null ∧ Fld Z h a1 "java/util/ArrayList" "size" "I" (.int 0)
theorem ef_rmAB (m : MethodId) (x0 : Addr)   : entryFrame m #[(.ref x0)] 1 = mkF m 0 #[.val (.ref x0)] [] := rfl
theorem rmAB (l : Launch) (Z : State) (a0 : Array Value) (hw : HW a0 Z) (ws : List Cond) (a1 : Addr) (h0 : Heap) (Z0 : Z.heap.size ≤ h0.size) (lo_a1 : Z.heap.size ≤ a1) (E_a1 : Exa Z h0 a1 "java/util/ArrayList") (Fm : Fld Z h0 a1 "java/util/AbstractList" "modCount" "I" (.int 0)) (Fe : Fld Z h0 a1 "java/util/ArrayList" "elementData" "[Ljava/lang/Object;" .null) (Fs : Fld Z h0 a1 "java/util/ArrayList" "size" "I" (.int 0)) :
    MetFree l yM5 (head1 (Cond.code yM5 jdk_39_method_1_code 1 none :: ws) (⟨2, 0, 0, 24⟩ : Room)) (fun a U => a = #[(.ref a1)] ∧ Z.Warmed39 U.vm ∧ U.heap = h0) (fun _ _ _ _ _ => True) (fun _ U o U' => ∃ v L, o = .returned v ∧ Q_rmAB Z a1 h0 v U'.heap L ∧ FrameEnd U o U' L (⟨2, 0, 0, 24⟩ : Room).cells (⟨2, 0, 0, 24⟩ : Room).slots) := by
  refine MetFree.of_bodySF (plainFor_of_name (by first | (simp [plainName, overriddenIn]; done) | decide +kernel)) hisR ?_
  intro p e s m args below meth c s₁ Bd hml0 hP hK
  obtain ⟨rfl, hZ0', hh⟩ := hP
  have hx := Bd.exec
  have hby := Bd.bytes
  have hml : c.maxLocals = 1 := hml0
  have hZ0 : Z.Warmed39 s.vm := hZ0'
  have hown0 : s.vm.findClass "java/util/AbstractList" = some m.cls := findClass_of_methodNamed Bd.named
  have hnm := (name_of_methodNamed Bd.named Bd.method).1
  have hlk : meth.locks = false := Bd.notSynchronized
  have X0 : Stand p l e (⟨2, 0, 0, 24⟩ : Room) s m #[(.ref a1)] below meth c s₁ [] 0 0 := Stand.of_body Bd
  have e0 : s₁.heap = h0 := by rw [← hh, Bd.state]; rfl
  have N0 := Fr.nil Z.heap.size
  have KP0 : Keep h0 h0 ([a1] : List Addr) := Keep.refl _ _
  show Go p e below (fun t o => ∃ v L, o = .returned v ∧ Q_rmAB Z a1 h0 v t.heap L ∧ FrameEnd s o t L (⟨2, 0, 0, 24⟩ : Room).cells (⟨2, 0, 0, 24⟩ : Room).slots) (s₁.setTop (entryFrame m #[(.ref a1)] 1))
  refine Go.on (w := s₁.setTop (mkF m 0 #[rv a1] [])) (fun t k => castTop (ef_rmAB m a1) k) ?_
  have u_a1 : h0.size > a1 := E_a1.lt
  obtain ⟨v2, _, ⟨T2, L2, k2, n2⟩, -, X2, ⟨Lc2, hQ2, l2, y2, z2⟩, st2⟩ := X0.specialBack hx (y := yM6) rfl hown0 (mvT hZ0 (w_56 hw)) (mvT hZ0 (w_57 hw)) (mvT hZ0 (w_61 hw)) (by decide) (backOf (W := 0) (rmAC l Z a0 hw [] a1 h0 ) hZ0 (w_61 hw) (w_60 hw) (by decide) (by decide)) (g := (mkF m 1 #[rv a1] [(.ref a1)])) rfl (by rw [hml]; rfl) (Steps.refl _) (a := a1) (argsL := []) (rest := []) (lenOf pd_0 rfl) rfl (by show 2 * 0 + _ ≤ _; exact Nat.le_of_eq rfl) (hb hby d1_1) (fun _ _ => ⟨rfl, e0, (by decide : 0 + 0 ≤ _), (by decide : 0 + 0 ≤ _)⟩)
  dsimp only [Pt.U, Pt.locs, Pt.cells, Pt.slots] at X2 l2 y2 z2 st2 hQ2
  subst l2 y2 z2
  obtain ⟨rfl, Nq2, eh2⟩ := hQ2
  have N2 := Fr.app N0 Nq2
  obtain ⟨T3, h3, X3, e3, W3, st3⟩ := putF X2 hx hZ0 hown0 (host := "") (Or.inl (w_63 hw)) Via.refl eh2 Fm E_a1 (Or.inl (w_64 hw)) (w_45 hw) (ty := .int) (by decide) rfl rfl (g := (mkF m 6 #[rv a1] [(.int 0), (.ref a1)])) rfl rfl (hb hby d1_6)
  have z3 : h0.size ≤ h3.size := Nat.le_of_eq W3.size.symm
  have KP3 : Keep h0 h3 ([a1] : List Addr) := KP0.wr W3 (Or.inl (List.mem_of_getElem? (i := 0) rfl))
  have N3 := Fr.snoc X3 N2 (by omega)
  have Fw3 := Fm.same W3
  have F4 := (E_a1.wr W3)
  have F5 := (Fe.other W3 (Or.inr (slot_ne (Or.inl (w_67 hw)) (Or.inl (w_64 hw)) (by decide) (t := (.array (.object "java/lang/Object"))) (t' := .int) (by decide) (by decide))))
  have F6 := (Fs.other W3 (Or.inr (slot_ne (Or.inl (w_110 hw)) (Or.inl (w_64 hw)) (by decide) (t := .int) (t' := .int) (by decide) (by decide))))
  refine Go.on (w := T3.setTop (mkF m 9 #[rv a1] [])) (fun t k => XS.aloadN X0.here hx rfl (hb hby d1_0) rfl rfl (st2.trans (XS.aloadN X2.here hx rfl (hb hby d1_4) rfl rfl (XS.iconst X2.here hx rfl (hb hby d1_5) (st3 _ k))))) ?_
  refine Go.finH X3 hlk (v := none) (fun _ => rfl) (fun fs hr => ?_) (endH (Q := Q_rmAB Z a1 h0) (by rw [e3]; exact ⟨rfl, N3, KP3, F4, Fw3, F5, F6⟩) (by decide) (by decide))
  exact X3.returnOut hx Bd.returns (hb hby d1_9) hr
def Q_rmAL (Z : State) (a1 : Addr) (dd : Addr) (h0 : Heap) (vv : Option Value) (h : Heap) (L : List Loc) : Prop := vv = none ∧ Fr Z.heap.size L ∧ Keep h0 h [a1] ∧ Exa Z h a1 "java/util/ArrayList" ∧ Fld Z h a1 "java/util/AbstractList" "modCount" "I" (.int 0) ∧ Fld Z h a1 "java/util/ArrayList" "elementData" "[Ljava/lang/Object;" (.ref dd) ∧ Fld Z h a1 "java/util/ArrayList" "size" "I" (.int 0)
theorem ef_rmAL (m : MethodId) (x0 : Addr)   : entryFrame m #[(.ref x0)] 1 = mkF m 0 #[.val (.ref x0)] [] := rfl
theorem rmAL (l : Launch) (Z : State) (a0 : Array Value) (hw : HW a0 Z) (ws : List Cond) (a1 : Addr) (dd : Addr) (h0 : Heap) (Z0 : Z.heap.size ≤ h0.size) (OL : Old Z Z.heap.size h0) (OD : Sta Z Z.heap "java/util/ArrayList" "DEFAULTCAPACITY_EMPTY_ELEMENTDATA" "[Ljava/lang/Object;" (.ref dd)) (lo_a1 : Z.heap.size ≤ a1) (E_a1 : Exa Z h0 a1 "java/util/ArrayList") (Fm : Fld Z h0 a1 "java/util/AbstractList" "modCount" "I" (.int 0)) (Fe : Fld Z h0 a1 "java/util/ArrayList" "elementData" "[Ljava/lang/Object;" .null) (Fs : Fld Z h0 a1 "java/util/ArrayList" "size" "I" (.int 0)) :
    MetFree l yM4 (head1 (Cond.code yM4 jdk_38_method_2_code 1 none :: ws) (⟨3, 0, 0, 36⟩ : Room)) (fun a U => a = #[(.ref a1)] ∧ Z.Warmed39 U.vm ∧ U.heap = h0) (fun _ _ _ _ _ => True) (fun _ U o U' => ∃ v L, o = .returned v ∧ Q_rmAL Z a1 dd h0 v U'.heap L ∧ FrameEnd U o U' L (⟨3, 0, 0, 36⟩ : Room).cells (⟨3, 0, 0, 36⟩ : Room).slots) := by
  refine MetFree.of_bodySF (plainFor_of_name (by first | (simp [plainName, overriddenIn]; done) | decide +kernel)) hisR ?_
  intro p e s m args below meth c s₁ Bd hml0 hP hK
  obtain ⟨rfl, hZ0', hh⟩ := hP
  have hx := Bd.exec
  have hby := Bd.bytes
  have hml : c.maxLocals = 1 := hml0
  have hZ0 : Z.Warmed39 s.vm := hZ0'
  have hown0 : s.vm.findClass "java/util/ArrayList" = some m.cls := findClass_of_methodNamed Bd.named
  have hnm := (name_of_methodNamed Bd.named Bd.method).1
  have hlk : meth.locks = false := Bd.notSynchronized
  have X0 : Stand p l e (⟨3, 0, 0, 36⟩ : Room) s m #[(.ref a1)] below meth c s₁ [] 0 0 := Stand.of_body Bd
  have e0 : s₁.heap = h0 := by rw [← hh, Bd.state]; rfl
  have N0 := Fr.nil Z.heap.size
  have KP0 : Keep h0 h0 ([a1] : List Addr) := Keep.refl _ _
  show Go p e below (fun t o => ∃ v L, o = .returned v ∧ Q_rmAL Z a1 dd h0 v t.heap L ∧ FrameEnd s o t L (⟨3, 0, 0, 36⟩ : Room).cells (⟨3, 0, 0, 36⟩ : Room).slots) (s₁.setTop (entryFrame m #[(.ref a1)] 1))
  refine Go.on (w := s₁.setTop (mkF m 0 #[rv a1] [])) (fun t k => castTop (ef_rmAL m a1) k) ?_
  have u_a1 : h0.size > a1 := E_a1.lt
  obtain ⟨v7, _, ⟨T7, L7, k7, n7⟩, -, X7, ⟨Lc7, hQ7, l7, y7, z7⟩, st7⟩ := X0.specialBack hx (y := yM5) rfl hown0 (mvT hZ0 (w_50 hw)) (mvT hZ0 (w_51 hw)) (mvT hZ0 (w_55 hw)) (by decide) (backOf (W := 0) (rmAB l Z a0 hw [] a1 h0 (by omega) (by omega) E_a1 Fm Fe Fs) hZ0 (w_55 hw) (w_54 hw) (by decide) (by decide)) (g := (mkF m 1 #[rv a1] [(.ref a1)])) rfl (by rw [hml]; rfl) (Steps.refl _) (a := a1) (argsL := []) (rest := []) (lenOf pd_0 rfl) rfl (by show 2 * 0 + _ ≤ _; exact Nat.le_of_eq rfl) (hb hby d2_1) (fun _ _ => ⟨rfl, e0, (by decide : 0 + 0 ≤ _), (by decide : 0 + 0 ≤ _)⟩)
  dsimp only [Pt.U, Pt.locs, Pt.cells, Pt.slots] at X7 l7 y7 z7 st7 hQ7
  subst l7 y7 z7
  obtain ⟨rfl, Nq7, K7, f7_0, f7_1, f7_2, f7_3⟩ := hQ7
  have N7 := Fr.app N0 Nq7
  have eK7 : T7.heap = T7.heap := rfl
  have z7 : h0.size ≤ T7.heap.size := K7.1
  have KP7 : Keep h0 T7.heap ([a1] : List Addr) := KP0.trans K7 (allS (P := fun zq => zq ∈ ([a1] : List Addr) ∨ h0.size ≤ zq) (Or.inl (List.mem_of_getElem? (i := 0) rfl)) all0)
  have F9 := (OL.keep K7 (allS (by omega) all0))
  obtain ⟨T8, X8, e8, st8⟩ := getS2 X7 hx hZ0 hown0 (host := "") (Or.inl (w_65 hw)) Via.refl eK7 (OD.ext F9.2) (g := (mkF m 5 #[rv a1] [(.ref a1)])) rfl (hb hby d2_5)
  obtain ⟨T10, h10, X10, e10, W10, st10⟩ := putF X8 hx hZ0 hown0 (host := "") (Or.inl (w_66 hw)) Via.refl e8 f7_2 f7_0 (Or.inl (w_67 hw)) (w_45 hw) (ty := (.array (.object "java/lang/Object"))) (by decide) rfl rfl (g := (mkF m 8 #[rv a1] [(.ref dd), (.ref a1)])) rfl rfl (hb hby d2_8)
  have z10 : T7.heap.size ≤ h10.size := Nat.le_of_eq W10.size.symm
  have KP10 : Keep h0 h10 ([a1] : List Addr) := KP7.wr W10 (Or.inl (List.mem_of_getElem? (i := 0) rfl))
  have N10 := Fr.snoc X10 N7 (by omega)
  have Fw10 := f7_2.same W10
  have F11 := (f7_0.wr W10)
  have F12 := (f7_1.other W10 (Or.inr (slot_ne (Or.inl (w_64 hw)) (Or.inl (w_67 hw)) (by decide) (t := .int) (t' := (.array (.object "java/lang/Object"))) (by decide) (by decide))))
  have F13 := (f7_3.other W10 (Or.inr (slot_ne (Or.inl (w_110 hw)) (Or.inl (w_67 hw)) (by decide) (t := .int) (t' := (.array (.object "java/lang/Object"))) (by decide) (by decide))))
  refine Go.on (w := T10.setTop (mkF m 11 #[rv a1] [])) (fun t k => XS.aloadN X0.here hx rfl (hb hby d2_0) rfl rfl (st7.trans (XS.aloadN X7.here hx rfl (hb hby d2_4) rfl rfl (st8 _ (st10 _ k))))) ?_
  refine Go.finH X10 hlk (v := none) (fun _ => rfl) (fun fs hr => ?_) (endH (Q := Q_rmAL Z a1 dd h0) (by rw [e10]; exact ⟨rfl, N10, KP10, F11, F12, Fw10, F13⟩) (by decide) (by decide))
  exact X10.returnOut hx Bd.returns (hb hby d2_11) hr
def Q_rmBL (Z : State) (a1 : Addr) (dd : Addr) (h0 : Heap) (vv : Option Value) (h : Heap) (L : List Loc) : Prop := ∃ (al : Addr), vv = none ∧ Fr Z.heap.size L ∧ Keep h0 h [a1] ∧ (h0.size ≤ al) ∧ Exa Z h a1 "com/example/realmwright/realmwright/ByteLog" ∧ Fld Z h a1 "com/example/realmwright/realmwright/ByteLog" "blocks" "Ljava/util/List;" (.ref al) ∧ Fld Z h a1 "com/example/realmwright/realmwright/ByteLog" "used" "I" (.int 0) ∧ Exa Z h al "java/util/ArrayList" ∧ Fld Z h al "java/util/AbstractList" "modCount" "I" (.int 0) ∧ Fld Z h al "java/util/ArrayList" "elementData" "[Ljava/lang/Object;" (.ref dd) ∧ Fld Z h al "java/util/ArrayList" "size" "I" (.int 0)
theorem ef_rmBL (m : MethodId) (x0 : Addr)   : entryFrame m #[(.ref x0)] 1 = mkF m 0 #[.val (.ref x0)] [] := rfl
theorem rmBL (l : Launch) (Z : State) (a0 : Array Value) (hw : HW a0 Z) (ws : List Cond) (a1 : Addr) (dd : Addr) (h0 : Heap) (Z0 : Z.heap.size ≤ h0.size) (OL : Old Z Z.heap.size h0) (OD : Sta Z Z.heap "java/util/ArrayList" "DEFAULTCAPACITY_EMPTY_ELEMENTDATA" "[Ljava/lang/Object;" (.ref dd)) (lo_a1 : Z.heap.size ≤ a1) (E_a1 : Exa Z h0 a1 "com/example/realmwright/realmwright/ByteLog") (Fb : Fld Z h0 a1 "com/example/realmwright/realmwright/ByteLog" "blocks" "Ljava/util/List;" .null) (Fu : Fld Z h0 a1 "com/example/realmwright/realmwright/ByteLog" "used" "I" (.int 0)) :
    MetFree l yM3 (head1 (Cond.code yM3 prog_1_method_1_code 1 none :: ws) (⟨4, 1, 3, 50⟩ : Room)) (fun a U => a = #[(.ref a1)] ∧ Z.Warmed39 U.vm ∧ U.heap = h0) (fun _ _ _ _ _ => True) (fun _ U o U' => ∃ v L, o = .returned v ∧ Q_rmBL Z a1 dd h0 v U'.heap L ∧ FrameEnd U o U' L (⟨4, 1, 3, 50⟩ : Room).cells (⟨4, 1, 3, 50⟩ : Room).slots) := by
  refine MetFree.of_bodySF (plainFor_of_name (by first | (simp [plainName, overriddenIn]; done) | decide +kernel)) hisR ?_
  intro p e s m args below meth c s₁ Bd hml0 hP hK
  obtain ⟨rfl, hZ0', hh⟩ := hP
  have hx := Bd.exec
  have hby := Bd.bytes
  have hml : c.maxLocals = 1 := hml0
  have hZ0 : Z.Warmed39 s.vm := hZ0'
  have hown0 : s.vm.findClass "com/example/realmwright/realmwright/ByteLog" = some m.cls := findClass_of_methodNamed Bd.named
  have hnm := (name_of_methodNamed Bd.named Bd.method).1
  have hlk : meth.locks = false := Bd.notSynchronized
  have X0 : Stand p l e (⟨4, 1, 3, 50⟩ : Room) s m #[(.ref a1)] below meth c s₁ [] 0 0 := Stand.of_body Bd
  have e0 : s₁.heap = h0 := by rw [← hh, Bd.state]; rfl
  have N0 := Fr.nil Z.heap.size
  have KP0 : Keep h0 h0 ([a1] : List Addr) := Keep.refl _ _
  show Go p e below (fun t o => ∃ v L, o = .returned v ∧ Q_rmBL Z a1 dd h0 v t.heap L ∧ FrameEnd s o t L (⟨4, 1, 3, 50⟩ : Room).cells (⟨4, 1, 3, 50⟩ : Room).slots) (s₁.setTop (entryFrame m #[(.ref a1)] 1))
  refine Go.on (w := s₁.setTop (mkF m 0 #[rv a1] [])) (fun t k => castTop (ef_rmBL m a1) k) ?_
  have u_a1 : h0.size > a1 := E_a1.lt
  obtain ⟨T14, X14, e14, st14⟩ := initO X0 hx hZ0 hown0 (w_43 hw) (w_12 hw) (w_13 hw) e0 (g := (mkF m 1 #[rv a1] [(.ref a1)])) rfl (by rw [hml]; rfl) rfl (hb hby d3_1) (by decide) (W := 0) (by show 2 * 0 + _ ≤ _; exact Nat.le_of_eq rfl) (by decide)
  obtain ⟨T15, h15, X15, e15, E15, A15, D15, -, st15⟩ := newO X14 hx hZ0 hown0 (w_44 hw) (w_45 hw) (w_46 hw) e14 (g := (mkF m 5 #[rv a1] [(.ref a1)])) rfl (hb hby d3_5) (by decide) (by decide)
  obtain ⟨b15, g15⟩ : ∃ z, z = h0.size := ⟨_, rfl⟩
  rw [← g15] at A15 D15 st15
  have u15 : h15.size > b15 := A15.lt
  have z15 : h0.size ≤ h15.size := E15.1
  have KP15 : Keep h0 h15 ([a1] : List Addr) := KP0.ext E15
  have Fn15_64 : Fld Z h15 b15 "java/util/AbstractList" "modCount" "I" (.int 0) := D15 (Or.inl (w_64 hw)) (ty := .int) (by decide)
  have Fn15_67 : Fld Z h15 b15 "java/util/ArrayList" "elementData" "[Ljava/lang/Object;" .null := D15 (Or.inl (w_67 hw)) (ty := (.array (.object "java/lang/Object"))) (by decide)
  have Fn15_110 : Fld Z h15 b15 "java/util/ArrayList" "size" "I" (.int 0) := D15 (Or.inl (w_110 hw)) (ty := .int) (by decide)
  have F17 := (OL.ext E15)
  obtain ⟨v16, _, ⟨T16, L16, k16, n16⟩, -, X16, ⟨Lc16, hQ16, l16, y16, z16⟩, st16⟩ := X15.specialBack hx (y := yM4) rfl hown0 (mvT hZ0 (w_47 hw)) (mvT hZ0 (w_48 hw)) (mvT hZ0 (w_49 hw)) (by decide) (backOf (W := 2) (rmAL l Z a0 hw [] b15 dd h15 (by omega) F17 OD (by omega) A15 Fn15_64 Fn15_67 Fn15_110) hZ0 (w_49 hw) (w_46 hw) (by decide) (by decide)) (g := (mkF m 9 #[rv a1] [(.ref b15), (.ref b15), (.ref a1)])) rfl (by rw [hml]; rfl) (Steps.refl _) (a := b15) (argsL := []) (rest := [(.ref b15), (.ref a1)]) (lenOf pd_0 rfl) rfl (by show 2 * 0 + _ ≤ _; exact Nat.le_of_eq rfl) (hb hby d3_9) (fun _ _ => ⟨rfl, e15, (by decide : 1 + 0 ≤ _), (by decide : 3 + 0 ≤ _)⟩)
  dsimp only [Pt.U, Pt.locs, Pt.cells, Pt.slots] at X16 l16 y16 z16 st16 hQ16
  subst l16 y16 z16
  obtain ⟨rfl, Nq16, K16, f16_0, f16_1, f16_2, f16_3⟩ := hQ16
  have N16 := Fr.app N0 Nq16
  have eK16 : T16.heap = T16.heap := rfl
  have z16 : h15.size ≤ T16.heap.size := K16.1
  have KP16 : Keep h0 T16.heap ([a1] : List Addr) := KP15.trans K16 (allS (P := fun zq => zq ∈ ([a1] : List Addr) ∨ h0.size ≤ zq) (Or.inr (by omega)) all0)
  have F18 := ((E_a1.ext E15).keep K16)
  have F19 := ((Fb.ext E15).keep K16 (ninS (show @Ne Nat a1 b15 by omega) nin0))
  obtain ⟨T20, h20, X20, e20, W20, st20⟩ := putF X16 hx hZ0 hown0 (host := "") (Or.inl (w_68 hw)) Via.refl eK16 F19 F18 (Or.inr ⟨(w_69 hw), rfl, hnm⟩) (w_38 hw) (ty := (.object "java/util/List")) (by decide) rfl rfl (g := (mkF m 12 #[rv a1] [(.ref b15), (.ref a1)])) rfl rfl (hb hby d3_12)
  have z20 : T16.heap.size ≤ h20.size := Nat.le_of_eq W20.size.symm
  have KP20 : Keep h0 h20 ([a1] : List Addr) := KP16.wr W20 (Or.inl (List.mem_of_getElem? (i := 0) rfl))
  have N20 := Fr.snoc X20 N16 (by omega)
  have Fw20 := F19.same W20
  have F21 := (F18.wr W20)
  have F22 := (((Fu.ext E15).keep K16 (ninS (show @Ne Nat a1 b15 by omega) nin0)).other W20 (Or.inr (slot_ne (Or.inl (w_175 hw)) (Or.inr (w_69 hw)) (by decide) (t := .int) (t' := (.object "java/util/List")) (by decide) (by decide))))
  have F23 := (f16_0.wr W20)
  have F24 := (f16_1.other W20 (Or.inl (show @Ne Nat b15 a1 by omega)))
  have F25 := (f16_2.other W20 (Or.inl (show @Ne Nat b15 a1 by omega)))
  have F26 := (f16_3.other W20 (Or.inl (show @Ne Nat b15 a1 by omega)))
  refine Go.on (w := T20.setTop (mkF m 15 #[rv a1] [])) (fun t k => XS.aloadN X0.here hx rfl (hb hby d3_0) rfl rfl (st14 _ (XS.aloadN X14.here hx rfl (hb hby d3_4) rfl rfl (st15 _ (XS.dup X15.here hx rfl (hb hby d3_8) rfl rfl (st16.trans (st20 _ k))))))) ?_
  refine Go.finH X20 hlk (v := none) (fun _ => rfl) (fun fs hr => ?_) (endH (Q := Q_rmBL Z a1 dd h0) (by rw [e20]; exact ⟨b15, rfl, N20, KP20, (by omega), F21, Fw20, F22, F23, F24, F25, F26⟩) (by decide) (by decide))
  exact X20.returnOut hx Bd.returns (hb hby d3_15) hr
def Q_rmKR (Z : State) (a1 : Addr) (dd : Addr) (h0 : Heap) (vv : Option Value) (h : Heap) (L : List Loc) : Prop := ∃ (bl : Addr) (al : Addr), vv = none ∧ Fr Z.heap.size L ∧ Keep h0 h [a1] ∧ (h0.size ≤ bl) ∧ (h0.size ≤ al) ∧ (@Ne Nat al bl) ∧ Exa Z h a1 "com/example/realmwright/realmwright/KeycloakRoles" ∧ Fld Z h a1 "com/example/realmwright/realmwright/KeycloakRoles" "groups" "Lcom/example/realmwright/realmwright/ByteLog;" (.ref bl) ∧ Fld Z h a1 "com/example/realmwright/realmwright/KeycloakRoles" "groupCount" "I" (.int 0) ∧ Exa Z h bl "com/example/realmwright/realmwright/ByteLog" ∧ Fld Z h bl "com/example/realmwright/realmwright/ByteLog" "blocks" "Ljava/util/List;" (.ref al) ∧ Fld Z h bl "com/example/realmwright/realmwright/ByteLog" "used" "I" (.int 0) ∧ Exa Z h al "java/util/ArrayList" ∧ Fld Z h al "java/util/AbstractList" "modCount" "I" (.int 0) ∧ Fld Z h al "java/util/ArrayList" "elementData" "[Ljava/lang/Object;" (.ref dd) ∧ Fld Z h al "java/util/ArrayList" "size" "I" (.int 0)
theorem ef_rmKR (m : MethodId) (x0 : Addr)   : entryFrame m #[(.ref x0)] 1 = mkF m 0 #[.val (.ref x0)] [] := rfl
theorem rmKR (l : Launch) (Z : State) (a0 : Array Value) (hw : HW a0 Z) (ws : List Cond) (a1 : Addr) (dd : Addr) (h0 : Heap) (Z0 : Z.heap.size ≤ h0.size) (OL : Old Z Z.heap.size h0) (OD : Sta Z Z.heap "java/util/ArrayList" "DEFAULTCAPACITY_EMPTY_ELEMENTDATA" "[Ljava/lang/Object;" (.ref dd)) (lo_a1 : Z.heap.size ≤ a1) (E_a1 : Exa Z h0 a1 "com/example/realmwright/realmwright/KeycloakRoles") (Fc : Fld Z h0 a1 "com/example/realmwright/realmwright/KeycloakRoles" "composites" "Lcom/example/realmwright/realmwright/ByteLog;" .null) (Fg : Fld Z h0 a1 "com/example/realmwright/realmwright/KeycloakRoles" "groups" "Lcom/example/realmwright/realmwright/ByteLog;" .null) (Fn : Fld Z h0 a1 "com/example/realmwright/realmwright/KeycloakRoles" "groupCount" "I" (.int 0)) :
    MetFree l yM2 (head1 (Cond.code yM2 prog_22_method_1_code 1 none :: ws) (⟨5, 4, 10, 64⟩ : Room)) (fun a U => a = #[(.ref a1)] ∧ Z.Warmed39 U.vm ∧ U.heap = h0) (fun _ _ _ _ _ => True) (fun _ U o U' => ∃ v L, o = .returned v ∧ Q_rmKR Z a1 dd h0 v U'.heap L ∧ FrameEnd U o U' L (⟨5, 4, 10, 64⟩ : Room).cells (⟨5, 4, 10, 64⟩ : Room).slots) := by
  refine MetFree.of_bodySF (plainFor_of_name (by first | (simp [plainName, overriddenIn]; done) | decide +kernel)) hisR ?_
  intro p e s m args below meth c s₁ Bd hml0 hP hK
  obtain ⟨rfl, hZ0', hh⟩ := hP
  have hx := Bd.exec
  have hby := Bd.bytes
  have hml : c.maxLocals = 1 := hml0
  have hZ0 : Z.Warmed39 s.vm := hZ0'
  have hown0 : s.vm.findClass "com/example/realmwright/realmwright/KeycloakRoles" = some m.cls := findClass_of_methodNamed Bd.named
  have hnm := (name_of_methodNamed Bd.named Bd.method).1
  have hlk : meth.locks = false := Bd.notSynchronized
  have X0 : Stand p l e (⟨5, 4, 10, 64⟩ : Room) s m #[(.ref a1)] below meth c s₁ [] 0 0 := Stand.of_body Bd
  have e0 : s₁.heap = h0 := by rw [← hh, Bd.state]; rfl
  have N0 := Fr.nil Z.heap.size
  have KP0 : Keep h0 h0 ([a1] : List Addr) := Keep.refl _ _
  show Go p e below (fun t o => ∃ v L, o = .returned v ∧ Q_rmKR Z a1 dd h0 v t.heap L ∧ FrameEnd s o t L (⟨5, 4, 10, 64⟩ : Room).cells (⟨5, 4, 10, 64⟩ : Room).slots) (s₁.setTop (entryFrame m #[(.ref a1)] 1))
  refine Go.on (w := s₁.setTop (mkF m 0 #[rv a1] [])) (fun t k => castTop (ef_rmKR m a1) k) ?_
  have u_a1 : h0.size > a1 := E_a1.lt
  obtain ⟨T27, X27, e27, st27⟩ := initO X0 hx hZ0 hown0 (w_36 hw) (w_12 hw) (w_13 hw) e0 (g := (mkF m 1 #[rv a1] [(.ref a1)])) rfl (by rw [hml]; rfl) rfl (hb hby d4_1) (by decide) (W := 0) (by show 2 * 0 + _ ≤ _; exact Nat.le_of_eq rfl) (by decide)
  obtain ⟨T28, h28, X28, e28, E28, A28, D28, -, st28⟩ := newO X27 hx hZ0 hown0 (w_37 hw) (w_38 hw) (w_39 hw) e27 (g := (mkF m 5 #[rv a1] [(.ref a1)])) rfl (hb hby d4_5) (by decide) (by decide)
  obtain ⟨b28, g28⟩ : ∃ z, z = h0.size := ⟨_, rfl⟩
  rw [← g28] at A28 D28 st28
  have u28 : h28.size > b28 := A28.lt
  have z28 : h0.size ≤ h28.size := E28.1
  have KP28 : Keep h0 h28 ([a1] : List Addr) := KP0.ext E28
  have Fn28_69 : Fld Z h28 b28 "com/example/realmwright/realmwright/ByteLog" "blocks" "Ljava/util/List;" .null := D28 (Or.inr (w_69 hw)) (ty := (.object "java/util/List")) (by decide)
  have Fn28_175 : Fld Z h28 b28 "com/example/realmwright/realmwright/ByteLog" "used" "I" (.int 0) := D28 (Or.inl (w_175 hw)) (ty := .int) (by decide)
  have F30 := (OL.ext E28)
  obtain ⟨v29, _, ⟨T29, L29, k29, n29⟩, -, X29, ⟨Lc29, hQ29, l29, y29, z29⟩, st29⟩ := X28.specialBack hx (y := yM3) rfl hown0 (mvT hZ0 (w_40 hw)) (mvT hZ0 (w_41 hw)) (mvT hZ0 (w_42 hw)) (by decide) (backOf (W := 2) (rmBL l Z a0 hw [] b28 dd h28 (by omega) F30 OD (by omega) A28 Fn28_69 Fn28_175) hZ0 (w_42 hw) (w_39 hw) (by decide) (by decide)) (g := (mkF m 9 #[rv a1] [(.ref b28), (.ref b28), (.ref a1)])) rfl (by rw [hml]; rfl) (Steps.refl _) (a := b28) (argsL := []) (rest := [(.ref b28), (.ref a1)]) (lenOf pd_0 rfl) rfl (by show 2 * 0 + _ ≤ _; exact Nat.le_of_eq rfl) (hb hby d4_9) (fun _ _ => ⟨rfl, e28, (by decide : 1 + 1 ≤ _), (by decide : 2 + 3 ≤ _)⟩)
  dsimp only [Pt.U, Pt.locs, Pt.cells, Pt.slots] at X29 l29 y29 z29 st29 hQ29
  subst l29 y29 z29
  obtain ⟨al_29, rfl, Nq29, K29, f29_0, f29_1, f29_2, f29_3, f29_4, f29_5, f29_6, f29_7⟩ := hQ29
  have N29 := Fr.app N0 Nq29
  have eK29 : T29.heap = T29.heap := rfl
  have z29 : h28.size ≤ T29.heap.size := K29.1
  have KP29 : Keep h0 T29.heap ([a1] : List Addr) := KP28.trans K29 (allS (P := fun zq => zq ∈ ([a1] : List Addr) ∨ h0.size ≤ zq) (Or.inr (by omega)) all0)
  have u29_4 : T29.heap.size > al_29 := f29_4.lt
  have F31 := ((E_a1.ext E28).keep K29)
  have F32 := ((Fc.ext E28).keep K29 (ninS (show @Ne Nat a1 b28 by omega) nin0))
  obtain ⟨T33, h33, X33, e33, W33, st33⟩ := putF X29 hx hZ0 hown0 (host := "") (Or.inl (w_70 hw)) Via.refl eK29 F32 F31 (Or.inr ⟨(w_71 hw), rfl, hnm⟩) (w_31 hw) (ty := (.object "com/example/realmwright/realmwright/ByteLog")) (by decide) rfl rfl (g := (mkF m 12 #[rv a1] [(.ref b28), (.ref a1)])) rfl rfl (hb hby d4_12)
  have z33 : T29.heap.size ≤ h33.size := Nat.le_of_eq W33.size.symm
  have KP33 : Keep h0 h33 ([a1] : List Addr) := KP29.wr W33 (Or.inl (List.mem_of_getElem? (i := 0) rfl))
  have N33 := Fr.snoc X33 N29 (by omega)
  have Fw33 := F32.same W33
  obtain ⟨T34, h34, X34, e34, E34, A34, D34, -, st34⟩ := newO X33 hx hZ0 hown0 (w_37 hw) (w_38 hw) (w_39 hw) e33 (g := (mkF m 16 #[rv a1] [(.ref a1)])) rfl (hb hby d4_16) (by decide) (by decide)
  obtain ⟨b34, g34⟩ : ∃ z, z = h33.size := ⟨_, rfl⟩
  rw [← g34] at A34 D34 st34
  have u34 : h34.size > b34 := A34.lt
  have z34 : h33.size ≤ h34.size := E34.1
  have KP34 : Keep h0 h34 ([a1] : List Addr) := KP33.ext E34
  have Fn34_69 : Fld Z h34 b34 "com/example/realmwright/realmwright/ByteLog" "blocks" "Ljava/util/List;" .null := D34 (Or.inr (w_69 hw)) (ty := (.object "java/util/List")) (by decide)
  have Fn34_175 : Fld Z h34 b34 "com/example/realmwright/realmwright/ByteLog" "used" "I" (.int 0) := D34 (Or.inl (w_175 hw)) (ty := .int) (by decide)
  have F36 := (((F30.keep K29 (allS (by omega) all0)).wr W33 (by omega)).ext E34)
  obtain ⟨v35, _, ⟨T35, L35, k35, n35⟩, -, X35, ⟨Lc35, hQ35, l35, y35, z35⟩, st35⟩ := X34.specialBack hx (y := yM3) rfl hown0 (mvT hZ0 (w_40 hw)) (mvT hZ0 (w_41 hw)) (mvT hZ0 (w_42 hw)) (by decide) (backOf (W := 2) (rmBL l Z a0 hw [] b34 dd h34 (by omega) F36 OD (by omega) A34 Fn34_69 Fn34_175) hZ0 (w_42 hw) (w_39 hw) (by decide) (by decide)) (g := (mkF m 20 #[rv a1] [(.ref b34), (.ref b34), (.ref a1)])) rfl (by rw [hml]; rfl) (Steps.refl _) (a := b34) (argsL := []) (rest := [(.ref b34), (.ref a1)]) (lenOf pd_0 rfl) rfl (by show 2 * 0 + _ ≤ _; exact Nat.le_of_eq rfl) (hb hby d4_20) (fun _ _ => ⟨rfl, e34, (by decide : 3 + 1 ≤ _), (by decide : 7 + 3 ≤ _)⟩)
  dsimp only [Pt.U, Pt.locs, Pt.cells, Pt.slots] at X35 l35 y35 z35 st35 hQ35
  subst l35 y35 z35
  obtain ⟨al_35, rfl, Nq35, K35, f35_0, f35_1, f35_2, f35_3, f35_4, f35_5, f35_6, f35_7⟩ := hQ35
  have N35 := Fr.app N33 Nq35
  have eK35 : T35.heap = T35.heap := rfl
  have z35 : h34.size ≤ T35.heap.size := K35.1
  have KP35 : Keep h0 T35.heap ([a1] : List Addr) := KP34.trans K35 (allS (P := fun zq => zq ∈ ([a1] : List Addr) ∨ h0.size ≤ zq) (Or.inr (by omega)) all0)
  have u35_4 : T35.heap.size > al_35 := f35_4.lt
  have F37 := (((F31.wr W33).ext E34).keep K35)
  have F38 := (((((Fg.ext E28).keep K29 (ninS (show @Ne Nat a1 b28 by omega) nin0)).other W33 (Or.inr (slot_ne (Or.inr (w_73 hw)) (Or.inr (w_71 hw)) (by decide) (t := (.object "com/example/realmwright/realmwright/ByteLog")) (t' := (.object "com/example/realmwright/realmwright/ByteLog")) (by decide) (by decide)))).ext E34).keep K35 (ninS (show @Ne Nat a1 b34 by omega) nin0))
  obtain ⟨T39, h39, X39, e39, W39, st39⟩ := putF X35 hx hZ0 hown0 (host := "") (Or.inl (w_72 hw)) Via.refl eK35 F38 F37 (Or.inr ⟨(w_73 hw), rfl, hnm⟩) (w_31 hw) (ty := (.object "com/example/realmwright/realmwright/ByteLog")) (by decide) rfl rfl (g := (mkF m 23 #[rv a1] [(.ref b34), (.ref a1)])) rfl rfl (hb hby d4_23)
  have z39 : T35.heap.size ≤ h39.size := Nat.le_of_eq W39.size.symm
  have KP39 : Keep h0 h39 ([a1] : List Addr) := KP35.wr W39 (Or.inl (List.mem_of_getElem? (i := 0) rfl))
  have N39 := Fr.snoc X39 N35 (by omega)
  have Fw39 := F38.same W39
  have F40 := (F37.wr W39)
  have F41 := ((((((Fn.ext E28).keep K29 (ninS (show @Ne Nat a1 b28 by omega) nin0)).other W33 (Or.inr (slot_ne (Or.inl (w_80 hw)) (Or.inr (w_71 hw)) (by decide) (t := .int) (t' := (.object "com/example/realmwright/realmwright/ByteLog")) (by decide) (by decide)))).ext E34).keep K35 (ninS (show @Ne Nat a1 b34 by omega) nin0)).other W39 (Or.inr (slot_ne (Or.inl (w_80 hw)) (Or.inr (w_73 hw)) (by decide) (t := .int) (t' := (.object "com/example/realmwright/realmwright/ByteLog")) (by decide) (by decide))))
  have F42 := (f35_1.wr W39)
  have F43 := (f35_2.other W39 (Or.inl (show @Ne Nat b34 a1 by omega)))
  have F44 := (f35_3.other W39 (Or.inl (show @Ne Nat b34 a1 by omega)))
  have F45 := (f35_4.wr W39)
  have F46 := (f35_5.other W39 (Or.inl (show @Ne Nat al_35 a1 by omega)))
  have F47 := (f35_6.other W39 (Or.inl (show @Ne Nat al_35 a1 by omega)))
  have F48 := (f35_7.other W39 (Or.inl (show @Ne Nat al_35 a1 by omega)))
  refine Go.on (w := T39.setTop (mkF m 26 #[rv a1] [])) (fun t k => XS.aloadN X0.here hx rfl (hb hby d4_0) rfl rfl (st27 _ (XS.aloadN X27.here hx rfl (hb hby d4_4) rfl rfl (st28 _ (XS.dup X28.here hx rfl (hb hby d4_8) rfl rfl (st29.trans (st33 _ (XS.aloadN X33.here hx rfl (hb hby d4_15) rfl rfl (st34 _ (XS.dup X34.here hx rfl (hb hby d4_19) rfl rfl (st35.trans (st39 _ k)))))))))))) ?_
  refine Go.finH X39 hlk (v := none) (fun _ => rfl) (fun fs hr => ?_) (endH (Q := Q_rmKR Z a1 dd h0) (by rw [e39]; exact ⟨b34, al_35, rfl, N39, KP39, (by omega), (by omega), (by omega), F40, Fw39, F41, F42, F43, F44, F45, F46, F47, F48⟩) (by decide) (by decide))
  exact X39.returnOut hx Bd.returns (hb hby d4_26) hr
def Q_rmBg0 (Z : State) (a1 : Addr) (bl : Addr) (h0 : Heap) (vv : Option Value) (h : Heap) (L : List Loc) : Prop := vv = some (.int 0) ∧ Fr Z.heap.size L ∧ Keep h0 h [a1] ∧ Exa Z h a1 "com/example/realmwright/realmwright/KeycloakRoles" ∧ Fld Z h a1 "com/example/realmwright/realmwright/KeycloakRoles" "groupCount" "I" (.int 1) ∧ Fld Z h a1 "com/example/realmwright/realmwright/KeycloakRoles" "groups" "Lcom/example/realmwright/realmwright/ByteLog;" (.ref bl)
theorem ef_rmBg0 (m : MethodId) (x0 : Addr)   : entryFrame m #[(.ref x0)] 1 = mkF m 0 #[.val (.ref x0)] [] := rfl
theorem rmBg0 (l : Launch) (Z : State) (a0 : Array Value) (hw : HW a0 Z) (ws : List Cond) (a1 : Addr) (bl : Addr) (h0 : Heap) (Z0 : Z.heap.size ≤ h0.size) (lo_a1 : Z.heap.size ≤ a1) (E_a1 : Exa Z h0 a1 "com/example/realmwright/realmwright/KeycloakRoles") (Fn : Fld Z h0 a1 "com/example/realmwright/realmwright/KeycloakRoles" "groupCount" "I" (.int 0)) (Fg : Fld Z h0 a1 "com/example/realmwright/realmwright/KeycloakRoles" "groups" "Lcom/example/realmwright/realmwright/ByteLog;" (.ref bl)) :
    MetFree l yM7 (head1 (Cond.code yM7 prog_22_method_4_code 1 (some .int) :: ws) (⟨0, 0, 0, 0⟩ : Room)) (fun a U => a = #[(.ref a1)] ∧ Z.Warmed39 U.vm ∧ U.heap = h0) (fun _ _ _ _ _ => True) (fun _ U o U' => ∃ v L, o = .returned v ∧ Q_rmBg0 Z a1 bl h0 v U'.heap L ∧ FrameEnd U o U' L (⟨0, 0, 0, 0⟩ : Room).cells (⟨0, 0, 0, 0⟩ : Room).slots) := by
  refine MetFree.of_bodySF (plainFor_of_name (by first | (simp [plainName, overriddenIn]; done) | decide +kernel)) hisR ?_
  intro p e s m args below meth c s₁ Bd hml0 hP hK
  obtain ⟨rfl, hZ0', hh⟩ := hP
  have hx := Bd.exec
  have hby := Bd.bytes
  have hml : c.maxLocals = 1 := hml0
  have hZ0 : Z.Warmed39 s.vm := hZ0'
  have hown0 : s.vm.findClass "com/example/realmwright/realmwright/KeycloakRoles" = some m.cls := findClass_of_methodNamed Bd.named
  have hnm := (name_of_methodNamed Bd.named Bd.method).1
  have hlk : meth.locks = false := Bd.notSynchronized
  have X0 : Stand p l e (⟨0, 0, 0, 0⟩ : Room) s m #[(.ref a1)] below meth c s₁ [] 0 0 := Stand.of_body Bd
  have e0 : s₁.heap = h0 := by rw [← hh, Bd.state]; rfl
  have N0 := Fr.nil Z.heap.size
  have KP0 : Keep h0 h0 ([a1] : List Addr) := Keep.refl _ _
  show Go p e below (fun t o => ∃ v L, o = .returned v ∧ Q_rmBg0 Z a1 bl h0 v t.heap L ∧ FrameEnd s o t L (⟨0, 0, 0, 0⟩ : Room).cells (⟨0, 0, 0, 0⟩ : Room).slots) (s₁.setTop (entryFrame m #[(.ref a1)] 1))
  refine Go.on (w := s₁.setTop (mkF m 0 #[rv a1] [])) (fun t k => castTop (ef_rmBg0 m a1) k) ?_
  have u_a1 : h0.size > a1 := E_a1.lt
  obtain ⟨T49, X49, e49, st49⟩ := getF X0 hx hZ0 hown0 (host := "") (Or.inl (w_79 hw)) Via.refl e0 Fn (g := (mkF m 2 #[rv a1] [(.ref a1), (.ref a1)])) rfl rfl (hb hby d5_2)
  refine Go.on (w := T49.setTop (mkF m 7 #[rv a1] [(.int 1), (.int 0), (.ref a1), (.int 0)])) (fun t k => XS.aloadN X0.here hx rfl (hb hby d5_0) rfl rfl (XS.dup X0.here hx rfl (hb hby d5_1) rfl rfl (st49 _ (XS.dupX1 X49.here hx rfl (hb hby d5_5) rfl rfl rfl (XS.iconst X49.here hx rfl (hb hby d5_6) k))))) ?_
  refine Go.on (w := T49.setTop (mkF m 8 #[rv a1] [(.int 1), (.ref a1), (.int 0)])) (fun t k => XS.iadd X49.here hx rfl (hb hby d5_7) rfl (by rw [(by decide : ((0 : Int32) + (1 : Int32)) = (1 : Int32))]; exact k)) ?_
  obtain ⟨T50, h50, X50, e50, W50, st50⟩ := putF X49 hx hZ0 hown0 (host := "") (Or.inl (w_79 hw)) Via.refl e49 Fn E_a1 (Or.inl (w_80 hw)) (w_31 hw) (ty := .int) (by decide) rfl rfl (g := (mkF m 8 #[rv a1] [(.int 1), (.ref a1), (.int 0)])) rfl rfl (hb hby d5_8)
  have z50 : h0.size ≤ h50.size := Nat.le_of_eq W50.size.symm
  have KP50 : Keep h0 h50 ([a1] : List Addr) := KP0.wr W50 (Or.inl (List.mem_of_getElem? (i := 0) rfl))
  have N50 := Fr.snoc X50 N0 (by omega)
  have Fw50 := Fn.same W50
  have F51 := (E_a1.wr W50)
  have F52 := (Fg.other W50 (Or.inr (slot_ne (Or.inr (w_73 hw)) (Or.inl (w_80 hw)) (by decide) (t := (.object "com/example/realmwright/realmwright/ByteLog")) (t' := .int) (by decide) (by decide))))
  refine Go.on (w := T50.setTop (mkF m 11 #[rv a1] [(.int 0)])) (fun t k => st50 _ k) ?_
  refine Go.finH X50 hlk (v := some (.int 0)) (fun h => by rw [Bd.returns] at h; cases h) (fun fs hr => ?_) (endH (Q := Q_rmBg0 Z a1 bl h0) (by rw [e50]; exact ⟨rfl, N50, KP50, F51, Fw50, F52⟩) (by decide) (by decide))
  exact retOut X50 hx Bd.returns rfl (Or.inl ⟨rfl, Or.inl rfl, _, rfl⟩) (hb hby d5_11) hr
def Q_rmBg1 (Z : State) (a1 : Addr) (bl : Addr) (h0 : Heap) (vv : Option Value) (h : Heap) (L : List Loc) : Prop := vv = some (.int 1) ∧ Fr Z.heap.size L ∧ Keep h0 h [a1] ∧ Exa Z h a1 "com/example/realmwright/realmwright/KeycloakRoles" ∧ Fld Z h a1 "com/example/realmwright/realmwright/KeycloakRoles" "groupCount" "I" (.int 2) ∧ Fld Z h a1 "com/example/realmwright/realmwright/KeycloakRoles" "groups" "Lcom/example/realmwright/realmwright/ByteLog;" (.ref bl)
theorem ef_rmBg1 (m : MethodId) (x0 : Addr)   : entryFrame m #[(.ref x0)] 1 = mkF m 0 #[.val (.ref x0)] [] := rfl
theorem rmBg1 (l : Launch) (Z : State) (a0 : Array Value) (hw : HW a0 Z) (ws : List Cond) (a1 : Addr) (bl : Addr) (h0 : Heap) (Z0 : Z.heap.size ≤ h0.size) (lo_a1 : Z.heap.size ≤ a1) (E_a1 : Exa Z h0 a1 "com/example/realmwright/realmwright/KeycloakRoles") (Fn : Fld Z h0 a1 "com/example/realmwright/realmwright/KeycloakRoles" "groupCount" "I" (.int 1)) (Fg : Fld Z h0 a1 "com/example/realmwright/realmwright/KeycloakRoles" "groups" "Lcom/example/realmwright/realmwright/ByteLog;" (.ref bl)) :
    MetFree l yM7 (head1 (Cond.code yM7 prog_22_method_4_code 1 (some .int) :: ws) (⟨0, 0, 0, 0⟩ : Room)) (fun a U => a = #[(.ref a1)] ∧ Z.Warmed39 U.vm ∧ U.heap = h0) (fun _ _ _ _ _ => True) (fun _ U o U' => ∃ v L, o = .returned v ∧ Q_rmBg1 Z a1 bl h0 v U'.heap L ∧ FrameEnd U o U' L (⟨0, 0, 0, 0⟩ : Room).cells (⟨0, 0, 0, 0⟩ : Room).slots) := by
  refine MetFree.of_bodySF (plainFor_of_name (by first | (simp [plainName, overriddenIn]; done) | decide +kernel)) hisR ?_
  intro p e s m args below meth c s₁ Bd hml0 hP hK
  obtain ⟨rfl, hZ0', hh⟩ := hP
  have hx := Bd.exec
  have hby := Bd.bytes
  have hml : c.maxLocals = 1 := hml0
  have hZ0 : Z.Warmed39 s.vm := hZ0'
  have hown0 : s.vm.findClass "com/example/realmwright/realmwright/KeycloakRoles" = some m.cls := findClass_of_methodNamed Bd.named
  have hnm := (name_of_methodNamed Bd.named Bd.method).1
  have hlk : meth.locks = false := Bd.notSynchronized
  have X0 : Stand p l e (⟨0, 0, 0, 0⟩ : Room) s m #[(.ref a1)] below meth c s₁ [] 0 0 := Stand.of_body Bd
  have e0 : s₁.heap = h0 := by rw [← hh, Bd.state]; rfl
  have N0 := Fr.nil Z.heap.size
  have KP0 : Keep h0 h0 ([a1] : List Addr) := Keep.refl _ _
  show Go p e below (fun t o => ∃ v L, o = .returned v ∧ Q_rmBg1 Z a1 bl h0 v t.heap L ∧ FrameEnd s o t L (⟨0, 0, 0, 0⟩ : Room).cells (⟨0, 0, 0, 0⟩ : Room).slots) (s₁.setTop (entryFrame m #[(.ref a1)] 1))
  refine Go.on (w := s₁.setTop (mkF m 0 #[rv a1] [])) (fun t k => castTop (ef_rmBg1 m a1) k) ?_
  have u_a1 : h0.size > a1 := E_a1.lt
  obtain ⟨T53, X53, e53, st53⟩ := getF X0 hx hZ0 hown0 (host := "") (Or.inl (w_79 hw)) Via.refl e0 Fn (g := (mkF m 2 #[rv a1] [(.ref a1), (.ref a1)])) rfl rfl (hb hby d5_2)
  refine Go.on (w := T53.setTop (mkF m 7 #[rv a1] [(.int 1), (.int 1), (.ref a1), (.int 1)])) (fun t k => XS.aloadN X0.here hx rfl (hb hby d5_0) rfl rfl (XS.dup X0.here hx rfl (hb hby d5_1) rfl rfl (st53 _ (XS.dupX1 X53.here hx rfl (hb hby d5_5) rfl rfl rfl (XS.iconst X53.here hx rfl (hb hby d5_6) k))))) ?_
  refine Go.on (w := T53.setTop (mkF m 8 #[rv a1] [(.int 2), (.ref a1), (.int 1)])) (fun t k => XS.iadd X53.here hx rfl (hb hby d5_7) rfl (by rw [(by decide : ((1 : Int32) + (1 : Int32)) = (2 : Int32))]; exact k)) ?_
  obtain ⟨T54, h54, X54, e54, W54, st54⟩ := putF X53 hx hZ0 hown0 (host := "") (Or.inl (w_79 hw)) Via.refl e53 Fn E_a1 (Or.inl (w_80 hw)) (w_31 hw) (ty := .int) (by decide) rfl rfl (g := (mkF m 8 #[rv a1] [(.int 2), (.ref a1), (.int 1)])) rfl rfl (hb hby d5_8)
  have z54 : h0.size ≤ h54.size := Nat.le_of_eq W54.size.symm
  have KP54 : Keep h0 h54 ([a1] : List Addr) := KP0.wr W54 (Or.inl (List.mem_of_getElem? (i := 0) rfl))
  have N54 := Fr.snoc X54 N0 (by omega)
  have Fw54 := Fn.same W54
  have F55 := (E_a1.wr W54)
  have F56 := (Fg.other W54 (Or.inr (slot_ne (Or.inr (w_73 hw)) (Or.inl (w_80 hw)) (by decide) (t := (.object "com/example/realmwright/realmwright/ByteLog")) (t' := .int) (by decide) (by decide))))
  refine Go.on (w := T54.setTop (mkF m 11 #[rv a1] [(.int 1)])) (fun t k => st54 _ k) ?_
  refine Go.finH X54 hlk (v := some (.int 1)) (fun h => by rw [Bd.returns] at h; cases h) (fun fs hr => ?_) (endH (Q := Q_rmBg1 Z a1 bl h0) (by rw [e54]; exact ⟨rfl, N54, KP54, F55, Fw54, F56⟩) (by decide) (by decide))
  exact retOut X54 hx Bd.returns rfl (Or.inl ⟨rfl, Or.inl rfl, _, rfl⟩) (hb hby d5_11) hr
def Q_rmBg2 (Z : State) (a1 : Addr) (bl : Addr) (h0 : Heap) (vv : Option Value) (h : Heap) (L : List Loc) : Prop := vv = some (.int 2) ∧ Fr Z.heap.size L ∧ Keep h0 h [a1] ∧ Exa Z h a1 "com/example/realmwright/realmwright/KeycloakRoles" ∧ Fld Z h a1 "com/example/realmwright/realmwright/KeycloakRoles" "groupCount" "I" (.int 3) ∧ Fld Z h a1 "com/example/realmwright/realmwright/KeycloakRoles" "groups" "Lcom/example/realmwright/realmwright/ByteLog;" (.ref bl)
theorem ef_rmBg2 (m : MethodId) (x0 : Addr)   : entryFrame m #[(.ref x0)] 1 = mkF m 0 #[.val (.ref x0)] [] := rfl
theorem rmBg2 (l : Launch) (Z : State) (a0 : Array Value) (hw : HW a0 Z) (ws : List Cond) (a1 : Addr) (bl : Addr) (h0 : Heap) (Z0 : Z.heap.size ≤ h0.size) (lo_a1 : Z.heap.size ≤ a1) (E_a1 : Exa Z h0 a1 "com/example/realmwright/realmwright/KeycloakRoles") (Fn : Fld Z h0 a1 "com/example/realmwright/realmwright/KeycloakRoles" "groupCount" "I" (.int 2)) (Fg : Fld Z h0 a1 "com/example/realmwright/realmwright/KeycloakRoles" "groups" "Lcom/example/realmwright/realmwright/ByteLog;" (.ref bl)) :
    MetFree l yM7 (head1 (Cond.code yM7 prog_22_method_4_code 1 (some .int) :: ws) (⟨0, 0, 0, 0⟩ : Room)) (fun a U => a = #[(.ref a1)] ∧ Z.Warmed39 U.vm ∧ U.heap = h0) (fun _ _ _ _ _ => True) (fun _ U o U' => ∃ v L, o = .returned v ∧ Q_rmBg2 Z a1 bl h0 v U'.heap L ∧ FrameEnd U o U' L (⟨0, 0, 0, 0⟩ : Room).cells (⟨0, 0, 0, 0⟩ : Room).slots) := by
  refine MetFree.of_bodySF (plainFor_of_name (by first | (simp [plainName, overriddenIn]; done) | decide +kernel)) hisR ?_
  intro p e s m args below meth c s₁ Bd hml0 hP hK
  obtain ⟨rfl, hZ0', hh⟩ := hP
  have hx := Bd.exec
  have hby := Bd.bytes
  have hml : c.maxLocals = 1 := hml0
  have hZ0 : Z.Warmed39 s.vm := hZ0'
  have hown0 : s.vm.findClass "com/example/realmwright/realmwright/KeycloakRoles" = some m.cls := findClass_of_methodNamed Bd.named
  have hnm := (name_of_methodNamed Bd.named Bd.method).1
  have hlk : meth.locks = false := Bd.notSynchronized
  have X0 : Stand p l e (⟨0, 0, 0, 0⟩ : Room) s m #[(.ref a1)] below meth c s₁ [] 0 0 := Stand.of_body Bd
  have e0 : s₁.heap = h0 := by rw [← hh, Bd.state]; rfl
  have N0 := Fr.nil Z.heap.size
  have KP0 : Keep h0 h0 ([a1] : List Addr) := Keep.refl _ _
  show Go p e below (fun t o => ∃ v L, o = .returned v ∧ Q_rmBg2 Z a1 bl h0 v t.heap L ∧ FrameEnd s o t L (⟨0, 0, 0, 0⟩ : Room).cells (⟨0, 0, 0, 0⟩ : Room).slots) (s₁.setTop (entryFrame m #[(.ref a1)] 1))
  refine Go.on (w := s₁.setTop (mkF m 0 #[rv a1] [])) (fun t k => castTop (ef_rmBg2 m a1) k) ?_
  have u_a1 : h0.size > a1 := E_a1.lt
  obtain ⟨T57, X57, e57, st57⟩ := getF X0 hx hZ0 hown0 (host := "") (Or.inl (w_79 hw)) Via.refl e0 Fn (g := (mkF m 2 #[rv a1] [(.ref a1), (.ref a1)])) rfl rfl (hb hby d5_2)
  refine Go.on (w := T57.setTop (mkF m 7 #[rv a1] [(.int 1), (.int 2), (.ref a1), (.int 2)])) (fun t k => XS.aloadN X0.here hx rfl (hb hby d5_0) rfl rfl (XS.dup X0.here hx rfl (hb hby d5_1) rfl rfl (st57 _ (XS.dupX1 X57.here hx rfl (hb hby d5_5) rfl rfl rfl (XS.iconst X57.here hx rfl (hb hby d5_6) k))))) ?_
  refine Go.on (w := T57.setTop (mkF m 8 #[rv a1] [(.int 3), (.ref a1), (.int 2)])) (fun t k => XS.iadd X57.here hx rfl (hb hby d5_7) rfl (by rw [(by decide : ((2 : Int32) + (1 : Int32)) = (3 : Int32))]; exact k)) ?_
  obtain ⟨T58, h58, X58, e58, W58, st58⟩ := putF X57 hx hZ0 hown0 (host := "") (Or.inl (w_79 hw)) Via.refl e57 Fn E_a1 (Or.inl (w_80 hw)) (w_31 hw) (ty := .int) (by decide) rfl rfl (g := (mkF m 8 #[rv a1] [(.int 3), (.ref a1), (.int 2)])) rfl rfl (hb hby d5_8)
  have z58 : h0.size ≤ h58.size := Nat.le_of_eq W58.size.symm
  have KP58 : Keep h0 h58 ([a1] : List Addr) := KP0.wr W58 (Or.inl (List.mem_of_getElem? (i := 0) rfl))
  have N58 := Fr.snoc X58 N0 (by omega)
  have Fw58 := Fn.same W58
  have F59 := (E_a1.wr W58)
  have F60 := (Fg.other W58 (Or.inr (slot_ne (Or.inr (w_73 hw)) (Or.inl (w_80 hw)) (by decide) (t := (.object "com/example/realmwright/realmwright/ByteLog")) (t' := .int) (by decide) (by decide))))
  refine Go.on (w := T58.setTop (mkF m 11 #[rv a1] [(.int 2)])) (fun t k => st58 _ k) ?_
  refine Go.finH X58 hlk (v := some (.int 2)) (fun h => by rw [Bd.returns] at h; cases h) (fun fs hr => ?_) (endH (Q := Q_rmBg2 Z a1 bl h0) (by rw [e58]; exact ⟨rfl, N58, KP58, F59, Fw58, F60⟩) (by decide) (by decide))
  exact retOut X58 hx Bd.returns rfl (Or.inl ⟨rfl, Or.inl rfl, _, rfl⟩) (hb hby d5_11) hr
def Q_rmBg3 (Z : State) (a1 : Addr) (bl : Addr) (h0 : Heap) (vv : Option Value) (h : Heap) (L : List Loc) : Prop := vv = some (.int 3) ∧ Fr Z.heap.size L ∧ Keep h0 h [a1] ∧ Exa Z h a1 "com/example/realmwright/realmwright/KeycloakRoles" ∧ Fld Z h a1 "com/example/realmwright/realmwright/KeycloakRoles" "groupCount" "I" (.int 4) ∧ Fld Z h a1 "com/example/realmwright/realmwright/KeycloakRoles" "groups" "Lcom/example/realmwright/realmwright/ByteLog;" (.ref bl)
theorem ef_rmBg3 (m : MethodId) (x0 : Addr)   : entryFrame m #[(.ref x0)] 1 = mkF m 0 #[.val (.ref x0)] [] := rfl
theorem rmBg3 (l : Launch) (Z : State) (a0 : Array Value) (hw : HW a0 Z) (ws : List Cond) (a1 : Addr) (bl : Addr) (h0 : Heap) (Z0 : Z.heap.size ≤ h0.size) (lo_a1 : Z.heap.size ≤ a1) (E_a1 : Exa Z h0 a1 "com/example/realmwright/realmwright/KeycloakRoles") (Fn : Fld Z h0 a1 "com/example/realmwright/realmwright/KeycloakRoles" "groupCount" "I" (.int 3)) (Fg : Fld Z h0 a1 "com/example/realmwright/realmwright/KeycloakRoles" "groups" "Lcom/example/realmwright/realmwright/ByteLog;" (.ref bl)) :
    MetFree l yM7 (head1 (Cond.code yM7 prog_22_method_4_code 1 (some .int) :: ws) (⟨0, 0, 0, 0⟩ : Room)) (fun a U => a = #[(.ref a1)] ∧ Z.Warmed39 U.vm ∧ U.heap = h0) (fun _ _ _ _ _ => True) (fun _ U o U' => ∃ v L, o = .returned v ∧ Q_rmBg3 Z a1 bl h0 v U'.heap L ∧ FrameEnd U o U' L (⟨0, 0, 0, 0⟩ : Room).cells (⟨0, 0, 0, 0⟩ : Room).slots) := by
  refine MetFree.of_bodySF (plainFor_of_name (by first | (simp [plainName, overriddenIn]; done) | decide +kernel)) hisR ?_
  intro p e s m args below meth c s₁ Bd hml0 hP hK
  obtain ⟨rfl, hZ0', hh⟩ := hP
  have hx := Bd.exec
  have hby := Bd.bytes
  have hml : c.maxLocals = 1 := hml0
  have hZ0 : Z.Warmed39 s.vm := hZ0'
  have hown0 : s.vm.findClass "com/example/realmwright/realmwright/KeycloakRoles" = some m.cls := findClass_of_methodNamed Bd.named
  have hnm := (name_of_methodNamed Bd.named Bd.method).1
  have hlk : meth.locks = false := Bd.notSynchronized
  have X0 : Stand p l e (⟨0, 0, 0, 0⟩ : Room) s m #[(.ref a1)] below meth c s₁ [] 0 0 := Stand.of_body Bd
  have e0 : s₁.heap = h0 := by rw [← hh, Bd.state]; rfl
  have N0 := Fr.nil Z.heap.size
  have KP0 : Keep h0 h0 ([a1] : List Addr) := Keep.refl _ _
  show Go p e below (fun t o => ∃ v L, o = .returned v ∧ Q_rmBg3 Z a1 bl h0 v t.heap L ∧ FrameEnd s o t L (⟨0, 0, 0, 0⟩ : Room).cells (⟨0, 0, 0, 0⟩ : Room).slots) (s₁.setTop (entryFrame m #[(.ref a1)] 1))
  refine Go.on (w := s₁.setTop (mkF m 0 #[rv a1] [])) (fun t k => castTop (ef_rmBg3 m a1) k) ?_
  have u_a1 : h0.size > a1 := E_a1.lt
  obtain ⟨T61, X61, e61, st61⟩ := getF X0 hx hZ0 hown0 (host := "") (Or.inl (w_79 hw)) Via.refl e0 Fn (g := (mkF m 2 #[rv a1] [(.ref a1), (.ref a1)])) rfl rfl (hb hby d5_2)
  refine Go.on (w := T61.setTop (mkF m 7 #[rv a1] [(.int 1), (.int 3), (.ref a1), (.int 3)])) (fun t k => XS.aloadN X0.here hx rfl (hb hby d5_0) rfl rfl (XS.dup X0.here hx rfl (hb hby d5_1) rfl rfl (st61 _ (XS.dupX1 X61.here hx rfl (hb hby d5_5) rfl rfl rfl (XS.iconst X61.here hx rfl (hb hby d5_6) k))))) ?_
  refine Go.on (w := T61.setTop (mkF m 8 #[rv a1] [(.int 4), (.ref a1), (.int 3)])) (fun t k => XS.iadd X61.here hx rfl (hb hby d5_7) rfl (by rw [(by decide : ((3 : Int32) + (1 : Int32)) = (4 : Int32))]; exact k)) ?_
  obtain ⟨T62, h62, X62, e62, W62, st62⟩ := putF X61 hx hZ0 hown0 (host := "") (Or.inl (w_79 hw)) Via.refl e61 Fn E_a1 (Or.inl (w_80 hw)) (w_31 hw) (ty := .int) (by decide) rfl rfl (g := (mkF m 8 #[rv a1] [(.int 4), (.ref a1), (.int 3)])) rfl rfl (hb hby d5_8)
  have z62 : h0.size ≤ h62.size := Nat.le_of_eq W62.size.symm
  have KP62 : Keep h0 h62 ([a1] : List Addr) := KP0.wr W62 (Or.inl (List.mem_of_getElem? (i := 0) rfl))
  have N62 := Fr.snoc X62 N0 (by omega)
  have Fw62 := Fn.same W62
  have F63 := (E_a1.wr W62)
  have F64 := (Fg.other W62 (Or.inr (slot_ne (Or.inr (w_73 hw)) (Or.inl (w_80 hw)) (by decide) (t := (.object "com/example/realmwright/realmwright/ByteLog")) (t' := .int) (by decide) (by decide))))
  refine Go.on (w := T62.setTop (mkF m 11 #[rv a1] [(.int 3)])) (fun t k => st62 _ k) ?_
  refine Go.finH X62 hlk (v := some (.int 3)) (fun h => by rw [Bd.returns] at h; cases h) (fun fs hr => ?_) (endH (Q := Q_rmBg3 Z a1 bl h0) (by rw [e62]; exact ⟨rfl, N62, KP62, F63, Fw62, F64⟩) (by decide) (by decide))
  exact retOut X62 hx Bd.returns rfl (Or.inl ⟨rfl, Or.inl rfl, _, rfl⟩) (hb hby d5_11) hr
def Q_rmMax (Z : State) (u : Unit) (h0 : Heap) (vv : Option Value) (h : Heap) (L : List Loc) : Prop := vv = some (.int 10) ∧ Fr Z.heap.size L ∧ h = h0
theorem ef_rmMax (m : MethodId) (x0 : Int32) (x1 : Int32)   : entryFrame m #[(.int x0), (.int x1)] 2 = mkF m 0 #[.val (.int x0), .val (.int x1)] [] := rfl
theorem rmMax (l : Launch) (Z : State) (a0 : Array Value) (hw : HW a0 Z) (ws : List Cond) (u : Unit) (h0 : Heap) :
    MetFree l yM19 (head1 (Cond.code yM19 jdk_29_method_65_code 2 (some .int) :: ws) (⟨0, 0, 0, 0⟩ : Room)) (fun a U => a = #[(.int 10), (.int 1)] ∧ Z.Warmed39 U.vm ∧ U.heap = h0) (fun _ _ _ _ _ => True) (fun _ U o U' => ∃ v L, o = .returned v ∧ Q_rmMax Z u h0 v U'.heap L ∧ FrameEnd U o U' L (⟨0, 0, 0, 0⟩ : Room).cells (⟨0, 0, 0, 0⟩ : Room).slots) := by
  refine MetFree.of_bodySF (Jvm.Free.JP.mathPlain rfl (by decide +kernel)) hisR ?_
  intro p e s m args below meth c s₁ Bd hml0 hP hK
  obtain ⟨rfl, hZ0', hh⟩ := hP
  have hx := Bd.exec
  have hby := Bd.bytes
  have hml : c.maxLocals = 2 := hml0
  have hZ0 : Z.Warmed39 s.vm := hZ0'
  have hown0 : s.vm.findClass "java/lang/Math" = some m.cls := findClass_of_methodNamed Bd.named
  have hnm := (name_of_methodNamed Bd.named Bd.method).1
  have hlk : meth.locks = false := Bd.notSynchronized
  have X0 : Stand p l e (⟨0, 0, 0, 0⟩ : Room) s m #[(.int 10), (.int 1)] below meth c s₁ [] 0 0 := Stand.of_body Bd
  have e0 : s₁.heap = h0 := by rw [← hh, Bd.state]; rfl
  have N0 := Fr.nil Z.heap.size
  have KP0 : Keep h0 h0 ([] : List Addr) := Keep.refl _ _
  show Go p e below (fun t o => ∃ v L, o = .returned v ∧ Q_rmMax Z u h0 v t.heap L ∧ FrameEnd s o t L (⟨0, 0, 0, 0⟩ : Room).cells (⟨0, 0, 0, 0⟩ : Room).slots) (s₁.setTop (entryFrame m #[(.int 10), (.int 1)] 2))
  refine Go.on (w := s₁.setTop (mkF m 0 #[iv 10, iv 1] [])) (fun t k => castTop (ef_rmMax m (10 : Int32) (1 : Int32)) k) ?_
  refine Go.on (w := s₁.setTop (mkF m 10 #[iv 10, iv 1] [(.int 10)])) (fun t k => XS.iloadN X0.here hx rfl (hb hby d6_0) rfl (XS.iloadN X0.here hx rfl (hb hby d6_1) rfl (XS.icmpNo X0.here hx rfl (hb hby d6_2) rfl (flt (by decide : ¬ ((10 : Int32) < (1 : Int32)))).1 (XS.iloadN X0.here hx rfl (hb hby d6_5) rfl (XS.goto X0.here hx rfl (pc0 := 6) (pc' := 10) rfl (hb hby d6_6) (by decide) (by decide) k))))) ?_
  refine Go.finH X0 hlk (v := some (.int 10)) (fun h => by rw [Bd.returns] at h; cases h) (fun fs hr => ?_) (endH (Q := Q_rmMax Z u h0) (by rw [e0]; exact ⟨rfl, N0, rfl⟩) (by decide) (by decide))
  exact retOut X0 hx Bd.returns rfl (Or.inl ⟨rfl, Or.inl rfl, _, rfl⟩) (hb hby d6_10) hr
def Q_rmMin (Z : State) (i1 : Int32) (i2 : Int32) (h0 : Heap) (vv : Option Value) (h : Heap) (L : List Loc) : Prop := vv = some (.int i1) ∧ Fr Z.heap.size L ∧ h = h0
theorem ef_rmMin (m : MethodId) (x0 : Int32) (x1 : Int32)   : entryFrame m #[(.int x0), (.int x1)] 2 = mkF m 0 #[.val (.int x0), .val (.int x1)] [] := rfl
theorem rmMin (l : Launch) (Z : State) (a0 : Array Value) (hw : HW a0 Z) (ws : List Cond) (i1 : Int32) (i2 : Int32) (h0 : Heap) (hm : ¬ i2 < i1) :
    MetFree l yM49 (head1 (Cond.code yM49 jdk_29_method_69_code 2 (some .int) :: ws) (⟨0, 0, 0, 0⟩ : Room)) (fun a U => a = #[(.int i1), (.int i2)] ∧ Z.Warmed39 U.vm ∧ U.heap = h0) (fun _ _ _ _ _ => True) (fun _ U o U' => ∃ v L, o = .returned v ∧ Q_rmMin Z i1 i2 h0 v U'.heap L ∧ FrameEnd U o U' L (⟨0, 0, 0, 0⟩ : Room).cells (⟨0, 0, 0, 0⟩ : Room).slots) := by
  refine MetFree.of_bodySF (Jvm.Free.JP.mathPlain rfl (by decide +kernel)) hisR ?_
  intro p e s m args below meth c s₁ Bd hml0 hP hK
  obtain ⟨rfl, hZ0', hh⟩ := hP
  have hx := Bd.exec
  have hby := Bd.bytes
  have hml : c.maxLocals = 2 := hml0
  have hZ0 : Z.Warmed39 s.vm := hZ0'
  have hown0 : s.vm.findClass "java/lang/Math" = some m.cls := findClass_of_methodNamed Bd.named
  have hnm := (name_of_methodNamed Bd.named Bd.method).1
  have hlk : meth.locks = false := Bd.notSynchronized
  have X0 : Stand p l e (⟨0, 0, 0, 0⟩ : Room) s m #[(.int i1), (.int i2)] below meth c s₁ [] 0 0 := Stand.of_body Bd
  have e0 : s₁.heap = h0 := by rw [← hh, Bd.state]; rfl
  have N0 := Fr.nil Z.heap.size
  have KP0 : Keep h0 h0 ([] : List Addr) := Keep.refl _ _
  show Go p e below (fun t o => ∃ v L, o = .returned v ∧ Q_rmMin Z i1 i2 h0 v t.heap L ∧ FrameEnd s o t L (⟨0, 0, 0, 0⟩ : Room).cells (⟨0, 0, 0, 0⟩ : Room).slots) (s₁.setTop (entryFrame m #[(.int i1), (.int i2)] 2))
  refine Go.on (w := s₁.setTop (mkF m 0 #[iv i1, iv i2] [])) (fun t k => castTop (ef_rmMin m i1 i2) k) ?_
  refine Go.on (w := s₁.setTop (mkF m 10 #[iv i1, iv i2] [(.int i1)])) (fun t k => XS.iloadN X0.here hx rfl (hb hby d7_0) rfl (XS.iloadN X0.here hx rfl (hb hby d7_1) rfl (XS.icmpNo X0.here hx rfl (hb hby d7_2) rfl (flt hm).2.2.1 (XS.iloadN X0.here hx rfl (hb hby d7_5) rfl (XS.goto X0.here hx rfl (pc0 := 6) (pc' := 10) rfl (hb hby d7_6) (by decide) (by decide) k))))) ?_
  refine Go.finH X0 hlk (v := some (.int i1)) (fun h => by rw [Bd.returns] at h; cases h) (fun fs hr => ?_) (endH (Q := Q_rmMin Z i1 i2 h0) (by rw [e0]; exact ⟨rfl, N0, rfl⟩) (by decide) (by decide))
  exact retOut X0 hx Bd.returns rfl (Or.inl ⟨rfl, Or.inl rfl, _, rfl⟩) (hb hby d7_10) hr
def Q_rmMin2 (Z : State) (i1 : Int32) (i2 : Int32) (h0 : Heap) (vv : Option Value) (h : Heap) (L : List Loc) : Prop := vv = some (.int i2) ∧ Fr Z.heap.size L ∧ h = h0
theorem ef_rmMin2 (m : MethodId) (x0 : Int32) (x1 : Int32)   : entryFrame m #[(.int x0), (.int x1)] 2 = mkF m 0 #[.val (.int x0), .val (.int x1)] [] := rfl
theorem rmMin2 (l : Launch) (Z : State) (a0 : Array Value) (hw : HW a0 Z) (ws : List Cond) (i1 : Int32) (i2 : Int32) (h0 : Heap) (hm : i2 < i1) :
    MetFree l yM49 (head1 (Cond.code yM49 jdk_29_method_69_code 2 (some .int) :: ws) (⟨0, 0, 0, 0⟩ : Room)) (fun a U => a = #[(.int i1), (.int i2)] ∧ Z.Warmed39 U.vm ∧ U.heap = h0) (fun _ _ _ _ _ => True) (fun _ U o U' => ∃ v L, o = .returned v ∧ Q_rmMin2 Z i1 i2 h0 v U'.heap L ∧ FrameEnd U o U' L (⟨0, 0, 0, 0⟩ : Room).cells (⟨0, 0, 0, 0⟩ : Room).slots) := by
  refine MetFree.of_bodySF (Jvm.Free.JP.mathPlain rfl (by decide +kernel)) hisR ?_
  intro p e s m args below meth c s₁ Bd hml0 hP hK
  obtain ⟨rfl, hZ0', hh⟩ := hP
  have hx := Bd.exec
  have hby := Bd.bytes
  have hml : c.maxLocals = 2 := hml0
  have hZ0 : Z.Warmed39 s.vm := hZ0'
  have hown0 : s.vm.findClass "java/lang/Math" = some m.cls := findClass_of_methodNamed Bd.named
  have hnm := (name_of_methodNamed Bd.named Bd.method).1
  have hlk : meth.locks = false := Bd.notSynchronized
  have X0 : Stand p l e (⟨0, 0, 0, 0⟩ : Room) s m #[(.int i1), (.int i2)] below meth c s₁ [] 0 0 := Stand.of_body Bd
  have e0 : s₁.heap = h0 := by rw [← hh, Bd.state]; rfl
  have N0 := Fr.nil Z.heap.size
  have KP0 : Keep h0 h0 ([] : List Addr) := Keep.refl _ _
  show Go p e below (fun t o => ∃ v L, o = .returned v ∧ Q_rmMin2 Z i1 i2 h0 v t.heap L ∧ FrameEnd s o t L (⟨0, 0, 0, 0⟩ : Room).cells (⟨0, 0, 0, 0⟩ : Room).slots) (s₁.setTop (entryFrame m #[(.int i1), (.int i2)] 2))
  refine Go.on (w := s₁.setTop (mkF m 0 #[iv i1, iv i2] [])) (fun t k => castTop (ef_rmMin2 m i1 i2) k) ?_
  refine Go.on (w := s₁.setTop (mkF m 10 #[iv i1, iv i2] [(.int i2)])) (fun t k => XS.iloadN X0.here hx rfl (hb hby d7_0) rfl (XS.iloadN X0.here hx rfl (hb hby d7_1) rfl (XS.icmpYes X0.here hx rfl (pc0 := 2) (pc' := 9) rfl (hb hby d7_2) rfl (tlt hm).2.2.1 (by decide) (by decide) (XS.iloadN X0.here hx rfl (hb hby d7_9) rfl k)))) ?_
  refine Go.finH X0 hlk (v := some (.int i2)) (fun h => by rw [Bd.returns] at h; cases h) (fun fs hr => ?_) (endH (Q := Q_rmMin2 Z i1 i2 h0) (by rw [e0]; exact ⟨rfl, N0, rfl⟩) (by decide) (by decide))
  exact retOut X0 hx Bd.returns rfl (Or.inl ⟨rfl, Or.inl rfl, _, rfl⟩) (hb hby d7_10) hr
def Q_rmChk3 (Z : State) (u : Unit) (h0 : Heap) (vv : Option Value) (h : Heap) (L : List Loc) : Prop := vv = some (.int 0) ∧ Fr Z.heap.size L ∧ h = h0
theorem ef_rmChk3 (m : MethodId) (x0 : Int32) (x1 : Int32)   : entryFrame m #[(.int x0), (.int x1), .null] 3 = mkF m 0 #[.val (.int x0), .val (.int x1), .val .null] [] := rfl
theorem rmChk3 (l : Launch) (Z : State) (a0 : Array Value) (hw : HW a0 Z) (ws : List Cond) (u : Unit) (h0 : Heap) :
    MetFree l yM25 (head1 (Cond.code yM25 jdk_41_method_11_code 3 (some .int) :: ws) (⟨0, 0, 0, 0⟩ : Room)) (fun a U => a = #[(.int 0), (.int 1), .null] ∧ Z.Warmed39 U.vm ∧ U.heap = h0) (fun _ _ _ _ _ => True) (fun _ U o U' => ∃ v L, o = .returned v ∧ Q_rmChk3 Z u h0 v U'.heap L ∧ FrameEnd U o U' L (⟨0, 0, 0, 0⟩ : Room).cells (⟨0, 0, 0, 0⟩ : Room).slots) := by
  refine MetFree.of_bodySF (plainFor_of_name (by first | (simp [plainName, overriddenIn]; done) | decide +kernel)) hisR ?_
  intro p e s m args below meth c s₁ Bd hml0 hP hK
  obtain ⟨rfl, hZ0', hh⟩ := hP
  have hx := Bd.exec
  have hby := Bd.bytes
  have hml : c.maxLocals = 3 := hml0
  have hZ0 : Z.Warmed39 s.vm := hZ0'
  have hown0 : s.vm.findClass "jdk/internal/util/Preconditions" = some m.cls := findClass_of_methodNamed Bd.named
  have hnm := (name_of_methodNamed Bd.named Bd.method).1
  have hlk : meth.locks = false := Bd.notSynchronized
  have X0 : Stand p l e (⟨0, 0, 0, 0⟩ : Room) s m #[(.int 0), (.int 1), .null] below meth c s₁ [] 0 0 := Stand.of_body Bd
  have e0 : s₁.heap = h0 := by rw [← hh, Bd.state]; rfl
  have N0 := Fr.nil Z.heap.size
  have KP0 : Keep h0 h0 ([] : List Addr) := Keep.refl _ _
  show Go p e below (fun t o => ∃ v L, o = .returned v ∧ Q_rmChk3 Z u h0 v t.heap L ∧ FrameEnd s o t L (⟨0, 0, 0, 0⟩ : Room).cells (⟨0, 0, 0, 0⟩ : Room).slots) (s₁.setTop (entryFrame m #[(.int 0), (.int 1), .null] 3))
  refine Go.on (w := s₁.setTop (mkF m 0 #[iv 0, iv 1, .val .null] [])) (fun t k => castTop (ef_rmChk3 m (0 : Int32) (1 : Int32)) k) ?_
  refine Go.on (w := s₁.setTop (mkF m 17 #[iv 0, iv 1, .val .null] [(.int 0)])) (fun t k => XS.iloadN X0.here hx rfl (hb hby d8_0) rfl (XS.ifNo X0.here hx rfl (hb hby d8_1) rfl ((if0 _ _).trans (flt (by decide : ¬ ((0 : Int32) < (0 : Int32)))).1) (XS.iloadN X0.here hx rfl (hb hby d8_4) rfl (XS.iloadN X0.here hx rfl (hb hby d8_5) rfl (XS.icmpYes X0.here hx rfl (pc0 := 6) (pc' := 16) rfl (hb hby d8_6) rfl (tlt (by decide : (0 : Int32) < (1 : Int32))).1 (by decide) (by decide) (XS.iloadN X0.here hx rfl (hb hby d8_16) rfl k)))))) ?_
  refine Go.finH X0 hlk (v := some (.int 0)) (fun h => by rw [Bd.returns] at h; cases h) (fun fs hr => ?_) (endH (Q := Q_rmChk3 Z u h0) (by rw [e0]; exact ⟨rfl, N0, rfl⟩) (by decide) (by decide))
  exact retOut X0 hx Bd.returns rfl (Or.inl ⟨rfl, Or.inl rfl, _, rfl⟩) (hb hby d8_17) hr
def Q_rmChk2 (Z : State) (u : Unit) (h0 : Heap) (vv : Option Value) (h : Heap) (L : List Loc) : Prop := vv = some (.int 0) ∧ Fr Z.heap.size L ∧ h = h0
theorem ef_rmChk2 (m : MethodId) (x0 : Int32) (x1 : Int32)   : entryFrame m #[(.int x0), (.int x1)] 2 = mkF m 0 #[.val (.int x0), .val (.int x1)] [] := rfl
theorem rmChk2 (l : Launch) (Z : State) (a0 : Array Value) (hw : HW a0 Z) (ws : List Cond) (u : Unit) (h0 : Heap) :
    MetFree l yM24 (head1 (Cond.code yM24 jdk_31_method_17_code 2 (some .int) :: ws) (⟨1, 0, 0, 14⟩ : Room)) (fun a U => a = #[(.int 0), (.int 1)] ∧ Z.Warmed39 U.vm ∧ U.heap = h0) (fun _ _ _ _ _ => True) (fun _ U o U' => ∃ v L, o = .returned v ∧ Q_rmChk2 Z u h0 v U'.heap L ∧ FrameEnd U o U' L (⟨1, 0, 0, 14⟩ : Room).cells (⟨1, 0, 0, 14⟩ : Room).slots) := by
  refine MetFree.of_bodySF (plainFor_of_name (by first | (simp [plainName, overriddenIn]; done) | decide +kernel)) hisR ?_
  intro p e s m args below meth c s₁ Bd hml0 hP hK
  obtain ⟨rfl, hZ0', hh⟩ := hP
  have hx := Bd.exec
  have hby := Bd.bytes
  have hml : c.maxLocals = 2 := hml0
  have hZ0 : Z.Warmed39 s.vm := hZ0'
  have hown0 : s.vm.findClass "java/util/Objects" = some m.cls := findClass_of_methodNamed Bd.named
  have hnm := (name_of_methodNamed Bd.named Bd.method).1
  have hlk : meth.locks = false := Bd.notSynchronized
  have X0 : Stand p l e (⟨1, 0, 0, 14⟩ : Room) s m #[(.int 0), (.int 1)] below meth c s₁ [] 0 0 := Stand.of_body Bd
  have e0 : s₁.heap = h0 := by rw [← hh, Bd.state]; rfl
  have N0 := Fr.nil Z.heap.size
  have KP0 : Keep h0 h0 ([] : List Addr) := Keep.refl _ _
  show Go p e below (fun t o => ∃ v L, o = .returned v ∧ Q_rmChk2 Z u h0 v t.heap L ∧ FrameEnd s o t L (⟨1, 0, 0, 14⟩ : Room).cells (⟨1, 0, 0, 14⟩ : Room).slots) (s₁.setTop (entryFrame m #[(.int 0), (.int 1)] 2))
  refine Go.on (w := s₁.setTop (mkF m 0 #[iv 0, iv 1] [])) (fun t k => castTop (ef_rmChk2 m (0 : Int32) (1 : Int32)) k) ?_
  obtain ⟨v65, _, ⟨T65, L65, k65, n65⟩, -, X65, ⟨Lc65, hQ65, l65, y65, z65⟩, st65⟩ := Jvm.LawKit.callS X0 hx (y := yM25) hown0 (mvT hZ0 (w_163 hw)) (mvT hZ0 (w_164 hw)) (mvT hZ0 (w_165 hw)) (mvT hZ0 (w_166 hw)) (by decide) (backOf (W := 0) (rmChk3 l Z a0 hw [] () h0 ) hZ0 (w_166 hw) (w_165 hw) (by decide) (by decide)) (g := (mkF m 3 #[iv 0, iv 1] [.null, (.int 1), (.int 0)])) rfl (by rw [hml]; rfl) (argsL := [(.int 0), (.int 1), .null]) (rest := []) (lenOf pd_1 rfl) rfl (by show 2 * 0 + _ ≤ _; exact Nat.le_of_eq rfl) (hb hby d9_3) (fun _ _ => ⟨rfl, e0, (by decide : 0 + 0 ≤ _), (by decide : 0 + 0 ≤ _)⟩)
  dsimp only [Pt.U, Pt.locs, Pt.cells, Pt.slots] at X65 l65 y65 z65 st65 hQ65
  subst l65 y65 z65
  obtain ⟨rfl, Nq65, eh65⟩ := hQ65
  have N65 := Fr.app N0 Nq65
  refine Go.on (w := T65.setTop (mkF m 6 #[iv 0, iv 1] [(.int 0)])) (fun t k => XS.iloadN X0.here hx rfl (hb hby d9_0) rfl (XS.iloadN X0.here hx rfl (hb hby d9_1) rfl (XS.aconstNull X0.here hx rfl (hb hby d9_2) (st65 _ k)))) ?_
  refine Go.finH X65 hlk (v := some (.int 0)) (fun h => by rw [Bd.returns] at h; cases h) (fun fs hr => ?_) (endH (Q := Q_rmChk2 Z u h0) (by rw [eh65]; exact ⟨rfl, N65, rfl⟩) (by decide) (by decide))
  exact retOut X65 hx Bd.returns rfl (Or.inl ⟨rfl, Or.inl rfl, _, rfl⟩) (hb hby d9_6) hr
def Q_rmGrI (Z : State) (a1 : Addr) (dd : Addr) (qd : ClassId) (md : Int32) (h0 : Heap) (vv : Option Value) (h : Heap) (L : List Loc) : Prop := ∃ (ee : Addr) (ke : ClassId), vv = some (.ref ee) ∧ Fr Z.heap.size L ∧ Keep h0 h [a1] ∧ (h0.size ≤ ee) ∧ (Ovr Z ke "java/lang/Object") ∧ Arv Z h ee ke (.object "java/lang/Object") (10 : Int32) [.null, .null, .null, .null, .null, .null, .null, .null, .null, .null] .null ∧ Exa Z h a1 "java/util/ArrayList" ∧ Fld Z h a1 "java/util/ArrayList" "elementData" "[Ljava/lang/Object;" (.ref ee) ∧ Fld Z h a1 "java/util/ArrayList" "size" "I" (.int 0) ∧ Fld Z h a1 "java/util/AbstractList" "modCount" "I" (.int md)
theorem ef_rmGrI (m : MethodId) (x0 : Addr) (x1 : Int32)   : entryFrame m #[(.ref x0), (.int x1)] 4 = mkF m 0 #[.val (.ref x0), .val (.int x1), .unset, .unset] [] := rfl
theorem rmGrI (l : Launch) (Z : State) (a0 : Array Value) (hw : HW a0 Z) (ws : List Cond) (a1 : Addr) (dd : Addr) (qd : ClassId) (md : Int32) (h0 : Heap) (Z0 : Z.heap.size ≤ h0.size) (OL : Old Z Z.heap.size h0) (OD : Sta Z Z.heap "java/util/ArrayList" "DEFAULTCAPACITY_EMPTY_ELEMENTDATA" "[Ljava/lang/Object;" (.ref dd)) (VD : Arv Z Z.heap dd qd (.object "java/lang/Object") (0 : Int32) [] .null) (lo_a1 : Z.heap.size ≤ a1) (E_a1 : Exa Z h0 a1 "java/util/ArrayList") (Fe : Fld Z h0 a1 "java/util/ArrayList" "elementData" "[Ljava/lang/Object;" (.ref dd)) (Fs : Fld Z h0 a1 "java/util/ArrayList" "size" "I" (.int 0)) (Fm : Fld Z h0 a1 "java/util/AbstractList" "modCount" "I" (.int md)) :
    MetFree l yM18 (head1 (Cond.code yM18 jdk_38_method_6_code 4 (some (.array (.object "java/lang/Object"))) :: ws) (⟨1, 1, 10, 14⟩ : Room)) (fun a U => a = #[(.ref a1), (.int 1)] ∧ Z.Warmed39 U.vm ∧ U.heap = h0) (fun _ _ _ _ _ => True) (fun _ U o U' => ∃ v L, o = .returned v ∧ Q_rmGrI Z a1 dd qd md h0 v U'.heap L ∧ FrameEnd U o U' L (⟨1, 1, 10, 14⟩ : Room).cells (⟨1, 1, 10, 14⟩ : Room).slots) := by
  refine MetFree.of_bodySF (plainFor_of_name (by first | (simp [plainName, overriddenIn]; done) | decide +kernel)) hisR ?_
  intro p e s m args below meth c s₁ Bd hml0 hP hK
  obtain ⟨rfl, hZ0', hh⟩ := hP
  have hx := Bd.exec
  have hby := Bd.bytes
  have hml : c.maxLocals = 4 := hml0
  have hZ0 : Z.Warmed39 s.vm := hZ0'
  have hown0 : s.vm.findClass "java/util/ArrayList" = some m.cls := findClass_of_methodNamed Bd.named
  have hnm := (name_of_methodNamed Bd.named Bd.method).1
  have hlk : meth.locks = false := Bd.notSynchronized
  have X0 : Stand p l e (⟨1, 1, 10, 14⟩ : Room) s m #[(.ref a1), (.int 1)] below meth c s₁ [] 0 0 := Stand.of_body Bd
  have e0 : s₁.heap = h0 := by rw [← hh, Bd.state]; rfl
  have N0 := Fr.nil Z.heap.size
  have KP0 : Keep h0 h0 ([a1] : List Addr) := Keep.refl _ _
  show Go p e below (fun t o => ∃ v L, o = .returned v ∧ Q_rmGrI Z a1 dd qd md h0 v t.heap L ∧ FrameEnd s o t L (⟨1, 1, 10, 14⟩ : Room).cells (⟨1, 1, 10, 14⟩ : Room).slots) (s₁.setTop (entryFrame m #[(.ref a1), (.int 1)] 4))
  refine Go.on (w := s₁.setTop (mkF m 0 #[rv a1, iv 1, .unset, .unset] [])) (fun t k => castTop (ef_rmGrI m a1 (1 : Int32)) k) ?_
  have u_a1 : h0.size > a1 := E_a1.lt
  obtain ⟨T66, X66, e66, st66⟩ := getF X0 hx hZ0 hown0 (host := "") (Or.inl (w_66 hw)) Via.refl e0 Fe (g := (mkF m 1 #[rv a1, iv 1, .unset, .unset] [(.ref a1)])) rfl rfl (hb hby d10_1)
  have F67 := VD.ext OL.2
  obtain ⟨cl68, Ar68, q68, S68, M68, H68, U68⟩ := id F67
  refine Go.on (w := T66.setTop (mkF m 4 #[rv a1, iv 1, .unset, .unset] [(.ref dd)])) (fun t k => XS.aloadN X0.here hx rfl (hb hby d10_0) rfl rfl (st66 _ k)) ?_
  refine Go.on (w := T66.setTop (mkF m 5 #[rv a1, iv 1, .unset, .unset] [(.int 0)])) (fun t k => X66.arraylength hx (by rw [e66]; exact Ar68.1) (State.isArrayOf_alike hZ0.alike Ar68.2.1) (g := (mkF m 4 #[rv a1, iv 1, .unset, .unset] [(.ref dd)])) rfl rfl (hb hby d10_4) _ (by rw [len_of S68 M68]; exact k)) ?_
  obtain ⟨T69, X69, e69, st69⟩ := getF X66 hx hZ0 hown0 (host := "") (Or.inl (w_66 hw)) Via.refl e66 Fe (g := (mkF m 11 #[rv a1, iv 1, iv 0, .unset] [(.ref a1)])) rfl rfl (hb hby d10_11)
  obtain ⟨T70, X70, e70, st70⟩ := getS2 X69 hx hZ0 hown0 (host := "") (Or.inl (w_65 hw)) Via.refl e69 (OD.ext OL.2) (g := (mkF m 14 #[rv a1, iv 1, iv 0, .unset] [(.ref dd)])) rfl (hb hby d10_14)
  obtain ⟨v71, _, ⟨T71, L71, k71, n71⟩, -, X71, ⟨Lc71, hQ71, l71, y71, z71⟩, st71⟩ := Jvm.LawKit.callS X70 hx (y := yM19) hown0 (mvT hZ0 (w_136 hw)) (mvT hZ0 (w_137 hw)) (mvT hZ0 (w_138 hw)) (mvT hZ0 (w_139 hw)) (by decide) (backOf (W := 1) (rmMax l Z a0 hw [] () h0 ) hZ0 (w_139 hw) (w_138 hw) (by decide) (by decide)) (g := (mkF m 49 #[rv a1, iv 1, iv 0, .unset] [(.int 1), (.int 10), (.ref a1)])) rfl (by rw [hml]; rfl) (argsL := [(.int 10), (.int 1)]) (rest := [(.ref a1)]) (lenOf pd_2 rfl) rfl (by show 2 * 0 + _ ≤ _; exact Nat.le_of_eq rfl) (hb hby d10_49) (fun _ _ => ⟨rfl, e70, (by decide : 0 + 0 ≤ _), (by decide : 0 + 0 ≤ _)⟩)
  dsimp only [Pt.U, Pt.locs, Pt.cells, Pt.slots] at X71 l71 y71 z71 st71 hQ71
  subst l71 y71 z71
  obtain ⟨rfl, Nq71, eh71⟩ := hQ71
  have N71 := Fr.app N0 Nq71
  obtain ⟨T72, h72, k72, X72, e72, E72, A72, O72, st72⟩ := newR X71 hx hZ0 hown0 (w_140 hw) (w_141 hw) eh71 (g := (mkF m 52 #[rv a1, iv 1, iv 0, .unset] [(.int 10), (.ref a1)])) rfl (hb hby d10_52) rfl (by decide : ¬ ((10 : Int32) < (0 : Int32))) (cap := 10) (by decide) (by decide) (by decide) (by decide)
  obtain ⟨b72, g72⟩ : ∃ z, z = h0.size := ⟨_, rfl⟩
  rw [← g72] at A72 st72
  have V72 : Arv Z h72 b72 k72 (.object "java/lang/Object") (10 : Int32) [.null, .null, .null, .null, .null, .null, .null, .null, .null, .null] .null := (Arv.new A72 (by decide : ¬ ((10 : Int32) < (0 : Int32)))).pad (pad_rep [] .null 10)
  have u72 : h72.size > b72 := V72.lt
  have z72 : h0.size ≤ h72.size := E72.1
  have KP72 : Keep h0 h72 ([a1] : List Addr) := KP0.ext E72
  have F73 := (E_a1.ext E72)
  have F74 := (Fe.ext E72)
  obtain ⟨T75, h75, X75, e75, W75, st75⟩ := putF X72 hx hZ0 hown0 (host := "") (Or.inl (w_66 hw)) Via.refl e72 F74 F73 (Or.inl (w_67 hw)) (w_45 hw) (ty := (.array (.object "java/lang/Object"))) (by decide) rfl rfl (g := (mkF m 56 #[rv a1, iv 1, iv 0, .unset] [(.ref b72), (.ref a1), (.ref b72)])) rfl rfl (hb hby d10_56)
  have z75 : h72.size ≤ h75.size := Nat.le_of_eq W75.size.symm
  have KP75 : Keep h0 h75 ([a1] : List Addr) := KP72.wr W75 (Or.inl (List.mem_of_getElem? (i := 0) rfl))
  have N75 := Fr.snoc X75 N71 (by omega)
  have Fw75 := F74.same W75
  have F76 := (V72.other W75 (show @Ne Nat b72 a1 by omega))
  have F77 := (F73.wr W75)
  have F78 := ((Fs.ext E72).other W75 (Or.inr (slot_ne (Or.inl (w_110 hw)) (Or.inl (w_67 hw)) (by decide) (t := .int) (t' := (.array (.object "java/lang/Object"))) (by decide) (by decide))))
  have F79 := ((Fm.ext E72).other W75 (Or.inr (slot_ne (Or.inl (w_64 hw)) (Or.inl (w_67 hw)) (by decide) (t := .int) (t' := (.array (.object "java/lang/Object"))) (by decide) (by decide))))
  refine Go.on (w := T75.setTop (mkF m 59 #[rv a1, iv 1, iv 0, .unset] [(.ref b72)])) (fun t k => XS.istoreN X66.here hx rfl (hb hby d10_5) rfl (l' := #[rv a1, iv 1, iv 0, .unset]) rfl (XS.iloadN X66.here hx rfl (hb hby d10_6) rfl (XS.ifNo X66.here hx rfl (hb hby d10_7) rfl ((if0 _ _).trans (flt (by decide : ¬ ((0 : Int32) < (0 : Int32)))).2.2.1) (XS.aloadN X66.here hx rfl (hb hby d10_10) rfl rfl (st69 _ (st70 _ (Jvm.RoadKit.acmp (g := (mkF m 17 #[rv a1, iv 1, iv 0, .unset] [(.ref dd), (.ref dd)])) X70 hx rfl rfl rfl (pc0 := 17) (pc' := 45) (same := true) rfl (hb hby d10_17) rfl (decide_eq_true rfl) (by decide) (by decide) (XS.aloadN X70.here hx rfl (hb hby d10_45) rfl rfl (XS.bipush X70.here hx rfl (hb hby d10_46) (XS.iloadN X70.here hx rfl (hb hby d10_48) rfl (st71 _ (st72 _ (XS.dupX1 X72.here hx rfl (hb hby d10_55) rfl rfl rfl (st75 _ k)))))))))))))) ?_
  refine Go.finH X75 hlk (v := some (.ref b72)) (fun h => by rw [Bd.returns] at h; cases h) (fun fs hr => ?_) (endH (Q := Q_rmGrI Z a1 dd qd md h0) (by rw [e75]; exact ⟨b72, k72, rfl, N75, KP75, (by omega), O72, F76, F77, Fw75, F78, F79⟩) (by decide) (by decide))
  exact retOut X75 hx Bd.returns rfl (Or.inr (Or.inr (Or.inr (Or.inr ⟨rfl, rfl, rfl⟩)))) (hb hby d10_59) hr
def Q_rmGr (Z : State) (a1 : Addr) (dd : Addr) (qd : ClassId) (md : Int32) (h0 : Heap) (vv : Option Value) (h : Heap) (L : List Loc) : Prop := ∃ (ee : Addr) (ke : ClassId), vv = some (.ref ee) ∧ Fr Z.heap.size L ∧ Keep h0 h [a1] ∧ (h0.size ≤ ee) ∧ (Ovr Z ke "java/lang/Object") ∧ Arv Z h ee ke (.object "java/lang/Object") (10 : Int32) [.null, .null, .null, .null, .null, .null, .null, .null, .null, .null] .null ∧ Exa Z h a1 "java/util/ArrayList" ∧ Fld Z h a1 "java/util/ArrayList" "elementData" "[Ljava/lang/Object;" (.ref ee) ∧ Fld Z h a1 "java/util/ArrayList" "size" "I" (.int 0) ∧ Fld Z h a1 "java/util/AbstractList" "modCount" "I" (.int md)
theorem ef_rmGr (m : MethodId) (x0 : Addr)   : entryFrame m #[(.ref x0)] 1 = mkF m 0 #[.val (.ref x0)] [] := rfl
theorem rmGr (l : Launch) (Z : State) (a0 : Array Value) (hw : HW a0 Z) (ws : List Cond) (a1 : Addr) (dd : Addr) (qd : ClassId) (md : Int32) (h0 : Heap) (Z0 : Z.heap.size ≤ h0.size) (OL : Old Z Z.heap.size h0) (OD : Sta Z Z.heap "java/util/ArrayList" "DEFAULTCAPACITY_EMPTY_ELEMENTDATA" "[Ljava/lang/Object;" (.ref dd)) (VD : Arv Z Z.heap dd qd (.object "java/lang/Object") (0 : Int32) [] .null) (lo_a1 : Z.heap.size ≤ a1) (E_a1 : Exa Z h0 a1 "java/util/ArrayList") (Fe : Fld Z h0 a1 "java/util/ArrayList" "elementData" "[Ljava/lang/Object;" (.ref dd)) (Fs : Fld Z h0 a1 "java/util/ArrayList" "size" "I" (.int 0)) (Fm : Fld Z h0 a1 "java/util/AbstractList" "modCount" "I" (.int md)) :
    MetFree l yM17 (head1 (Cond.code yM17 jdk_38_method_7_code 1 (some (.array (.object "java/lang/Object"))) :: ws) (⟨2, 1, 10, 29⟩ : Room)) (fun a U => a = #[(.ref a1)] ∧ Z.Warmed39 U.vm ∧ U.heap = h0) (fun _ _ _ _ _ => True) (fun _ U o U' => ∃ v L, o = .returned v ∧ Q_rmGr Z a1 dd qd md h0 v U'.heap L ∧ FrameEnd U o U' L (⟨2, 1, 10, 29⟩ : Room).cells (⟨2, 1, 10, 29⟩ : Room).slots) := by
  refine MetFree.of_bodySF (plainFor_of_name (by first | (simp [plainName, overriddenIn]; done) | decide +kernel)) hisR ?_
  intro p e s m args below meth c s₁ Bd hml0 hP hK
  obtain ⟨rfl, hZ0', hh⟩ := hP
  have hx := Bd.exec
  have hby := Bd.bytes
  have hml : c.maxLocals = 1 := hml0
  have hZ0 : Z.Warmed39 s.vm := hZ0'
  have hown0 : s.vm.findClass "java/util/ArrayList" = some m.cls := findClass_of_methodNamed Bd.named
  have hnm := (name_of_methodNamed Bd.named Bd.method).1
  have hlk : meth.locks = false := Bd.notSynchronized
  have X0 : Stand p l e (⟨2, 1, 10, 29⟩ : Room) s m #[(.ref a1)] below meth c s₁ [] 0 0 := Stand.of_body Bd
  have e0 : s₁.heap = h0 := by rw [← hh, Bd.state]; rfl
  have N0 := Fr.nil Z.heap.size
  have KP0 : Keep h0 h0 ([a1] : List Addr) := Keep.refl _ _
  show Go p e below (fun t o => ∃ v L, o = .returned v ∧ Q_rmGr Z a1 dd qd md h0 v t.heap L ∧ FrameEnd s o t L (⟨2, 1, 10, 29⟩ : Room).cells (⟨2, 1, 10, 29⟩ : Room).slots) (s₁.setTop (entryFrame m #[(.ref a1)] 1))
  refine Go.on (w := s₁.setTop (mkF m 0 #[rv a1] [])) (fun t k => castTop (ef_rmGr m a1) k) ?_
  have u_a1 : h0.size > a1 := E_a1.lt
  obtain ⟨T80, X80, e80, st80⟩ := getF X0 hx hZ0 hown0 (host := "") (Or.inl (w_109 hw)) Via.refl e0 Fs (g := (mkF m 2 #[rv a1] [(.ref a1), (.ref a1)])) rfl rfl (hb hby d11_2)
  refine Go.on (w := T80.setTop (mkF m 6 #[rv a1] [(.int 1), (.int 0), (.ref a1)])) (fun t k => XS.aloadN X0.here hx rfl (hb hby d11_0) rfl rfl (XS.aloadN X0.here hx rfl (hb hby d11_1) rfl rfl (st80 _ (XS.iconst X80.here hx rfl (hb hby d11_5) k)))) ?_
  refine Go.on (w := T80.setTop (mkF m 7 #[rv a1] [(.int 1), (.ref a1)])) (fun t k => XS.iadd X80.here hx rfl (hb hby d11_6) rfl (by rw [(by decide : ((0 : Int32) + (1 : Int32)) = (1 : Int32))]; exact k)) ?_
  obtain ⟨cq81, q81, q81'⟩ := E_a1.cell
  obtain ⟨v81, _, ⟨T81, L81, k81, n81⟩, -, X81, ⟨Lc81, hQ81, l81, y81, z81⟩, st81⟩ := X80.privateBack hx (y := yM18) hown0 (mvT hZ0 (w_131 hw)) (mvT hZ0 (w_132 hw)) (mvT hZ0 (w_134 hw)) (Cond.privateMethod_at (mvP hZ0 (w_133 hw) (args := #[]))) (mvT hZ0 (w_135 hw)) (by decide) (backOf (W := 0) (rmGrI l Z a0 hw [] a1 dd qd md h0 (by omega) OL OD VD (by omega) E_a1 Fe Fs Fm) hZ0 (w_135 hw) (w_46 hw) (by decide) (by decide)) (g := (mkF m 7 #[rv a1] [(.int 1), (.ref a1)])) rfl (by rw [hml]; rfl) (Steps.refl _) (a := a1) (by rw [e80]; exact q81) q81' (argsL := [(.int 1)]) (rest := []) (lenOf pd_3 rfl) rfl (by show 2 * 0 + _ ≤ _; exact Nat.le_of_eq rfl) (hb hby d11_7) (fun _ _ => ⟨rfl, e80, (by decide : 0 + 1 ≤ _), (by decide : 0 + 10 ≤ _)⟩)
  dsimp only [Pt.U, Pt.locs, Pt.cells, Pt.slots] at X81 l81 y81 z81 st81 hQ81
  subst l81 y81 z81
  obtain ⟨ee_81, ke_81, rfl, Nq81, K81, f81_0, f81_1, f81_2, f81_3, f81_4, f81_5, f81_6⟩ := hQ81
  have N81 := Fr.app N0 Nq81
  have eK81 : T81.heap = T81.heap := rfl
  have z81 : h0.size ≤ T81.heap.size := K81.1
  have KP81 : Keep h0 T81.heap ([a1] : List Addr) := KP0.trans K81 (allS (P := fun zq => zq ∈ ([a1] : List Addr) ∨ h0.size ≤ zq) (Or.inl (List.mem_of_getElem? (i := 0) rfl)) all0)
  have u81_2 : T81.heap.size > ee_81 := f81_2.lt
  refine Go.on (w := T81.setTop (mkF m 10 #[rv a1] [(.ref ee_81)])) (fun t k => st81.trans k) ?_
  refine Go.finH X81 hlk (v := some (.ref ee_81)) (fun h => by rw [Bd.returns] at h; cases h) (fun fs hr => ?_) (endH (Q := Q_rmGr Z a1 dd qd md h0) (by rw [eK81]; exact ⟨ee_81, ke_81, rfl, N81, KP81, (by omega), f81_1, f81_2, f81_3, f81_4, f81_5, f81_6⟩) (by decide) (by decide))
  exact retOut X81 hx Bd.returns rfl (Or.inr (Or.inr (Or.inr (Or.inr ⟨rfl, rfl, rfl⟩)))) (hb hby d11_10) hr
def Q_rmAa (Z : State) (a1 : Addr) (x : Addr) (dd : Addr) (qd : ClassId) (md : Int32) (h0 : Heap) (vv : Option Value) (h : Heap) (L : List Loc) : Prop := ∃ (ee : Addr) (ke : ClassId), vv = none ∧ Fr Z.heap.size L ∧ Keep h0 h [a1] ∧ (h0.size ≤ ee) ∧ Arv Z h ee ke (.object "java/lang/Object") (10 : Int32) [(.ref x), .null, .null, .null, .null, .null, .null, .null, .null, .null] .null ∧ Exa Z h a1 "java/util/ArrayList" ∧ Fld Z h a1 "java/util/ArrayList" "elementData" "[Ljava/lang/Object;" (.ref ee) ∧ Fld Z h a1 "java/util/ArrayList" "size" "I" (.int 1) ∧ Fld Z h a1 "java/util/AbstractList" "modCount" "I" (.int md)
theorem ef_rmAa (m : MethodId) (x0 : Addr) (x1 : Addr) (x2 : Addr) (x3 : Int32)   : entryFrame m #[(.ref x0), (.ref x1), (.ref x2), (.int x3)] 4 = mkF m 0 #[.val (.ref x0), .val (.ref x1), .val (.ref x2), .val (.int x3)] [] := rfl
theorem rmAa (l : Launch) (Z : State) (a0 : Array Value) (hw : HW a0 Z) (ws : List Cond) (a1 : Addr) (x : Addr) (dd : Addr) (qd : ClassId) (md : Int32) (h0 : Heap) (Z0 : Z.heap.size ≤ h0.size) (OL : Old Z Z.heap.size h0) (OD : Sta Z Z.heap "java/util/ArrayList" "DEFAULTCAPACITY_EMPTY_ELEMENTDATA" "[Ljava/lang/Object;" (.ref dd)) (VD : Arv Z Z.heap dd qd (.object "java/lang/Object") (0 : Int32) [] .null) (lo_a1 : Z.heap.size ≤ a1) (E_a1 : Exa Z h0 a1 "java/util/ArrayList") (E_x : Exa Z h0 x "[B") (Fe : Fld Z h0 a1 "java/util/ArrayList" "elementData" "[Ljava/lang/Object;" (.ref dd)) (Fs : Fld Z h0 a1 "java/util/ArrayList" "size" "I" (.int 0)) (Fm : Fld Z h0 a1 "java/util/AbstractList" "modCount" "I" (.int md)) :
    MetFree l yM16 (head1 (Cond.code yM16 jdk_38_method_24_code 4 none :: ws) (⟨3, 1, 10, 41⟩ : Room)) (fun a U => a = #[(.ref a1), (.ref x), (.ref dd), (.int 0)] ∧ Z.Warmed39 U.vm ∧ U.heap = h0) (fun _ _ _ _ _ => True) (fun _ U o U' => ∃ v L, o = .returned v ∧ Q_rmAa Z a1 x dd qd md h0 v U'.heap L ∧ FrameEnd U o U' L (⟨3, 1, 10, 41⟩ : Room).cells (⟨3, 1, 10, 41⟩ : Room).slots) := by
  refine MetFree.of_bodySF (plainFor_of_name (by first | (simp [plainName, overriddenIn]; done) | decide +kernel)) hisR ?_
  intro p e s m args below meth c s₁ Bd hml0 hP hK
  obtain ⟨rfl, hZ0', hh⟩ := hP
  have hx := Bd.exec
  have hby := Bd.bytes
  have hml : c.maxLocals = 4 := hml0
  have hZ0 : Z.Warmed39 s.vm := hZ0'
  have hown0 : s.vm.findClass "java/util/ArrayList" = some m.cls := findClass_of_methodNamed Bd.named
  have hnm := (name_of_methodNamed Bd.named Bd.method).1
  have hlk : meth.locks = false := Bd.notSynchronized
  have X0 : Stand p l e (⟨3, 1, 10, 41⟩ : Room) s m #[(.ref a1), (.ref x), (.ref dd), (.int 0)] below meth c s₁ [] 0 0 := Stand.of_body Bd
  have e0 : s₁.heap = h0 := by rw [← hh, Bd.state]; rfl
  have N0 := Fr.nil Z.heap.size
  have KP0 : Keep h0 h0 ([a1] : List Addr) := Keep.refl _ _
  show Go p e below (fun t o => ∃ v L, o = .returned v ∧ Q_rmAa Z a1 x dd qd md h0 v t.heap L ∧ FrameEnd s o t L (⟨3, 1, 10, 41⟩ : Room).cells (⟨3, 1, 10, 41⟩ : Room).slots) (s₁.setTop (entryFrame m #[(.ref a1), (.ref x), (.ref dd), (.int 0)] 4))
  refine Go.on (w := s₁.setTop (mkF m 0 #[rv a1, rv x, rv dd, iv 0] [])) (fun t k => castTop (ef_rmAa m a1 x dd (0 : Int32)) k) ?_
  have u_a1 : h0.size > a1 := E_a1.lt
  have F82 := VD.ext OL.2
  obtain ⟨cl83, Ar83, q83, S83, M83, H83, U83⟩ := id F82
  refine Go.on (w := s₁.setTop (mkF m 2 #[rv a1, rv x, rv dd, iv 0] [(.ref dd), (.int 0)])) (fun t k => XS.iloadN X0.here hx rfl (hb hby d12_0) rfl (XS.aloadN X0.here hx rfl (hb hby d12_1) rfl rfl k)) ?_
  refine Go.on (w := s₁.setTop (mkF m 3 #[rv a1, rv x, rv dd, iv 0] [(.int 0), (.int 0)])) (fun t k => X0.arraylength hx (by rw [e0]; exact Ar83.1) (State.isArrayOf_alike hZ0.alike Ar83.2.1) (g := (mkF m 2 #[rv a1, rv x, rv dd, iv 0] [(.ref dd), (.int 0)])) rfl rfl (hb hby d12_2) _ (by rw [len_of S83 M83]; exact k)) ?_
  obtain ⟨cq84, q84, q84'⟩ := E_a1.cell
  obtain ⟨v84, _, ⟨T84, L84, k84, n84⟩, -, X84, ⟨Lc84, hQ84, l84, y84, z84⟩, st84⟩ := X0.privateBack hx (y := yM17) hown0 (mvT hZ0 (w_126 hw)) (mvT hZ0 (w_127 hw)) (mvT hZ0 (w_129 hw)) (Cond.privateMethod_at (mvP hZ0 (w_128 hw) (args := #[]))) (mvT hZ0 (w_130 hw)) (by decide) (backOf (W := 0) (rmGr l Z a0 hw [] a1 dd qd md h0 (by omega) OL OD VD (by omega) E_a1 Fe Fs Fm) hZ0 (w_130 hw) (w_46 hw) (by decide) (by decide)) (g := (mkF m 7 #[rv a1, rv x, rv dd, iv 0] [(.ref a1)])) rfl (by rw [hml]; rfl) (Steps.refl _) (a := a1) (by rw [e0]; exact q84) q84' (argsL := []) (rest := []) (lenOf pd_4 rfl) rfl (by show 2 * 0 + _ ≤ _; exact Nat.le_of_eq rfl) (hb hby d12_7) (fun _ _ => ⟨rfl, e0, (by decide : 0 + 1 ≤ _), (by decide : 0 + 10 ≤ _)⟩)
  dsimp only [Pt.U, Pt.locs, Pt.cells, Pt.slots] at X84 l84 y84 z84 st84 hQ84
  subst l84 y84 z84
  obtain ⟨ee_84, ke_84, rfl, Nq84, K84, f84_0, f84_1, f84_2, f84_3, f84_4, f84_5, f84_6⟩ := hQ84
  have N84 := Fr.app N0 Nq84
  have eK84 : T84.heap = T84.heap := rfl
  have z84 : h0.size ≤ T84.heap.size := K84.1
  have KP84 : Keep h0 T84.heap ([a1] : List Addr) := KP0.trans K84 (allS (P := fun zq => zq ∈ ([a1] : List Addr) ∨ h0.size ≤ zq) (Or.inl (List.mem_of_getElem? (i := 0) rfl)) all0)
  have u84_2 : T84.heap.size > ee_84 := f84_2.lt
  obtain ⟨cl85, Ar85, q85, S85, M85, H85, U85⟩ := id f84_2
  have F86 := (E_x.keep K84)
  obtain ⟨T85, h85, X85, e85, W85, st85⟩ := stR X84 hx hZ0 eK84 Ar85 (j := (0 : Int32)) (inb_of S85 ⟨(by decide), (by decide)⟩) rfl (Sto.ofV Ar85 q85 f84_1 (Ins.of_exa F86 (w_142 hw))) (g := (mkF m 14 #[rv a1, rv x, rv ee_84, iv 0] [(.ref x), (.int 0), (.ref ee_84)])) rfl rfl (hb hby d12_14)
  have V85 : Arv Z h85 ee_84 ke_84 (.object "java/lang/Object") (10 : Int32) [(.ref x), .null, .null, .null, .null, .null, .null, .null, .null, .null] .null := (Arv.set Ar85 q85 S85 M85 H85 U85 rfl W85 0 rfl (Nat.le_of_ble_eq_true rfl))
  have z85 : T84.heap.size ≤ h85.size := Nat.le_of_eq W85.size.symm
  have KP85 : Keep h0 h85 ([a1] : List Addr) := KP84.wr W85 (Or.inr (by omega))
  have N85 := Fr.snoc X85 N84 (by omega)
  refine Go.on (w := T85.setTop (mkF m 18 #[rv a1, rv x, rv ee_84, iv 0] [(.int 1), (.int 0), (.ref a1)])) (fun t k => XS.icmpNo X0.here hx rfl (hb hby d12_3) rfl (teq (by decide : (0 : Int32) = (0 : Int32))).2 (XS.aloadN X0.here hx rfl (hb hby d12_6) rfl rfl (st84.trans (XS.astoreN X84.here hx rfl (hb hby d12_10) rfl rfl (l' := #[rv a1, rv x, rv ee_84, iv 0]) rfl (XS.aloadN X84.here hx rfl (hb hby d12_11) rfl rfl (XS.iloadN X84.here hx rfl (hb hby d12_12) rfl (XS.aloadN X84.here hx rfl (hb hby d12_13) rfl rfl (st85 _ (XS.aloadN X85.here hx rfl (hb hby d12_15) rfl rfl (XS.iloadN X85.here hx rfl (hb hby d12_16) rfl (XS.iconst X85.here hx rfl (hb hby d12_17) k))))))))))) ?_
  refine Go.on (w := T85.setTop (mkF m 19 #[rv a1, rv x, rv ee_84, iv 0] [(.int 1), (.ref a1)])) (fun t k => XS.iadd X85.here hx rfl (hb hby d12_18) rfl (by rw [(by decide : ((0 : Int32) + (1 : Int32)) = (1 : Int32))]; exact k)) ?_
  have F87 := (f84_3.wr W85)
  have F88 := (f84_5.other W85 (Or.inl (show @Ne Nat a1 ee_84 by omega)))
  obtain ⟨T89, h89, X89, e89, W89, st89⟩ := putF X85 hx hZ0 hown0 (host := "") (Or.inl (w_109 hw)) Via.refl e85 F88 F87 (Or.inl (w_110 hw)) (w_45 hw) (ty := .int) (by decide) rfl rfl (g := (mkF m 19 #[rv a1, rv x, rv ee_84, iv 0] [(.int 1), (.ref a1)])) rfl rfl (hb hby d12_19)
  have z89 : h85.size ≤ h89.size := Nat.le_of_eq W89.size.symm
  have KP89 : Keep h0 h89 ([a1] : List Addr) := KP85.wr W89 (Or.inl (List.mem_of_getElem? (i := 0) rfl))
  have N89 := Fr.snoc X89 N85 (by omega)
  have Fw89 := F88.same W89
  have F90 := (V85.other W89 (show @Ne Nat ee_84 a1 by omega))
  have F91 := (F87.wr W89)
  have F92 := ((f84_4.other W85 (Or.inl (show @Ne Nat a1 ee_84 by omega))).other W89 (Or.inr (slot_ne (Or.inl (w_67 hw)) (Or.inl (w_110 hw)) (by decide) (t := (.array (.object "java/lang/Object"))) (t' := .int) (by decide) (by decide))))
  have F93 := ((f84_6.other W85 (Or.inl (show @Ne Nat a1 ee_84 by omega))).other W89 (Or.inr (slot_ne (Or.inl (w_64 hw)) (Or.inl (w_110 hw)) (by decide) (t := .int) (t' := .int) (by decide) (by decide))))
  refine Go.on (w := T89.setTop (mkF m 22 #[rv a1, rv x, rv ee_84, iv 0] [])) (fun t k => st89 _ k) ?_
  refine Go.finH X89 hlk (v := none) (fun _ => rfl) (fun fs hr => ?_) (endH (Q := Q_rmAa Z a1 x dd qd md h0) (by rw [e89]; exact ⟨ee_84, ke_84, rfl, N89, KP89, (by omega), F90, F91, F92, Fw89, F93⟩) (by decide) (by decide))
  exact X89.returnOut hx Bd.returns (hb hby d12_22) hr
def Q_rmAb (Z : State) (a1 : Addr) (x : Addr) (dd : Addr) (qd : ClassId) (md : Int32) (h0 : Heap) (vv : Option Value) (h : Heap) (L : List Loc) : Prop := ∃ (ee : Addr) (ke : ClassId), vv = some (.int 1) ∧ Fr Z.heap.size L ∧ Keep h0 h [a1] ∧ (h0.size ≤ ee) ∧ Arv Z h ee ke (.object "java/lang/Object") (10 : Int32) [(.ref x), .null, .null, .null, .null, .null, .null, .null, .null, .null] .null ∧ Exa Z h a1 "java/util/ArrayList" ∧ Fld Z h a1 "java/util/ArrayList" "elementData" "[Ljava/lang/Object;" (.ref ee) ∧ Fld Z h a1 "java/util/ArrayList" "size" "I" (.int 1) ∧ Fld Z h a1 "java/util/AbstractList" "modCount" "I" (.int (md + (1 : Int32)))
theorem ef_rmAb (m : MethodId) (x0 : Addr) (x1 : Addr)   : entryFrame m #[(.ref x0), (.ref x1)] 2 = mkF m 0 #[.val (.ref x0), .val (.ref x1)] [] := rfl
theorem rmAb (l : Launch) (Z : State) (a0 : Array Value) (hw : HW a0 Z) (ws : List Cond) (a1 : Addr) (x : Addr) (dd : Addr) (qd : ClassId) (md : Int32) (h0 : Heap) (Z0 : Z.heap.size ≤ h0.size) (OL : Old Z Z.heap.size h0) (OD : Sta Z Z.heap "java/util/ArrayList" "DEFAULTCAPACITY_EMPTY_ELEMENTDATA" "[Ljava/lang/Object;" (.ref dd)) (VD : Arv Z Z.heap dd qd (.object "java/lang/Object") (0 : Int32) [] .null) (lo_a1 : Z.heap.size ≤ a1) (E_a1 : Exa Z h0 a1 "java/util/ArrayList") (E_x : Exa Z h0 x "[B") (Fe : Fld Z h0 a1 "java/util/ArrayList" "elementData" "[Ljava/lang/Object;" (.ref dd)) (Fs : Fld Z h0 a1 "java/util/ArrayList" "size" "I" (.int 0)) (Fm : Fld Z h0 a1 "java/util/AbstractList" "modCount" "I" (.int md)) :
    MetFree l yM15 (head1 (Cond.code yM15 jdk_38_method_25_code 2 (some .boolean) :: ws) (⟨4, 1, 10, 56⟩ : Room)) (fun a U => a = #[(.ref a1), (.ref x)] ∧ Z.Warmed39 U.vm ∧ U.heap = h0) (fun _ _ _ _ _ => True) (fun _ U o U' => ∃ v L, o = .returned v ∧ Q_rmAb Z a1 x dd qd md h0 v U'.heap L ∧ FrameEnd U o U' L (⟨4, 1, 10, 56⟩ : Room).cells (⟨4, 1, 10, 56⟩ : Room).slots) := by
  refine MetFree.of_bodySF (plainFor_of_name (by first | (simp [plainName, overriddenIn]; done) | decide +kernel)) hisR ?_
  intro p e s m args below meth c s₁ Bd hml0 hP hK
  obtain ⟨rfl, hZ0', hh⟩ := hP
  have hx := Bd.exec
  have hby := Bd.bytes
  have hml : c.maxLocals = 2 := hml0
  have hZ0 : Z.Warmed39 s.vm := hZ0'
  have hown0 : s.vm.findClass "java/util/ArrayList" = some m.cls := findClass_of_methodNamed Bd.named
  have hnm := (name_of_methodNamed Bd.named Bd.method).1
  have hlk : meth.locks = false := Bd.notSynchronized
  have X0 : Stand p l e (⟨4, 1, 10, 56⟩ : Room) s m #[(.ref a1), (.ref x)] below meth c s₁ [] 0 0 := Stand.of_body Bd
  have e0 : s₁.heap = h0 := by rw [← hh, Bd.state]; rfl
  have N0 := Fr.nil Z.heap.size
  have KP0 : Keep h0 h0 ([a1] : List Addr) := Keep.refl _ _
  show Go p e below (fun t o => ∃ v L, o = .returned v ∧ Q_rmAb Z a1 x dd qd md h0 v t.heap L ∧ FrameEnd s o t L (⟨4, 1, 10, 56⟩ : Room).cells (⟨4, 1, 10, 56⟩ : Room).slots) (s₁.setTop (entryFrame m #[(.ref a1), (.ref x)] 2))
  refine Go.on (w := s₁.setTop (mkF m 0 #[rv a1, rv x] [])) (fun t k => castTop (ef_rmAb m a1 x) k) ?_
  have u_a1 : h0.size > a1 := E_a1.lt
  obtain ⟨T94, X94, e94, st94⟩ := getF X0 hx hZ0 hown0 (host := "") (Or.inl (w_119 hw)) (Via.of (w_120 hw)) e0 Fm (g := (mkF m 2 #[rv a1, rv x] [(.ref a1), (.ref a1)])) rfl rfl (hb hby d13_2)
  obtain ⟨T95, h95, X95, e95, W95, st95⟩ := putF X94 hx hZ0 hown0 (host := "") (Or.inl (w_119 hw)) (Via.of (w_120 hw)) e94 Fm E_a1 (Or.inl (w_64 hw)) (w_45 hw) (ty := .int) (by decide) rfl rfl (g := (mkF m 7 #[rv a1, rv x] [(.int (md + (1 : Int32))), (.ref a1)])) rfl rfl (hb hby d13_7)
  have z95 : h0.size ≤ h95.size := Nat.le_of_eq W95.size.symm
  have KP95 : Keep h0 h95 ([a1] : List Addr) := KP0.wr W95 (Or.inl (List.mem_of_getElem? (i := 0) rfl))
  have N95 := Fr.snoc X95 N0 (by omega)
  have Fw95 := Fm.same W95
  have F96 := (Fe.other W95 (Or.inr (slot_ne (Or.inl (w_67 hw)) (Or.inl (w_64 hw)) (by decide) (t := (.array (.object "java/lang/Object"))) (t' := .int) (by decide) (by decide))))
  obtain ⟨T97, X97, e97, st97⟩ := getF X95 hx hZ0 hown0 (host := "") (Or.inl (w_66 hw)) Via.refl e95 F96 (g := (mkF m 13 #[rv a1, rv x] [(.ref a1), (.ref x), (.ref a1)])) rfl rfl (hb hby d13_13)
  have F98 := (Fs.other W95 (Or.inr (slot_ne (Or.inl (w_110 hw)) (Or.inl (w_64 hw)) (by decide) (t := .int) (t' := .int) (by decide) (by decide))))
  obtain ⟨T99, X99, e99, st99⟩ := getF X97 hx hZ0 hown0 (host := "") (Or.inl (w_109 hw)) Via.refl e97 F98 (g := (mkF m 17 #[rv a1, rv x] [(.ref a1), (.ref dd), (.ref x), (.ref a1)])) rfl rfl (hb hby d13_17)
  have F101 := (OL.wr W95 (by omega))
  have F102 := (E_a1.wr W95)
  have F103 := (E_x.wr W95)
  obtain ⟨cq100, q100, q100'⟩ := F102.cell
  obtain ⟨v100, _, ⟨T100, L100, k100, n100⟩, -, X100, ⟨Lc100, hQ100, l100, y100, z100⟩, st100⟩ := X99.privateBack hx (y := yM16) hown0 (mvT hZ0 (w_121 hw)) (mvT hZ0 (w_122 hw)) (mvT hZ0 (w_124 hw)) (Cond.privateMethod_at (mvP hZ0 (w_123 hw) (args := #[]))) (mvT hZ0 (w_125 hw)) (by decide) (backOf (W := 0) (rmAa l Z a0 hw [] a1 x dd qd (md + (1 : Int32)) h95 (by omega) F101 OD VD (by omega) F102 F103 F96 F98 Fw95) hZ0 (w_125 hw) (w_46 hw) (by decide) (by decide)) (g := (mkF m 20 #[rv a1, rv x] [(.int 0), (.ref dd), (.ref x), (.ref a1)])) rfl (by rw [hml]; rfl) (Steps.refl _) (a := a1) (by rw [e99]; exact q100) q100' (argsL := [(.ref x), (.ref dd), (.int 0)]) (rest := []) (lenOf pd_5 rfl) rfl (by show 2 * 0 + _ ≤ _; exact Nat.le_of_eq rfl) (hb hby d13_20) (fun _ _ => ⟨rfl, e99, (by decide : 0 + 1 ≤ _), (by decide : 0 + 10 ≤ _)⟩)
  dsimp only [Pt.U, Pt.locs, Pt.cells, Pt.slots] at X100 l100 y100 z100 st100 hQ100
  subst l100 y100 z100
  obtain ⟨ee_100, ke_100, rfl, Nq100, K100, f100_0, f100_1, f100_2, f100_3, f100_4, f100_5⟩ := hQ100
  have N100 := Fr.app N95 Nq100
  have eK100 : T100.heap = T100.heap := rfl
  have z100 : h95.size ≤ T100.heap.size := K100.1
  have KP100 : Keep h0 T100.heap ([a1] : List Addr) := KP95.trans K100 (allS (P := fun zq => zq ∈ ([a1] : List Addr) ∨ h0.size ≤ zq) (Or.inl (List.mem_of_getElem? (i := 0) rfl)) all0)
  have u100_1 : T100.heap.size > ee_100 := f100_1.lt
  refine Go.on (w := T100.setTop (mkF m 24 #[rv a1, rv x] [(.int 1)])) (fun t k => XS.aloadN X0.here hx rfl (hb hby d13_0) rfl rfl (XS.dup X0.here hx rfl (hb hby d13_1) rfl rfl (st94 _ (XS.iconst X94.here hx rfl (hb hby d13_5) (XS.iadd X94.here hx rfl (hb hby d13_6) rfl (st95 _ (XS.aloadN X95.here hx rfl (hb hby d13_10) rfl rfl (XS.aloadN X95.here hx rfl (hb hby d13_11) rfl rfl (XS.aloadN X95.here hx rfl (hb hby d13_12) rfl rfl (st97 _ (XS.aloadN X97.here hx rfl (hb hby d13_16) rfl rfl (st99 _ (st100.trans (XS.iconst X100.here hx rfl (hb hby d13_23) k)))))))))))))) ?_
  refine Go.finH X100 hlk (v := some (.int 1)) (fun h => by rw [Bd.returns] at h; cases h) (fun fs hr => ?_) (endH (Q := Q_rmAb Z a1 x dd qd md h0) (by rw [eK100]; exact ⟨ee_100, ke_100, rfl, N100, KP100, (by omega), f100_1, f100_2, f100_3, f100_4, f100_5⟩) (by decide) (by decide))
  exact retN X100 hx (t := .boolean) Bd.returns (by simp) (hb hby d13_24) hr
def Q_rmIe0 (Z : State) (a1 : Addr) (h0 : Heap) (vv : Option Value) (h : Heap) (L : List Loc) : Prop := vv = some (.int 1) ∧ Fr Z.heap.size L ∧ h = h0
theorem ef_rmIe0 (m : MethodId) (x0 : Addr)   : entryFrame m #[(.ref x0)] 1 = mkF m 0 #[.val (.ref x0)] [] := rfl
theorem rmIe0 (l : Launch) (Z : State) (a0 : Array Value) (hw : HW a0 Z) (ws : List Cond) (a1 : Addr) (h0 : Heap) (Fs : Fld Z h0 a1 "java/util/ArrayList" "size" "I" (.int 0)) :
    MetFree l yM13 (head1 (Cond.code yM13 jdk_38_method_9_code 1 (some .boolean) :: ws) (⟨0, 0, 0, 0⟩ : Room)) (fun a U => a = #[(.ref a1)] ∧ Z.Warmed39 U.vm ∧ U.heap = h0) (fun _ _ _ _ _ => True) (fun _ U o U' => ∃ v L, o = .returned v ∧ Q_rmIe0 Z a1 h0 v U'.heap L ∧ FrameEnd U o U' L (⟨0, 0, 0, 0⟩ : Room).cells (⟨0, 0, 0, 0⟩ : Room).slots) := by
  refine MetFree.of_bodySF (plainFor_of_name (by first | (simp [plainName, overriddenIn]; done) | decide +kernel)) hisR ?_
  intro p e s m args below meth c s₁ Bd hml0 hP hK
  obtain ⟨rfl, hZ0', hh⟩ := hP
  have hx := Bd.exec
  have hby := Bd.bytes
  have hml : c.maxLocals = 1 := hml0
  have hZ0 : Z.Warmed39 s.vm := hZ0'
  have hown0 : s.vm.findClass "java/util/ArrayList" = some m.cls := findClass_of_methodNamed Bd.named
  have hnm := (name_of_methodNamed Bd.named Bd.method).1
  have hlk : meth.locks = false := Bd.notSynchronized
  have X0 : Stand p l e (⟨0, 0, 0, 0⟩ : Room) s m #[(.ref a1)] below meth c s₁ [] 0 0 := Stand.of_body Bd
  have e0 : s₁.heap = h0 := by rw [← hh, Bd.state]; rfl
  have N0 := Fr.nil Z.heap.size
  have KP0 : Keep h0 h0 ([] : List Addr) := Keep.refl _ _
  show Go p e below (fun t o => ∃ v L, o = .returned v ∧ Q_rmIe0 Z a1 h0 v t.heap L ∧ FrameEnd s o t L (⟨0, 0, 0, 0⟩ : Room).cells (⟨0, 0, 0, 0⟩ : Room).slots) (s₁.setTop (entryFrame m #[(.ref a1)] 1))
  refine Go.on (w := s₁.setTop (mkF m 0 #[rv a1] [])) (fun t k => castTop (ef_rmIe0 m a1) k) ?_
  obtain ⟨T104, X104, e104, st104⟩ := getF X0 hx hZ0 hown0 (host := "") (Or.inl (w_109 hw)) Via.refl e0 Fs (g := (mkF m 1 #[rv a1] [(.ref a1)])) rfl rfl (hb hby d14_1)
  refine Go.on (w := T104.setTop (mkF m 12 #[rv a1] [(.int 1)])) (fun t k => XS.aloadN X0.here hx rfl (hb hby d14_0) rfl rfl (st104 _ (XS.ifNo X104.here hx rfl (hb hby d14_4) rfl ((if0 _ _).trans (teq (by decide : (0 : Int32) = (0 : Int32))).2) (XS.iconst X104.here hx rfl (hb hby d14_7) (XS.goto X104.here hx rfl (pc0 := 8) (pc' := 12) rfl (hb hby d14_8) (by decide) (by decide) k))))) ?_
  refine Go.finH X104 hlk (v := some (.int 1)) (fun h => by rw [Bd.returns] at h; cases h) (fun fs hr => ?_) (endH (Q := Q_rmIe0 Z a1 h0) (by rw [e104]; exact ⟨rfl, N0, rfl⟩) (by decide) (by decide))
  exact retN X104 hx (t := .boolean) Bd.returns (by simp) (hb hby d14_12) hr
def Q_rmIe1 (Z : State) (a1 : Addr) (h0 : Heap) (vv : Option Value) (h : Heap) (L : List Loc) : Prop := vv = some (.int 0) ∧ Fr Z.heap.size L ∧ h = h0
theorem ef_rmIe1 (m : MethodId) (x0 : Addr)   : entryFrame m #[(.ref x0)] 1 = mkF m 0 #[.val (.ref x0)] [] := rfl
theorem rmIe1 (l : Launch) (Z : State) (a0 : Array Value) (hw : HW a0 Z) (ws : List Cond) (a1 : Addr) (h0 : Heap) (Fs : Fld Z h0 a1 "java/util/ArrayList" "size" "I" (.int 1)) :
    MetFree l yM13 (head1 (Cond.code yM13 jdk_38_method_9_code 1 (some .boolean) :: ws) (⟨0, 0, 0, 0⟩ : Room)) (fun a U => a = #[(.ref a1)] ∧ Z.Warmed39 U.vm ∧ U.heap = h0) (fun _ _ _ _ _ => True) (fun _ U o U' => ∃ v L, o = .returned v ∧ Q_rmIe1 Z a1 h0 v U'.heap L ∧ FrameEnd U o U' L (⟨0, 0, 0, 0⟩ : Room).cells (⟨0, 0, 0, 0⟩ : Room).slots) := by
  refine MetFree.of_bodySF (plainFor_of_name (by first | (simp [plainName, overriddenIn]; done) | decide +kernel)) hisR ?_
  intro p e s m args below meth c s₁ Bd hml0 hP hK
  obtain ⟨rfl, hZ0', hh⟩ := hP
  have hx := Bd.exec
  have hby := Bd.bytes
  have hml : c.maxLocals = 1 := hml0
  have hZ0 : Z.Warmed39 s.vm := hZ0'
  have hown0 : s.vm.findClass "java/util/ArrayList" = some m.cls := findClass_of_methodNamed Bd.named
  have hnm := (name_of_methodNamed Bd.named Bd.method).1
  have hlk : meth.locks = false := Bd.notSynchronized
  have X0 : Stand p l e (⟨0, 0, 0, 0⟩ : Room) s m #[(.ref a1)] below meth c s₁ [] 0 0 := Stand.of_body Bd
  have e0 : s₁.heap = h0 := by rw [← hh, Bd.state]; rfl
  have N0 := Fr.nil Z.heap.size
  have KP0 : Keep h0 h0 ([] : List Addr) := Keep.refl _ _
  show Go p e below (fun t o => ∃ v L, o = .returned v ∧ Q_rmIe1 Z a1 h0 v t.heap L ∧ FrameEnd s o t L (⟨0, 0, 0, 0⟩ : Room).cells (⟨0, 0, 0, 0⟩ : Room).slots) (s₁.setTop (entryFrame m #[(.ref a1)] 1))
  refine Go.on (w := s₁.setTop (mkF m 0 #[rv a1] [])) (fun t k => castTop (ef_rmIe1 m a1) k) ?_
  obtain ⟨T105, X105, e105, st105⟩ := getF X0 hx hZ0 hown0 (host := "") (Or.inl (w_109 hw)) Via.refl e0 Fs (g := (mkF m 1 #[rv a1] [(.ref a1)])) rfl rfl (hb hby d14_1)
  refine Go.on (w := T105.setTop (mkF m 12 #[rv a1] [(.int 0)])) (fun t k => XS.aloadN X0.here hx rfl (hb hby d14_0) rfl rfl (st105 _ (XS.ifYes X105.here hx rfl (pc0 := 4) (pc' := 11) rfl (hb hby d14_4) rfl ((if0 _ _).trans (feq (by decide : ¬ ((1 : Int32) = (0 : Int32)))).2) (by decide) (by decide) (XS.iconst X105.here hx rfl (hb hby d14_11) k)))) ?_
  refine Go.finH X105 hlk (v := some (.int 0)) (fun h => by rw [Bd.returns] at h; cases h) (fun fs hr => ?_) (endH (Q := Q_rmIe1 Z a1 h0) (by rw [e105]; exact ⟨rfl, N0, rfl⟩) (by decide) (by decide))
  exact retN X105 hx (t := .boolean) Bd.returns (by simp) (hb hby d14_12) hr
def Q_rmLs (Z : State) (a1 : Addr) (h0 : Heap) (vv : Option Value) (h : Heap) (L : List Loc) : Prop := vv = some (.int 1) ∧ Fr Z.heap.size L ∧ h = h0
theorem ef_rmLs (m : MethodId) (x0 : Addr)   : entryFrame m #[(.ref x0)] 1 = mkF m 0 #[.val (.ref x0)] [] := rfl
theorem rmLs (l : Launch) (Z : State) (a0 : Array Value) (hw : HW a0 Z) (ws : List Cond) (a1 : Addr) (h0 : Heap) (Fs : Fld Z h0 a1 "java/util/ArrayList" "size" "I" (.int 1)) :
    MetFree l yM21 (head1 (Cond.code yM21 jdk_38_method_8_code 1 (some .int) :: ws) (⟨0, 0, 0, 0⟩ : Room)) (fun a U => a = #[(.ref a1)] ∧ Z.Warmed39 U.vm ∧ U.heap = h0) (fun _ _ _ _ _ => True) (fun _ U o U' => ∃ v L, o = .returned v ∧ Q_rmLs Z a1 h0 v U'.heap L ∧ FrameEnd U o U' L (⟨0, 0, 0, 0⟩ : Room).cells (⟨0, 0, 0, 0⟩ : Room).slots) := by
  refine MetFree.of_bodySF (plainFor_of_name (by first | (simp [plainName, overriddenIn]; done) | decide +kernel)) hisR ?_
  intro p e s m args below meth c s₁ Bd hml0 hP hK
  obtain ⟨rfl, hZ0', hh⟩ := hP
  have hx := Bd.exec
  have hby := Bd.bytes
  have hml : c.maxLocals = 1 := hml0
  have hZ0 : Z.Warmed39 s.vm := hZ0'
  have hown0 : s.vm.findClass "java/util/ArrayList" = some m.cls := findClass_of_methodNamed Bd.named
  have hnm := (name_of_methodNamed Bd.named Bd.method).1
  have hlk : meth.locks = false := Bd.notSynchronized
  have X0 : Stand p l e (⟨0, 0, 0, 0⟩ : Room) s m #[(.ref a1)] below meth c s₁ [] 0 0 := Stand.of_body Bd
  have e0 : s₁.heap = h0 := by rw [← hh, Bd.state]; rfl
  have N0 := Fr.nil Z.heap.size
  have KP0 : Keep h0 h0 ([] : List Addr) := Keep.refl _ _
  show Go p e below (fun t o => ∃ v L, o = .returned v ∧ Q_rmLs Z a1 h0 v t.heap L ∧ FrameEnd s o t L (⟨0, 0, 0, 0⟩ : Room).cells (⟨0, 0, 0, 0⟩ : Room).slots) (s₁.setTop (entryFrame m #[(.ref a1)] 1))
  refine Go.on (w := s₁.setTop (mkF m 0 #[rv a1] [])) (fun t k => castTop (ef_rmLs m a1) k) ?_
  obtain ⟨T106, X106, e106, st106⟩ := getF X0 hx hZ0 hown0 (host := "") (Or.inl (w_109 hw)) Via.refl e0 Fs (g := (mkF m 1 #[rv a1] [(.ref a1)])) rfl rfl (hb hby d15_1)
  refine Go.on (w := T106.setTop (mkF m 4 #[rv a1] [(.int 1)])) (fun t k => XS.aloadN X0.here hx rfl (hb hby d15_0) rfl rfl (st106 _ k)) ?_
  refine Go.finH X106 hlk (v := some (.int 1)) (fun h => by rw [Bd.returns] at h; cases h) (fun fs hr => ?_) (endH (Q := Q_rmLs Z a1 h0) (by rw [e106]; exact ⟨rfl, N0, rfl⟩) (by decide) (by decide))
  exact retOut X106 hx Bd.returns rfl (Or.inl ⟨rfl, Or.inl rfl, _, rfl⟩) (hb hby d15_4) hr
def Q_rmEd (Z : State) (a1 : Addr) (ee : Addr) (ke : ClassId) (x : Addr) (h0 : Heap) (vv : Option Value) (h : Heap) (L : List Loc) : Prop := vv = some (.ref x) ∧ Fr Z.heap.size L ∧ h = h0
theorem ef_rmEd (m : MethodId) (x0 : Addr) (x1 : Int32)   : entryFrame m #[(.ref x0), (.int x1)] 2 = mkF m 0 #[.val (.ref x0), .val (.int x1)] [] := rfl
theorem rmEd (l : Launch) (Z : State) (a0 : Array Value) (hw : HW a0 Z) (ws : List Cond) (a1 : Addr) (ee : Addr) (ke : ClassId) (x : Addr) (h0 : Heap) (Fe : Fld Z h0 a1 "java/util/ArrayList" "elementData" "[Ljava/lang/Object;" (.ref ee)) (Ve : Arv Z h0 ee ke (.object "java/lang/Object") (10 : Int32) [(.ref x), .null, .null, .null, .null, .null, .null, .null, .null, .null] .null) :
    MetFree l yM26 (head1 (Cond.code yM26 jdk_38_method_18_code 2 (some (.object "java/lang/Object")) :: ws) (⟨0, 0, 0, 0⟩ : Room)) (fun a U => a = #[(.ref a1), (.int 0)] ∧ Z.Warmed39 U.vm ∧ U.heap = h0) (fun _ _ _ _ _ => True) (fun _ U o U' => ∃ v L, o = .returned v ∧ Q_rmEd Z a1 ee ke x h0 v U'.heap L ∧ FrameEnd U o U' L (⟨0, 0, 0, 0⟩ : Room).cells (⟨0, 0, 0, 0⟩ : Room).slots) := by
  refine MetFree.of_bodySF (plainFor_of_name (by first | (simp [plainName, overriddenIn]; done) | decide +kernel)) hisR ?_
  intro p e s m args below meth c s₁ Bd hml0 hP hK
  obtain ⟨rfl, hZ0', hh⟩ := hP
  have hx := Bd.exec
  have hby := Bd.bytes
  have hml : c.maxLocals = 2 := hml0
  have hZ0 : Z.Warmed39 s.vm := hZ0'
  have hown0 : s.vm.findClass "java/util/ArrayList" = some m.cls := findClass_of_methodNamed Bd.named
  have hnm := (name_of_methodNamed Bd.named Bd.method).1
  have hlk : meth.locks = false := Bd.notSynchronized
  have X0 : Stand p l e (⟨0, 0, 0, 0⟩ : Room) s m #[(.ref a1), (.int 0)] below meth c s₁ [] 0 0 := Stand.of_body Bd
  have e0 : s₁.heap = h0 := by rw [← hh, Bd.state]; rfl
  have N0 := Fr.nil Z.heap.size
  have KP0 : Keep h0 h0 ([] : List Addr) := Keep.refl _ _
  show Go p e below (fun t o => ∃ v L, o = .returned v ∧ Q_rmEd Z a1 ee ke x h0 v t.heap L ∧ FrameEnd s o t L (⟨0, 0, 0, 0⟩ : Room).cells (⟨0, 0, 0, 0⟩ : Room).slots) (s₁.setTop (entryFrame m #[(.ref a1), (.int 0)] 2))
  refine Go.on (w := s₁.setTop (mkF m 0 #[rv a1, iv 0] [])) (fun t k => castTop (ef_rmEd m a1 (0 : Int32)) k) ?_
  obtain ⟨T107, X107, e107, st107⟩ := getF X0 hx hZ0 hown0 (host := "") (Or.inl (w_66 hw)) Via.refl e0 Fe (g := (mkF m 1 #[rv a1, iv 0] [(.ref a1)])) rfl rfl (hb hby d16_1)
  obtain ⟨cl108, Ar108, q108, S108, M108, H108, U108⟩ := id Ve
  have hin108 := ((inb_of S108 ⟨(by decide), (by decide)⟩) : ¬ ((0 : Int32) < 0 ∨ cl108.slots.size ≤ ((0 : Int32)).toNatClampNeg))
  refine Go.on (w := T107.setTop (mkF m 6 #[rv a1, iv 0] [(.ref x)])) (fun t k => XS.aloadN X0.here hx rfl (hb hby d16_0) rfl rfl (st107 _ (XS.iloadN X107.here hx rfl (hb hby d16_4) rfl (X107.aaload hx (j := (0 : Int32)) (v := (.ref x)) (by rw [e107]; exact Ar108.1) (State.isArrayOf_alike hZ0.alike Ar108.2.1) rfl Ar108.2.2 hin108 (H108.at hin108 rfl) (g := (mkF m 5 #[rv a1, iv 0] [(.int 0), (.ref ee)])) rfl rfl (hb hby d16_5) _ k)))) ?_
  refine Go.finH X107 hlk (v := some (.ref x)) (fun h => by rw [Bd.returns] at h; cases h) (fun fs hr => ?_) (endH (Q := Q_rmEd Z a1 ee ke x h0) (by rw [e107]; exact ⟨rfl, N0, rfl⟩) (by decide) (by decide))
  exact retOut X107 hx Bd.returns rfl (Or.inr (Or.inr (Or.inr (Or.inr ⟨rfl, rfl, rfl⟩)))) (hb hby d16_6) hr
def Q_rmGet (Z : State) (a1 : Addr) (ee : Addr) (ke : ClassId) (x : Addr) (h0 : Heap) (vv : Option Value) (h : Heap) (L : List Loc) : Prop := vv = some (.ref x) ∧ Fr Z.heap.size L ∧ h = h0
theorem ef_rmGet (m : MethodId) (x0 : Addr) (x1 : Int32)   : entryFrame m #[(.ref x0), (.int x1)] 2 = mkF m 0 #[.val (.ref x0), .val (.int x1)] [] := rfl
theorem rmGet (l : Launch) (Z : State) (a0 : Array Value) (hw : HW a0 Z) (ws : List Cond) (a1 : Addr) (ee : Addr) (ke : ClassId) (x : Addr) (h0 : Heap) (Fe : Fld Z h0 a1 "java/util/ArrayList" "elementData" "[Ljava/lang/Object;" (.ref ee)) (Ve : Arv Z h0 ee ke (.object "java/lang/Object") (10 : Int32) [(.ref x), .null, .null, .null, .null, .null, .null, .null, .null, .null] .null) (E_a1 : Exa Z h0 a1 "java/util/ArrayList") (Fs : Fld Z h0 a1 "java/util/ArrayList" "size" "I" (.int 1)) :
    MetFree l yM23 (head1 (Cond.code yM23 jdk_38_method_20_code 2 (some (.object "java/lang/Object")) :: ws) (⟨2, 0, 0, 27⟩ : Room)) (fun a U => a = #[(.ref a1), (.int 0)] ∧ Z.Warmed39 U.vm ∧ U.heap = h0) (fun _ _ _ _ _ => True) (fun _ U o U' => ∃ v L, o = .returned v ∧ Q_rmGet Z a1 ee ke x h0 v U'.heap L ∧ FrameEnd U o U' L (⟨2, 0, 0, 27⟩ : Room).cells (⟨2, 0, 0, 27⟩ : Room).slots) := by
  refine MetFree.of_bodySF (plainFor_of_name (by first | (simp [plainName, overriddenIn]; done) | decide +kernel)) hisR ?_
  intro p e s m args below meth c s₁ Bd hml0 hP hK
  obtain ⟨rfl, hZ0', hh⟩ := hP
  have hx := Bd.exec
  have hby := Bd.bytes
  have hml : c.maxLocals = 2 := hml0
  have hZ0 : Z.Warmed39 s.vm := hZ0'
  have hown0 : s.vm.findClass "java/util/ArrayList" = some m.cls := findClass_of_methodNamed Bd.named
  have hnm := (name_of_methodNamed Bd.named Bd.method).1
  have hlk : meth.locks = false := Bd.notSynchronized
  have X0 : Stand p l e (⟨2, 0, 0, 27⟩ : Room) s m #[(.ref a1), (.int 0)] below meth c s₁ [] 0 0 := Stand.of_body Bd
  have e0 : s₁.heap = h0 := by rw [← hh, Bd.state]; rfl
  have N0 := Fr.nil Z.heap.size
  have KP0 : Keep h0 h0 ([] : List Addr) := Keep.refl _ _
  show Go p e below (fun t o => ∃ v L, o = .returned v ∧ Q_rmGet Z a1 ee ke x h0 v t.heap L ∧ FrameEnd s o t L (⟨2, 0, 0, 27⟩ : Room).cells (⟨2, 0, 0, 27⟩ : Room).slots) (s₁.setTop (entryFrame m #[(.ref a1), (.int 0)] 2))
  refine Go.on (w := s₁.setTop (mkF m 0 #[rv a1, iv 0] [])) (fun t k => castTop (ef_rmGet m a1 (0 : Int32)) k) ?_
  obtain ⟨T109, X109, e109, st109⟩ := getF X0 hx hZ0 hown0 (host := "") (Or.inl (w_109 hw)) Via.refl e0 Fs (g := (mkF m 2 #[rv a1, iv 0] [(.ref a1), (.int 0)])) rfl rfl (hb hby d17_2)
  obtain ⟨v110, _, ⟨T110, L110, k110, n110⟩, -, X110, ⟨Lc110, hQ110, l110, y110, z110⟩, st110⟩ := Jvm.LawKit.callS X109 hx (y := yM24) hown0 (mvT hZ0 (w_159 hw)) (mvT hZ0 (w_160 hw)) (mvT hZ0 (w_161 hw)) (mvT hZ0 (w_162 hw)) (by decide) (backOf (W := 0) (rmChk2 l Z a0 hw [] () h0 ) hZ0 (w_162 hw) (w_161 hw) (by decide) (by decide)) (g := (mkF m 5 #[rv a1, iv 0] [(.int 1), (.int 0)])) rfl (by rw [hml]; rfl) (argsL := [(.int 0), (.int 1)]) (rest := []) (lenOf pd_2 rfl) rfl (by show 2 * 0 + _ ≤ _; exact Nat.le_of_eq rfl) (hb hby d17_5) (fun _ _ => ⟨rfl, e109, (by decide : 0 + 0 ≤ _), (by decide : 0 + 0 ≤ _)⟩)
  dsimp only [Pt.U, Pt.locs, Pt.cells, Pt.slots] at X110 l110 y110 z110 st110 hQ110
  subst l110 y110 z110
  obtain ⟨rfl, Nq110, eh110⟩ := hQ110
  have N110 := Fr.app N0 Nq110
  obtain ⟨cq111, kq111, q111a, q111b, q111c⟩ := isOf hZ0 eh110 E_a1
  obtain ⟨v111, _, ⟨T111, L111, k111, n111⟩, -, X111, ⟨Lc111, hQ111, l111, y111, z111⟩, st111⟩ := X110.virtualBack hx (y := yM26) (z := yM26) hown0 (mvT hZ0 (w_167 hw)) (mvT hZ0 (w_168 hw)) (notFace_of_selects (args := #[]) (mvT hZ0 (w_170 hw))) (mvT hZ0 (w_170 hw)) (mvT hZ0 (w_169 hw)) (by decide) (backOf (W := 0) (rmEd l Z a0 hw [] a1 ee ke x h0 Fe Ve) hZ0 (w_171 hw) (w_46 hw) (by decide) (by decide)) q111a q111c (g := (mkF m 11 #[rv a1, iv 0] [(.int 0), (.ref a1)])) rfl (by rw [hml]; rfl) (Steps.refl _) (argsL := [(.int 0)]) (rest := []) (lenOf pd_6 rfl) rfl (by show 2 * 0 + _ ≤ _; exact Nat.le_of_eq rfl) (hb hby d17_11) (fun _ _ => ⟨rfl, eh110, (by decide : 0 + 0 ≤ _), (by decide : 0 + 0 ≤ _)⟩)
  dsimp only [Pt.U, Pt.locs, Pt.cells, Pt.slots] at X111 l111 y111 z111 st111 hQ111
  subst l111 y111 z111
  obtain ⟨rfl, Nq111, eh111⟩ := hQ111
  have N111 := Fr.app N110 Nq111
  refine Go.on (w := T111.setTop (mkF m 14 #[rv a1, iv 0] [(.ref x)])) (fun t k => XS.iloadN X0.here hx rfl (hb hby d17_0) rfl (XS.aloadN X0.here hx rfl (hb hby d17_1) rfl rfl (st109 _ (st110 _ (XS.pop X110.here hx rfl (hb hby d17_8) rfl rfl (XS.aloadN X110.here hx rfl (hb hby d17_9) rfl rfl (XS.iloadN X110.here hx rfl (hb hby d17_10) rfl (st111.trans k)))))))) ?_
  refine Go.finH X111 hlk (v := some (.ref x)) (fun h => by rw [Bd.returns] at h; cases h) (fun fs hr => ?_) (endH (Q := Q_rmGet Z a1 ee ke x h0) (by rw [eh111]; exact ⟨rfl, N111, rfl⟩) (by decide) (by decide))
  exact retOut X111 hx Bd.returns rfl (Or.inr (Or.inr (Or.inr (Or.inr ⟨rfl, rfl, rfl⟩)))) (hb hby d17_14) hr
def Q_rmLbN (Z : State) (a1 : Addr) (u : Int32) (al : Addr) (md : Int32) (ee : Addr) (ke : ClassId) (x : Addr) (kb : ClassId) (h0 : Heap) (vv : Option Value) (h : Heap) (L : List Loc) : Prop := vv = some (.ref x) ∧ Fr Z.heap.size L ∧ h = h0
theorem ef_rmLbN (m : MethodId) (x0 : Addr)   : entryFrame m #[(.ref x0)] 2 = mkF m 0 #[.val (.ref x0), .unset] [] := rfl
theorem rmLbN (l : Launch) (Z : State) (a0 : Array Value) (hw : HW a0 Z) (ws : List Cond) (a1 : Addr) (u : Int32) (al : Addr) (md : Int32) (ee : Addr) (ke : ClassId) (x : Addr) (kb : ClassId) (h0 : Heap) (L0 : Exa Z h0 a1 "com/example/realmwright/realmwright/ByteLog") (L1 : Fld Z h0 a1 "com/example/realmwright/realmwright/ByteLog" "blocks" "Ljava/util/List;" (.ref al)) (L2 : Fld Z h0 a1 "com/example/realmwright/realmwright/ByteLog" "used" "I" (.int u)) (L3 : Exa Z h0 al "java/util/ArrayList") (L4 : Fld Z h0 al "java/util/AbstractList" "modCount" "I" (.int md)) (L5 : Fld Z h0 al "java/util/ArrayList" "elementData" "[Ljava/lang/Object;" (.ref ee)) (L6 : Fld Z h0 al "java/util/ArrayList" "size" "I" (.int 1)) (L7 : Arv Z h0 ee ke (.object "java/lang/Object") (10 : Int32) [(.ref x), .null, .null, .null, .null, .null, .null, .null, .null, .null] .null) (L8 : own_blk Z h0 x kb) (L9 : Exa Z h0 x "[B") (hu : own_us (60 : Int32) u) :
    MetFree l yM11 (head1 (Cond.code yM11 prog_1_method_11_code 2 (some (.array .byte)) :: ws) (⟨3, 0, 0, 40⟩ : Room)) (fun a U => a = #[(.ref a1)] ∧ Z.Warmed39 U.vm ∧ U.heap = h0) (fun _ _ _ _ _ => True) (fun _ U o U' => ∃ v L, o = .returned v ∧ Q_rmLbN Z a1 u al md ee ke x kb h0 v U'.heap L ∧ FrameEnd U o U' L (⟨3, 0, 0, 40⟩ : Room).cells (⟨3, 0, 0, 40⟩ : Room).slots) := by
  refine MetFree.of_bodySF (plainFor_of_name (by first | (simp [plainName, overriddenIn]; done) | decide +kernel)) hisR ?_
  intro p e s m args below meth c s₁ Bd hml0 hP hK
  obtain ⟨rfl, hZ0', hh⟩ := hP
  have hx := Bd.exec
  have hby := Bd.bytes
  have hml : c.maxLocals = 2 := hml0
  have hZ0 : Z.Warmed39 s.vm := hZ0'
  have hown0 : s.vm.findClass "com/example/realmwright/realmwright/ByteLog" = some m.cls := findClass_of_methodNamed Bd.named
  have hnm := (name_of_methodNamed Bd.named Bd.method).1
  have hlk : meth.locks = false := Bd.notSynchronized
  have X0 : Stand p l e (⟨3, 0, 0, 40⟩ : Room) s m #[(.ref a1)] below meth c s₁ [] 0 0 := Stand.of_body Bd
  have e0 : s₁.heap = h0 := by rw [← hh, Bd.state]; rfl
  have N0 := Fr.nil Z.heap.size
  have KP0 : Keep h0 h0 ([] : List Addr) := Keep.refl _ _
  show Go p e below (fun t o => ∃ v L, o = .returned v ∧ Q_rmLbN Z a1 u al md ee ke x kb h0 v t.heap L ∧ FrameEnd s o t L (⟨3, 0, 0, 40⟩ : Room).cells (⟨3, 0, 0, 40⟩ : Room).slots) (s₁.setTop (entryFrame m #[(.ref a1)] 2))
  refine Go.on (w := s₁.setTop (mkF m 0 #[rv a1, .unset] [])) (fun t k => castTop (ef_rmLbN m a1) k) ?_
  obtain ⟨T112, X112, e112, st112⟩ := getF X0 hx hZ0 hown0 (host := "") (Or.inl (w_68 hw)) Via.refl e0 L1 (g := (mkF m 1 #[rv a1, .unset] [(.ref a1)])) rfl rfl (hb hby d18_1)
  obtain ⟨cq113, kq113, q113a, q113b, q113c⟩ := isOf hZ0 e112 L3
  obtain ⟨v113, _, ⟨T113, L113, k113, n113⟩, -, X113, ⟨Lc113, hQ113, l113, y113, z113⟩, st113⟩ := X112.interfaceBack hx (xi := yM12) (y := yM13) hown0 (mvT hZ0 (w_100 hw)) (mvT hZ0 (w_101 hw)) (mvT hZ0 (w_102 hw)) (mvT hZ0 (w_103 hw)) (mvT hZ0 (w_104 hw)) (mvT hZ0 (w_105 hw)) (mvT hZ0 (w_106 hw)) (mvT hZ0 (w_107 hw)) (by decide) (backOf (W := 0) (rmIe1 l Z a0 hw [] al h0 L6) hZ0 (w_108 hw) (w_46 hw) (by decide) (by decide)) q113a q113b q113c (g := (mkF m 4 #[rv a1, .unset] [(.ref al)])) rfl (by rw [hml]; rfl) (Steps.refl _) (argsL := []) (rest := []) (lenOf pd_7 rfl) rfl (by show 2 * 0 + _ ≤ _; exact Nat.le_of_eq rfl) (hb hby d18_4) (fun _ _ => ⟨rfl, e112, (by decide : 0 + 0 ≤ _), (by decide : 0 + 0 ≤ _)⟩)
  dsimp only [Pt.U, Pt.locs, Pt.cells, Pt.slots] at X113 l113 y113 z113 st113 hQ113
  subst l113 y113 z113
  obtain ⟨rfl, Nq113, eh113⟩ := hQ113
  have N113 := Fr.app N0 Nq113
  obtain ⟨T114, X114, e114, st114⟩ := getF X113 hx hZ0 hown0 (host := "") (Or.inl (w_68 hw)) Via.refl eh113 L1 (g := (mkF m 27 #[rv a1, .unset] [(.ref a1)])) rfl rfl (hb hby d18_27)
  obtain ⟨T115, X115, e115, st115⟩ := getF X114 hx hZ0 hown0 (host := "") (Or.inl (w_68 hw)) Via.refl e114 L1 (g := (mkF m 31 #[rv a1, .unset] [(.ref a1), (.ref al)])) rfl rfl (hb hby d18_31)
  obtain ⟨cq116, kq116, q116a, q116b, q116c⟩ := isOf hZ0 e115 L3
  obtain ⟨v116, _, ⟨T116, L116, k116, n116⟩, -, X116, ⟨Lc116, hQ116, l116, y116, z116⟩, st116⟩ := X115.interfaceBack hx (xi := yM20) (y := yM21) hown0 (mvT hZ0 (w_143 hw)) (mvT hZ0 (w_144 hw)) (mvT hZ0 (w_145 hw)) (mvT hZ0 (w_146 hw)) (mvT hZ0 (w_147 hw)) (mvT hZ0 (w_148 hw)) (mvT hZ0 (w_149 hw)) (mvT hZ0 (w_107 hw)) (by decide) (backOf (W := 1) (rmLs l Z a0 hw [] al h0 L6) hZ0 (w_150 hw) (w_46 hw) (by decide) (by decide)) q116a q116b q116c (g := (mkF m 34 #[rv a1, .unset] [(.ref al), (.ref al)])) rfl (by rw [hml]; rfl) (Steps.refl _) (argsL := []) (rest := [(.ref al)]) (lenOf pd_8 rfl) rfl (by show 2 * 0 + _ ≤ _; exact Nat.le_of_eq rfl) (hb hby d18_34) (fun _ _ => ⟨rfl, e115, (by decide : 0 + 0 ≤ _), (by decide : 0 + 0 ≤ _)⟩)
  dsimp only [Pt.U, Pt.locs, Pt.cells, Pt.slots] at X116 l116 y116 z116 st116 hQ116
  subst l116 y116 z116
  obtain ⟨rfl, Nq116, eh116⟩ := hQ116
  have N116 := Fr.app N113 Nq116
  refine Go.on (w := T116.setTop (mkF m 40 #[rv a1, .unset] [(.int 1), (.int 1), (.ref al)])) (fun t k => XS.aloadN X0.here hx rfl (hb hby d18_0) rfl rfl (st112 _ (st113.trans (XS.ifYes X113.here hx rfl (pc0 := 9) (pc' := 26) rfl (hb hby d18_9) rfl ((if0 _ _).trans (teq (by decide : (0 : Int32) = (0 : Int32))).1) (by decide) (by decide) (XS.aloadN X113.here hx rfl (hb hby d18_26) rfl rfl (st114 _ (XS.aloadN X114.here hx rfl (hb hby d18_30) rfl rfl (st115 _ (st116.trans (XS.iconst X116.here hx rfl (hb hby d18_39) k)))))))))) ?_
  refine Go.on (w := T116.setTop (mkF m 41 #[rv a1, .unset] [(.int 0), (.ref al)])) (fun t k => XS.isub X116.here hx rfl (hb hby d18_40) rfl (by rw [(by decide : ((1 : Int32) - (1 : Int32)) = (0 : Int32))]; exact k)) ?_
  obtain ⟨cq117, kq117, q117a, q117b, q117c⟩ := isOf hZ0 eh116 L3
  obtain ⟨v117, _, ⟨T117, L117, k117, n117⟩, -, X117, ⟨Lc117, hQ117, l117, y117, z117⟩, st117⟩ := X116.interfaceBack hx (xi := yM22) (y := yM23) hown0 (mvT hZ0 (w_151 hw)) (mvT hZ0 (w_152 hw)) (mvT hZ0 (w_153 hw)) (mvT hZ0 (w_154 hw)) (mvT hZ0 (w_155 hw)) (mvT hZ0 (w_156 hw)) (mvT hZ0 (w_157 hw)) (mvT hZ0 (w_107 hw)) (by decide) (backOf (W := 0) (rmGet l Z a0 hw [] al ee ke x h0 L5 L7 L3 L6) hZ0 (w_158 hw) (w_46 hw) (by decide) (by decide)) q117a q117b q117c (g := (mkF m 41 #[rv a1, .unset] [(.int 0), (.ref al)])) rfl (by rw [hml]; rfl) (Steps.refl _) (argsL := [(.int 0)]) (rest := []) (lenOf pd_6 rfl) rfl (by show 2 * 0 + _ ≤ _; exact Nat.le_of_eq rfl) (hb hby d18_41) (fun _ _ => ⟨rfl, eh116, (by decide : 0 + 0 ≤ _), (by decide : 0 + 0 ≤ _)⟩)
  dsimp only [Pt.U, Pt.locs, Pt.cells, Pt.slots] at X117 l117 y117 z117 st117 hQ117
  subst l117 y117 z117
  obtain ⟨rfl, Nq117, eh117⟩ := hQ117
  have N117 := Fr.app N116 Nq117
  obtain ⟨T118, X118, e118, st118⟩ := castY X117 hx hZ0 hown0 (w_172 hw) eh117 (Ins.self L9) (g := (mkF m 46 #[rv a1, .unset] [(.ref x)])) rfl rfl (hb hby d18_46)
  obtain ⟨T119, X119, e119, st119⟩ := getF X118 hx hZ0 hown0 (host := "") (Or.inl (w_174 hw)) Via.refl e118 L2 (g := (mkF m 51 #[rv a1, rv x] [(.ref a1)])) rfl rfl (hb hby d18_51)
  obtain ⟨vs120, hl120, Vb120⟩ := id L8
  obtain ⟨cl121, Ar121, q121, S121, M121, H121, U121⟩ := id Vb120
  refine Go.on (w := T119.setTop (mkF m 55 #[rv a1, rv x] [(.ref x), (.int u)])) (fun t k => st117.trans (st118 _ (XS.astoreN X118.here hx rfl (hb hby d18_49) rfl rfl (l' := #[rv a1, rv x]) rfl (XS.aloadN X118.here hx rfl (hb hby d18_50) rfl rfl (st119 _ (XS.aloadN X119.here hx rfl (hb hby d18_54) rfl rfl k)))))) ?_
  refine Go.on (w := T119.setTop (mkF m 56 #[rv a1, rv x] [(.int 64), (.int u)])) (fun t k => X119.arraylength hx (by rw [e119]; exact Ar121.1) (State.isArrayOf_alike hZ0.alike Ar121.2.1) (g := (mkF m 55 #[rv a1, rv x] [(.ref x), (.int u)])) rfl rfl (hb hby d18_55) _ (by rw [len_of S121 M121]; exact k)) ?_
  obtain ⟨T122, X122, e122, st122⟩ := getF X119 hx hZ0 hown0 (host := "") (Or.inl (w_174 hw)) Via.refl e119 L2 (g := (mkF m 96 #[rv a1, rv x] [(.ref a1)])) rfl rfl (hb hby d18_96)
  obtain ⟨vs123, hl123, Vb123⟩ := id L8
  obtain ⟨cl124, Ar124, q124, S124, M124, H124, U124⟩ := id Vb123
  refine Go.on (w := T122.setTop (mkF m 100 #[rv a1, rv x] [(.ref x), (.int u)])) (fun t k => XS.icmpYes X119.here hx rfl (pc0 := 56) (pc' := 95) rfl (hb hby d18_56) rfl (feq (own_us64 hu)).2 (by decide) (by decide) (XS.aloadN X119.here hx rfl (hb hby d18_95) rfl rfl (st122 _ (XS.aloadN X122.here hx rfl (hb hby d18_99) rfl rfl k)))) ?_
  refine Go.on (w := T122.setTop (mkF m 101 #[rv a1, rv x] [(.int 64), (.int u)])) (fun t k => X122.arraylength hx (by rw [e122]; exact Ar124.1) (State.isArrayOf_alike hZ0.alike Ar124.2.1) (g := (mkF m 100 #[rv a1, rv x] [(.ref x), (.int u)])) rfl rfl (hb hby d18_100) _ (by rw [len_of S124 M124]; exact k)) ?_
  refine Go.on (w := T122.setTop (mkF m 126 #[rv a1, rv x] [(.ref x)])) (fun t k => XS.icmpYes X122.here hx rfl (pc0 := 101) (pc' := 125) rfl (hb hby d18_101) rfl (feq (own_us64 hu)).2 (by decide) (by decide) (XS.aloadN X122.here hx rfl (hb hby d18_125) rfl rfl k)) ?_
  refine Go.finH X122 hlk (v := some (.ref x)) (fun h => by rw [Bd.returns] at h; cases h) (fun fs hr => ?_) (endH (Q := Q_rmLbN Z a1 u al md ee ke x kb h0) (by rw [e122]; exact ⟨rfl, N117, rfl⟩) (by decide) (by decide))
  exact retOut X122 hx Bd.returns rfl (Or.inr (Or.inr (Or.inr (Or.inr ⟨rfl, rfl, rfl⟩)))) (hb hby d18_126) hr
def Q_rmLbE (Z : State) (a1 : Addr) (al : Addr) (md : Int32) (dd : Addr) (qd : ClassId) (h0 : Heap) (vv : Option Value) (h : Heap) (L : List Loc) : Prop := ∃ (ee : Addr) (ke : ClassId) (x : Addr) (kb : ClassId), vv = some (.ref x) ∧ Fr Z.heap.size L ∧ Keep h0 h [al] ∧ (h0.size ≤ ee) ∧ (h0.size ≤ x) ∧ (@Ne Nat ee x) ∧ Exa Z h a1 "com/example/realmwright/realmwright/ByteLog" ∧ Fld Z h a1 "com/example/realmwright/realmwright/ByteLog" "blocks" "Ljava/util/List;" (.ref al) ∧ Fld Z h a1 "com/example/realmwright/realmwright/ByteLog" "used" "I" (.int 0) ∧ Exa Z h al "java/util/ArrayList" ∧ Fld Z h al "java/util/AbstractList" "modCount" "I" (.int (md + (1 : Int32))) ∧ Fld Z h al "java/util/ArrayList" "elementData" "[Ljava/lang/Object;" (.ref ee) ∧ Fld Z h al "java/util/ArrayList" "size" "I" (.int 1) ∧ Arv Z h ee ke (.object "java/lang/Object") (10 : Int32) [(.ref x), .null, .null, .null, .null, .null, .null, .null, .null, .null] .null ∧ own_blk Z h x kb ∧ Exa Z h x "[B"
theorem ef_rmLbE (m : MethodId) (x0 : Addr)   : entryFrame m #[(.ref x0)] 2 = mkF m 0 #[.val (.ref x0), .unset] [] := rfl
theorem rmLbE (l : Launch) (Z : State) (a0 : Array Value) (hw : HW a0 Z) (ws : List Cond) (a1 : Addr) (al : Addr) (md : Int32) (dd : Addr) (qd : ClassId) (h0 : Heap) (Z0 : Z.heap.size ≤ h0.size) (OL : Old Z Z.heap.size h0) (OD : Sta Z Z.heap "java/util/ArrayList" "DEFAULTCAPACITY_EMPTY_ELEMENTDATA" "[Ljava/lang/Object;" (.ref dd)) (VD : Arv Z Z.heap dd qd (.object "java/lang/Object") (0 : Int32) [] .null) (lo_a1 : Z.heap.size ≤ a1) (lo_al : Z.heap.size ≤ al) (ne_al_a1 : al ≠ a1) (L0 : Exa Z h0 a1 "com/example/realmwright/realmwright/ByteLog") (L1 : Fld Z h0 a1 "com/example/realmwright/realmwright/ByteLog" "blocks" "Ljava/util/List;" (.ref al)) (L2 : Fld Z h0 a1 "com/example/realmwright/realmwright/ByteLog" "used" "I" (.int 0)) (L3 : Exa Z h0 al "java/util/ArrayList") (L4 : Fld Z h0 al "java/util/AbstractList" "modCount" "I" (.int md)) (L5 : Fld Z h0 al "java/util/ArrayList" "elementData" "[Ljava/lang/Object;" (.ref dd)) (L6 : Fld Z h0 al "java/util/ArrayList" "size" "I" (.int 0)) :
    MetFree l yM11 (head1 (Cond.code yM11 prog_1_method_11_code 2 (some (.array .byte)) :: ws) (⟨5, 2, 74, 69⟩ : Room)) (fun a U => a = #[(.ref a1)] ∧ Z.Warmed39 U.vm ∧ U.heap = h0) (fun _ _ _ _ _ => True) (fun _ U o U' => ∃ v L, o = .returned v ∧ Q_rmLbE Z a1 al md dd qd h0 v U'.heap L ∧ FrameEnd U o U' L (⟨5, 2, 74, 69⟩ : Room).cells (⟨5, 2, 74, 69⟩ : Room).slots) := by
  refine MetFree.of_bodySF (plainFor_of_name (by first | (simp [plainName, overriddenIn]; done) | decide +kernel)) hisR ?_
  intro p e s m args below meth c s₁ Bd hml0 hP hK
  obtain ⟨rfl, hZ0', hh⟩ := hP
  have hx := Bd.exec
  have hby := Bd.bytes
  have hml : c.maxLocals = 2 := hml0
  have hZ0 : Z.Warmed39 s.vm := hZ0'
  have hown0 : s.vm.findClass "com/example/realmwright/realmwright/ByteLog" = some m.cls := findClass_of_methodNamed Bd.named
  have hnm := (name_of_methodNamed Bd.named Bd.method).1
  have hlk : meth.locks = false := Bd.notSynchronized
  have X0 : Stand p l e (⟨5, 2, 74, 69⟩ : Room) s m #[(.ref a1)] below meth c s₁ [] 0 0 := Stand.of_body Bd
  have e0 : s₁.heap = h0 := by rw [← hh, Bd.state]; rfl
  have N0 := Fr.nil Z.heap.size
  have KP0 : Keep h0 h0 ([al] : List Addr) := Keep.refl _ _
  show Go p e below (fun t o => ∃ v L, o = .returned v ∧ Q_rmLbE Z a1 al md dd qd h0 v t.heap L ∧ FrameEnd s o t L (⟨5, 2, 74, 69⟩ : Room).cells (⟨5, 2, 74, 69⟩ : Room).slots) (s₁.setTop (entryFrame m #[(.ref a1)] 2))
  refine Go.on (w := s₁.setTop (mkF m 0 #[rv a1, .unset] [])) (fun t k => castTop (ef_rmLbE m a1) k) ?_
  have u_a1 : h0.size > a1 := L0.lt
  have u_al : h0.size > al := L3.lt
  obtain ⟨T125, X125, e125, st125⟩ := getF X0 hx hZ0 hown0 (host := "") (Or.inl (w_68 hw)) Via.refl e0 L1 (g := (mkF m 1 #[rv a1, .unset] [(.ref a1)])) rfl rfl (hb hby d18_1)
  obtain ⟨cq126, kq126, q126a, q126b, q126c⟩ := isOf hZ0 e125 L3
  obtain ⟨v126, _, ⟨T126, L126, k126, n126⟩, -, X126, ⟨Lc126, hQ126, l126, y126, z126⟩, st126⟩ := X125.interfaceBack hx (xi := yM12) (y := yM13) hown0 (mvT hZ0 (w_100 hw)) (mvT hZ0 (w_101 hw)) (mvT hZ0 (w_102 hw)) (mvT hZ0 (w_103 hw)) (mvT hZ0 (w_104 hw)) (mvT hZ0 (w_105 hw)) (mvT hZ0 (w_106 hw)) (mvT hZ0 (w_107 hw)) (by decide) (backOf (W := 0) (rmIe0 l Z a0 hw [] al h0 L6) hZ0 (w_108 hw) (w_46 hw) (by decide) (by decide)) q126a q126b q126c (g := (mkF m 4 #[rv a1, .unset] [(.ref al)])) rfl (by rw [hml]; rfl) (Steps.refl _) (argsL := []) (rest := []) (lenOf pd_7 rfl) rfl (by show 2 * 0 + _ ≤ _; exact Nat.le_of_eq rfl) (hb hby d18_4) (fun _ _ => ⟨rfl, e125, (by decide : 0 + 0 ≤ _), (by decide : 0 + 0 ≤ _)⟩)
  dsimp only [Pt.U, Pt.locs, Pt.cells, Pt.slots] at X126 l126 y126 z126 st126 hQ126
  subst l126 y126 z126
  obtain ⟨rfl, Nq126, eh126⟩ := hQ126
  have N126 := Fr.app N0 Nq126
  obtain ⟨T127, X127, e127, st127⟩ := getF X126 hx hZ0 hown0 (host := "") (Or.inl (w_68 hw)) Via.refl eh126 L1 (g := (mkF m 13 #[rv a1, .unset] [(.ref a1)])) rfl rfl (hb hby d18_13)
  obtain ⟨T128, h128, k128, X128, e128, E128, A128, Ex128, st128⟩ := newPE (aty := .byte) X127 hx hZ0 (w_19 hw) e127 (g := (mkF m 18 #[rv a1, .unset] [(.int 64), (.ref al)])) rfl (hb hby d18_18) rfl (by decide : ¬ ((64 : Int32) < (0 : Int32))) (cap := 64) (by decide) (by decide) (by decide) (by decide) (ad := "[B") (by decide)
  obtain ⟨b128, g128⟩ : ∃ z, z = h0.size := ⟨_, rfl⟩
  rw [← g128] at A128 st128 Ex128
  have V128 : Arv Z h128 b128 k128 .byte (64 : Int32) [] (.int 0) := Arv.new A128 (by decide : ¬ ((64 : Int32) < (0 : Int32)))
  have u128 : h128.size > b128 := V128.lt
  have z128 : h0.size ≤ h128.size := E128.1
  have KP128 : Keep h0 h128 ([al] : List Addr) := KP0.ext E128
  have V129 : own_blk Z h128 b128 k128 := own_blkNew V128
  have F131 := (OL.ext E128)
  have F132 := (L3.ext E128)
  have F133 := (L5.ext E128)
  have F134 := (L6.ext E128)
  have F135 := (L4.ext E128)
  obtain ⟨cq130, kq130, q130a, q130b, q130c⟩ := isOf hZ0 e128 F132
  obtain ⟨v130, _, ⟨T130, L130, k130, n130⟩, -, X130, ⟨Lc130, hQ130, l130, y130, z130⟩, st130⟩ := X128.interfaceBack hx (xi := yM14) (y := yM15) hown0 (mvT hZ0 (w_111 hw)) (mvT hZ0 (w_112 hw)) (mvT hZ0 (w_113 hw)) (mvT hZ0 (w_114 hw)) (mvT hZ0 (w_115 hw)) (mvT hZ0 (w_116 hw)) (mvT hZ0 (w_117 hw)) (mvT hZ0 (w_107 hw)) (by decide) (backOf (W := 0) (rmAb l Z a0 hw [] al b128 dd qd md h128 (by omega) F131 OD VD (by omega) F132 Ex128 F133 F134 F135) hZ0 (w_118 hw) (w_46 hw) (by decide) (by decide)) q130a q130b q130c (g := (mkF m 20 #[rv a1, .unset] [(.ref b128), (.ref al)])) rfl (by rw [hml]; rfl) (Steps.refl _) (argsL := [(.ref b128)]) (rest := []) (lenOf pd_9 rfl) rfl (by show 2 * 0 + _ ≤ _; exact Nat.le_of_eq rfl) (hb hby d18_20) (fun _ _ => ⟨rfl, e128, (by decide : 1 + 1 ≤ _), (by decide : 64 + 10 ≤ _)⟩)
  dsimp only [Pt.U, Pt.locs, Pt.cells, Pt.slots] at X130 l130 y130 z130 st130 hQ130
  subst l130 y130 z130
  obtain ⟨ee_130, ke_130, rfl, Nq130, K130, f130_0, f130_1, f130_2, f130_3, f130_4, f130_5⟩ := hQ130
  have N130 := Fr.app N126 Nq130
  have eK130 : T130.heap = T130.heap := rfl
  have z130 : h128.size ≤ T130.heap.size := K130.1
  have KP130 : Keep h0 T130.heap ([al] : List Addr) := KP128.trans K130 (allS (P := fun zq => zq ∈ ([al] : List Addr) ∨ h0.size ≤ zq) (Or.inl (List.mem_of_getElem? (i := 0) rfl)) all0)
  have u130_1 : T130.heap.size > ee_130 := f130_1.lt
  have F136 := ((L1.ext E128).keep K130 (ninS (Ne.symm ne_al_a1) nin0))
  obtain ⟨T137, X137, e137, st137⟩ := getF X130 hx hZ0 hown0 (host := "") (Or.inl (w_68 hw)) Via.refl eK130 F136 (g := (mkF m 27 #[rv a1, .unset] [(.ref a1)])) rfl rfl (hb hby d18_27)
  obtain ⟨T138, X138, e138, st138⟩ := getF X137 hx hZ0 hown0 (host := "") (Or.inl (w_68 hw)) Via.refl e137 F136 (g := (mkF m 31 #[rv a1, .unset] [(.ref a1), (.ref al)])) rfl rfl (hb hby d18_31)
  obtain ⟨cq139, kq139, q139a, q139b, q139c⟩ := isOf hZ0 e138 f130_2
  obtain ⟨v139, _, ⟨T139, L139, k139, n139⟩, -, X139, ⟨Lc139, hQ139, l139, y139, z139⟩, st139⟩ := X138.interfaceBack hx (xi := yM20) (y := yM21) hown0 (mvT hZ0 (w_143 hw)) (mvT hZ0 (w_144 hw)) (mvT hZ0 (w_145 hw)) (mvT hZ0 (w_146 hw)) (mvT hZ0 (w_147 hw)) (mvT hZ0 (w_148 hw)) (mvT hZ0 (w_149 hw)) (mvT hZ0 (w_107 hw)) (by decide) (backOf (W := 1) (rmLs l Z a0 hw [] al T130.heap f130_4) hZ0 (w_150 hw) (w_46 hw) (by decide) (by decide)) q139a q139b q139c (g := (mkF m 34 #[rv a1, .unset] [(.ref al), (.ref al)])) rfl (by rw [hml]; rfl) (Steps.refl _) (argsL := []) (rest := [(.ref al)]) (lenOf pd_8 rfl) rfl (by show 2 * 0 + _ ≤ _; exact Nat.le_of_eq rfl) (hb hby d18_34) (fun _ _ => ⟨rfl, e138, (by decide : 2 + 0 ≤ _), (by decide : 74 + 0 ≤ _)⟩)
  dsimp only [Pt.U, Pt.locs, Pt.cells, Pt.slots] at X139 l139 y139 z139 st139 hQ139
  subst l139 y139 z139
  obtain ⟨rfl, Nq139, eh139⟩ := hQ139
  have N139 := Fr.app N130 Nq139
  refine Go.on (w := T139.setTop (mkF m 40 #[rv a1, .unset] [(.int 1), (.int 1), (.ref al)])) (fun t k => XS.aloadN X0.here hx rfl (hb hby d18_0) rfl rfl (st125 _ (st126.trans (XS.ifNo X126.here hx rfl (hb hby d18_9) rfl ((if0 _ _).trans (feq (by decide : ¬ ((1 : Int32) = (0 : Int32)))).1) (XS.aloadN X126.here hx rfl (hb hby d18_12) rfl rfl (st127 _ (XS.bipush X127.here hx rfl (hb hby d18_16) (st128 _ (st130.trans (XS.pop X130.here hx rfl (hb hby d18_25) rfl rfl (XS.aloadN X130.here hx rfl (hb hby d18_26) rfl rfl (st137 _ (XS.aloadN X137.here hx rfl (hb hby d18_30) rfl rfl (st138 _ (st139.trans (XS.iconst X139.here hx rfl (hb hby d18_39) k)))))))))))))))) ?_
  refine Go.on (w := T139.setTop (mkF m 41 #[rv a1, .unset] [(.int 0), (.ref al)])) (fun t k => XS.isub X139.here hx rfl (hb hby d18_40) rfl (by rw [(by decide : ((1 : Int32) - (1 : Int32)) = (0 : Int32))]; exact k)) ?_
  obtain ⟨cq140, kq140, q140a, q140b, q140c⟩ := isOf hZ0 eh139 f130_2
  obtain ⟨v140, _, ⟨T140, L140, k140, n140⟩, -, X140, ⟨Lc140, hQ140, l140, y140, z140⟩, st140⟩ := X139.interfaceBack hx (xi := yM22) (y := yM23) hown0 (mvT hZ0 (w_151 hw)) (mvT hZ0 (w_152 hw)) (mvT hZ0 (w_153 hw)) (mvT hZ0 (w_154 hw)) (mvT hZ0 (w_155 hw)) (mvT hZ0 (w_156 hw)) (mvT hZ0 (w_157 hw)) (mvT hZ0 (w_107 hw)) (by decide) (backOf (W := 0) (rmGet l Z a0 hw [] al ee_130 ke_130 b128 T130.heap f130_3 f130_1 f130_2 f130_4) hZ0 (w_158 hw) (w_46 hw) (by decide) (by decide)) q140a q140b q140c (g := (mkF m 41 #[rv a1, .unset] [(.int 0), (.ref al)])) rfl (by rw [hml]; rfl) (Steps.refl _) (argsL := [(.int 0)]) (rest := []) (lenOf pd_6 rfl) rfl (by show 2 * 0 + _ ≤ _; exact Nat.le_of_eq rfl) (hb hby d18_41) (fun _ _ => ⟨rfl, eh139, (by decide : 2 + 0 ≤ _), (by decide : 74 + 0 ≤ _)⟩)
  dsimp only [Pt.U, Pt.locs, Pt.cells, Pt.slots] at X140 l140 y140 z140 st140 hQ140
  subst l140 y140 z140
  obtain ⟨rfl, Nq140, eh140⟩ := hQ140
  have N140 := Fr.app N139 Nq140
  have F142 := (Ex128.keep K130)
  obtain ⟨T141, X141, e141, st141⟩ := castY X140 hx hZ0 hown0 (w_172 hw) eh140 (Ins.self F142) (g := (mkF m 46 #[rv a1, .unset] [(.ref b128)])) rfl rfl (hb hby d18_46)
  have F143 := ((L2.ext E128).keep K130 (ninS (Ne.symm ne_al_a1) nin0))
  obtain ⟨T144, X144, e144, st144⟩ := getF X141 hx hZ0 hown0 (host := "") (Or.inl (w_174 hw)) Via.refl e141 F143 (g := (mkF m 51 #[rv a1, rv b128] [(.ref a1)])) rfl rfl (hb hby d18_51)
  have F145 := (V129.keep K130 (ninS (show @Ne Nat b128 al by omega) nin0))
  obtain ⟨vs146, hl146, Vb146⟩ := id F145
  obtain ⟨cl147, Ar147, q147, S147, M147, H147, U147⟩ := id Vb146
  refine Go.on (w := T144.setTop (mkF m 55 #[rv a1, rv b128] [(.ref b128), (.int 0)])) (fun t k => st140.trans (st141 _ (XS.astoreN X141.here hx rfl (hb hby d18_49) rfl rfl (l' := #[rv a1, rv b128]) rfl (XS.aloadN X141.here hx rfl (hb hby d18_50) rfl rfl (st144 _ (XS.aloadN X144.here hx rfl (hb hby d18_54) rfl rfl k)))))) ?_
  refine Go.on (w := T144.setTop (mkF m 56 #[rv a1, rv b128] [(.int 64), (.int 0)])) (fun t k => X144.arraylength hx (by rw [e144]; exact Ar147.1) (State.isArrayOf_alike hZ0.alike Ar147.2.1) (g := (mkF m 55 #[rv a1, rv b128] [(.ref b128), (.int 0)])) rfl rfl (hb hby d18_55) _ (by rw [len_of S147 M147]; exact k)) ?_
  obtain ⟨T148, X148, e148, st148⟩ := getF X144 hx hZ0 hown0 (host := "") (Or.inl (w_174 hw)) Via.refl e144 F143 (g := (mkF m 96 #[rv a1, rv b128] [(.ref a1)])) rfl rfl (hb hby d18_96)
  obtain ⟨vs149, hl149, Vb149⟩ := id F145
  obtain ⟨cl150, Ar150, q150, S150, M150, H150, U150⟩ := id Vb149
  refine Go.on (w := T148.setTop (mkF m 100 #[rv a1, rv b128] [(.ref b128), (.int 0)])) (fun t k => XS.icmpYes X144.here hx rfl (pc0 := 56) (pc' := 95) rfl (hb hby d18_56) rfl (feq (by decide : ¬ ((0 : Int32) = (64 : Int32)))).2 (by decide) (by decide) (XS.aloadN X144.here hx rfl (hb hby d18_95) rfl rfl (st148 _ (XS.aloadN X148.here hx rfl (hb hby d18_99) rfl rfl k)))) ?_
  refine Go.on (w := T148.setTop (mkF m 101 #[rv a1, rv b128] [(.int 64), (.int 0)])) (fun t k => X148.arraylength hx (by rw [e148]; exact Ar150.1) (State.isArrayOf_alike hZ0.alike Ar150.2.1) (g := (mkF m 100 #[rv a1, rv b128] [(.ref b128), (.int 0)])) rfl rfl (hb hby d18_100) _ (by rw [len_of S150 M150]; exact k)) ?_
  have F151 := ((L0.ext E128).keep K130)
  refine Go.on (w := T148.setTop (mkF m 126 #[rv a1, rv b128] [(.ref b128)])) (fun t k => XS.icmpYes X148.here hx rfl (pc0 := 101) (pc' := 125) rfl (hb hby d18_101) rfl (feq (by decide : ¬ ((0 : Int32) = (64 : Int32)))).2 (by decide) (by decide) (XS.aloadN X148.here hx rfl (hb hby d18_125) rfl rfl k)) ?_
  refine Go.finH X148 hlk (v := some (.ref b128)) (fun h => by rw [Bd.returns] at h; cases h) (fun fs hr => ?_) (endH (Q := Q_rmLbE Z a1 al md dd qd h0) (by rw [e148]; exact ⟨ee_130, ke_130, b128, k128, rfl, N140, KP130, (by omega), (by omega), (by omega), F151, F136, F143, f130_2, f130_5, f130_3, f130_4, f130_1, F145, F142⟩) (by decide) (by decide))
  exact retOut X148 hx Bd.returns rfl (Or.inr (Or.inr (Or.inr (Or.inr ⟨rfl, rfl, rfl⟩)))) (hb hby d18_126) hr
def Q_rmWbN (Z : State) (a1 : Addr) (i1 : Int32) (u : Int32) (al : Addr) (md : Int32) (ee : Addr) (ke : ClassId) (x : Addr) (kb : ClassId) (h0 : Heap) (vv : Option Value) (h : Heap) (L : List Loc) : Prop := vv = none ∧ Fr Z.heap.size L ∧ Keep h0 h [a1, x] ∧ Exa Z h a1 "com/example/realmwright/realmwright/ByteLog" ∧ Fld Z h a1 "com/example/realmwright/realmwright/ByteLog" "blocks" "Ljava/util/List;" (.ref al) ∧ Fld Z h a1 "com/example/realmwright/realmwright/ByteLog" "used" "I" (.int (u + (1 : Int32))) ∧ Exa Z h al "java/util/ArrayList" ∧ Fld Z h al "java/util/AbstractList" "modCount" "I" (.int md) ∧ Fld Z h al "java/util/ArrayList" "elementData" "[Ljava/lang/Object;" (.ref ee) ∧ Fld Z h al "java/util/ArrayList" "size" "I" (.int 1) ∧ Arv Z h ee ke (.object "java/lang/Object") (10 : Int32) [(.ref x), .null, .null, .null, .null, .null, .null, .null, .null, .null] .null ∧ own_blk Z h x kb ∧ Exa Z h x "[B"
theorem ef_rmWbN (m : MethodId) (x0 : Addr) (x1 : Int32)   : entryFrame m #[(.ref x0), (.int x1)] 2 = mkF m 0 #[.val (.ref x0), .val (.int x1)] [] := rfl
theorem rmWbN (l : Launch) (Z : State) (a0 : Array Value) (hw : HW a0 Z) (ws : List Cond) (a1 : Addr) (i1 : Int32) (u : Int32) (al : Addr) (md : Int32) (ee : Addr) (ke : ClassId) (x : Addr) (kb : ClassId) (h0 : Heap) (Z0 : Z.heap.size ≤ h0.size) (lo_a1 : Z.heap.size ≤ a1) (lo_x : Z.heap.size ≤ x) (ne_al_a1 : al ≠ a1) (ne_ee_a1 : ee ≠ a1) (ne_al_x : al ≠ x) (ne_ee_x : ee ≠ x) (ne_a1_x : a1 ≠ x) (L0 : Exa Z h0 a1 "com/example/realmwright/realmwright/ByteLog") (L1 : Fld Z h0 a1 "com/example/realmwright/realmwright/ByteLog" "blocks" "Ljava/util/List;" (.ref al)) (L2 : Fld Z h0 a1 "com/example/realmwright/realmwright/ByteLog" "used" "I" (.int u)) (L3 : Exa Z h0 al "java/util/ArrayList") (L4 : Fld Z h0 al "java/util/AbstractList" "modCount" "I" (.int md)) (L5 : Fld Z h0 al "java/util/ArrayList" "elementData" "[Ljava/lang/Object;" (.ref ee)) (L6 : Fld Z h0 al "java/util/ArrayList" "size" "I" (.int 1)) (L7 : Arv Z h0 ee ke (.object "java/lang/Object") (10 : Int32) [(.ref x), .null, .null, .null, .null, .null, .null, .null, .null, .null] .null) (L8 : own_blk Z h0 x kb) (L9 : Exa Z h0 x "[B") (hu : own_us (60 : Int32) u) :
    MetFree l yM10 (head1 (Cond.code yM10 prog_1_method_10_code 2 none :: ws) (⟨4, 0, 0, 53⟩ : Room)) (fun a U => a = #[(.ref a1), (.int i1)] ∧ Z.Warmed39 U.vm ∧ U.heap = h0) (fun _ _ _ _ _ => True) (fun _ U o U' => ∃ v L, o = .returned v ∧ Q_rmWbN Z a1 i1 u al md ee ke x kb h0 v U'.heap L ∧ FrameEnd U o U' L (⟨4, 0, 0, 53⟩ : Room).cells (⟨4, 0, 0, 53⟩ : Room).slots) := by
  refine MetFree.of_bodySF (plainFor_of_name (by first | (simp [plainName, overriddenIn]; done) | decide +kernel)) hisR ?_
  intro p e s m args below meth c s₁ Bd hml0 hP hK
  obtain ⟨rfl, hZ0', hh⟩ := hP
  have hx := Bd.exec
  have hby := Bd.bytes
  have hml : c.maxLocals = 2 := hml0
  have hZ0 : Z.Warmed39 s.vm := hZ0'
  have hown0 : s.vm.findClass "com/example/realmwright/realmwright/ByteLog" = some m.cls := findClass_of_methodNamed Bd.named
  have hnm := (name_of_methodNamed Bd.named Bd.method).1
  have hlk : meth.locks = false := Bd.notSynchronized
  have X0 : Stand p l e (⟨4, 0, 0, 53⟩ : Room) s m #[(.ref a1), (.int i1)] below meth c s₁ [] 0 0 := Stand.of_body Bd
  have e0 : s₁.heap = h0 := by rw [← hh, Bd.state]; rfl
  have N0 := Fr.nil Z.heap.size
  have KP0 : Keep h0 h0 ([a1, x] : List Addr) := Keep.refl _ _
  show Go p e below (fun t o => ∃ v L, o = .returned v ∧ Q_rmWbN Z a1 i1 u al md ee ke x kb h0 v t.heap L ∧ FrameEnd s o t L (⟨4, 0, 0, 53⟩ : Room).cells (⟨4, 0, 0, 53⟩ : Room).slots) (s₁.setTop (entryFrame m #[(.ref a1), (.int i1)] 2))
  refine Go.on (w := s₁.setTop (mkF m 0 #[rv a1, iv i1] [])) (fun t k => castTop (ef_rmWbN m a1 i1) k) ?_
  have u_a1 : h0.size > a1 := L0.lt
  have u_al : h0.size > al := L3.lt
  have u_e : h0.size > ee := L7.lt
  have u_x : h0.size > x := L8.lt
  obtain ⟨cq152, q152, q152'⟩ := L0.cell
  obtain ⟨v152, _, ⟨T152, L152, k152, n152⟩, -, X152, ⟨Lc152, hQ152, l152, y152, z152⟩, st152⟩ := X0.privateBack hx (y := yM11) hown0 (mvT hZ0 (w_96 hw)) (mvT hZ0 (w_97 hw)) (own_selI (mvT hZ0 (w_38 hw)) (Cond.privateMethod_at (mvP hZ0 (w_98 hw) (args := #[]))) (mvT hZ0 (w_97 hw)) (by decide)) (Cond.privateMethod_at (mvP hZ0 (w_98 hw) (args := #[]))) (mvT hZ0 (w_99 hw)) (by decide) (backOf (W := 0) (rmLbN l Z a0 hw [] a1 u al md ee ke x kb h0 L0 L1 L2 L3 L4 L5 L6 L7 L8 L9 hu) hZ0 (w_99 hw) (w_39 hw) (by decide) (by decide)) (g := (mkF m 1 #[rv a1, iv i1] [(.ref a1)])) rfl (by rw [hml]; rfl) (Steps.refl _) (a := a1) (by rw [e0]; exact q152) q152' (argsL := []) (rest := []) (lenOf pd_10 rfl) rfl (by show 2 * 0 + _ ≤ _; exact Nat.le_of_eq rfl) (hb hby d19_1) (fun _ _ => ⟨rfl, e0, (by decide : 0 + 0 ≤ _), (by decide : 0 + 0 ≤ _)⟩)
  dsimp only [Pt.U, Pt.locs, Pt.cells, Pt.slots] at X152 l152 y152 z152 st152 hQ152
  subst l152 y152 z152
  obtain ⟨rfl, Nq152, eh152⟩ := hQ152
  have N152 := Fr.app N0 Nq152
  obtain ⟨T153, X153, e153, st153⟩ := getF X152 hx hZ0 hown0 (host := "") (Or.inl (w_174 hw)) Via.refl eh152 L2 (g := (mkF m 6 #[rv a1, iv i1] [(.ref a1), (.ref a1), (.ref x)])) rfl rfl (hb hby d19_6)
  obtain ⟨T154, h154, X154, e154, W154, st154⟩ := putF X153 hx hZ0 hown0 (host := "") (Or.inl (w_174 hw)) Via.refl e153 L2 L0 (Or.inl (w_175 hw)) (w_38 hw) (ty := .int) (by decide) rfl rfl (g := (mkF m 12 #[rv a1, iv i1] [(.int (u + (1 : Int32))), (.ref a1), (.int u), (.ref x)])) rfl rfl (hb hby d19_12)
  have z154 : h0.size ≤ h154.size := Nat.le_of_eq W154.size.symm
  have KP154 : Keep h0 h154 ([a1, x] : List Addr) := KP0.wr W154 (Or.inl (List.mem_of_getElem? (i := 0) rfl))
  have N154 := Fr.snoc X154 N152 (by omega)
  have Fw154 := L2.same W154
  have F155 := (L8.other W154 (Ne.symm ne_a1_x))
  obtain ⟨T156, h156, X156, e156, W156, V156, st156⟩ := own_stBlk X154 hx hZ0 e154 F155 hu (g := (mkF m 17 #[rv a1, iv i1] [(.int (i1.toInt8.toInt32)), (.int u), (.ref x)])) rfl rfl (hb hby d19_17)
  have z156 : h154.size ≤ h156.size := Nat.le_of_eq W156.size.symm
  have KP156 : Keep h0 h156 ([a1, x] : List Addr) := KP154.wr W156 (Or.inl (List.mem_of_getElem? (i := 1) rfl))
  have N156 := Fr.snoc X156 N154 (by omega)
  have F157 := ((L0.wr W154).wr W156)
  have F158 := ((L1.other W154 (Or.inr (slot_ne (Or.inr (w_69 hw)) (Or.inl (w_175 hw)) (by decide) (t := (.object "java/util/List")) (t' := .int) (by decide) (by decide)))).other W156 (Or.inl ne_a1_x))
  have F159 := (Fw154.other W156 (Or.inl ne_a1_x))
  have F160 := ((L3.wr W154).wr W156)
  have F161 := ((L4.other W154 (Or.inl ne_al_a1)).other W156 (Or.inl ne_al_x))
  have F162 := ((L5.other W154 (Or.inl ne_al_a1)).other W156 (Or.inl ne_al_x))
  have F163 := ((L6.other W154 (Or.inl ne_al_a1)).other W156 (Or.inl ne_al_x))
  have F164 := ((L7.other W154 ne_ee_a1).other W156 ne_ee_x)
  have F165 := ((L9.wr W154).wr W156)
  refine Go.on (w := T156.setTop (mkF m 18 #[rv a1, iv i1] [])) (fun t k => XS.aloadN X0.here hx rfl (hb hby d19_0) rfl rfl (st152.trans (XS.aloadN X152.here hx rfl (hb hby d19_4) rfl rfl (XS.dup X152.here hx rfl (hb hby d19_5) rfl rfl (st153 _ (XS.dupX1 X153.here hx rfl (hb hby d19_9) rfl rfl rfl (XS.iconst X153.here hx rfl (hb hby d19_10) (XS.iadd X153.here hx rfl (hb hby d19_11) rfl (st154 _ (XS.iloadN X154.here hx rfl (hb hby d19_15) rfl (XS.i2b X154.here hx rfl (hb hby d19_16) rfl (st156 _ k)))))))))))) ?_
  refine Go.finH X156 hlk (v := none) (fun _ => rfl) (fun fs hr => ?_) (endH (Q := Q_rmWbN Z a1 i1 u al md ee ke x kb h0) (by rw [e156]; exact ⟨rfl, N156, KP156, F157, F158, F159, F160, F161, F162, F163, F164, V156, F165⟩) (by decide) (by decide))
  exact X156.returnOut hx Bd.returns (hb hby d19_18) hr
def Q_rmWbE (Z : State) (a1 : Addr) (i1 : Int32) (al : Addr) (md : Int32) (dd : Addr) (qd : ClassId) (h0 : Heap) (vv : Option Value) (h : Heap) (L : List Loc) : Prop := ∃ (ee : Addr) (ke : ClassId) (x : Addr) (kb : ClassId), vv = none ∧ Fr Z.heap.size L ∧ Keep h0 h [a1, al] ∧ (h0.size ≤ ee) ∧ (h0.size ≤ x) ∧ (@Ne Nat ee x) ∧ Exa Z h a1 "com/example/realmwright/realmwright/ByteLog" ∧ Fld Z h a1 "com/example/realmwright/realmwright/ByteLog" "blocks" "Ljava/util/List;" (.ref al) ∧ Fld Z h a1 "com/example/realmwright/realmwright/ByteLog" "used" "I" (.int 1) ∧ Exa Z h al "java/util/ArrayList" ∧ Fld Z h al "java/util/AbstractList" "modCount" "I" (.int (md + (1 : Int32))) ∧ Fld Z h al "java/util/ArrayList" "elementData" "[Ljava/lang/Object;" (.ref ee) ∧ Fld Z h al "java/util/ArrayList" "size" "I" (.int 1) ∧ Arv Z h ee ke (.object "java/lang/Object") (10 : Int32) [(.ref x), .null, .null, .null, .null, .null, .null, .null, .null, .null] .null ∧ own_blk Z h x kb ∧ Exa Z h x "[B"
theorem ef_rmWbE (m : MethodId) (x0 : Addr) (x1 : Int32)   : entryFrame m #[(.ref x0), (.int x1)] 2 = mkF m 0 #[.val (.ref x0), .val (.int x1)] [] := rfl
theorem rmWbE (l : Launch) (Z : State) (a0 : Array Value) (hw : HW a0 Z) (ws : List Cond) (a1 : Addr) (i1 : Int32) (al : Addr) (md : Int32) (dd : Addr) (qd : ClassId) (h0 : Heap) (Z0 : Z.heap.size ≤ h0.size) (OL : Old Z Z.heap.size h0) (OD : Sta Z Z.heap "java/util/ArrayList" "DEFAULTCAPACITY_EMPTY_ELEMENTDATA" "[Ljava/lang/Object;" (.ref dd)) (VD : Arv Z Z.heap dd qd (.object "java/lang/Object") (0 : Int32) [] .null) (lo_a1 : Z.heap.size ≤ a1) (lo_al : Z.heap.size ≤ al) (ne_al_a1 : al ≠ a1) (L0 : Exa Z h0 a1 "com/example/realmwright/realmwright/ByteLog") (L1 : Fld Z h0 a1 "com/example/realmwright/realmwright/ByteLog" "blocks" "Ljava/util/List;" (.ref al)) (L2 : Fld Z h0 a1 "com/example/realmwright/realmwright/ByteLog" "used" "I" (.int 0)) (L3 : Exa Z h0 al "java/util/ArrayList") (L4 : Fld Z h0 al "java/util/AbstractList" "modCount" "I" (.int md)) (L5 : Fld Z h0 al "java/util/ArrayList" "elementData" "[Ljava/lang/Object;" (.ref dd)) (L6 : Fld Z h0 al "java/util/ArrayList" "size" "I" (.int 0)) :
    MetFree l yM10 (head1 (Cond.code yM10 prog_1_method_10_code 2 none :: ws) (⟨6, 2, 74, 82⟩ : Room)) (fun a U => a = #[(.ref a1), (.int i1)] ∧ Z.Warmed39 U.vm ∧ U.heap = h0) (fun _ _ _ _ _ => True) (fun _ U o U' => ∃ v L, o = .returned v ∧ Q_rmWbE Z a1 i1 al md dd qd h0 v U'.heap L ∧ FrameEnd U o U' L (⟨6, 2, 74, 82⟩ : Room).cells (⟨6, 2, 74, 82⟩ : Room).slots) := by
  refine MetFree.of_bodySF (plainFor_of_name (by first | (simp [plainName, overriddenIn]; done) | decide +kernel)) hisR ?_
  intro p e s m args below meth c s₁ Bd hml0 hP hK
  obtain ⟨rfl, hZ0', hh⟩ := hP
  have hx := Bd.exec
  have hby := Bd.bytes
  have hml : c.maxLocals = 2 := hml0
  have hZ0 : Z.Warmed39 s.vm := hZ0'
  have hown0 : s.vm.findClass "com/example/realmwright/realmwright/ByteLog" = some m.cls := findClass_of_methodNamed Bd.named
  have hnm := (name_of_methodNamed Bd.named Bd.method).1
  have hlk : meth.locks = false := Bd.notSynchronized
  have X0 : Stand p l e (⟨6, 2, 74, 82⟩ : Room) s m #[(.ref a1), (.int i1)] below meth c s₁ [] 0 0 := Stand.of_body Bd
  have e0 : s₁.heap = h0 := by rw [← hh, Bd.state]; rfl
  have N0 := Fr.nil Z.heap.size
  have KP0 : Keep h0 h0 ([a1, al] : List Addr) := Keep.refl _ _
  show Go p e below (fun t o => ∃ v L, o = .returned v ∧ Q_rmWbE Z a1 i1 al md dd qd h0 v t.heap L ∧ FrameEnd s o t L (⟨6, 2, 74, 82⟩ : Room).cells (⟨6, 2, 74, 82⟩ : Room).slots) (s₁.setTop (entryFrame m #[(.ref a1), (.int i1)] 2))
  refine Go.on (w := s₁.setTop (mkF m 0 #[rv a1, iv i1] [])) (fun t k => castTop (ef_rmWbE m a1 i1) k) ?_
  have u_a1 : h0.size > a1 := L0.lt
  have u_al : h0.size > al := L3.lt
  obtain ⟨cq166, q166, q166'⟩ := L0.cell
  obtain ⟨v166, _, ⟨T166, L166, k166, n166⟩, -, X166, ⟨Lc166, hQ166, l166, y166, z166⟩, st166⟩ := X0.privateBack hx (y := yM11) hown0 (mvT hZ0 (w_96 hw)) (mvT hZ0 (w_97 hw)) (own_selI (mvT hZ0 (w_38 hw)) (Cond.privateMethod_at (mvP hZ0 (w_98 hw) (args := #[]))) (mvT hZ0 (w_97 hw)) (by decide)) (Cond.privateMethod_at (mvP hZ0 (w_98 hw) (args := #[]))) (mvT hZ0 (w_99 hw)) (by decide) (backOf (W := 0) (rmLbE l Z a0 hw [] a1 al md dd qd h0 (by omega) OL OD VD (by omega) (by omega) ne_al_a1 L0 L1 L2 L3 L4 L5 L6) hZ0 (w_99 hw) (w_39 hw) (by decide) (by decide)) (g := (mkF m 1 #[rv a1, iv i1] [(.ref a1)])) rfl (by rw [hml]; rfl) (Steps.refl _) (a := a1) (by rw [e0]; exact q166) q166' (argsL := []) (rest := []) (lenOf pd_10 rfl) rfl (by show 2 * 0 + _ ≤ _; exact Nat.le_of_eq rfl) (hb hby d19_1) (fun _ _ => ⟨rfl, e0, (by decide : 0 + 2 ≤ _), (by decide : 0 + 74 ≤ _)⟩)
  dsimp only [Pt.U, Pt.locs, Pt.cells, Pt.slots] at X166 l166 y166 z166 st166 hQ166
  subst l166 y166 z166
  obtain ⟨ee_166, ke_166, x_166, kb_166, rfl, Nq166, K166, f166_0, f166_1, f166_2, f166_3, f166_4, f166_5, f166_6, f166_7, f166_8, f166_9, f166_10, f166_11, f166_12⟩ := hQ166
  have N166 := Fr.app N0 Nq166
  have eK166 : T166.heap = T166.heap := rfl
  have z166 : h0.size ≤ T166.heap.size := K166.1
  have KP166 : Keep h0 T166.heap ([a1, al] : List Addr) := KP0.trans K166 (allS (P := fun zq => zq ∈ ([a1, al] : List Addr) ∨ h0.size ≤ zq) (Or.inl (List.mem_of_getElem? (i := 1) rfl)) all0)
  have u166_10 : T166.heap.size > ee_166 := f166_10.lt
  have u166_11 : T166.heap.size > x_166 := f166_11.lt
  have u166_12 : T166.heap.size > x_166 := f166_12.lt
  obtain ⟨T167, X167, e167, st167⟩ := getF X166 hx hZ0 hown0 (host := "") (Or.inl (w_174 hw)) Via.refl eK166 f166_5 (g := (mkF m 6 #[rv a1, iv i1] [(.ref a1), (.ref a1), (.ref x_166)])) rfl rfl (hb hby d19_6)
  refine Go.on (w := T167.setTop (mkF m 11 #[rv a1, iv i1] [(.int 1), (.int 0), (.ref a1), (.int 0), (.ref x_166)])) (fun t k => XS.aloadN X0.here hx rfl (hb hby d19_0) rfl rfl (st166.trans (XS.aloadN X166.here hx rfl (hb hby d19_4) rfl rfl (XS.dup X166.here hx rfl (hb hby d19_5) rfl rfl (st167 _ (XS.dupX1 X167.here hx rfl (hb hby d19_9) rfl rfl rfl (XS.iconst X167.here hx rfl (hb hby d19_10) k))))))) ?_
  refine Go.on (w := T167.setTop (mkF m 12 #[rv a1, iv i1] [(.int 1), (.ref a1), (.int 0), (.ref x_166)])) (fun t k => XS.iadd X167.here hx rfl (hb hby d19_11) rfl (by rw [(by decide : ((0 : Int32) + (1 : Int32)) = (1 : Int32))]; exact k)) ?_
  obtain ⟨T168, h168, X168, e168, W168, st168⟩ := putF X167 hx hZ0 hown0 (host := "") (Or.inl (w_174 hw)) Via.refl e167 f166_5 f166_3 (Or.inl (w_175 hw)) (w_38 hw) (ty := .int) (by decide) rfl rfl (g := (mkF m 12 #[rv a1, iv i1] [(.int 1), (.ref a1), (.int 0), (.ref x_166)])) rfl rfl (hb hby d19_12)
  have z168 : T166.heap.size ≤ h168.size := Nat.le_of_eq W168.size.symm
  have KP168 : Keep h0 h168 ([a1, al] : List Addr) := KP166.wr W168 (Or.inl (List.mem_of_getElem? (i := 0) rfl))
  have N168 := Fr.snoc X168 N166 (by omega)
  have Fw168 := f166_5.same W168
  have F169 := (f166_11.other W168 (show @Ne Nat x_166 a1 by omega))
  obtain ⟨T170, h170, X170, e170, W170, V170, st170⟩ := own_stBlk X168 hx hZ0 e168 F169 (by unfold own_us; decide) (g := (mkF m 17 #[rv a1, iv i1] [(.int (i1.toInt8.toInt32)), (.int 0), (.ref x_166)])) rfl rfl (hb hby d19_17)
  have z170 : h168.size ≤ h170.size := Nat.le_of_eq W170.size.symm
  have KP170 : Keep h0 h170 ([a1, al] : List Addr) := KP168.wr W170 (Or.inr (by omega))
  have N170 := Fr.snoc X170 N168 (by omega)
  have F171 := ((f166_3.wr W168).wr W170)
  have F172 := ((f166_4.other W168 (Or.inr (slot_ne (Or.inr (w_69 hw)) (Or.inl (w_175 hw)) (by decide) (t := (.object "java/util/List")) (t' := .int) (by decide) (by decide)))).other W170 (Or.inl (show @Ne Nat a1 x_166 by omega)))
  have F173 := (Fw168.other W170 (Or.inl (show @Ne Nat a1 x_166 by omega)))
  have F174 := ((f166_6.wr W168).wr W170)
  have F175 := ((f166_7.other W168 (Or.inl ne_al_a1)).other W170 (Or.inl (show @Ne Nat al x_166 by omega)))
  have F176 := ((f166_8.other W168 (Or.inl ne_al_a1)).other W170 (Or.inl (show @Ne Nat al x_166 by omega)))
  have F177 := ((f166_9.other W168 (Or.inl ne_al_a1)).other W170 (Or.inl (show @Ne Nat al x_166 by omega)))
  have F178 := ((f166_10.other W168 (show @Ne Nat ee_166 a1 by omega)).other W170 (show @Ne Nat ee_166 x_166 by omega))
  have F179 := ((f166_12.wr W168).wr W170)
  refine Go.on (w := T170.setTop (mkF m 18 #[rv a1, iv i1] [])) (fun t k => st168 _ (XS.iloadN X168.here hx rfl (hb hby d19_15) rfl (XS.i2b X168.here hx rfl (hb hby d19_16) rfl (st170 _ k)))) ?_
  refine Go.finH X170 hlk (v := none) (fun _ => rfl) (fun fs hr => ?_) (endH (Q := Q_rmWbE Z a1 i1 al md dd qd h0) (by rw [e170]; exact ⟨ee_166, ke_166, x_166, kb_166, rfl, N170, KP170, (by omega), (by omega), (by omega), F171, F172, F173, F174, F175, F176, F177, F178, V170, F179⟩) (by decide) (by decide))
  exact X170.returnOut hx Bd.returns (hb hby d19_18) hr
def Q_rmWcN0 (Z : State) (a1 : Addr) (u : Int32) (al : Addr) (md : Int32) (ee : Addr) (ke : ClassId) (x : Addr) (kb : ClassId) (h0 : Heap) (vv : Option Value) (h : Heap) (L : List Loc) : Prop := vv = none ∧ Fr Z.heap.size L ∧ Keep h0 h [a1, x] ∧ Exa Z h a1 "com/example/realmwright/realmwright/ByteLog" ∧ Fld Z h a1 "com/example/realmwright/realmwright/ByteLog" "blocks" "Ljava/util/List;" (.ref al) ∧ Fld Z h a1 "com/example/realmwright/realmwright/ByteLog" "used" "I" (.int (u + (1 : Int32))) ∧ Exa Z h al "java/util/ArrayList" ∧ Fld Z h al "java/util/AbstractList" "modCount" "I" (.int md) ∧ Fld Z h al "java/util/ArrayList" "elementData" "[Ljava/lang/Object;" (.ref ee) ∧ Fld Z h al "java/util/ArrayList" "size" "I" (.int 1) ∧ Arv Z h ee ke (.object "java/lang/Object") (10 : Int32) [(.ref x), .null, .null, .null, .null, .null, .null, .null, .null, .null] .null ∧ own_blk Z h x kb ∧ Exa Z h x "[B"
theorem ef_rmWcN0 (m : MethodId) (x0 : Addr) (x1 : Int64)   : entryFrame m #[(.ref x0), (.long x1)] 5 = mkF m 0 #[.val (.ref x0), .val (.long x1), .second, .unset, .unset] [] := rfl
theorem rmWcN0 (l : Launch) (Z : State) (a0 : Array Value) (hw : HW a0 Z) (ws : List Cond) (a1 : Addr) (u : Int32) (al : Addr) (md : Int32) (ee : Addr) (ke : ClassId) (x : Addr) (kb : ClassId) (h0 : Heap) (Z0 : Z.heap.size ≤ h0.size) (lo_a1 : Z.heap.size ≤ a1) (lo_x : Z.heap.size ≤ x) (ne_al_a1 : al ≠ a1) (ne_ee_a1 : ee ≠ a1) (ne_al_x : al ≠ x) (ne_ee_x : ee ≠ x) (ne_a1_x : a1 ≠ x) (L0 : Exa Z h0 a1 "com/example/realmwright/realmwright/ByteLog") (L1 : Fld Z h0 a1 "com/example/realmwright/realmwright/ByteLog" "blocks" "Ljava/util/List;" (.ref al)) (L2 : Fld Z h0 a1 "com/example/realmwright/realmwright/ByteLog" "used" "I" (.int u)) (L3 : Exa Z h0 al "java/util/ArrayList") (L4 : Fld Z h0 al "java/util/AbstractList" "modCount" "I" (.int md)) (L5 : Fld Z h0 al "java/util/ArrayList" "elementData" "[Ljava/lang/Object;" (.ref ee)) (L6 : Fld Z h0 al "java/util/ArrayList" "size" "I" (.int 1)) (L7 : Arv Z h0 ee ke (.object "java/lang/Object") (10 : Int32) [(.ref x), .null, .null, .null, .null, .null, .null, .null, .null, .null] .null) (L8 : own_blk Z h0 x kb) (L9 : Exa Z h0 x "[B") (hu : own_us (60 : Int32) u) :
    MetFree l yM9 (head1 (Cond.code yM9 prog_1_method_2_code 5 none :: ws) (⟨5, 0, 0, 66⟩ : Room)) (fun a U => a = #[(.ref a1), (.long 0)] ∧ Z.Warmed39 U.vm ∧ U.heap = h0) (fun _ _ _ _ _ => True) (fun _ U o U' => ∃ v L, o = .returned v ∧ Q_rmWcN0 Z a1 u al md ee ke x kb h0 v U'.heap L ∧ FrameEnd U o U' L (⟨5, 0, 0, 66⟩ : Room).cells (⟨5, 0, 0, 66⟩ : Room).slots) := by
  refine MetFree.of_bodySF (plainFor_of_name (by first | (simp [plainName, overriddenIn]; done) | decide +kernel)) hisR ?_
  intro p e s m args below meth c s₁ Bd hml0 hP hK
  obtain ⟨rfl, hZ0', hh⟩ := hP
  have hx := Bd.exec
  have hby := Bd.bytes
  have hml : c.maxLocals = 5 := hml0
  have hZ0 : Z.Warmed39 s.vm := hZ0'
  have hown0 : s.vm.findClass "com/example/realmwright/realmwright/ByteLog" = some m.cls := findClass_of_methodNamed Bd.named
  have hnm := (name_of_methodNamed Bd.named Bd.method).1
  have hlk : meth.locks = false := Bd.notSynchronized
  have X0 : Stand p l e (⟨5, 0, 0, 66⟩ : Room) s m #[(.ref a1), (.long 0)] below meth c s₁ [] 0 0 := Stand.of_body Bd
  have e0 : s₁.heap = h0 := by rw [← hh, Bd.state]; rfl
  have N0 := Fr.nil Z.heap.size
  have KP0 : Keep h0 h0 ([a1, x] : List Addr) := Keep.refl _ _
  show Go p e below (fun t o => ∃ v L, o = .returned v ∧ Q_rmWcN0 Z a1 u al md ee ke x kb h0 v t.heap L ∧ FrameEnd s o t L (⟨5, 0, 0, 66⟩ : Room).cells (⟨5, 0, 0, 66⟩ : Room).slots) (s₁.setTop (entryFrame m #[(.ref a1), (.long 0)] 5))
  refine Go.on (w := s₁.setTop (mkF m 0 #[rv a1, .val (.long 0), .second, .unset, .unset] [])) (fun t k => castTop (ef_rmWcN0 m a1 (0 : Int64)) k) ?_
  have u_a1 : h0.size > a1 := L0.lt
  have u_al : h0.size > al := L3.lt
  have u_e : h0.size > ee := L7.lt
  have u_x : h0.size > x := L8.lt
  refine Go.on (w := s₁.setTop (mkF m 67 #[rv a1, .val (.long 0), .second, .val (.long 0), .second] [(.long 0), (.ref a1)])) (fun t k => XS.lloadN X0.here hx rfl (hb hby d20_0) rfl (XS.lconst X0.here hx rfl (hb hby d20_1) (XS.lcmp X0.here hx rfl (hb hby d20_2) rfl (XS.ifYes X0.here hx rfl (pc0 := 3) (pc' := 33) rfl (hb hby d20_3) rfl ((if0 _ _).trans (flt (by decide : ¬ ((lcmpW (0 : Int64) (0 : Int64)) < (0 : Int32)))).2.1) (by decide) (by decide) (XS.lloadN X0.here hx rfl (hb hby d20_33) rfl (XS.lstoreN X0.here hx rfl (hb hby d20_34) rfl (l' := #[rv a1, .val (.long 0), .second, .val (.long 0), .second]) rfl (XS.lloadN X0.here hx rfl (hb hby d20_35) rfl (X0.ldc2Long hx hown0 (mvT hZ0 (w_91 hw)) (g := (mkF m 36 #[rv a1, .val (.long 0), .second, .val (.long 0), .second] [(.long 0)])) rfl (hb hby d20_36) _ (XS.lcmp X0.here hx rfl (hb hby d20_39) rfl (XS.ifYes X0.here hx rfl (pc0 := 40) (pc' := 65) rfl (hb hby d20_40) rfl ((if0 _ _).trans (tlt (by decide : (lcmpW (0 : Int64) (128 : Int64)) < (0 : Int32))).1) (by decide) (by decide) (XS.aloadN X0.here hx rfl (hb hby d20_65) rfl rfl (XS.lloadN X0.here hx rfl (hb hby d20_66) rfl k)))))))))))) ?_
  refine Go.on (w := s₁.setTop (mkF m 68 #[rv a1, .val (.long 0), .second, .val (.long 0), .second] [(.int 0), (.ref a1)])) (fun t k => XS.l2i X0.here hx rfl (hb hby d20_67) rfl (by rw [(by decide : ((0 : Int64).toInt32) = (0 : Int32))]; exact k)) ?_
  obtain ⟨cq180, q180, q180'⟩ := L0.cell
  obtain ⟨v180, _, ⟨T180, L180, k180, n180⟩, -, X180, ⟨Lc180, hQ180, l180, y180, z180⟩, st180⟩ := X0.privateBack hx (y := yM10) hown0 (mvT hZ0 (w_92 hw)) (mvT hZ0 (w_93 hw)) (own_selI (mvT hZ0 (w_38 hw)) (Cond.privateMethod_at (mvP hZ0 (w_94 hw) (args := #[]))) (mvT hZ0 (w_93 hw)) (by decide)) (Cond.privateMethod_at (mvP hZ0 (w_94 hw) (args := #[]))) (mvT hZ0 (w_95 hw)) (by decide) (backOf (W := 0) (rmWbN l Z a0 hw [] a1 (0 : Int32) u al md ee ke x kb h0 (by omega) (by omega) (by omega) ne_al_a1 ne_ee_a1 ne_al_x ne_ee_x ne_a1_x L0 L1 L2 L3 L4 L5 L6 L7 L8 L9 hu) hZ0 (w_95 hw) (w_39 hw) (by decide) (by decide)) (g := (mkF m 68 #[rv a1, .val (.long 0), .second, .val (.long 0), .second] [(.int 0), (.ref a1)])) rfl (by rw [hml]; rfl) (Steps.refl _) (a := a1) (by rw [e0]; exact q180) q180' (argsL := [(.int 0)]) (rest := []) (lenOf pd_11 rfl) rfl (by show 2 * 0 + _ ≤ _; exact Nat.le_of_eq rfl) (hb hby d20_68) (fun _ _ => ⟨rfl, e0, (by decide : 0 + 0 ≤ _), (by decide : 0 + 0 ≤ _)⟩)
  dsimp only [Pt.U, Pt.locs, Pt.cells, Pt.slots] at X180 l180 y180 z180 st180 hQ180
  subst l180 y180 z180
  obtain ⟨rfl, Nq180, K180, f180_0, f180_1, f180_2, f180_3, f180_4, f180_5, f180_6, f180_7, f180_8, f180_9⟩ := hQ180
  have N180 := Fr.app N0 Nq180
  have eK180 : T180.heap = T180.heap := rfl
  have z180 : h0.size ≤ T180.heap.size := K180.1
  have KP180 : Keep h0 T180.heap ([a1, x] : List Addr) := KP0.trans K180 (allS (P := fun zq => zq ∈ ([a1, x] : List Addr) ∨ h0.size ≤ zq) (Or.inl (List.mem_of_getElem? (i := 0) rfl)) (allS (P := fun zq => zq ∈ ([a1, x] : List Addr) ∨ h0.size ≤ zq) (Or.inl (List.mem_of_getElem? (i := 1) rfl)) all0))
  refine Go.on (w := T180.setTop (mkF m 71 #[rv a1, .val (.long 0), .second, .val (.long 0), .second] [])) (fun t k => st180.trans k) ?_
  refine Go.finH X180 hlk (v := none) (fun _ => rfl) (fun fs hr => ?_) (endH (Q := Q_rmWcN0 Z a1 u al md ee ke x kb h0) (by rw [eK180]; exact ⟨rfl, N180, KP180, f180_0, f180_1, f180_2, f180_3, f180_4, f180_5, f180_6, f180_7, f180_8, f180_9⟩) (by decide) (by decide))
  exact X180.returnOut hx Bd.returns (hb hby d20_71) hr
def Q_rmWcE0 (Z : State) (a1 : Addr) (al : Addr) (md : Int32) (dd : Addr) (qd : ClassId) (h0 : Heap) (vv : Option Value) (h : Heap) (L : List Loc) : Prop := ∃ (ee : Addr) (ke : ClassId) (x : Addr) (kb : ClassId), vv = none ∧ Fr Z.heap.size L ∧ Keep h0 h [a1, al] ∧ (h0.size ≤ ee) ∧ (h0.size ≤ x) ∧ (@Ne Nat ee x) ∧ Exa Z h a1 "com/example/realmwright/realmwright/ByteLog" ∧ Fld Z h a1 "com/example/realmwright/realmwright/ByteLog" "blocks" "Ljava/util/List;" (.ref al) ∧ Fld Z h a1 "com/example/realmwright/realmwright/ByteLog" "used" "I" (.int 1) ∧ Exa Z h al "java/util/ArrayList" ∧ Fld Z h al "java/util/AbstractList" "modCount" "I" (.int (md + (1 : Int32))) ∧ Fld Z h al "java/util/ArrayList" "elementData" "[Ljava/lang/Object;" (.ref ee) ∧ Fld Z h al "java/util/ArrayList" "size" "I" (.int 1) ∧ Arv Z h ee ke (.object "java/lang/Object") (10 : Int32) [(.ref x), .null, .null, .null, .null, .null, .null, .null, .null, .null] .null ∧ own_blk Z h x kb ∧ Exa Z h x "[B"
theorem ef_rmWcE0 (m : MethodId) (x0 : Addr) (x1 : Int64)   : entryFrame m #[(.ref x0), (.long x1)] 5 = mkF m 0 #[.val (.ref x0), .val (.long x1), .second, .unset, .unset] [] := rfl
theorem rmWcE0 (l : Launch) (Z : State) (a0 : Array Value) (hw : HW a0 Z) (ws : List Cond) (a1 : Addr) (al : Addr) (md : Int32) (dd : Addr) (qd : ClassId) (h0 : Heap) (Z0 : Z.heap.size ≤ h0.size) (OL : Old Z Z.heap.size h0) (OD : Sta Z Z.heap "java/util/ArrayList" "DEFAULTCAPACITY_EMPTY_ELEMENTDATA" "[Ljava/lang/Object;" (.ref dd)) (VD : Arv Z Z.heap dd qd (.object "java/lang/Object") (0 : Int32) [] .null) (lo_a1 : Z.heap.size ≤ a1) (lo_al : Z.heap.size ≤ al) (ne_al_a1 : al ≠ a1) (L0 : Exa Z h0 a1 "com/example/realmwright/realmwright/ByteLog") (L1 : Fld Z h0 a1 "com/example/realmwright/realmwright/ByteLog" "blocks" "Ljava/util/List;" (.ref al)) (L2 : Fld Z h0 a1 "com/example/realmwright/realmwright/ByteLog" "used" "I" (.int 0)) (L3 : Exa Z h0 al "java/util/ArrayList") (L4 : Fld Z h0 al "java/util/AbstractList" "modCount" "I" (.int md)) (L5 : Fld Z h0 al "java/util/ArrayList" "elementData" "[Ljava/lang/Object;" (.ref dd)) (L6 : Fld Z h0 al "java/util/ArrayList" "size" "I" (.int 0)) :
    MetFree l yM9 (head1 (Cond.code yM9 prog_1_method_2_code 5 none :: ws) (⟨7, 2, 74, 95⟩ : Room)) (fun a U => a = #[(.ref a1), (.long 0)] ∧ Z.Warmed39 U.vm ∧ U.heap = h0) (fun _ _ _ _ _ => True) (fun _ U o U' => ∃ v L, o = .returned v ∧ Q_rmWcE0 Z a1 al md dd qd h0 v U'.heap L ∧ FrameEnd U o U' L (⟨7, 2, 74, 95⟩ : Room).cells (⟨7, 2, 74, 95⟩ : Room).slots) := by
  refine MetFree.of_bodySF (plainFor_of_name (by first | (simp [plainName, overriddenIn]; done) | decide +kernel)) hisR ?_
  intro p e s m args below meth c s₁ Bd hml0 hP hK
  obtain ⟨rfl, hZ0', hh⟩ := hP
  have hx := Bd.exec
  have hby := Bd.bytes
  have hml : c.maxLocals = 5 := hml0
  have hZ0 : Z.Warmed39 s.vm := hZ0'
  have hown0 : s.vm.findClass "com/example/realmwright/realmwright/ByteLog" = some m.cls := findClass_of_methodNamed Bd.named
  have hnm := (name_of_methodNamed Bd.named Bd.method).1
  have hlk : meth.locks = false := Bd.notSynchronized
  have X0 : Stand p l e (⟨7, 2, 74, 95⟩ : Room) s m #[(.ref a1), (.long 0)] below meth c s₁ [] 0 0 := Stand.of_body Bd
  have e0 : s₁.heap = h0 := by rw [← hh, Bd.state]; rfl
  have N0 := Fr.nil Z.heap.size
  have KP0 : Keep h0 h0 ([a1, al] : List Addr) := Keep.refl _ _
  show Go p e below (fun t o => ∃ v L, o = .returned v ∧ Q_rmWcE0 Z a1 al md dd qd h0 v t.heap L ∧ FrameEnd s o t L (⟨7, 2, 74, 95⟩ : Room).cells (⟨7, 2, 74, 95⟩ : Room).slots) (s₁.setTop (entryFrame m #[(.ref a1), (.long 0)] 5))
  refine Go.on (w := s₁.setTop (mkF m 0 #[rv a1, .val (.long 0), .second, .unset, .unset] [])) (fun t k => castTop (ef_rmWcE0 m a1 (0 : Int64)) k) ?_
  have u_a1 : h0.size > a1 := L0.lt
  have u_al : h0.size > al := L3.lt
  refine Go.on (w := s₁.setTop (mkF m 67 #[rv a1, .val (.long 0), .second, .val (.long 0), .second] [(.long 0), (.ref a1)])) (fun t k => XS.lloadN X0.here hx rfl (hb hby d20_0) rfl (XS.lconst X0.here hx rfl (hb hby d20_1) (XS.lcmp X0.here hx rfl (hb hby d20_2) rfl (XS.ifYes X0.here hx rfl (pc0 := 3) (pc' := 33) rfl (hb hby d20_3) rfl ((if0 _ _).trans (flt (by decide : ¬ ((lcmpW (0 : Int64) (0 : Int64)) < (0 : Int32)))).2.1) (by decide) (by decide) (XS.lloadN X0.here hx rfl (hb hby d20_33) rfl (XS.lstoreN X0.here hx rfl (hb hby d20_34) rfl (l' := #[rv a1, .val (.long 0), .second, .val (.long 0), .second]) rfl (XS.lloadN X0.here hx rfl (hb hby d20_35) rfl (X0.ldc2Long hx hown0 (mvT hZ0 (w_91 hw)) (g := (mkF m 36 #[rv a1, .val (.long 0), .second, .val (.long 0), .second] [(.long 0)])) rfl (hb hby d20_36) _ (XS.lcmp X0.here hx rfl (hb hby d20_39) rfl (XS.ifYes X0.here hx rfl (pc0 := 40) (pc' := 65) rfl (hb hby d20_40) rfl ((if0 _ _).trans (tlt (by decide : (lcmpW (0 : Int64) (128 : Int64)) < (0 : Int32))).1) (by decide) (by decide) (XS.aloadN X0.here hx rfl (hb hby d20_65) rfl rfl (XS.lloadN X0.here hx rfl (hb hby d20_66) rfl k)))))))))))) ?_
  refine Go.on (w := s₁.setTop (mkF m 68 #[rv a1, .val (.long 0), .second, .val (.long 0), .second] [(.int 0), (.ref a1)])) (fun t k => XS.l2i X0.here hx rfl (hb hby d20_67) rfl (by rw [(by decide : ((0 : Int64).toInt32) = (0 : Int32))]; exact k)) ?_
  obtain ⟨cq181, q181, q181'⟩ := L0.cell
  obtain ⟨v181, _, ⟨T181, L181, k181, n181⟩, -, X181, ⟨Lc181, hQ181, l181, y181, z181⟩, st181⟩ := X0.privateBack hx (y := yM10) hown0 (mvT hZ0 (w_92 hw)) (mvT hZ0 (w_93 hw)) (own_selI (mvT hZ0 (w_38 hw)) (Cond.privateMethod_at (mvP hZ0 (w_94 hw) (args := #[]))) (mvT hZ0 (w_93 hw)) (by decide)) (Cond.privateMethod_at (mvP hZ0 (w_94 hw) (args := #[]))) (mvT hZ0 (w_95 hw)) (by decide) (backOf (W := 0) (rmWbE l Z a0 hw [] a1 (0 : Int32) al md dd qd h0 (by omega) OL OD VD (by omega) (by omega) ne_al_a1 L0 L1 L2 L3 L4 L5 L6) hZ0 (w_95 hw) (w_39 hw) (by decide) (by decide)) (g := (mkF m 68 #[rv a1, .val (.long 0), .second, .val (.long 0), .second] [(.int 0), (.ref a1)])) rfl (by rw [hml]; rfl) (Steps.refl _) (a := a1) (by rw [e0]; exact q181) q181' (argsL := [(.int 0)]) (rest := []) (lenOf pd_11 rfl) rfl (by show 2 * 0 + _ ≤ _; exact Nat.le_of_eq rfl) (hb hby d20_68) (fun _ _ => ⟨rfl, e0, (by decide : 0 + 2 ≤ _), (by decide : 0 + 74 ≤ _)⟩)
  dsimp only [Pt.U, Pt.locs, Pt.cells, Pt.slots] at X181 l181 y181 z181 st181 hQ181
  subst l181 y181 z181
  obtain ⟨ee_181, ke_181, x_181, kb_181, rfl, Nq181, K181, f181_0, f181_1, f181_2, f181_3, f181_4, f181_5, f181_6, f181_7, f181_8, f181_9, f181_10, f181_11, f181_12⟩ := hQ181
  have N181 := Fr.app N0 Nq181
  have eK181 : T181.heap = T181.heap := rfl
  have z181 : h0.size ≤ T181.heap.size := K181.1
  have KP181 : Keep h0 T181.heap ([a1, al] : List Addr) := KP0.trans K181 (allS (P := fun zq => zq ∈ ([a1, al] : List Addr) ∨ h0.size ≤ zq) (Or.inl (List.mem_of_getElem? (i := 0) rfl)) (allS (P := fun zq => zq ∈ ([a1, al] : List Addr) ∨ h0.size ≤ zq) (Or.inl (List.mem_of_getElem? (i := 1) rfl)) all0))
  have u181_10 : T181.heap.size > ee_181 := f181_10.lt
  have u181_11 : T181.heap.size > x_181 := f181_11.lt
  have u181_12 : T181.heap.size > x_181 := f181_12.lt
  refine Go.on (w := T181.setTop (mkF m 71 #[rv a1, .val (.long 0), .second, .val (.long 0), .second] [])) (fun t k => st181.trans k) ?_
  refine Go.finH X181 hlk (v := none) (fun _ => rfl) (fun fs hr => ?_) (endH (Q := Q_rmWcE0 Z a1 al md dd qd h0) (by rw [eK181]; exact ⟨ee_181, ke_181, x_181, kb_181, rfl, N181, KP181, (by omega), (by omega), (by omega), f181_3, f181_4, f181_5, f181_6, f181_7, f181_8, f181_9, f181_10, f181_11, f181_12⟩) (by decide) (by decide))
  exact X181.returnOut hx Bd.returns (hb hby d20_71) hr
def Q_rmWcN1 (Z : State) (a1 : Addr) (u : Int32) (al : Addr) (md : Int32) (ee : Addr) (ke : ClassId) (x : Addr) (kb : ClassId) (h0 : Heap) (vv : Option Value) (h : Heap) (L : List Loc) : Prop := vv = none ∧ Fr Z.heap.size L ∧ Keep h0 h [a1, x] ∧ Exa Z h a1 "com/example/realmwright/realmwright/ByteLog" ∧ Fld Z h a1 "com/example/realmwright/realmwright/ByteLog" "blocks" "Ljava/util/List;" (.ref al) ∧ Fld Z h a1 "com/example/realmwright/realmwright/ByteLog" "used" "I" (.int (u + (1 : Int32))) ∧ Exa Z h al "java/util/ArrayList" ∧ Fld Z h al "java/util/AbstractList" "modCount" "I" (.int md) ∧ Fld Z h al "java/util/ArrayList" "elementData" "[Ljava/lang/Object;" (.ref ee) ∧ Fld Z h al "java/util/ArrayList" "size" "I" (.int 1) ∧ Arv Z h ee ke (.object "java/lang/Object") (10 : Int32) [(.ref x), .null, .null, .null, .null, .null, .null, .null, .null, .null] .null ∧ own_blk Z h x kb ∧ Exa Z h x "[B"
theorem ef_rmWcN1 (m : MethodId) (x0 : Addr) (x1 : Int64)   : entryFrame m #[(.ref x0), (.long x1)] 5 = mkF m 0 #[.val (.ref x0), .val (.long x1), .second, .unset, .unset] [] := rfl
theorem rmWcN1 (l : Launch) (Z : State) (a0 : Array Value) (hw : HW a0 Z) (ws : List Cond) (a1 : Addr) (u : Int32) (al : Addr) (md : Int32) (ee : Addr) (ke : ClassId) (x : Addr) (kb : ClassId) (h0 : Heap) (Z0 : Z.heap.size ≤ h0.size) (lo_a1 : Z.heap.size ≤ a1) (lo_x : Z.heap.size ≤ x) (ne_al_a1 : al ≠ a1) (ne_ee_a1 : ee ≠ a1) (ne_al_x : al ≠ x) (ne_ee_x : ee ≠ x) (ne_a1_x : a1 ≠ x) (L0 : Exa Z h0 a1 "com/example/realmwright/realmwright/ByteLog") (L1 : Fld Z h0 a1 "com/example/realmwright/realmwright/ByteLog" "blocks" "Ljava/util/List;" (.ref al)) (L2 : Fld Z h0 a1 "com/example/realmwright/realmwright/ByteLog" "used" "I" (.int u)) (L3 : Exa Z h0 al "java/util/ArrayList") (L4 : Fld Z h0 al "java/util/AbstractList" "modCount" "I" (.int md)) (L5 : Fld Z h0 al "java/util/ArrayList" "elementData" "[Ljava/lang/Object;" (.ref ee)) (L6 : Fld Z h0 al "java/util/ArrayList" "size" "I" (.int 1)) (L7 : Arv Z h0 ee ke (.object "java/lang/Object") (10 : Int32) [(.ref x), .null, .null, .null, .null, .null, .null, .null, .null, .null] .null) (L8 : own_blk Z h0 x kb) (L9 : Exa Z h0 x "[B") (hu : own_us (60 : Int32) u) :
    MetFree l yM9 (head1 (Cond.code yM9 prog_1_method_2_code 5 none :: ws) (⟨5, 0, 0, 66⟩ : Room)) (fun a U => a = #[(.ref a1), (.long 1)] ∧ Z.Warmed39 U.vm ∧ U.heap = h0) (fun _ _ _ _ _ => True) (fun _ U o U' => ∃ v L, o = .returned v ∧ Q_rmWcN1 Z a1 u al md ee ke x kb h0 v U'.heap L ∧ FrameEnd U o U' L (⟨5, 0, 0, 66⟩ : Room).cells (⟨5, 0, 0, 66⟩ : Room).slots) := by
  refine MetFree.of_bodySF (plainFor_of_name (by first | (simp [plainName, overriddenIn]; done) | decide +kernel)) hisR ?_
  intro p e s m args below meth c s₁ Bd hml0 hP hK
  obtain ⟨rfl, hZ0', hh⟩ := hP
  have hx := Bd.exec
  have hby := Bd.bytes
  have hml : c.maxLocals = 5 := hml0
  have hZ0 : Z.Warmed39 s.vm := hZ0'
  have hown0 : s.vm.findClass "com/example/realmwright/realmwright/ByteLog" = some m.cls := findClass_of_methodNamed Bd.named
  have hnm := (name_of_methodNamed Bd.named Bd.method).1
  have hlk : meth.locks = false := Bd.notSynchronized
  have X0 : Stand p l e (⟨5, 0, 0, 66⟩ : Room) s m #[(.ref a1), (.long 1)] below meth c s₁ [] 0 0 := Stand.of_body Bd
  have e0 : s₁.heap = h0 := by rw [← hh, Bd.state]; rfl
  have N0 := Fr.nil Z.heap.size
  have KP0 : Keep h0 h0 ([a1, x] : List Addr) := Keep.refl _ _
  show Go p e below (fun t o => ∃ v L, o = .returned v ∧ Q_rmWcN1 Z a1 u al md ee ke x kb h0 v t.heap L ∧ FrameEnd s o t L (⟨5, 0, 0, 66⟩ : Room).cells (⟨5, 0, 0, 66⟩ : Room).slots) (s₁.setTop (entryFrame m #[(.ref a1), (.long 1)] 5))
  refine Go.on (w := s₁.setTop (mkF m 0 #[rv a1, .val (.long 1), .second, .unset, .unset] [])) (fun t k => castTop (ef_rmWcN1 m a1 (1 : Int64)) k) ?_
  have u_a1 : h0.size > a1 := L0.lt
  have u_al : h0.size > al := L3.lt
  have u_e : h0.size > ee := L7.lt
  have u_x : h0.size > x := L8.lt
  refine Go.on (w := s₁.setTop (mkF m 67 #[rv a1, .val (.long 1), .second, .val (.long 1), .second] [(.long 1), (.ref a1)])) (fun t k => XS.lloadN X0.here hx rfl (hb hby d20_0) rfl (XS.lconst X0.here hx rfl (hb hby d20_1) (XS.lcmp X0.here hx rfl (hb hby d20_2) rfl (XS.ifYes X0.here hx rfl (pc0 := 3) (pc' := 33) rfl (hb hby d20_3) rfl ((if0 _ _).trans (flt (by decide : ¬ ((lcmpW (1 : Int64) (0 : Int64)) < (0 : Int32)))).2.1) (by decide) (by decide) (XS.lloadN X0.here hx rfl (hb hby d20_33) rfl (XS.lstoreN X0.here hx rfl (hb hby d20_34) rfl (l' := #[rv a1, .val (.long 1), .second, .val (.long 1), .second]) rfl (XS.lloadN X0.here hx rfl (hb hby d20_35) rfl (X0.ldc2Long hx hown0 (mvT hZ0 (w_91 hw)) (g := (mkF m 36 #[rv a1, .val (.long 1), .second, .val (.long 1), .second] [(.long 1)])) rfl (hb hby d20_36) _ (XS.lcmp X0.here hx rfl (hb hby d20_39) rfl (XS.ifYes X0.here hx rfl (pc0 := 40) (pc' := 65) rfl (hb hby d20_40) rfl ((if0 _ _).trans (tlt (by decide : (lcmpW (1 : Int64) (128 : Int64)) < (0 : Int32))).1) (by decide) (by decide) (XS.aloadN X0.here hx rfl (hb hby d20_65) rfl rfl (XS.lloadN X0.here hx rfl (hb hby d20_66) rfl k)))))))))))) ?_
  refine Go.on (w := s₁.setTop (mkF m 68 #[rv a1, .val (.long 1), .second, .val (.long 1), .second] [(.int 1), (.ref a1)])) (fun t k => XS.l2i X0.here hx rfl (hb hby d20_67) rfl (by rw [(by decide : ((1 : Int64).toInt32) = (1 : Int32))]; exact k)) ?_
  obtain ⟨cq182, q182, q182'⟩ := L0.cell
  obtain ⟨v182, _, ⟨T182, L182, k182, n182⟩, -, X182, ⟨Lc182, hQ182, l182, y182, z182⟩, st182⟩ := X0.privateBack hx (y := yM10) hown0 (mvT hZ0 (w_92 hw)) (mvT hZ0 (w_93 hw)) (own_selI (mvT hZ0 (w_38 hw)) (Cond.privateMethod_at (mvP hZ0 (w_94 hw) (args := #[]))) (mvT hZ0 (w_93 hw)) (by decide)) (Cond.privateMethod_at (mvP hZ0 (w_94 hw) (args := #[]))) (mvT hZ0 (w_95 hw)) (by decide) (backOf (W := 0) (rmWbN l Z a0 hw [] a1 (1 : Int32) u al md ee ke x kb h0 (by omega) (by omega) (by omega) ne_al_a1 ne_ee_a1 ne_al_x ne_ee_x ne_a1_x L0 L1 L2 L3 L4 L5 L6 L7 L8 L9 hu) hZ0 (w_95 hw) (w_39 hw) (by decide) (by decide)) (g := (mkF m 68 #[rv a1, .val (.long 1), .second, .val (.long 1), .second] [(.int 1), (.ref a1)])) rfl (by rw [hml]; rfl) (Steps.refl _) (a := a1) (by rw [e0]; exact q182) q182' (argsL := [(.int 1)]) (rest := []) (lenOf pd_11 rfl) rfl (by show 2 * 0 + _ ≤ _; exact Nat.le_of_eq rfl) (hb hby d20_68) (fun _ _ => ⟨rfl, e0, (by decide : 0 + 0 ≤ _), (by decide : 0 + 0 ≤ _)⟩)
  dsimp only [Pt.U, Pt.locs, Pt.cells, Pt.slots] at X182 l182 y182 z182 st182 hQ182
  subst l182 y182 z182
  obtain ⟨rfl, Nq182, K182, f182_0, f182_1, f182_2, f182_3, f182_4, f182_5, f182_6, f182_7, f182_8, f182_9⟩ := hQ182
  have N182 := Fr.app N0 Nq182
  have eK182 : T182.heap = T182.heap := rfl
  have z182 : h0.size ≤ T182.heap.size := K182.1
  have KP182 : Keep h0 T182.heap ([a1, x] : List Addr) := KP0.trans K182 (allS (P := fun zq => zq ∈ ([a1, x] : List Addr) ∨ h0.size ≤ zq) (Or.inl (List.mem_of_getElem? (i := 0) rfl)) (allS (P := fun zq => zq ∈ ([a1, x] : List Addr) ∨ h0.size ≤ zq) (Or.inl (List.mem_of_getElem? (i := 1) rfl)) all0))
  refine Go.on (w := T182.setTop (mkF m 71 #[rv a1, .val (.long 1), .second, .val (.long 1), .second] [])) (fun t k => st182.trans k) ?_
  refine Go.finH X182 hlk (v := none) (fun _ => rfl) (fun fs hr => ?_) (endH (Q := Q_rmWcN1 Z a1 u al md ee ke x kb h0) (by rw [eK182]; exact ⟨rfl, N182, KP182, f182_0, f182_1, f182_2, f182_3, f182_4, f182_5, f182_6, f182_7, f182_8, f182_9⟩) (by decide) (by decide))
  exact X182.returnOut hx Bd.returns (hb hby d20_71) hr
def Q_rmWcE1 (Z : State) (a1 : Addr) (al : Addr) (md : Int32) (dd : Addr) (qd : ClassId) (h0 : Heap) (vv : Option Value) (h : Heap) (L : List Loc) : Prop := ∃ (ee : Addr) (ke : ClassId) (x : Addr) (kb : ClassId), vv = none ∧ Fr Z.heap.size L ∧ Keep h0 h [a1, al] ∧ (h0.size ≤ ee) ∧ (h0.size ≤ x) ∧ (@Ne Nat ee x) ∧ Exa Z h a1 "com/example/realmwright/realmwright/ByteLog" ∧ Fld Z h a1 "com/example/realmwright/realmwright/ByteLog" "blocks" "Ljava/util/List;" (.ref al) ∧ Fld Z h a1 "com/example/realmwright/realmwright/ByteLog" "used" "I" (.int 1) ∧ Exa Z h al "java/util/ArrayList" ∧ Fld Z h al "java/util/AbstractList" "modCount" "I" (.int (md + (1 : Int32))) ∧ Fld Z h al "java/util/ArrayList" "elementData" "[Ljava/lang/Object;" (.ref ee) ∧ Fld Z h al "java/util/ArrayList" "size" "I" (.int 1) ∧ Arv Z h ee ke (.object "java/lang/Object") (10 : Int32) [(.ref x), .null, .null, .null, .null, .null, .null, .null, .null, .null] .null ∧ own_blk Z h x kb ∧ Exa Z h x "[B"
theorem ef_rmWcE1 (m : MethodId) (x0 : Addr) (x1 : Int64)   : entryFrame m #[(.ref x0), (.long x1)] 5 = mkF m 0 #[.val (.ref x0), .val (.long x1), .second, .unset, .unset] [] := rfl
theorem rmWcE1 (l : Launch) (Z : State) (a0 : Array Value) (hw : HW a0 Z) (ws : List Cond) (a1 : Addr) (al : Addr) (md : Int32) (dd : Addr) (qd : ClassId) (h0 : Heap) (Z0 : Z.heap.size ≤ h0.size) (OL : Old Z Z.heap.size h0) (OD : Sta Z Z.heap "java/util/ArrayList" "DEFAULTCAPACITY_EMPTY_ELEMENTDATA" "[Ljava/lang/Object;" (.ref dd)) (VD : Arv Z Z.heap dd qd (.object "java/lang/Object") (0 : Int32) [] .null) (lo_a1 : Z.heap.size ≤ a1) (lo_al : Z.heap.size ≤ al) (ne_al_a1 : al ≠ a1) (L0 : Exa Z h0 a1 "com/example/realmwright/realmwright/ByteLog") (L1 : Fld Z h0 a1 "com/example/realmwright/realmwright/ByteLog" "blocks" "Ljava/util/List;" (.ref al)) (L2 : Fld Z h0 a1 "com/example/realmwright/realmwright/ByteLog" "used" "I" (.int 0)) (L3 : Exa Z h0 al "java/util/ArrayList") (L4 : Fld Z h0 al "java/util/AbstractList" "modCount" "I" (.int md)) (L5 : Fld Z h0 al "java/util/ArrayList" "elementData" "[Ljava/lang/Object;" (.ref dd)) (L6 : Fld Z h0 al "java/util/ArrayList" "size" "I" (.int 0)) :
    MetFree l yM9 (head1 (Cond.code yM9 prog_1_method_2_code 5 none :: ws) (⟨7, 2, 74, 95⟩ : Room)) (fun a U => a = #[(.ref a1), (.long 1)] ∧ Z.Warmed39 U.vm ∧ U.heap = h0) (fun _ _ _ _ _ => True) (fun _ U o U' => ∃ v L, o = .returned v ∧ Q_rmWcE1 Z a1 al md dd qd h0 v U'.heap L ∧ FrameEnd U o U' L (⟨7, 2, 74, 95⟩ : Room).cells (⟨7, 2, 74, 95⟩ : Room).slots) := by
  refine MetFree.of_bodySF (plainFor_of_name (by first | (simp [plainName, overriddenIn]; done) | decide +kernel)) hisR ?_
  intro p e s m args below meth c s₁ Bd hml0 hP hK
  obtain ⟨rfl, hZ0', hh⟩ := hP
  have hx := Bd.exec
  have hby := Bd.bytes
  have hml : c.maxLocals = 5 := hml0
  have hZ0 : Z.Warmed39 s.vm := hZ0'
  have hown0 : s.vm.findClass "com/example/realmwright/realmwright/ByteLog" = some m.cls := findClass_of_methodNamed Bd.named
  have hnm := (name_of_methodNamed Bd.named Bd.method).1
  have hlk : meth.locks = false := Bd.notSynchronized
  have X0 : Stand p l e (⟨7, 2, 74, 95⟩ : Room) s m #[(.ref a1), (.long 1)] below meth c s₁ [] 0 0 := Stand.of_body Bd
  have e0 : s₁.heap = h0 := by rw [← hh, Bd.state]; rfl
  have N0 := Fr.nil Z.heap.size
  have KP0 : Keep h0 h0 ([a1, al] : List Addr) := Keep.refl _ _
  show Go p e below (fun t o => ∃ v L, o = .returned v ∧ Q_rmWcE1 Z a1 al md dd qd h0 v t.heap L ∧ FrameEnd s o t L (⟨7, 2, 74, 95⟩ : Room).cells (⟨7, 2, 74, 95⟩ : Room).slots) (s₁.setTop (entryFrame m #[(.ref a1), (.long 1)] 5))
  refine Go.on (w := s₁.setTop (mkF m 0 #[rv a1, .val (.long 1), .second, .unset, .unset] [])) (fun t k => castTop (ef_rmWcE1 m a1 (1 : Int64)) k) ?_
  have u_a1 : h0.size > a1 := L0.lt
  have u_al : h0.size > al := L3.lt
  refine Go.on (w := s₁.setTop (mkF m 67 #[rv a1, .val (.long 1), .second, .val (.long 1), .second] [(.long 1), (.ref a1)])) (fun t k => XS.lloadN X0.here hx rfl (hb hby d20_0) rfl (XS.lconst X0.here hx rfl (hb hby d20_1) (XS.lcmp X0.here hx rfl (hb hby d20_2) rfl (XS.ifYes X0.here hx rfl (pc0 := 3) (pc' := 33) rfl (hb hby d20_3) rfl ((if0 _ _).trans (flt (by decide : ¬ ((lcmpW (1 : Int64) (0 : Int64)) < (0 : Int32)))).2.1) (by decide) (by decide) (XS.lloadN X0.here hx rfl (hb hby d20_33) rfl (XS.lstoreN X0.here hx rfl (hb hby d20_34) rfl (l' := #[rv a1, .val (.long 1), .second, .val (.long 1), .second]) rfl (XS.lloadN X0.here hx rfl (hb hby d20_35) rfl (X0.ldc2Long hx hown0 (mvT hZ0 (w_91 hw)) (g := (mkF m 36 #[rv a1, .val (.long 1), .second, .val (.long 1), .second] [(.long 1)])) rfl (hb hby d20_36) _ (XS.lcmp X0.here hx rfl (hb hby d20_39) rfl (XS.ifYes X0.here hx rfl (pc0 := 40) (pc' := 65) rfl (hb hby d20_40) rfl ((if0 _ _).trans (tlt (by decide : (lcmpW (1 : Int64) (128 : Int64)) < (0 : Int32))).1) (by decide) (by decide) (XS.aloadN X0.here hx rfl (hb hby d20_65) rfl rfl (XS.lloadN X0.here hx rfl (hb hby d20_66) rfl k)))))))))))) ?_
  refine Go.on (w := s₁.setTop (mkF m 68 #[rv a1, .val (.long 1), .second, .val (.long 1), .second] [(.int 1), (.ref a1)])) (fun t k => XS.l2i X0.here hx rfl (hb hby d20_67) rfl (by rw [(by decide : ((1 : Int64).toInt32) = (1 : Int32))]; exact k)) ?_
  obtain ⟨cq183, q183, q183'⟩ := L0.cell
  obtain ⟨v183, _, ⟨T183, L183, k183, n183⟩, -, X183, ⟨Lc183, hQ183, l183, y183, z183⟩, st183⟩ := X0.privateBack hx (y := yM10) hown0 (mvT hZ0 (w_92 hw)) (mvT hZ0 (w_93 hw)) (own_selI (mvT hZ0 (w_38 hw)) (Cond.privateMethod_at (mvP hZ0 (w_94 hw) (args := #[]))) (mvT hZ0 (w_93 hw)) (by decide)) (Cond.privateMethod_at (mvP hZ0 (w_94 hw) (args := #[]))) (mvT hZ0 (w_95 hw)) (by decide) (backOf (W := 0) (rmWbE l Z a0 hw [] a1 (1 : Int32) al md dd qd h0 (by omega) OL OD VD (by omega) (by omega) ne_al_a1 L0 L1 L2 L3 L4 L5 L6) hZ0 (w_95 hw) (w_39 hw) (by decide) (by decide)) (g := (mkF m 68 #[rv a1, .val (.long 1), .second, .val (.long 1), .second] [(.int 1), (.ref a1)])) rfl (by rw [hml]; rfl) (Steps.refl _) (a := a1) (by rw [e0]; exact q183) q183' (argsL := [(.int 1)]) (rest := []) (lenOf pd_11 rfl) rfl (by show 2 * 0 + _ ≤ _; exact Nat.le_of_eq rfl) (hb hby d20_68) (fun _ _ => ⟨rfl, e0, (by decide : 0 + 2 ≤ _), (by decide : 0 + 74 ≤ _)⟩)
  dsimp only [Pt.U, Pt.locs, Pt.cells, Pt.slots] at X183 l183 y183 z183 st183 hQ183
  subst l183 y183 z183
  obtain ⟨ee_183, ke_183, x_183, kb_183, rfl, Nq183, K183, f183_0, f183_1, f183_2, f183_3, f183_4, f183_5, f183_6, f183_7, f183_8, f183_9, f183_10, f183_11, f183_12⟩ := hQ183
  have N183 := Fr.app N0 Nq183
  have eK183 : T183.heap = T183.heap := rfl
  have z183 : h0.size ≤ T183.heap.size := K183.1
  have KP183 : Keep h0 T183.heap ([a1, al] : List Addr) := KP0.trans K183 (allS (P := fun zq => zq ∈ ([a1, al] : List Addr) ∨ h0.size ≤ zq) (Or.inl (List.mem_of_getElem? (i := 0) rfl)) (allS (P := fun zq => zq ∈ ([a1, al] : List Addr) ∨ h0.size ≤ zq) (Or.inl (List.mem_of_getElem? (i := 1) rfl)) all0))
  have u183_10 : T183.heap.size > ee_183 := f183_10.lt
  have u183_11 : T183.heap.size > x_183 := f183_11.lt
  have u183_12 : T183.heap.size > x_183 := f183_12.lt
  refine Go.on (w := T183.setTop (mkF m 71 #[rv a1, .val (.long 1), .second, .val (.long 1), .second] [])) (fun t k => st183.trans k) ?_
  refine Go.finH X183 hlk (v := none) (fun _ => rfl) (fun fs hr => ?_) (endH (Q := Q_rmWcE1 Z a1 al md dd qd h0) (by rw [eK183]; exact ⟨ee_183, ke_183, x_183, kb_183, rfl, N183, KP183, (by omega), (by omega), (by omega), f183_3, f183_4, f183_5, f183_6, f183_7, f183_8, f183_9, f183_10, f183_11, f183_12⟩) (by decide) (by decide))
  exact X183.returnOut hx Bd.returns (hb hby d20_71) hr
def Q_rmWcN2 (Z : State) (a1 : Addr) (u : Int32) (al : Addr) (md : Int32) (ee : Addr) (ke : ClassId) (x : Addr) (kb : ClassId) (h0 : Heap) (vv : Option Value) (h : Heap) (L : List Loc) : Prop := vv = none ∧ Fr Z.heap.size L ∧ Keep h0 h [a1, x] ∧ Exa Z h a1 "com/example/realmwright/realmwright/ByteLog" ∧ Fld Z h a1 "com/example/realmwright/realmwright/ByteLog" "blocks" "Ljava/util/List;" (.ref al) ∧ Fld Z h a1 "com/example/realmwright/realmwright/ByteLog" "used" "I" (.int (u + (1 : Int32))) ∧ Exa Z h al "java/util/ArrayList" ∧ Fld Z h al "java/util/AbstractList" "modCount" "I" (.int md) ∧ Fld Z h al "java/util/ArrayList" "elementData" "[Ljava/lang/Object;" (.ref ee) ∧ Fld Z h al "java/util/ArrayList" "size" "I" (.int 1) ∧ Arv Z h ee ke (.object "java/lang/Object") (10 : Int32) [(.ref x), .null, .null, .null, .null, .null, .null, .null, .null, .null] .null ∧ own_blk Z h x kb ∧ Exa Z h x "[B"
theorem ef_rmWcN2 (m : MethodId) (x0 : Addr) (x1 : Int64)   : entryFrame m #[(.ref x0), (.long x1)] 5 = mkF m 0 #[.val (.ref x0), .val (.long x1), .second, .unset, .unset] [] := rfl
theorem rmWcN2 (l : Launch) (Z : State) (a0 : Array Value) (hw : HW a0 Z) (ws : List Cond) (a1 : Addr) (u : Int32) (al : Addr) (md : Int32) (ee : Addr) (ke : ClassId) (x : Addr) (kb : ClassId) (h0 : Heap) (Z0 : Z.heap.size ≤ h0.size) (lo_a1 : Z.heap.size ≤ a1) (lo_x : Z.heap.size ≤ x) (ne_al_a1 : al ≠ a1) (ne_ee_a1 : ee ≠ a1) (ne_al_x : al ≠ x) (ne_ee_x : ee ≠ x) (ne_a1_x : a1 ≠ x) (L0 : Exa Z h0 a1 "com/example/realmwright/realmwright/ByteLog") (L1 : Fld Z h0 a1 "com/example/realmwright/realmwright/ByteLog" "blocks" "Ljava/util/List;" (.ref al)) (L2 : Fld Z h0 a1 "com/example/realmwright/realmwright/ByteLog" "used" "I" (.int u)) (L3 : Exa Z h0 al "java/util/ArrayList") (L4 : Fld Z h0 al "java/util/AbstractList" "modCount" "I" (.int md)) (L5 : Fld Z h0 al "java/util/ArrayList" "elementData" "[Ljava/lang/Object;" (.ref ee)) (L6 : Fld Z h0 al "java/util/ArrayList" "size" "I" (.int 1)) (L7 : Arv Z h0 ee ke (.object "java/lang/Object") (10 : Int32) [(.ref x), .null, .null, .null, .null, .null, .null, .null, .null, .null] .null) (L8 : own_blk Z h0 x kb) (L9 : Exa Z h0 x "[B") (hu : own_us (60 : Int32) u) :
    MetFree l yM9 (head1 (Cond.code yM9 prog_1_method_2_code 5 none :: ws) (⟨5, 0, 0, 66⟩ : Room)) (fun a U => a = #[(.ref a1), (.long 2)] ∧ Z.Warmed39 U.vm ∧ U.heap = h0) (fun _ _ _ _ _ => True) (fun _ U o U' => ∃ v L, o = .returned v ∧ Q_rmWcN2 Z a1 u al md ee ke x kb h0 v U'.heap L ∧ FrameEnd U o U' L (⟨5, 0, 0, 66⟩ : Room).cells (⟨5, 0, 0, 66⟩ : Room).slots) := by
  refine MetFree.of_bodySF (plainFor_of_name (by first | (simp [plainName, overriddenIn]; done) | decide +kernel)) hisR ?_
  intro p e s m args below meth c s₁ Bd hml0 hP hK
  obtain ⟨rfl, hZ0', hh⟩ := hP
  have hx := Bd.exec
  have hby := Bd.bytes
  have hml : c.maxLocals = 5 := hml0
  have hZ0 : Z.Warmed39 s.vm := hZ0'
  have hown0 : s.vm.findClass "com/example/realmwright/realmwright/ByteLog" = some m.cls := findClass_of_methodNamed Bd.named
  have hnm := (name_of_methodNamed Bd.named Bd.method).1
  have hlk : meth.locks = false := Bd.notSynchronized
  have X0 : Stand p l e (⟨5, 0, 0, 66⟩ : Room) s m #[(.ref a1), (.long 2)] below meth c s₁ [] 0 0 := Stand.of_body Bd
  have e0 : s₁.heap = h0 := by rw [← hh, Bd.state]; rfl
  have N0 := Fr.nil Z.heap.size
  have KP0 : Keep h0 h0 ([a1, x] : List Addr) := Keep.refl _ _
  show Go p e below (fun t o => ∃ v L, o = .returned v ∧ Q_rmWcN2 Z a1 u al md ee ke x kb h0 v t.heap L ∧ FrameEnd s o t L (⟨5, 0, 0, 66⟩ : Room).cells (⟨5, 0, 0, 66⟩ : Room).slots) (s₁.setTop (entryFrame m #[(.ref a1), (.long 2)] 5))
  refine Go.on (w := s₁.setTop (mkF m 0 #[rv a1, .val (.long 2), .second, .unset, .unset] [])) (fun t k => castTop (ef_rmWcN2 m a1 (2 : Int64)) k) ?_
  have u_a1 : h0.size > a1 := L0.lt
  have u_al : h0.size > al := L3.lt
  have u_e : h0.size > ee := L7.lt
  have u_x : h0.size > x := L8.lt
  refine Go.on (w := s₁.setTop (mkF m 67 #[rv a1, .val (.long 2), .second, .val (.long 2), .second] [(.long 2), (.ref a1)])) (fun t k => XS.lloadN X0.here hx rfl (hb hby d20_0) rfl (XS.lconst X0.here hx rfl (hb hby d20_1) (XS.lcmp X0.here hx rfl (hb hby d20_2) rfl (XS.ifYes X0.here hx rfl (pc0 := 3) (pc' := 33) rfl (hb hby d20_3) rfl ((if0 _ _).trans (flt (by decide : ¬ ((lcmpW (2 : Int64) (0 : Int64)) < (0 : Int32)))).2.1) (by decide) (by decide) (XS.lloadN X0.here hx rfl (hb hby d20_33) rfl (XS.lstoreN X0.here hx rfl (hb hby d20_34) rfl (l' := #[rv a1, .val (.long 2), .second, .val (.long 2), .second]) rfl (XS.lloadN X0.here hx rfl (hb hby d20_35) rfl (X0.ldc2Long hx hown0 (mvT hZ0 (w_91 hw)) (g := (mkF m 36 #[rv a1, .val (.long 2), .second, .val (.long 2), .second] [(.long 2)])) rfl (hb hby d20_36) _ (XS.lcmp X0.here hx rfl (hb hby d20_39) rfl (XS.ifYes X0.here hx rfl (pc0 := 40) (pc' := 65) rfl (hb hby d20_40) rfl ((if0 _ _).trans (tlt (by decide : (lcmpW (2 : Int64) (128 : Int64)) < (0 : Int32))).1) (by decide) (by decide) (XS.aloadN X0.here hx rfl (hb hby d20_65) rfl rfl (XS.lloadN X0.here hx rfl (hb hby d20_66) rfl k)))))))))))) ?_
  refine Go.on (w := s₁.setTop (mkF m 68 #[rv a1, .val (.long 2), .second, .val (.long 2), .second] [(.int 2), (.ref a1)])) (fun t k => XS.l2i X0.here hx rfl (hb hby d20_67) rfl (by rw [(by decide : ((2 : Int64).toInt32) = (2 : Int32))]; exact k)) ?_
  obtain ⟨cq184, q184, q184'⟩ := L0.cell
  obtain ⟨v184, _, ⟨T184, L184, k184, n184⟩, -, X184, ⟨Lc184, hQ184, l184, y184, z184⟩, st184⟩ := X0.privateBack hx (y := yM10) hown0 (mvT hZ0 (w_92 hw)) (mvT hZ0 (w_93 hw)) (own_selI (mvT hZ0 (w_38 hw)) (Cond.privateMethod_at (mvP hZ0 (w_94 hw) (args := #[]))) (mvT hZ0 (w_93 hw)) (by decide)) (Cond.privateMethod_at (mvP hZ0 (w_94 hw) (args := #[]))) (mvT hZ0 (w_95 hw)) (by decide) (backOf (W := 0) (rmWbN l Z a0 hw [] a1 (2 : Int32) u al md ee ke x kb h0 (by omega) (by omega) (by omega) ne_al_a1 ne_ee_a1 ne_al_x ne_ee_x ne_a1_x L0 L1 L2 L3 L4 L5 L6 L7 L8 L9 hu) hZ0 (w_95 hw) (w_39 hw) (by decide) (by decide)) (g := (mkF m 68 #[rv a1, .val (.long 2), .second, .val (.long 2), .second] [(.int 2), (.ref a1)])) rfl (by rw [hml]; rfl) (Steps.refl _) (a := a1) (by rw [e0]; exact q184) q184' (argsL := [(.int 2)]) (rest := []) (lenOf pd_11 rfl) rfl (by show 2 * 0 + _ ≤ _; exact Nat.le_of_eq rfl) (hb hby d20_68) (fun _ _ => ⟨rfl, e0, (by decide : 0 + 0 ≤ _), (by decide : 0 + 0 ≤ _)⟩)
  dsimp only [Pt.U, Pt.locs, Pt.cells, Pt.slots] at X184 l184 y184 z184 st184 hQ184
  subst l184 y184 z184
  obtain ⟨rfl, Nq184, K184, f184_0, f184_1, f184_2, f184_3, f184_4, f184_5, f184_6, f184_7, f184_8, f184_9⟩ := hQ184
  have N184 := Fr.app N0 Nq184
  have eK184 : T184.heap = T184.heap := rfl
  have z184 : h0.size ≤ T184.heap.size := K184.1
  have KP184 : Keep h0 T184.heap ([a1, x] : List Addr) := KP0.trans K184 (allS (P := fun zq => zq ∈ ([a1, x] : List Addr) ∨ h0.size ≤ zq) (Or.inl (List.mem_of_getElem? (i := 0) rfl)) (allS (P := fun zq => zq ∈ ([a1, x] : List Addr) ∨ h0.size ≤ zq) (Or.inl (List.mem_of_getElem? (i := 1) rfl)) all0))
  refine Go.on (w := T184.setTop (mkF m 71 #[rv a1, .val (.long 2), .second, .val (.long 2), .second] [])) (fun t k => st184.trans k) ?_
  refine Go.finH X184 hlk (v := none) (fun _ => rfl) (fun fs hr => ?_) (endH (Q := Q_rmWcN2 Z a1 u al md ee ke x kb h0) (by rw [eK184]; exact ⟨rfl, N184, KP184, f184_0, f184_1, f184_2, f184_3, f184_4, f184_5, f184_6, f184_7, f184_8, f184_9⟩) (by decide) (by decide))
  exact X184.returnOut hx Bd.returns (hb hby d20_71) hr
def Q_rmWcN8 (Z : State) (a1 : Addr) (u : Int32) (al : Addr) (md : Int32) (ee : Addr) (ke : ClassId) (x : Addr) (kb : ClassId) (h0 : Heap) (vv : Option Value) (h : Heap) (L : List Loc) : Prop := vv = none ∧ Fr Z.heap.size L ∧ Keep h0 h [a1, x] ∧ Exa Z h a1 "com/example/realmwright/realmwright/ByteLog" ∧ Fld Z h a1 "com/example/realmwright/realmwright/ByteLog" "blocks" "Ljava/util/List;" (.ref al) ∧ Fld Z h a1 "com/example/realmwright/realmwright/ByteLog" "used" "I" (.int (u + (1 : Int32))) ∧ Exa Z h al "java/util/ArrayList" ∧ Fld Z h al "java/util/AbstractList" "modCount" "I" (.int md) ∧ Fld Z h al "java/util/ArrayList" "elementData" "[Ljava/lang/Object;" (.ref ee) ∧ Fld Z h al "java/util/ArrayList" "size" "I" (.int 1) ∧ Arv Z h ee ke (.object "java/lang/Object") (10 : Int32) [(.ref x), .null, .null, .null, .null, .null, .null, .null, .null, .null] .null ∧ own_blk Z h x kb ∧ Exa Z h x "[B"
theorem ef_rmWcN8 (m : MethodId) (x0 : Addr) (x1 : Int64)   : entryFrame m #[(.ref x0), (.long x1)] 5 = mkF m 0 #[.val (.ref x0), .val (.long x1), .second, .unset, .unset] [] := rfl
theorem rmWcN8 (l : Launch) (Z : State) (a0 : Array Value) (hw : HW a0 Z) (ws : List Cond) (a1 : Addr) (u : Int32) (al : Addr) (md : Int32) (ee : Addr) (ke : ClassId) (x : Addr) (kb : ClassId) (h0 : Heap) (Z0 : Z.heap.size ≤ h0.size) (lo_a1 : Z.heap.size ≤ a1) (lo_x : Z.heap.size ≤ x) (ne_al_a1 : al ≠ a1) (ne_ee_a1 : ee ≠ a1) (ne_al_x : al ≠ x) (ne_ee_x : ee ≠ x) (ne_a1_x : a1 ≠ x) (L0 : Exa Z h0 a1 "com/example/realmwright/realmwright/ByteLog") (L1 : Fld Z h0 a1 "com/example/realmwright/realmwright/ByteLog" "blocks" "Ljava/util/List;" (.ref al)) (L2 : Fld Z h0 a1 "com/example/realmwright/realmwright/ByteLog" "used" "I" (.int u)) (L3 : Exa Z h0 al "java/util/ArrayList") (L4 : Fld Z h0 al "java/util/AbstractList" "modCount" "I" (.int md)) (L5 : Fld Z h0 al "java/util/ArrayList" "elementData" "[Ljava/lang/Object;" (.ref ee)) (L6 : Fld Z h0 al "java/util/ArrayList" "size" "I" (.int 1)) (L7 : Arv Z h0 ee ke (.object "java/lang/Object") (10 : Int32) [(.ref x), .null, .null, .null, .null, .null, .null, .null, .null, .null] .null) (L8 : own_blk Z h0 x kb) (L9 : Exa Z h0 x "[B") (hu : own_us (60 : Int32) u) :
    MetFree l yM9 (head1 (Cond.code yM9 prog_1_method_2_code 5 none :: ws) (⟨5, 0, 0, 66⟩ : Room)) (fun a U => a = #[(.ref a1), (.long 8)] ∧ Z.Warmed39 U.vm ∧ U.heap = h0) (fun _ _ _ _ _ => True) (fun _ U o U' => ∃ v L, o = .returned v ∧ Q_rmWcN8 Z a1 u al md ee ke x kb h0 v U'.heap L ∧ FrameEnd U o U' L (⟨5, 0, 0, 66⟩ : Room).cells (⟨5, 0, 0, 66⟩ : Room).slots) := by
  refine MetFree.of_bodySF (plainFor_of_name (by first | (simp [plainName, overriddenIn]; done) | decide +kernel)) hisR ?_
  intro p e s m args below meth c s₁ Bd hml0 hP hK
  obtain ⟨rfl, hZ0', hh⟩ := hP
  have hx := Bd.exec
  have hby := Bd.bytes
  have hml : c.maxLocals = 5 := hml0
  have hZ0 : Z.Warmed39 s.vm := hZ0'
  have hown0 : s.vm.findClass "com/example/realmwright/realmwright/ByteLog" = some m.cls := findClass_of_methodNamed Bd.named
  have hnm := (name_of_methodNamed Bd.named Bd.method).1
  have hlk : meth.locks = false := Bd.notSynchronized
  have X0 : Stand p l e (⟨5, 0, 0, 66⟩ : Room) s m #[(.ref a1), (.long 8)] below meth c s₁ [] 0 0 := Stand.of_body Bd
  have e0 : s₁.heap = h0 := by rw [← hh, Bd.state]; rfl
  have N0 := Fr.nil Z.heap.size
  have KP0 : Keep h0 h0 ([a1, x] : List Addr) := Keep.refl _ _
  show Go p e below (fun t o => ∃ v L, o = .returned v ∧ Q_rmWcN8 Z a1 u al md ee ke x kb h0 v t.heap L ∧ FrameEnd s o t L (⟨5, 0, 0, 66⟩ : Room).cells (⟨5, 0, 0, 66⟩ : Room).slots) (s₁.setTop (entryFrame m #[(.ref a1), (.long 8)] 5))
  refine Go.on (w := s₁.setTop (mkF m 0 #[rv a1, .val (.long 8), .second, .unset, .unset] [])) (fun t k => castTop (ef_rmWcN8 m a1 (8 : Int64)) k) ?_
  have u_a1 : h0.size > a1 := L0.lt
  have u_al : h0.size > al := L3.lt
  have u_e : h0.size > ee := L7.lt
  have u_x : h0.size > x := L8.lt
  refine Go.on (w := s₁.setTop (mkF m 67 #[rv a1, .val (.long 8), .second, .val (.long 8), .second] [(.long 8), (.ref a1)])) (fun t k => XS.lloadN X0.here hx rfl (hb hby d20_0) rfl (XS.lconst X0.here hx rfl (hb hby d20_1) (XS.lcmp X0.here hx rfl (hb hby d20_2) rfl (XS.ifYes X0.here hx rfl (pc0 := 3) (pc' := 33) rfl (hb hby d20_3) rfl ((if0 _ _).trans (flt (by decide : ¬ ((lcmpW (8 : Int64) (0 : Int64)) < (0 : Int32)))).2.1) (by decide) (by decide) (XS.lloadN X0.here hx rfl (hb hby d20_33) rfl (XS.lstoreN X0.here hx rfl (hb hby d20_34) rfl (l' := #[rv a1, .val (.long 8), .second, .val (.long 8), .second]) rfl (XS.lloadN X0.here hx rfl (hb hby d20_35) rfl (X0.ldc2Long hx hown0 (mvT hZ0 (w_91 hw)) (g := (mkF m 36 #[rv a1, .val (.long 8), .second, .val (.long 8), .second] [(.long 8)])) rfl (hb hby d20_36) _ (XS.lcmp X0.here hx rfl (hb hby d20_39) rfl (XS.ifYes X0.here hx rfl (pc0 := 40) (pc' := 65) rfl (hb hby d20_40) rfl ((if0 _ _).trans (tlt (by decide : (lcmpW (8 : Int64) (128 : Int64)) < (0 : Int32))).1) (by decide) (by decide) (XS.aloadN X0.here hx rfl (hb hby d20_65) rfl rfl (XS.lloadN X0.here hx rfl (hb hby d20_66) rfl k)))))))))))) ?_
  refine Go.on (w := s₁.setTop (mkF m 68 #[rv a1, .val (.long 8), .second, .val (.long 8), .second] [(.int 8), (.ref a1)])) (fun t k => XS.l2i X0.here hx rfl (hb hby d20_67) rfl (by rw [(by decide : ((8 : Int64).toInt32) = (8 : Int32))]; exact k)) ?_
  obtain ⟨cq185, q185, q185'⟩ := L0.cell
  obtain ⟨v185, _, ⟨T185, L185, k185, n185⟩, -, X185, ⟨Lc185, hQ185, l185, y185, z185⟩, st185⟩ := X0.privateBack hx (y := yM10) hown0 (mvT hZ0 (w_92 hw)) (mvT hZ0 (w_93 hw)) (own_selI (mvT hZ0 (w_38 hw)) (Cond.privateMethod_at (mvP hZ0 (w_94 hw) (args := #[]))) (mvT hZ0 (w_93 hw)) (by decide)) (Cond.privateMethod_at (mvP hZ0 (w_94 hw) (args := #[]))) (mvT hZ0 (w_95 hw)) (by decide) (backOf (W := 0) (rmWbN l Z a0 hw [] a1 (8 : Int32) u al md ee ke x kb h0 (by omega) (by omega) (by omega) ne_al_a1 ne_ee_a1 ne_al_x ne_ee_x ne_a1_x L0 L1 L2 L3 L4 L5 L6 L7 L8 L9 hu) hZ0 (w_95 hw) (w_39 hw) (by decide) (by decide)) (g := (mkF m 68 #[rv a1, .val (.long 8), .second, .val (.long 8), .second] [(.int 8), (.ref a1)])) rfl (by rw [hml]; rfl) (Steps.refl _) (a := a1) (by rw [e0]; exact q185) q185' (argsL := [(.int 8)]) (rest := []) (lenOf pd_11 rfl) rfl (by show 2 * 0 + _ ≤ _; exact Nat.le_of_eq rfl) (hb hby d20_68) (fun _ _ => ⟨rfl, e0, (by decide : 0 + 0 ≤ _), (by decide : 0 + 0 ≤ _)⟩)
  dsimp only [Pt.U, Pt.locs, Pt.cells, Pt.slots] at X185 l185 y185 z185 st185 hQ185
  subst l185 y185 z185
  obtain ⟨rfl, Nq185, K185, f185_0, f185_1, f185_2, f185_3, f185_4, f185_5, f185_6, f185_7, f185_8, f185_9⟩ := hQ185
  have N185 := Fr.app N0 Nq185
  have eK185 : T185.heap = T185.heap := rfl
  have z185 : h0.size ≤ T185.heap.size := K185.1
  have KP185 : Keep h0 T185.heap ([a1, x] : List Addr) := KP0.trans K185 (allS (P := fun zq => zq ∈ ([a1, x] : List Addr) ∨ h0.size ≤ zq) (Or.inl (List.mem_of_getElem? (i := 0) rfl)) (allS (P := fun zq => zq ∈ ([a1, x] : List Addr) ∨ h0.size ≤ zq) (Or.inl (List.mem_of_getElem? (i := 1) rfl)) all0))
  refine Go.on (w := T185.setTop (mkF m 71 #[rv a1, .val (.long 8), .second, .val (.long 8), .second] [])) (fun t k => st185.trans k) ?_
  refine Go.finH X185 hlk (v := none) (fun _ => rfl) (fun fs hr => ?_) (endH (Q := Q_rmWcN8 Z a1 u al md ee ke x kb h0) (by rw [eK185]; exact ⟨rfl, N185, KP185, f185_0, f185_1, f185_2, f185_3, f185_4, f185_5, f185_6, f185_7, f185_8, f185_9⟩) (by decide) (by decide))
  exact X185.returnOut hx Bd.returns (hb hby d20_71) hr
def Q_rmWcN9 (Z : State) (a1 : Addr) (u : Int32) (al : Addr) (md : Int32) (ee : Addr) (ke : ClassId) (x : Addr) (kb : ClassId) (h0 : Heap) (vv : Option Value) (h : Heap) (L : List Loc) : Prop := vv = none ∧ Fr Z.heap.size L ∧ Keep h0 h [a1, x] ∧ Exa Z h a1 "com/example/realmwright/realmwright/ByteLog" ∧ Fld Z h a1 "com/example/realmwright/realmwright/ByteLog" "blocks" "Ljava/util/List;" (.ref al) ∧ Fld Z h a1 "com/example/realmwright/realmwright/ByteLog" "used" "I" (.int (u + (1 : Int32))) ∧ Exa Z h al "java/util/ArrayList" ∧ Fld Z h al "java/util/AbstractList" "modCount" "I" (.int md) ∧ Fld Z h al "java/util/ArrayList" "elementData" "[Ljava/lang/Object;" (.ref ee) ∧ Fld Z h al "java/util/ArrayList" "size" "I" (.int 1) ∧ Arv Z h ee ke (.object "java/lang/Object") (10 : Int32) [(.ref x), .null, .null, .null, .null, .null, .null, .null, .null, .null] .null ∧ own_blk Z h x kb ∧ Exa Z h x "[B"
theorem ef_rmWcN9 (m : MethodId) (x0 : Addr) (x1 : Int64)   : entryFrame m #[(.ref x0), (.long x1)] 5 = mkF m 0 #[.val (.ref x0), .val (.long x1), .second, .unset, .unset] [] := rfl
theorem rmWcN9 (l : Launch) (Z : State) (a0 : Array Value) (hw : HW a0 Z) (ws : List Cond) (a1 : Addr) (u : Int32) (al : Addr) (md : Int32) (ee : Addr) (ke : ClassId) (x : Addr) (kb : ClassId) (h0 : Heap) (Z0 : Z.heap.size ≤ h0.size) (lo_a1 : Z.heap.size ≤ a1) (lo_x : Z.heap.size ≤ x) (ne_al_a1 : al ≠ a1) (ne_ee_a1 : ee ≠ a1) (ne_al_x : al ≠ x) (ne_ee_x : ee ≠ x) (ne_a1_x : a1 ≠ x) (L0 : Exa Z h0 a1 "com/example/realmwright/realmwright/ByteLog") (L1 : Fld Z h0 a1 "com/example/realmwright/realmwright/ByteLog" "blocks" "Ljava/util/List;" (.ref al)) (L2 : Fld Z h0 a1 "com/example/realmwright/realmwright/ByteLog" "used" "I" (.int u)) (L3 : Exa Z h0 al "java/util/ArrayList") (L4 : Fld Z h0 al "java/util/AbstractList" "modCount" "I" (.int md)) (L5 : Fld Z h0 al "java/util/ArrayList" "elementData" "[Ljava/lang/Object;" (.ref ee)) (L6 : Fld Z h0 al "java/util/ArrayList" "size" "I" (.int 1)) (L7 : Arv Z h0 ee ke (.object "java/lang/Object") (10 : Int32) [(.ref x), .null, .null, .null, .null, .null, .null, .null, .null, .null] .null) (L8 : own_blk Z h0 x kb) (L9 : Exa Z h0 x "[B") (hu : own_us (60 : Int32) u) :
    MetFree l yM9 (head1 (Cond.code yM9 prog_1_method_2_code 5 none :: ws) (⟨5, 0, 0, 66⟩ : Room)) (fun a U => a = #[(.ref a1), (.long 9)] ∧ Z.Warmed39 U.vm ∧ U.heap = h0) (fun _ _ _ _ _ => True) (fun _ U o U' => ∃ v L, o = .returned v ∧ Q_rmWcN9 Z a1 u al md ee ke x kb h0 v U'.heap L ∧ FrameEnd U o U' L (⟨5, 0, 0, 66⟩ : Room).cells (⟨5, 0, 0, 66⟩ : Room).slots) := by
  refine MetFree.of_bodySF (plainFor_of_name (by first | (simp [plainName, overriddenIn]; done) | decide +kernel)) hisR ?_
  intro p e s m args below meth c s₁ Bd hml0 hP hK
  obtain ⟨rfl, hZ0', hh⟩ := hP
  have hx := Bd.exec
  have hby := Bd.bytes
  have hml : c.maxLocals = 5 := hml0
  have hZ0 : Z.Warmed39 s.vm := hZ0'
  have hown0 : s.vm.findClass "com/example/realmwright/realmwright/ByteLog" = some m.cls := findClass_of_methodNamed Bd.named
  have hnm := (name_of_methodNamed Bd.named Bd.method).1
  have hlk : meth.locks = false := Bd.notSynchronized
  have X0 : Stand p l e (⟨5, 0, 0, 66⟩ : Room) s m #[(.ref a1), (.long 9)] below meth c s₁ [] 0 0 := Stand.of_body Bd
  have e0 : s₁.heap = h0 := by rw [← hh, Bd.state]; rfl
  have N0 := Fr.nil Z.heap.size
  have KP0 : Keep h0 h0 ([a1, x] : List Addr) := Keep.refl _ _
  show Go p e below (fun t o => ∃ v L, o = .returned v ∧ Q_rmWcN9 Z a1 u al md ee ke x kb h0 v t.heap L ∧ FrameEnd s o t L (⟨5, 0, 0, 66⟩ : Room).cells (⟨5, 0, 0, 66⟩ : Room).slots) (s₁.setTop (entryFrame m #[(.ref a1), (.long 9)] 5))
  refine Go.on (w := s₁.setTop (mkF m 0 #[rv a1, .val (.long 9), .second, .unset, .unset] [])) (fun t k => castTop (ef_rmWcN9 m a1 (9 : Int64)) k) ?_
  have u_a1 : h0.size > a1 := L0.lt
  have u_al : h0.size > al := L3.lt
  have u_e : h0.size > ee := L7.lt
  have u_x : h0.size > x := L8.lt
  refine Go.on (w := s₁.setTop (mkF m 67 #[rv a1, .val (.long 9), .second, .val (.long 9), .second] [(.long 9), (.ref a1)])) (fun t k => XS.lloadN X0.here hx rfl (hb hby d20_0) rfl (XS.lconst X0.here hx rfl (hb hby d20_1) (XS.lcmp X0.here hx rfl (hb hby d20_2) rfl (XS.ifYes X0.here hx rfl (pc0 := 3) (pc' := 33) rfl (hb hby d20_3) rfl ((if0 _ _).trans (flt (by decide : ¬ ((lcmpW (9 : Int64) (0 : Int64)) < (0 : Int32)))).2.1) (by decide) (by decide) (XS.lloadN X0.here hx rfl (hb hby d20_33) rfl (XS.lstoreN X0.here hx rfl (hb hby d20_34) rfl (l' := #[rv a1, .val (.long 9), .second, .val (.long 9), .second]) rfl (XS.lloadN X0.here hx rfl (hb hby d20_35) rfl (X0.ldc2Long hx hown0 (mvT hZ0 (w_91 hw)) (g := (mkF m 36 #[rv a1, .val (.long 9), .second, .val (.long 9), .second] [(.long 9)])) rfl (hb hby d20_36) _ (XS.lcmp X0.here hx rfl (hb hby d20_39) rfl (XS.ifYes X0.here hx rfl (pc0 := 40) (pc' := 65) rfl (hb hby d20_40) rfl ((if0 _ _).trans (tlt (by decide : (lcmpW (9 : Int64) (128 : Int64)) < (0 : Int32))).1) (by decide) (by decide) (XS.aloadN X0.here hx rfl (hb hby d20_65) rfl rfl (XS.lloadN X0.here hx rfl (hb hby d20_66) rfl k)))))))))))) ?_
  refine Go.on (w := s₁.setTop (mkF m 68 #[rv a1, .val (.long 9), .second, .val (.long 9), .second] [(.int 9), (.ref a1)])) (fun t k => XS.l2i X0.here hx rfl (hb hby d20_67) rfl (by rw [(by decide : ((9 : Int64).toInt32) = (9 : Int32))]; exact k)) ?_
  obtain ⟨cq186, q186, q186'⟩ := L0.cell
  obtain ⟨v186, _, ⟨T186, L186, k186, n186⟩, -, X186, ⟨Lc186, hQ186, l186, y186, z186⟩, st186⟩ := X0.privateBack hx (y := yM10) hown0 (mvT hZ0 (w_92 hw)) (mvT hZ0 (w_93 hw)) (own_selI (mvT hZ0 (w_38 hw)) (Cond.privateMethod_at (mvP hZ0 (w_94 hw) (args := #[]))) (mvT hZ0 (w_93 hw)) (by decide)) (Cond.privateMethod_at (mvP hZ0 (w_94 hw) (args := #[]))) (mvT hZ0 (w_95 hw)) (by decide) (backOf (W := 0) (rmWbN l Z a0 hw [] a1 (9 : Int32) u al md ee ke x kb h0 (by omega) (by omega) (by omega) ne_al_a1 ne_ee_a1 ne_al_x ne_ee_x ne_a1_x L0 L1 L2 L3 L4 L5 L6 L7 L8 L9 hu) hZ0 (w_95 hw) (w_39 hw) (by decide) (by decide)) (g := (mkF m 68 #[rv a1, .val (.long 9), .second, .val (.long 9), .second] [(.int 9), (.ref a1)])) rfl (by rw [hml]; rfl) (Steps.refl _) (a := a1) (by rw [e0]; exact q186) q186' (argsL := [(.int 9)]) (rest := []) (lenOf pd_11 rfl) rfl (by show 2 * 0 + _ ≤ _; exact Nat.le_of_eq rfl) (hb hby d20_68) (fun _ _ => ⟨rfl, e0, (by decide : 0 + 0 ≤ _), (by decide : 0 + 0 ≤ _)⟩)
  dsimp only [Pt.U, Pt.locs, Pt.cells, Pt.slots] at X186 l186 y186 z186 st186 hQ186
  subst l186 y186 z186
  obtain ⟨rfl, Nq186, K186, f186_0, f186_1, f186_2, f186_3, f186_4, f186_5, f186_6, f186_7, f186_8, f186_9⟩ := hQ186
  have N186 := Fr.app N0 Nq186
  have eK186 : T186.heap = T186.heap := rfl
  have z186 : h0.size ≤ T186.heap.size := K186.1
  have KP186 : Keep h0 T186.heap ([a1, x] : List Addr) := KP0.trans K186 (allS (P := fun zq => zq ∈ ([a1, x] : List Addr) ∨ h0.size ≤ zq) (Or.inl (List.mem_of_getElem? (i := 0) rfl)) (allS (P := fun zq => zq ∈ ([a1, x] : List Addr) ∨ h0.size ≤ zq) (Or.inl (List.mem_of_getElem? (i := 1) rfl)) all0))
  refine Go.on (w := T186.setTop (mkF m 71 #[rv a1, .val (.long 9), .second, .val (.long 9), .second] [])) (fun t k => st186.trans k) ?_
  refine Go.finH X186 hlk (v := none) (fun _ => rfl) (fun fs hr => ?_) (endH (Q := Q_rmWcN9 Z a1 u al md ee ke x kb h0) (by rw [eK186]; exact ⟨rfl, N186, KP186, f186_0, f186_1, f186_2, f186_3, f186_4, f186_5, f186_6, f186_7, f186_8, f186_9⟩) (by decide) (by decide))
  exact X186.returnOut hx Bd.returns (hb hby d20_71) hr
def Q_rmCod (Z : State) (a1 : Addr) (G1 : Int32) (h0 : Heap) (vv : Option Value) (h : Heap) (L : List Loc) : Prop := vv = some (.int 0) ∧ Fr Z.heap.size L ∧ h = h0
theorem ef_rmCod (m : MethodId) (x0 : Addr)   : entryFrame m #[(.ref x0)] 1 = mkF m 0 #[.val (.ref x0)] [] := rfl
theorem rmCod (l : Launch) (Z : State) (a0 : Array Value) (hw : HW a0 Z) (ws : List Cond) (a1 : Addr) (G1 : Int32) (h0 : Heap) (OL : Old Z Z.heap.size h0) (O2 : Sta Z Z.heap "java/lang/String" "COMPACT_STRINGS" "Z" (.int G1)) (P5 : ¬ (G1 = (0 : Int32))) (Fc : Fld Z h0 a1 "java/lang/String" "coder" "B" (.int 0)) :
    MetFree l yM33 (head1 (Cond.code yM33 jdk_42_method_152_code 1 (some .byte) :: ws) (⟨0, 0, 0, 0⟩ : Room)) (fun a U => a = #[(.ref a1)] ∧ Z.Warmed39 U.vm ∧ U.heap = h0) (fun _ _ _ _ _ => True) (fun _ U o U' => ∃ v L, o = .returned v ∧ Q_rmCod Z a1 G1 h0 v U'.heap L ∧ FrameEnd U o U' L (⟨0, 0, 0, 0⟩ : Room).cells (⟨0, 0, 0, 0⟩ : Room).slots) := by
  refine MetFree.of_bodySF (plainFor_of_name (by first | (simp [plainName, overriddenIn]; done) | decide +kernel)) hisR ?_
  intro p e s m args below meth c s₁ Bd hml0 hP hK
  obtain ⟨rfl, hZ0', hh⟩ := hP
  have hx := Bd.exec
  have hby := Bd.bytes
  have hml : c.maxLocals = 1 := hml0
  have hZ0 : Z.Warmed39 s.vm := hZ0'
  have hown0 : s.vm.findClass "java/lang/String" = some m.cls := findClass_of_methodNamed Bd.named
  have hnm := (name_of_methodNamed Bd.named Bd.method).1
  have hlk : meth.locks = false := Bd.notSynchronized
  have X0 : Stand p l e (⟨0, 0, 0, 0⟩ : Room) s m #[(.ref a1)] below meth c s₁ [] 0 0 := Stand.of_body Bd
  have e0 : s₁.heap = h0 := by rw [← hh, Bd.state]; rfl
  have N0 := Fr.nil Z.heap.size
  have KP0 : Keep h0 h0 ([] : List Addr) := Keep.refl _ _
  show Go p e below (fun t o => ∃ v L, o = .returned v ∧ Q_rmCod Z a1 G1 h0 v t.heap L ∧ FrameEnd s o t L (⟨0, 0, 0, 0⟩ : Room).cells (⟨0, 0, 0, 0⟩ : Room).slots) (s₁.setTop (entryFrame m #[(.ref a1)] 1))
  refine Go.on (w := s₁.setTop (mkF m 0 #[rv a1] [])) (fun t k => castTop (ef_rmCod m a1) k) ?_
  obtain ⟨T187, X187, e187, st187⟩ := getS2 X0 hx hZ0 hown0 (host := "") (Or.inl (w_14 hw)) Via.refl e0 (O2.ext OL.2) (g := (mkF m 0 #[rv a1] [])) rfl (hb hby d21_0)
  obtain ⟨T188, X188, e188, st188⟩ := getF X187 hx hZ0 hown0 (host := "") (Or.inl (w_26 hw)) Via.refl e187 Fc (g := (mkF m 7 #[rv a1] [(.ref a1)])) rfl rfl (hb hby d21_7)
  refine Go.on (w := T188.setTop (mkF m 14 #[rv a1] [(.int 0)])) (fun t k => st187 _ (XS.ifNo X187.here hx rfl (hb hby d21_3) rfl ((if0 _ _).trans (feq P5).1) (XS.aloadN X187.here hx rfl (hb hby d21_6) rfl rfl (st188 _ (XS.goto X188.here hx rfl (pc0 := 10) (pc' := 14) rfl (hb hby d21_10) (by decide) (by decide) k))))) ?_
  refine Go.finH X188 hlk (v := some (.int 0)) (fun h => by rw [Bd.returns] at h; cases h) (fun fs hr => ?_) (endH (Q := Q_rmCod Z a1 G1 h0) (by rw [e188]; exact ⟨rfl, N0, rfl⟩) (by decide) (by decide))
  exact retN X188 hx (t := .byte) Bd.returns (by simp) (hb hby d21_14) hr
def Q_rmLen6 (Z : State) (sa : Addr) (ta : Addr) (q : ClassId) (G1 : Int32) (h0 : Heap) (vv : Option Value) (h : Heap) (L : List Loc) : Prop := vv = some (.int 6) ∧ Fr Z.heap.size L ∧ h = h0
theorem ef_rmLen6 (m : MethodId) (x0 : Addr)   : entryFrame m #[(.ref x0)] 1 = mkF m 0 #[.val (.ref x0)] [] := rfl
theorem rmLen6 (l : Launch) (Z : State) (a0 : Array Value) (hw : HW a0 Z) (ws : List Cond) (sa : Addr) (ta : Addr) (q : ClassId) (G1 : Int32) (h0 : Heap) (OL : Old Z Z.heap.size h0) (O2 : Sta Z Z.heap "java/lang/String" "COMPACT_STRINGS" "Z" (.int G1)) (P5 : ¬ (G1 = (0 : Int32))) (S0 : Exa Z h0 sa "java/lang/String") (S1 : Fld Z h0 sa "java/lang/String" "coder" "B" (.int 0)) (S2 : Fld Z h0 sa "java/lang/String" "value" "[B" (.ref ta)) (S3 : Arv Z h0 ta q .byte (6 : Int32) [(.int 114), (.int 101), (.int 97), (.int 108), (.int 109), (.int 32)] (.int 0)) :
    MetFree l yM32 (head1 (Cond.code yM32 jdk_42_method_54_code 1 (some .int) :: ws) (⟨1, 0, 0, 13⟩ : Room)) (fun a U => a = #[(.ref sa)] ∧ Z.Warmed39 U.vm ∧ U.heap = h0) (fun _ _ _ _ _ => True) (fun _ U o U' => ∃ v L, o = .returned v ∧ Q_rmLen6 Z sa ta q G1 h0 v U'.heap L ∧ FrameEnd U o U' L (⟨1, 0, 0, 13⟩ : Room).cells (⟨1, 0, 0, 13⟩ : Room).slots) := by
  refine MetFree.of_bodySF (plainFor_of_name (by first | (simp [plainName, overriddenIn]; done) | decide +kernel)) hisR ?_
  intro p e s m args below meth c s₁ Bd hml0 hP hK
  obtain ⟨rfl, hZ0', hh⟩ := hP
  have hx := Bd.exec
  have hby := Bd.bytes
  have hml : c.maxLocals = 1 := hml0
  have hZ0 : Z.Warmed39 s.vm := hZ0'
  have hown0 : s.vm.findClass "java/lang/String" = some m.cls := findClass_of_methodNamed Bd.named
  have hnm := (name_of_methodNamed Bd.named Bd.method).1
  have hlk : meth.locks = false := Bd.notSynchronized
  have X0 : Stand p l e (⟨1, 0, 0, 13⟩ : Room) s m #[(.ref sa)] below meth c s₁ [] 0 0 := Stand.of_body Bd
  have e0 : s₁.heap = h0 := by rw [← hh, Bd.state]; rfl
  have N0 := Fr.nil Z.heap.size
  have KP0 : Keep h0 h0 ([] : List Addr) := Keep.refl _ _
  show Go p e below (fun t o => ∃ v L, o = .returned v ∧ Q_rmLen6 Z sa ta q G1 h0 v t.heap L ∧ FrameEnd s o t L (⟨1, 0, 0, 13⟩ : Room).cells (⟨1, 0, 0, 13⟩ : Room).slots) (s₁.setTop (entryFrame m #[(.ref sa)] 1))
  refine Go.on (w := s₁.setTop (mkF m 0 #[rv sa] [])) (fun t k => castTop (ef_rmLen6 m sa) k) ?_
  obtain ⟨T189, X189, e189, st189⟩ := getF X0 hx hZ0 hown0 (host := "") (Or.inl (w_28 hw)) Via.refl e0 S2 (g := (mkF m 1 #[rv sa] [(.ref sa)])) rfl rfl (hb hby d22_1)
  obtain ⟨cl190, Ar190, q190, S190, M190, H190, U190⟩ := id S3
  refine Go.on (w := T189.setTop (mkF m 4 #[rv sa] [(.ref ta)])) (fun t k => XS.aloadN X0.here hx rfl (hb hby d22_0) rfl rfl (st189 _ k)) ?_
  refine Go.on (w := T189.setTop (mkF m 5 #[rv sa] [(.int 6)])) (fun t k => X189.arraylength hx (by rw [e189]; exact Ar190.1) (State.isArrayOf_alike hZ0.alike Ar190.2.1) (g := (mkF m 4 #[rv sa] [(.ref ta)])) rfl rfl (hb hby d22_4) _ (by rw [len_of S190 M190]; exact k)) ?_
  obtain ⟨cq191, kq191, q191a, q191b, q191c⟩ := isOf hZ0 e189 S0
  obtain ⟨v191, _, ⟨T191, L191, k191, n191⟩, -, X191, ⟨Lc191, hQ191, l191, y191, z191⟩, st191⟩ := X189.virtualBack hx (y := yM33) (z := yM33) hown0 (mvT hZ0 (w_215 hw)) (mvT hZ0 (w_216 hw)) (notFace_of_selects (args := #[]) (mvT hZ0 (w_218 hw))) (mvT hZ0 (w_218 hw)) (mvT hZ0 (w_217 hw)) (by decide) (backOf (W := 1) (rmCod l Z a0 hw [] sa G1 h0 OL O2 P5 S1) hZ0 (w_219 hw) (w_3 hw) (by decide) (by decide)) q191a q191c (g := (mkF m 6 #[rv sa] [(.ref sa), (.int 6)])) rfl (by rw [hml]; rfl) (Steps.refl _) (argsL := []) (rest := [(.int 6)]) (lenOf pd_12 rfl) rfl (by show 2 * 0 + _ ≤ _; exact Nat.le_of_eq rfl) (hb hby d22_6) (fun _ _ => ⟨rfl, e189, (by decide : 0 + 0 ≤ _), (by decide : 0 + 0 ≤ _)⟩)
  dsimp only [Pt.U, Pt.locs, Pt.cells, Pt.slots] at X191 l191 y191 z191 st191 hQ191
  subst l191 y191 z191
  obtain ⟨rfl, Nq191, eh191⟩ := hQ191
  have N191 := Fr.app N0 Nq191
  refine Go.on (w := T191.setTop (mkF m 9 #[rv sa] [(.int 0), (.int 6)])) (fun t k => XS.aloadN X189.here hx rfl (hb hby d22_5) rfl rfl (st191.trans k)) ?_
  refine Go.on (w := T191.setTop (mkF m 10 #[rv sa] [(.int 6)])) (fun t k => XS.ishr X191.here hx rfl (hb hby d22_9) rfl (by rw [(by decide : ((6 : Int32) >>> ((0 : Int32) &&& 31)) = (6 : Int32))]; exact k)) ?_
  refine Go.finH X191 hlk (v := some (.int 6)) (fun h => by rw [Bd.returns] at h; cases h) (fun fs hr => ?_) (endH (Q := Q_rmLen6 Z sa ta q G1 h0) (by rw [eh191]; exact ⟨rfl, N191, rfl⟩) (by decide) (by decide))
  exact retOut X191 hx Bd.returns rfl (Or.inl ⟨rfl, Or.inl rfl, _, rfl⟩) (hb hby d22_10) hr
def Q_rmGb6 (Z : State) (vb : Addr) (kv : ClassId) (sa : Addr) (ta : Addr) (q : ClassId) (G1 : Int32) (h0 : Heap) (vv : Option Value) (h : Heap) (L : List Loc) : Prop := vv = none ∧ Fr Z.heap.size L ∧ Keep h0 h [vb] ∧ Arv Z h vb kv .byte (16 : Int32) [(.int 114), (.int 101), (.int 97), (.int 108), (.int 109), (.int 32), (.int 0), (.int 0), (.int 0), (.int 0), (.int 0), (.int 0), (.int 0), (.int 0), (.int 0), (.int 0)] (.int 0)
theorem ef_rmGb6 (m : MethodId) (x0 : Addr) (x1 : Addr) (x2 : Int32) (x3 : Int32)   : entryFrame m #[(.ref x0), (.ref x1), (.int x2), (.int x3)] 4 = mkF m 0 #[.val (.ref x0), .val (.ref x1), .val (.int x2), .val (.int x3)] [] := rfl
theorem rmGb6 (l : Launch) (Z : State) (a0 : Array Value) (hw : HW a0 Z) (ws : List Cond) (vb : Addr) (kv : ClassId) (sa : Addr) (ta : Addr) (q : ClassId) (G1 : Int32) (h0 : Heap) (Z0 : Z.heap.size ≤ h0.size) (lo_vb : Z.heap.size ≤ vb) (ne_sa_vb : sa ≠ vb) (ne_ta_vb : ta ≠ vb) (OL : Old Z Z.heap.size h0) (O2 : Sta Z Z.heap "java/lang/String" "COMPACT_STRINGS" "Z" (.int G1)) (P5 : ¬ (G1 = (0 : Int32))) (S0 : Exa Z h0 sa "java/lang/String") (S1 : Fld Z h0 sa "java/lang/String" "coder" "B" (.int 0)) (S2 : Fld Z h0 sa "java/lang/String" "value" "[B" (.ref ta)) (S3 : Arv Z h0 ta q .byte (6 : Int32) [(.int 114), (.int 101), (.int 97), (.int 108), (.int 109), (.int 32)] (.int 0)) (B4 : Arv Z h0 vb kv .byte (16 : Int32) [(.int 0), (.int 0), (.int 0), (.int 0), (.int 0), (.int 0), (.int 0), (.int 0), (.int 0), (.int 0), (.int 0), (.int 0), (.int 0), (.int 0), (.int 0), (.int 0)] (.int 0)) :
    MetFree l yM37 (head1 (Cond.code yM37 jdk_42_method_147_code 4 none :: ws) (⟨1, 0, 0, 40⟩ : Room)) (fun a U => a = #[(.ref sa), (.ref vb), (.int 0), (.int 0)] ∧ Z.Warmed39 U.vm ∧ U.heap = h0) (fun _ _ _ _ _ => True) (fun _ U o U' => ∃ v L, o = .returned v ∧ Q_rmGb6 Z vb kv sa ta q G1 h0 v U'.heap L ∧ FrameEnd U o U' L (⟨1, 0, 0, 40⟩ : Room).cells (⟨1, 0, 0, 40⟩ : Room).slots) := by
  refine MetFree.of_bodySF (plainFor_of_name (by first | (simp [plainName, overriddenIn]; done) | decide +kernel)) hisR ?_
  intro p e s m args below meth c s₁ Bd hml0 hP hK
  obtain ⟨rfl, hZ0', hh⟩ := hP
  have hx := Bd.exec
  have hby := Bd.bytes
  have hml : c.maxLocals = 4 := hml0
  have hZ0 : Z.Warmed39 s.vm := hZ0'
  have hown0 : s.vm.findClass "java/lang/String" = some m.cls := findClass_of_methodNamed Bd.named
  have hnm := (name_of_methodNamed Bd.named Bd.method).1
  have hlk : meth.locks = false := Bd.notSynchronized
  have X0 : Stand p l e (⟨1, 0, 0, 40⟩ : Room) s m #[(.ref sa), (.ref vb), (.int 0), (.int 0)] below meth c s₁ [] 0 0 := Stand.of_body Bd
  have e0 : s₁.heap = h0 := by rw [← hh, Bd.state]; rfl
  have N0 := Fr.nil Z.heap.size
  have KP0 : Keep h0 h0 ([vb] : List Addr) := Keep.refl _ _
  show Go p e below (fun t o => ∃ v L, o = .returned v ∧ Q_rmGb6 Z vb kv sa ta q G1 h0 v t.heap L ∧ FrameEnd s o t L (⟨1, 0, 0, 40⟩ : Room).cells (⟨1, 0, 0, 40⟩ : Room).slots) (s₁.setTop (entryFrame m #[(.ref sa), (.ref vb), (.int 0), (.int 0)] 4))
  refine Go.on (w := s₁.setTop (mkF m 0 #[rv sa, rv vb, iv 0, iv 0] [])) (fun t k => castTop (ef_rmGb6 m sa vb (0 : Int32) (0 : Int32)) k) ?_
  have u_vb : h0.size > vb := B4.lt
  have u_s : h0.size > sa := S0.lt
  have u_t : h0.size > ta := S3.lt
  obtain ⟨cq192, kq192, q192a, q192b, q192c⟩ := isOf hZ0 e0 S0
  obtain ⟨v192, _, ⟨T192, L192, k192, n192⟩, -, X192, ⟨Lc192, hQ192, l192, y192, z192⟩, st192⟩ := X0.virtualBack hx (y := yM33) (z := yM33) hown0 (mvT hZ0 (w_215 hw)) (mvT hZ0 (w_216 hw)) (notFace_of_selects (args := #[]) (mvT hZ0 (w_218 hw))) (mvT hZ0 (w_218 hw)) (mvT hZ0 (w_217 hw)) (by decide) (backOf (W := 0) (rmCod l Z a0 hw [] sa G1 h0 OL O2 P5 S1) hZ0 (w_219 hw) (w_3 hw) (by decide) (by decide)) q192a q192c (g := (mkF m 1 #[rv sa, rv vb, iv 0, iv 0] [(.ref sa)])) rfl (by rw [hml]; rfl) (Steps.refl _) (argsL := []) (rest := []) (lenOf pd_12 rfl) rfl (by show 2 * 0 + _ ≤ _; exact Nat.le_of_eq rfl) (hb hby d23_1) (fun _ _ => ⟨rfl, e0, (by decide : 0 + 0 ≤ _), (by decide : 0 + 0 ≤ _)⟩)
  dsimp only [Pt.U, Pt.locs, Pt.cells, Pt.slots] at X192 l192 y192 z192 st192 hQ192
  subst l192 y192 z192
  obtain ⟨rfl, Nq192, eh192⟩ := hQ192
  have N192 := Fr.app N0 Nq192
  obtain ⟨T193, X193, e193, st193⟩ := getF X192 hx hZ0 hown0 (host := "") (Or.inl (w_28 hw)) Via.refl eh192 S2 (g := (mkF m 9 #[rv sa, rv vb, iv 0, iv 0] [(.ref sa)])) rfl rfl (hb hby d23_9)
  refine Go.on (w := T193.setTop (mkF m 16 #[rv sa, rv vb, iv 0, iv 0] [(.int 0), (.int 0), (.ref vb), (.int 0), (.ref ta)])) (fun t k => XS.aloadN X0.here hx rfl (hb hby d23_0) rfl rfl (st192.trans (XS.iloadN X192.here hx rfl (hb hby d23_4) rfl (XS.icmpNo X192.here hx rfl (hb hby d23_5) rfl (teq (by decide : (0 : Int32) = (0 : Int32))).2 (XS.aloadN X192.here hx rfl (hb hby d23_8) rfl rfl (st193 _ (XS.iconst X193.here hx rfl (hb hby d23_12) (XS.aloadN X193.here hx rfl (hb hby d23_13) rfl rfl (XS.iloadN X193.here hx rfl (hb hby d23_14) rfl (XS.iloadN X193.here hx rfl (hb hby d23_15) rfl k)))))))))) ?_
  refine Go.on (w := T193.setTop (mkF m 17 #[rv sa, rv vb, iv 0, iv 0] [(.int 0), (.ref vb), (.int 0), (.ref ta)])) (fun t k => XS.ishl X193.here hx rfl (hb hby d23_16) rfl (by rw [(by decide : ((0 : Int32) <<< ((0 : Int32) &&& 31)) = (0 : Int32))]; exact k)) ?_
  obtain ⟨T194, X194, e194, st194⟩ := getF X193 hx hZ0 hown0 (host := "") (Or.inl (w_28 hw)) Via.refl e193 S2 (g := (mkF m 18 #[rv sa, rv vb, iv 0, iv 0] [(.ref sa), (.int 0), (.ref vb), (.int 0), (.ref ta)])) rfl rfl (hb hby d23_18)
  obtain ⟨cl195, Ar195, q195, S195, M195, H195, U195⟩ := id S3
  refine Go.on (w := T194.setTop (mkF m 21 #[rv sa, rv vb, iv 0, iv 0] [(.ref ta), (.int 0), (.ref vb), (.int 0), (.ref ta)])) (fun t k => XS.aloadN X193.here hx rfl (hb hby d23_17) rfl rfl (st194 _ k)) ?_
  refine Go.on (w := T194.setTop (mkF m 22 #[rv sa, rv vb, iv 0, iv 0] [(.int 6), (.int 0), (.ref vb), (.int 0), (.ref ta)])) (fun t k => X194.arraylength hx (by rw [e194]; exact Ar195.1) (State.isArrayOf_alike hZ0.alike Ar195.2.1) (g := (mkF m 21 #[rv sa, rv vb, iv 0, iv 0] [(.ref ta), (.int 0), (.ref vb), (.int 0), (.ref ta)])) rfl rfl (hb hby d23_21) _ (by rw [len_of S195 M195]; exact k)) ?_
  obtain ⟨T196, h196, L196, X196, e196, N196, K196, V196', st196⟩ := cpA X194 hx hZ0 hown0 (w_243 hw) (w_246 hw) (w_244 hw) (w_245 hw) e194 S3 B4 (us := [(.int 114), (.int 101), (.int 97), (.int 108), (.int 109), (.int 32)]) (Or.inl ⟨rfl, rfl⟩) (sp := (0 : Int32)) (dp := (0 : Int32)) (nn := (6 : Int32)) (by decide) (by decide) (by decide) (by decide) (by decide) rfl (Nat.le_of_ble_eq_true rfl) N192 (by omega) (g := (mkF m 22 #[rv sa, rv vb, iv 0, iv 0] [(.int 6), (.int 0), (.ref vb), (.int 0), (.ref ta)])) rfl (by rw [hml]; rfl) rfl (hb hby d23_22) (by decide) (W := 0) (by show 2 * 0 + _ ≤ _; exact Nat.le_of_eq rfl) (by decide)
  have V196 : Arv Z h196 vb kv .byte (16 : Int32) [(.int 114), (.int 101), (.int 97), (.int 108), (.int 109), (.int 32), (.int 0), (.int 0), (.int 0), (.int 0), (.int 0), (.int 0), (.int 0), (.int 0), (.int 0), (.int 0)] (.int 0) := V196'
  have z196 : h0.size ≤ h196.size := K196.1
  have KP196 : Keep h0 h196 ([vb] : List Addr) := KP0.trans K196 (allS (P := fun zq => zq ∈ ([vb] : List Addr) ∨ h0.size ≤ zq) (Or.inl (List.mem_of_getElem? (i := 0) rfl)) all0)
  refine Go.on (w := T196.setTop (mkF m 43 #[rv sa, rv vb, iv 0, iv 0] [])) (fun t k => st196 _ (XS.goto X196.here hx rfl (pc0 := 25) (pc' := 43) rfl (hb hby d23_25) (by decide) (by decide) k)) ?_
  refine Go.finH X196 hlk (v := none) (fun _ => rfl) (fun fs hr => ?_) (endH (Q := Q_rmGb6 Z vb kv sa ta q G1 h0) (by rw [e196]; exact ⟨rfl, N196, KP196, V196⟩) (by decide) (by decide))
  exact X196.returnOut hx Bd.returns (hb hby d23_43) hr
def Q_rmInf6 (Z : State) (a1 : Addr) (sa : Addr) (G1 : Int32) (h0 : Heap) (vv : Option Value) (h : Heap) (L : List Loc) : Prop := vv = none ∧ Fr Z.heap.size L ∧ h = h0
theorem ef_rmInf6 (m : MethodId) (x0 : Addr) (x1 : Addr)   : entryFrame m #[(.ref x0), (.ref x1)] 2 = mkF m 0 #[.val (.ref x0), .val (.ref x1)] [] := rfl
theorem rmInf6 (l : Launch) (Z : State) (a0 : Array Value) (hw : HW a0 Z) (ws : List Cond) (a1 : Addr) (sa : Addr) (G1 : Int32) (h0 : Heap) (OL : Old Z Z.heap.size h0) (O2 : Sta Z Z.heap "java/lang/String" "COMPACT_STRINGS" "Z" (.int G1)) (P5 : ¬ (G1 = (0 : Int32))) (Bc : Fld Z h0 a1 "java/lang/AbstractStringBuilder" "coder" "B" (.int 0)) (S0 : Exa Z h0 sa "java/lang/String") (S1 : Fld Z h0 sa "java/lang/String" "coder" "B" (.int 0)) :
    MetFree l yM36 (head1 (Cond.code yM36 jdk_68_method_71_code 2 none :: ws) (⟨1, 0, 0, 13⟩ : Room)) (fun a U => a = #[(.ref a1), (.ref sa)] ∧ Z.Warmed39 U.vm ∧ U.heap = h0) (fun _ _ _ _ _ => True) (fun _ U o U' => ∃ v L, o = .returned v ∧ Q_rmInf6 Z a1 sa G1 h0 v U'.heap L ∧ FrameEnd U o U' L (⟨1, 0, 0, 13⟩ : Room).cells (⟨1, 0, 0, 13⟩ : Room).slots) := by
  refine MetFree.of_bodySF (plainFor_of_name (by first | (simp [plainName, overriddenIn]; done) | decide +kernel)) hisR ?_
  intro p e s m args below meth c s₁ Bd hml0 hP hK
  obtain ⟨rfl, hZ0', hh⟩ := hP
  have hx := Bd.exec
  have hby := Bd.bytes
  have hml : c.maxLocals = 2 := hml0
  have hZ0 : Z.Warmed39 s.vm := hZ0'
  have hown0 : s.vm.findClass "java/lang/AbstractStringBuilder" = some m.cls := findClass_of_methodNamed Bd.named
  have hnm := (name_of_methodNamed Bd.named Bd.method).1
  have hlk : meth.locks = false := Bd.notSynchronized
  have X0 : Stand p l e (⟨1, 0, 0, 13⟩ : Room) s m #[(.ref a1), (.ref sa)] below meth c s₁ [] 0 0 := Stand.of_body Bd
  have e0 : s₁.heap = h0 := by rw [← hh, Bd.state]; rfl
  have N0 := Fr.nil Z.heap.size
  have KP0 : Keep h0 h0 ([] : List Addr) := Keep.refl _ _
  show Go p e below (fun t o => ∃ v L, o = .returned v ∧ Q_rmInf6 Z a1 sa G1 h0 v t.heap L ∧ FrameEnd s o t L (⟨1, 0, 0, 13⟩ : Room).cells (⟨1, 0, 0, 13⟩ : Room).slots) (s₁.setTop (entryFrame m #[(.ref a1), (.ref sa)] 2))
  refine Go.on (w := s₁.setTop (mkF m 0 #[rv a1, rv sa] [])) (fun t k => castTop (ef_rmInf6 m a1 sa) k) ?_
  obtain ⟨T197, X197, e197, st197⟩ := getS2 X0 hx hZ0 hown0 (host := "") (Or.inl (w_192 hw)) Via.refl e0 (O2.ext OL.2) (g := (mkF m 0 #[rv a1, rv sa] [])) rfl (hb hby d24_0)
  obtain ⟨T198, X198, e198, st198⟩ := getF X197 hx hZ0 hown0 (host := "") (Or.inl (w_195 hw)) Via.refl e197 Bc (g := (mkF m 7 #[rv a1, rv sa] [(.ref a1)])) rfl rfl (hb hby d24_7)
  obtain ⟨cq199, kq199, q199a, q199b, q199c⟩ := isOf hZ0 e198 S0
  obtain ⟨v199, _, ⟨T199, L199, k199, n199⟩, -, X199, ⟨Lc199, hQ199, l199, y199, z199⟩, st199⟩ := X198.virtualBack hx (y := yM33) (z := yM33) hown0 (mvT hZ0 (w_237 hw)) (mvT hZ0 (w_216 hw)) (notFace_of_selects (args := #[]) (mvT hZ0 (w_218 hw))) (mvT hZ0 (w_218 hw)) (mvT hZ0 (w_217 hw)) (by decide) (backOf (W := 1) (rmCod l Z a0 hw [] sa G1 h0 OL O2 P5 S1) hZ0 (w_219 hw) (w_3 hw) (by decide) (by decide)) q199a q199c (g := (mkF m 11 #[rv a1, rv sa] [(.ref sa), (.int 0)])) rfl (by rw [hml]; rfl) (Steps.refl _) (argsL := []) (rest := [(.int 0)]) (lenOf pd_12 rfl) rfl (by show 2 * 0 + _ ≤ _; exact Nat.le_of_eq rfl) (hb hby d24_11) (fun _ _ => ⟨rfl, e198, (by decide : 0 + 0 ≤ _), (by decide : 0 + 0 ≤ _)⟩)
  dsimp only [Pt.U, Pt.locs, Pt.cells, Pt.slots] at X199 l199 y199 z199 st199 hQ199
  subst l199 y199 z199
  obtain ⟨rfl, Nq199, eh199⟩ := hQ199
  have N199 := Fr.app N0 Nq199
  refine Go.on (w := T199.setTop (mkF m 21 #[rv a1, rv sa] [])) (fun t k => st197 _ (XS.ifNo X197.here hx rfl (hb hby d24_3) rfl ((if0 _ _).trans (feq P5).1) (XS.aloadN X197.here hx rfl (hb hby d24_6) rfl rfl (st198 _ (XS.aloadN X198.here hx rfl (hb hby d24_10) rfl rfl (st199.trans (XS.icmpYes X199.here hx rfl (pc0 := 14) (pc' := 21) rfl (hb hby d24_14) rfl (teq (by decide : (0 : Int32) = (0 : Int32))).1 (by decide) (by decide) k))))))) ?_
  refine Go.finH X199 hlk (v := none) (fun _ => rfl) (fun fs hr => ?_) (endH (Q := Q_rmInf6 Z a1 sa G1 h0) (by rw [eh199]; exact ⟨rfl, N199, rfl⟩) (by decide) (by decide))
  exact X199.returnOut hx Bd.returns (hb hby d24_21) hr
def Q_rmEns6 (Z : State) (a1 : Addr) (vb : Addr) (kv : ClassId) (h0 : Heap) (vv : Option Value) (h : Heap) (L : List Loc) : Prop := vv = none ∧ Fr Z.heap.size L ∧ h = h0
theorem ef_rmEns6 (m : MethodId) (x0 : Addr) (x1 : Int32)   : entryFrame m #[(.ref x0), (.int x1)] 3 = mkF m 0 #[.val (.ref x0), .val (.int x1), .unset] [] := rfl
theorem rmEns6 (l : Launch) (Z : State) (a0 : Array Value) (hw : HW a0 Z) (ws : List Cond) (a1 : Addr) (vb : Addr) (kv : ClassId) (h0 : Heap) (Bv : Fld Z h0 a1 "java/lang/AbstractStringBuilder" "value" "[B" (.ref vb)) (Bc : Fld Z h0 a1 "java/lang/AbstractStringBuilder" "coder" "B" (.int 0)) (B4 : Arv Z h0 vb kv .byte (16 : Int32) [(.int 0), (.int 0), (.int 0), (.int 0), (.int 0), (.int 0), (.int 0), (.int 0), (.int 0), (.int 0), (.int 0), (.int 0), (.int 0), (.int 0), (.int 0), (.int 0)] (.int 0)) :
    MetFree l yM34 (head1 (Cond.code yM34 jdk_68_method_9_code 3 none :: ws) (⟨0, 0, 0, 0⟩ : Room)) (fun a U => a = #[(.ref a1), (.int 6)] ∧ Z.Warmed39 U.vm ∧ U.heap = h0) (fun _ _ _ _ _ => True) (fun _ U o U' => ∃ v L, o = .returned v ∧ Q_rmEns6 Z a1 vb kv h0 v U'.heap L ∧ FrameEnd U o U' L (⟨0, 0, 0, 0⟩ : Room).cells (⟨0, 0, 0, 0⟩ : Room).slots) := by
  refine MetFree.of_bodySF (plainFor_of_name (by first | (simp [plainName, overriddenIn]; done) | decide +kernel)) hisR ?_
  intro p e s m args below meth c s₁ Bd hml0 hP hK
  obtain ⟨rfl, hZ0', hh⟩ := hP
  have hx := Bd.exec
  have hby := Bd.bytes
  have hml : c.maxLocals = 3 := hml0
  have hZ0 : Z.Warmed39 s.vm := hZ0'
  have hown0 : s.vm.findClass "java/lang/AbstractStringBuilder" = some m.cls := findClass_of_methodNamed Bd.named
  have hnm := (name_of_methodNamed Bd.named Bd.method).1
  have hlk : meth.locks = false := Bd.notSynchronized
  have X0 : Stand p l e (⟨0, 0, 0, 0⟩ : Room) s m #[(.ref a1), (.int 6)] below meth c s₁ [] 0 0 := Stand.of_body Bd
  have e0 : s₁.heap = h0 := by rw [← hh, Bd.state]; rfl
  have N0 := Fr.nil Z.heap.size
  have KP0 : Keep h0 h0 ([] : List Addr) := Keep.refl _ _
  show Go p e below (fun t o => ∃ v L, o = .returned v ∧ Q_rmEns6 Z a1 vb kv h0 v t.heap L ∧ FrameEnd s o t L (⟨0, 0, 0, 0⟩ : Room).cells (⟨0, 0, 0, 0⟩ : Room).slots) (s₁.setTop (entryFrame m #[(.ref a1), (.int 6)] 3))
  refine Go.on (w := s₁.setTop (mkF m 0 #[rv a1, iv 6, .unset] [])) (fun t k => castTop (ef_rmEns6 m a1 (6 : Int32)) k) ?_
  obtain ⟨T200, X200, e200, st200⟩ := getF X0 hx hZ0 hown0 (host := "") (Or.inl (w_193 hw)) Via.refl e0 Bv (g := (mkF m 1 #[rv a1, iv 6, .unset] [(.ref a1)])) rfl rfl (hb hby d25_1)
  obtain ⟨cl201, Ar201, q201, S201, M201, H201, U201⟩ := id B4
  refine Go.on (w := T200.setTop (mkF m 4 #[rv a1, iv 6, .unset] [(.ref vb)])) (fun t k => XS.aloadN X0.here hx rfl (hb hby d25_0) rfl rfl (st200 _ k)) ?_
  refine Go.on (w := T200.setTop (mkF m 5 #[rv a1, iv 6, .unset] [(.int 16)])) (fun t k => X200.arraylength hx (by rw [e200]; exact Ar201.1) (State.isArrayOf_alike hZ0.alike Ar201.2.1) (g := (mkF m 4 #[rv a1, iv 6, .unset] [(.ref vb)])) rfl rfl (hb hby d25_4) _ (by rw [len_of S201 M201]; exact k)) ?_
  obtain ⟨T202, X202, e202, st202⟩ := getF X200 hx hZ0 hown0 (host := "") (Or.inl (w_195 hw)) Via.refl e200 Bc (g := (mkF m 6 #[rv a1, iv 6, .unset] [(.ref a1), (.int 16)])) rfl rfl (hb hby d25_6)
  refine Go.on (w := T202.setTop (mkF m 9 #[rv a1, iv 6, .unset] [(.int 0), (.int 16)])) (fun t k => XS.aloadN X200.here hx rfl (hb hby d25_5) rfl rfl (st202 _ k)) ?_
  refine Go.on (w := T202.setTop (mkF m 10 #[rv a1, iv 6, .unset] [(.int 16)])) (fun t k => XS.ishr X202.here hx rfl (hb hby d25_9) rfl (by rw [(by decide : ((16 : Int32) >>> ((0 : Int32) &&& 31)) = (16 : Int32))]; exact k)) ?_
  refine Go.on (w := T202.setTop (mkF m 13 #[rv a1, iv 6, iv 16] [(.int 16), (.int 6)])) (fun t k => XS.istoreN X202.here hx rfl (hb hby d25_10) rfl (l' := #[rv a1, iv 6, iv 16]) rfl (XS.iloadN X202.here hx rfl (hb hby d25_11) rfl (XS.iloadN X202.here hx rfl (hb hby d25_12) rfl k))) ?_
  refine Go.on (w := T202.setTop (mkF m 14 #[rv a1, iv 6, iv 16] [(.int (-10))])) (fun t k => XS.isub X202.here hx rfl (hb hby d25_13) rfl (by rw [(by decide : ((6 : Int32) - (16 : Int32)) = (-10 : Int32))]; exact k)) ?_
  refine Go.on (w := T202.setTop (mkF m 38 #[rv a1, iv 6, iv 16] [])) (fun t k => XS.ifYes X202.here hx rfl (pc0 := 14) (pc' := 38) rfl (hb hby d25_14) rfl ((if0 _ _).trans (flt (by decide : ¬ ((0 : Int32) < (-10 : Int32)))).2.2.2) (by decide) (by decide) k) ?_
  refine Go.finH X202 hlk (v := none) (fun _ => rfl) (fun fs hr => ?_) (endH (Q := Q_rmEns6 Z a1 vb kv h0) (by rw [e202]; exact ⟨rfl, N0, rfl⟩) (by decide) (by decide))
  exact X202.returnOut hx Bd.returns (hb hby d25_38) hr
def Q_rmPut6 (Z : State) (a1 : Addr) (vb : Addr) (kv : ClassId) (sa : Addr) (ta : Addr) (q : ClassId) (G1 : Int32) (h0 : Heap) (vv : Option Value) (h : Heap) (L : List Loc) : Prop := vv = none ∧ Fr Z.heap.size L ∧ Keep h0 h [vb] ∧ Exa Z h a1 "java/lang/StringBuilder" ∧ Fld Z h a1 "java/lang/AbstractStringBuilder" "value" "[B" (.ref vb) ∧ Fld Z h a1 "java/lang/AbstractStringBuilder" "coder" "B" (.int 0) ∧ Fld Z h a1 "java/lang/AbstractStringBuilder" "count" "I" (.int 0) ∧ Arv Z h vb kv .byte (16 : Int32) [(.int 114), (.int 101), (.int 97), (.int 108), (.int 109), (.int 32), (.int 0), (.int 0), (.int 0), (.int 0), (.int 0), (.int 0), (.int 0), (.int 0), (.int 0), (.int 0)] (.int 0)
theorem ef_rmPut6 (m : MethodId) (x0 : Addr) (x1 : Int32) (x2 : Addr)   : entryFrame m #[(.ref x0), (.int x1), (.ref x2)] 3 = mkF m 0 #[.val (.ref x0), .val (.int x1), .val (.ref x2)] [] := rfl
theorem rmPut6 (l : Launch) (Z : State) (a0 : Array Value) (hw : HW a0 Z) (ws : List Cond) (a1 : Addr) (vb : Addr) (kv : ClassId) (sa : Addr) (ta : Addr) (q : ClassId) (G1 : Int32) (h0 : Heap) (Z0 : Z.heap.size ≤ h0.size) (lo_a1 : Z.heap.size ≤ a1) (lo_vb : Z.heap.size ≤ vb) (ne_a1_vb : a1 ≠ vb) (ne_sa_a1 : sa ≠ a1) (ne_sa_vb : sa ≠ vb) (ne_ta_a1 : ta ≠ a1) (ne_ta_vb : ta ≠ vb) (OL : Old Z Z.heap.size h0) (O2 : Sta Z Z.heap "java/lang/String" "COMPACT_STRINGS" "Z" (.int G1)) (P5 : ¬ (G1 = (0 : Int32))) (S0 : Exa Z h0 sa "java/lang/String") (S1 : Fld Z h0 sa "java/lang/String" "coder" "B" (.int 0)) (S2 : Fld Z h0 sa "java/lang/String" "value" "[B" (.ref ta)) (S3 : Arv Z h0 ta q .byte (6 : Int32) [(.int 114), (.int 101), (.int 97), (.int 108), (.int 109), (.int 32)] (.int 0)) (B0 : Exa Z h0 a1 "java/lang/StringBuilder") (B1 : Fld Z h0 a1 "java/lang/AbstractStringBuilder" "value" "[B" (.ref vb)) (B2 : Fld Z h0 a1 "java/lang/AbstractStringBuilder" "coder" "B" (.int 0)) (B3 : Fld Z h0 a1 "java/lang/AbstractStringBuilder" "count" "I" (.int 0)) (B4 : Arv Z h0 vb kv .byte (16 : Int32) [(.int 0), (.int 0), (.int 0), (.int 0), (.int 0), (.int 0), (.int 0), (.int 0), (.int 0), (.int 0), (.int 0), (.int 0), (.int 0), (.int 0), (.int 0), (.int 0)] (.int 0)) :
    MetFree l yM35 (head1 (Cond.code yM35 jdk_68_method_73_code 3 none :: ws) (⟨2, 0, 0, 55⟩ : Room)) (fun a U => a = #[(.ref a1), (.int 0), (.ref sa)] ∧ Z.Warmed39 U.vm ∧ U.heap = h0) (fun _ _ _ _ _ => True) (fun _ U o U' => ∃ v L, o = .returned v ∧ Q_rmPut6 Z a1 vb kv sa ta q G1 h0 v U'.heap L ∧ FrameEnd U o U' L (⟨2, 0, 0, 55⟩ : Room).cells (⟨2, 0, 0, 55⟩ : Room).slots) := by
  refine MetFree.of_bodySF (plainFor_of_name (by first | (simp [plainName, overriddenIn]; done) | decide +kernel)) hisR ?_
  intro p e s m args below meth c s₁ Bd hml0 hP hK
  obtain ⟨rfl, hZ0', hh⟩ := hP
  have hx := Bd.exec
  have hby := Bd.bytes
  have hml : c.maxLocals = 3 := hml0
  have hZ0 : Z.Warmed39 s.vm := hZ0'
  have hown0 : s.vm.findClass "java/lang/AbstractStringBuilder" = some m.cls := findClass_of_methodNamed Bd.named
  have hnm := (name_of_methodNamed Bd.named Bd.method).1
  have hlk : meth.locks = false := Bd.notSynchronized
  have X0 : Stand p l e (⟨2, 0, 0, 55⟩ : Room) s m #[(.ref a1), (.int 0), (.ref sa)] below meth c s₁ [] 0 0 := Stand.of_body Bd
  have e0 : s₁.heap = h0 := by rw [← hh, Bd.state]; rfl
  have N0 := Fr.nil Z.heap.size
  have KP0 : Keep h0 h0 ([vb] : List Addr) := Keep.refl _ _
  show Go p e below (fun t o => ∃ v L, o = .returned v ∧ Q_rmPut6 Z a1 vb kv sa ta q G1 h0 v t.heap L ∧ FrameEnd s o t L (⟨2, 0, 0, 55⟩ : Room).cells (⟨2, 0, 0, 55⟩ : Room).slots) (s₁.setTop (entryFrame m #[(.ref a1), (.int 0), (.ref sa)] 3))
  refine Go.on (w := s₁.setTop (mkF m 0 #[rv a1, iv 0, rv sa] [])) (fun t k => castTop (ef_rmPut6 m a1 (0 : Int32) sa) k) ?_
  have u_a1 : h0.size > a1 := B0.lt
  have u_vb : h0.size > vb := B4.lt
  have u_s : h0.size > sa := S0.lt
  have u_t : h0.size > ta := S3.lt
  obtain ⟨cq203, q203, q203'⟩ := B0.cell
  obtain ⟨v203, _, ⟨T203, L203, k203, n203⟩, -, X203, ⟨Lc203, hQ203, l203, y203, z203⟩, st203⟩ := X0.privateBack hx (y := yM36) hown0 (mvT hZ0 (w_232 hw)) (mvT hZ0 (w_233 hw)) (own_selN (mvT hZ0 (w_235 hw)) (Cond.privateMethod_at (mvP hZ0 (w_234 hw) (args := #[]))) (mvT hZ0 (w_233 hw)) (by decide)) (Cond.privateMethod_at (mvP hZ0 (w_234 hw) (args := #[]))) (mvT hZ0 (w_236 hw)) (by decide) (backOf (W := 0) (rmInf6 l Z a0 hw [] a1 sa G1 h0 OL O2 P5 B2 S0 S1) hZ0 (w_236 hw) (w_189 hw) (by decide) (by decide)) (g := (mkF m 2 #[rv a1, iv 0, rv sa] [(.ref sa), (.ref a1)])) rfl (by rw [hml]; rfl) (Steps.refl _) (a := a1) (by rw [e0]; exact q203) q203' (argsL := [(.ref sa)]) (rest := []) (lenOf pd_13 rfl) rfl (by show 2 * 0 + _ ≤ _; exact Nat.le_of_eq rfl) (hb hby d26_2) (fun _ _ => ⟨rfl, e0, (by decide : 0 + 0 ≤ _), (by decide : 0 + 0 ≤ _)⟩)
  dsimp only [Pt.U, Pt.locs, Pt.cells, Pt.slots] at X203 l203 y203 z203 st203 hQ203
  subst l203 y203 z203
  obtain ⟨rfl, Nq203, eh203⟩ := hQ203
  have N203 := Fr.app N0 Nq203
  obtain ⟨T204, X204, e204, st204⟩ := getF X203 hx hZ0 hown0 (host := "") (Or.inl (w_193 hw)) Via.refl eh203 B1 (g := (mkF m 7 #[rv a1, iv 0, rv sa] [(.ref a1), (.ref sa)])) rfl rfl (hb hby d26_7)
  obtain ⟨T205, X205, e205, st205⟩ := getF X204 hx hZ0 hown0 (host := "") (Or.inl (w_195 hw)) Via.refl e204 B2 (g := (mkF m 12 #[rv a1, iv 0, rv sa] [(.ref a1), (.int 0), (.ref vb), (.ref sa)])) rfl rfl (hb hby d26_12)
  obtain ⟨cq206, kq206, q206a, q206b, q206c⟩ := isOf hZ0 e205 S0
  obtain ⟨v206, _, ⟨T206, L206, k206, n206⟩, -, X206, ⟨Lc206, hQ206, l206, y206, z206⟩, st206⟩ := X205.virtualBack hx (y := yM37) (z := yM37) hown0 (mvT hZ0 (w_238 hw)) (mvT hZ0 (w_239 hw)) (notFace_of_selects (args := #[]) (mvT hZ0 (w_241 hw))) (mvT hZ0 (w_241 hw)) (mvT hZ0 (w_240 hw)) (by decide) (backOf (W := 0) (rmGb6 l Z a0 hw [] vb kv sa ta q G1 h0 (by omega) (by omega) ne_sa_vb ne_ta_vb OL O2 P5 S0 S1 S2 S3 B4) hZ0 (w_242 hw) (w_3 hw) (by decide) (by decide)) q206a q206c (g := (mkF m 15 #[rv a1, iv 0, rv sa] [(.int 0), (.int 0), (.ref vb), (.ref sa)])) rfl (by rw [hml]; rfl) (Steps.refl _) (argsL := [(.ref vb), (.int 0), (.int 0)]) (rest := []) (lenOf pd_14 rfl) rfl (by show 2 * 0 + _ ≤ _; exact Nat.le_of_eq rfl) (hb hby d26_15) (fun _ _ => ⟨rfl, e205, (by decide : 0 + 0 ≤ _), (by decide : 0 + 0 ≤ _)⟩)
  dsimp only [Pt.U, Pt.locs, Pt.cells, Pt.slots] at X206 l206 y206 z206 st206 hQ206
  subst l206 y206 z206
  obtain ⟨rfl, Nq206, K206, f206_0⟩ := hQ206
  have N206 := Fr.app N203 Nq206
  have eK206 : T206.heap = T206.heap := rfl
  have z206 : h0.size ≤ T206.heap.size := K206.1
  have KP206 : Keep h0 T206.heap ([vb] : List Addr) := KP0.trans K206 (allS (P := fun zq => zq ∈ ([vb] : List Addr) ∨ h0.size ≤ zq) (Or.inl (List.mem_of_getElem? (i := 0) rfl)) all0)
  have F207 := (B0.keep K206)
  have F208 := (B1.keep K206 (ninS ne_a1_vb nin0))
  have F209 := (B2.keep K206 (ninS ne_a1_vb nin0))
  have F210 := (B3.keep K206 (ninS ne_a1_vb nin0))
  refine Go.on (w := T206.setTop (mkF m 18 #[rv a1, iv 0, rv sa] [])) (fun t k => XS.aloadN X0.here hx rfl (hb hby d26_0) rfl rfl (XS.aloadN X0.here hx rfl (hb hby d26_1) rfl rfl (st203.trans (XS.aloadN X203.here hx rfl (hb hby d26_5) rfl rfl (XS.aloadN X203.here hx rfl (hb hby d26_6) rfl rfl (st204 _ (XS.iloadN X204.here hx rfl (hb hby d26_10) rfl (XS.aloadN X204.here hx rfl (hb hby d26_11) rfl rfl (st205 _ (st206.trans k)))))))))) ?_
  refine Go.finH X206 hlk (v := none) (fun _ => rfl) (fun fs hr => ?_) (endH (Q := Q_rmPut6 Z a1 vb kv sa ta q G1 h0) (by rw [eK206]; exact ⟨rfl, N206, KP206, F207, F208, F209, F210, f206_0⟩) (by decide) (by decide))
  exact X206.returnOut hx Bd.returns (hb hby d26_18) hr
def Q_rmApA6 (Z : State) (a1 : Addr) (vb : Addr) (kv : ClassId) (sa : Addr) (ta : Addr) (q : ClassId) (G1 : Int32) (h0 : Heap) (vv : Option Value) (h : Heap) (L : List Loc) : Prop := vv = some (.ref a1) ∧ Fr Z.heap.size L ∧ Keep h0 h [a1, vb] ∧ Exa Z h a1 "java/lang/StringBuilder" ∧ Fld Z h a1 "java/lang/AbstractStringBuilder" "value" "[B" (.ref vb) ∧ Fld Z h a1 "java/lang/AbstractStringBuilder" "coder" "B" (.int 0) ∧ Fld Z h a1 "java/lang/AbstractStringBuilder" "count" "I" (.int 6) ∧ Arv Z h vb kv .byte (16 : Int32) [(.int 114), (.int 101), (.int 97), (.int 108), (.int 109), (.int 32), (.int 0), (.int 0), (.int 0), (.int 0), (.int 0), (.int 0), (.int 0), (.int 0), (.int 0), (.int 0)] (.int 0)
theorem ef_rmApA6 (m : MethodId) (x0 : Addr) (x1 : Addr)   : entryFrame m #[(.ref x0), (.ref x1)] 3 = mkF m 0 #[.val (.ref x0), .val (.ref x1), .unset] [] := rfl
theorem rmApA6 (l : Launch) (Z : State) (a0 : Array Value) (hw : HW a0 Z) (ws : List Cond) (a1 : Addr) (vb : Addr) (kv : ClassId) (sa : Addr) (ta : Addr) (q : ClassId) (G1 : Int32) (h0 : Heap) (Z0 : Z.heap.size ≤ h0.size) (lo_a1 : Z.heap.size ≤ a1) (lo_vb : Z.heap.size ≤ vb) (ne_a1_vb : a1 ≠ vb) (ne_sa_a1 : sa ≠ a1) (ne_sa_vb : sa ≠ vb) (ne_ta_a1 : ta ≠ a1) (ne_ta_vb : ta ≠ vb) (OL : Old Z Z.heap.size h0) (O2 : Sta Z Z.heap "java/lang/String" "COMPACT_STRINGS" "Z" (.int G1)) (P5 : ¬ (G1 = (0 : Int32))) (S0 : Exa Z h0 sa "java/lang/String") (S1 : Fld Z h0 sa "java/lang/String" "coder" "B" (.int 0)) (S2 : Fld Z h0 sa "java/lang/String" "value" "[B" (.ref ta)) (S3 : Arv Z h0 ta q .byte (6 : Int32) [(.int 114), (.int 101), (.int 97), (.int 108), (.int 109), (.int 32)] (.int 0)) (B0 : Exa Z h0 a1 "java/lang/StringBuilder") (B1 : Fld Z h0 a1 "java/lang/AbstractStringBuilder" "value" "[B" (.ref vb)) (B2 : Fld Z h0 a1 "java/lang/AbstractStringBuilder" "coder" "B" (.int 0)) (B3 : Fld Z h0 a1 "java/lang/AbstractStringBuilder" "count" "I" (.int 0)) (B4 : Arv Z h0 vb kv .byte (16 : Int32) [(.int 0), (.int 0), (.int 0), (.int 0), (.int 0), (.int 0), (.int 0), (.int 0), (.int 0), (.int 0), (.int 0), (.int 0), (.int 0), (.int 0), (.int 0), (.int 0)] (.int 0)) :
    MetFree l yM31 (head1 (Cond.code yM31 jdk_68_method_22_code 3 (some (.object "java/lang/AbstractStringBuilder")) :: ws) (⟨3, 0, 0, 69⟩ : Room)) (fun a U => a = #[(.ref a1), (.ref sa)] ∧ Z.Warmed39 U.vm ∧ U.heap = h0) (fun _ _ _ _ _ => True) (fun _ U o U' => ∃ v L, o = .returned v ∧ Q_rmApA6 Z a1 vb kv sa ta q G1 h0 v U'.heap L ∧ FrameEnd U o U' L (⟨3, 0, 0, 69⟩ : Room).cells (⟨3, 0, 0, 69⟩ : Room).slots) := by
  refine MetFree.of_bodySF (plainFor_of_name (by first | (simp [plainName, overriddenIn]; done) | decide +kernel)) hisR ?_
  intro p e s m args below meth c s₁ Bd hml0 hP hK
  obtain ⟨rfl, hZ0', hh⟩ := hP
  have hx := Bd.exec
  have hby := Bd.bytes
  have hml : c.maxLocals = 3 := hml0
  have hZ0 : Z.Warmed39 s.vm := hZ0'
  have hown0 : s.vm.findClass "java/lang/AbstractStringBuilder" = some m.cls := findClass_of_methodNamed Bd.named
  have hnm := (name_of_methodNamed Bd.named Bd.method).1
  have hlk : meth.locks = false := Bd.notSynchronized
  have X0 : Stand p l e (⟨3, 0, 0, 69⟩ : Room) s m #[(.ref a1), (.ref sa)] below meth c s₁ [] 0 0 := Stand.of_body Bd
  have e0 : s₁.heap = h0 := by rw [← hh, Bd.state]; rfl
  have N0 := Fr.nil Z.heap.size
  have KP0 : Keep h0 h0 ([a1, vb] : List Addr) := Keep.refl _ _
  show Go p e below (fun t o => ∃ v L, o = .returned v ∧ Q_rmApA6 Z a1 vb kv sa ta q G1 h0 v t.heap L ∧ FrameEnd s o t L (⟨3, 0, 0, 69⟩ : Room).cells (⟨3, 0, 0, 69⟩ : Room).slots) (s₁.setTop (entryFrame m #[(.ref a1), (.ref sa)] 3))
  refine Go.on (w := s₁.setTop (mkF m 0 #[rv a1, rv sa, .unset] [])) (fun t k => castTop (ef_rmApA6 m a1 sa) k) ?_
  have u_a1 : h0.size > a1 := B0.lt
  have u_vb : h0.size > vb := B4.lt
  have u_s : h0.size > sa := S0.lt
  have u_t : h0.size > ta := S3.lt
  obtain ⟨cq211, kq211, q211a, q211b, q211c⟩ := isOf hZ0 e0 S0
  obtain ⟨v211, _, ⟨T211, L211, k211, n211⟩, -, X211, ⟨Lc211, hQ211, l211, y211, z211⟩, st211⟩ := X0.virtualBack hx (y := yM32) (z := yM32) hown0 (mvT hZ0 (w_210 hw)) (mvT hZ0 (w_211 hw)) (notFace_of_selects (args := #[]) (mvT hZ0 (w_213 hw))) (mvT hZ0 (w_213 hw)) (mvT hZ0 (w_212 hw)) (by decide) (backOf (W := 0) (rmLen6 l Z a0 hw [] sa ta q G1 h0 OL O2 P5 S0 S1 S2 S3) hZ0 (w_214 hw) (w_3 hw) (by decide) (by decide)) q211a q211c (g := (mkF m 10 #[rv a1, rv sa, .unset] [(.ref sa)])) rfl (by rw [hml]; rfl) (Steps.refl _) (argsL := []) (rest := []) (lenOf pd_8 rfl) rfl (by show 2 * 0 + _ ≤ _; exact Nat.le_of_eq rfl) (hb hby d27_10) (fun _ _ => ⟨rfl, e0, (by decide : 0 + 0 ≤ _), (by decide : 0 + 0 ≤ _)⟩)
  dsimp only [Pt.U, Pt.locs, Pt.cells, Pt.slots] at X211 l211 y211 z211 st211 hQ211
  subst l211 y211 z211
  obtain ⟨rfl, Nq211, eh211⟩ := hQ211
  have N211 := Fr.app N0 Nq211
  obtain ⟨T212, X212, e212, st212⟩ := getF X211 hx hZ0 hown0 (host := "") (Or.inl (w_220 hw)) Via.refl eh211 B3 (g := (mkF m 16 #[rv a1, rv sa, iv 6] [(.ref a1), (.ref a1)])) rfl rfl (hb hby d27_16)
  refine Go.on (w := T212.setTop (mkF m 20 #[rv a1, rv sa, iv 6] [(.int 6), (.int 0), (.ref a1)])) (fun t k => XS.aloadN X0.here hx rfl (hb hby d27_0) rfl rfl (XS.ifnonnullYes X0.here hx rfl (pc0 := 1) (pc' := 9) rfl (hb hby d27_1) rfl (by decide) (by decide) (XS.aloadN X0.here hx rfl (hb hby d27_9) rfl rfl (st211.trans (XS.istoreN X211.here hx rfl (hb hby d27_13) rfl (l' := #[rv a1, rv sa, iv 6]) rfl (XS.aloadN X211.here hx rfl (hb hby d27_14) rfl rfl (XS.aloadN X211.here hx rfl (hb hby d27_15) rfl rfl (st212 _ (XS.iloadN X212.here hx rfl (hb hby d27_19) rfl k))))))))) ?_
  refine Go.on (w := T212.setTop (mkF m 21 #[rv a1, rv sa, iv 6] [(.int 6), (.ref a1)])) (fun t k => XS.iadd X212.here hx rfl (hb hby d27_20) rfl (by rw [(by decide : ((0 : Int32) + (6 : Int32)) = (6 : Int32))]; exact k)) ?_
  obtain ⟨cq213, q213, q213'⟩ := B0.cell
  obtain ⟨v213, _, ⟨T213, L213, k213, n213⟩, -, X213, ⟨Lc213, hQ213, l213, y213, z213⟩, st213⟩ := X212.privateBack hx (y := yM34) hown0 (mvT hZ0 (w_222 hw)) (mvT hZ0 (w_223 hw)) (own_selN (mvT hZ0 (w_225 hw)) (Cond.privateMethod_at (mvP hZ0 (w_224 hw) (args := #[]))) (mvT hZ0 (w_223 hw)) (by decide)) (Cond.privateMethod_at (mvP hZ0 (w_224 hw) (args := #[]))) (mvT hZ0 (w_226 hw)) (by decide) (backOf (W := 0) (rmEns6 l Z a0 hw [] a1 vb kv h0 B1 B2 B4) hZ0 (w_226 hw) (w_189 hw) (by decide) (by decide)) (g := (mkF m 21 #[rv a1, rv sa, iv 6] [(.int 6), (.ref a1)])) rfl (by rw [hml]; rfl) (Steps.refl _) (a := a1) (by rw [e212]; exact q213) q213' (argsL := [(.int 6)]) (rest := []) (lenOf pd_11 rfl) rfl (by show 2 * 0 + _ ≤ _; exact Nat.le_of_eq rfl) (hb hby d27_21) (fun _ _ => ⟨rfl, e212, (by decide : 0 + 0 ≤ _), (by decide : 0 + 0 ≤ _)⟩)
  dsimp only [Pt.U, Pt.locs, Pt.cells, Pt.slots] at X213 l213 y213 z213 st213 hQ213
  subst l213 y213 z213
  obtain ⟨rfl, Nq213, eh213⟩ := hQ213
  have N213 := Fr.app N211 Nq213
  obtain ⟨T214, X214, e214, st214⟩ := getF X213 hx hZ0 hown0 (host := "") (Or.inl (w_220 hw)) Via.refl eh213 B3 (g := (mkF m 26 #[rv a1, rv sa, iv 6] [(.ref a1), (.ref a1)])) rfl rfl (hb hby d27_26)
  obtain ⟨cq215, q215, q215'⟩ := B0.cell
  obtain ⟨v215, _, ⟨T215, L215, k215, n215⟩, -, X215, ⟨Lc215, hQ215, l215, y215, z215⟩, st215⟩ := X214.privateBack hx (y := yM35) hown0 (mvT hZ0 (w_227 hw)) (mvT hZ0 (w_228 hw)) (own_selN (mvT hZ0 (w_230 hw)) (Cond.privateMethod_at (mvP hZ0 (w_229 hw) (args := #[]))) (mvT hZ0 (w_228 hw)) (by decide)) (Cond.privateMethod_at (mvP hZ0 (w_229 hw) (args := #[]))) (mvT hZ0 (w_231 hw)) (by decide) (backOf (W := 0) (rmPut6 l Z a0 hw [] a1 vb kv sa ta q G1 h0 (by omega) (by omega) (by omega) ne_a1_vb ne_sa_a1 ne_sa_vb ne_ta_a1 ne_ta_vb OL O2 P5 S0 S1 S2 S3 B0 B1 B2 B3 B4) hZ0 (w_231 hw) (w_189 hw) (by decide) (by decide)) (g := (mkF m 30 #[rv a1, rv sa, iv 6] [(.ref sa), (.int 0), (.ref a1)])) rfl (by rw [hml]; rfl) (Steps.refl _) (a := a1) (by rw [e214]; exact q215) q215' (argsL := [(.int 0), (.ref sa)]) (rest := []) (lenOf pd_15 rfl) rfl (by show 2 * 0 + _ ≤ _; exact Nat.le_of_eq rfl) (hb hby d27_30) (fun _ _ => ⟨rfl, e214, (by decide : 0 + 0 ≤ _), (by decide : 0 + 0 ≤ _)⟩)
  dsimp only [Pt.U, Pt.locs, Pt.cells, Pt.slots] at X215 l215 y215 z215 st215 hQ215
  subst l215 y215 z215
  obtain ⟨rfl, Nq215, K215, f215_0, f215_1, f215_2, f215_3, f215_4⟩ := hQ215
  have N215 := Fr.app N213 Nq215
  have eK215 : T215.heap = T215.heap := rfl
  have z215 : h0.size ≤ T215.heap.size := K215.1
  have KP215 : Keep h0 T215.heap ([a1, vb] : List Addr) := KP0.trans K215 (allS (P := fun zq => zq ∈ ([a1, vb] : List Addr) ∨ h0.size ≤ zq) (Or.inl (List.mem_of_getElem? (i := 1) rfl)) all0)
  obtain ⟨T216, X216, e216, st216⟩ := getF X215 hx hZ0 hown0 (host := "") (Or.inl (w_220 hw)) Via.refl eK215 f215_3 (g := (mkF m 35 #[rv a1, rv sa, iv 6] [(.ref a1), (.ref a1)])) rfl rfl (hb hby d27_35)
  refine Go.on (w := T216.setTop (mkF m 39 #[rv a1, rv sa, iv 6] [(.int 6), (.int 0), (.ref a1)])) (fun t k => st213.trans (XS.aloadN X213.here hx rfl (hb hby d27_24) rfl rfl (XS.aloadN X213.here hx rfl (hb hby d27_25) rfl rfl (st214 _ (XS.aloadN X214.here hx rfl (hb hby d27_29) rfl rfl (st215.trans (XS.aloadN X215.here hx rfl (hb hby d27_33) rfl rfl (XS.dup X215.here hx rfl (hb hby d27_34) rfl rfl (st216 _ (XS.iloadN X216.here hx rfl (hb hby d27_38) rfl k)))))))))) ?_
  refine Go.on (w := T216.setTop (mkF m 40 #[rv a1, rv sa, iv 6] [(.int 6), (.ref a1)])) (fun t k => XS.iadd X216.here hx rfl (hb hby d27_39) rfl (by rw [(by decide : ((0 : Int32) + (6 : Int32)) = (6 : Int32))]; exact k)) ?_
  obtain ⟨T217, h217, X217, e217, W217, st217⟩ := putF X216 hx hZ0 hown0 (host := "") (Or.inl (w_220 hw)) Via.refl e216 f215_3 f215_0 (Or.inl (w_221 hw)) (w_180 hw) (ty := .int) (by decide) rfl rfl (g := (mkF m 40 #[rv a1, rv sa, iv 6] [(.int 6), (.ref a1)])) rfl rfl (hb hby d27_40)
  have z217 : T215.heap.size ≤ h217.size := Nat.le_of_eq W217.size.symm
  have KP217 : Keep h0 h217 ([a1, vb] : List Addr) := KP215.wr W217 (Or.inl (List.mem_of_getElem? (i := 0) rfl))
  have N217 := Fr.snoc X217 N215 (by omega)
  have Fw217 := f215_3.same W217
  have F218 := (f215_0.wr W217)
  have F219 := (f215_1.other W217 (Or.inr (slot_ne (Or.inl (w_194 hw)) (Or.inl (w_221 hw)) (by decide) (t := (.array .byte)) (t' := .int) (by decide) (by decide))))
  have F220 := (f215_2.other W217 (Or.inr (slot_ne (Or.inl (w_196 hw)) (Or.inl (w_221 hw)) (by decide) (t := .byte) (t' := .int) (by decide) (by decide))))
  have F221 := (f215_4.other W217 (Ne.symm ne_a1_vb))
  refine Go.on (w := T217.setTop (mkF m 44 #[rv a1, rv sa, iv 6] [(.ref a1)])) (fun t k => st217 _ (XS.aloadN X217.here hx rfl (hb hby d27_43) rfl rfl k)) ?_
  refine Go.finH X217 hlk (v := some (.ref a1)) (fun h => by rw [Bd.returns] at h; cases h) (fun fs hr => ?_) (endH (Q := Q_rmApA6 Z a1 vb kv sa ta q G1 h0) (by rw [e217]; exact ⟨rfl, N217, KP217, F218, F219, F220, Fw217, F221⟩) (by decide) (by decide))
  exact retOut X217 hx Bd.returns rfl (Or.inr (Or.inr (Or.inr (Or.inr ⟨rfl, rfl, rfl⟩)))) (hb hby d27_44) hr
def Q_rmApB6 (Z : State) (a1 : Addr) (vb : Addr) (kv : ClassId) (sa : Addr) (ta : Addr) (q : ClassId) (G1 : Int32) (h0 : Heap) (vv : Option Value) (h : Heap) (L : List Loc) : Prop := vv = some (.ref a1) ∧ Fr Z.heap.size L ∧ Keep h0 h [a1, vb] ∧ Exa Z h a1 "java/lang/StringBuilder" ∧ Fld Z h a1 "java/lang/AbstractStringBuilder" "value" "[B" (.ref vb) ∧ Fld Z h a1 "java/lang/AbstractStringBuilder" "coder" "B" (.int 0) ∧ Fld Z h a1 "java/lang/AbstractStringBuilder" "count" "I" (.int 6) ∧ Arv Z h vb kv .byte (16 : Int32) [(.int 114), (.int 101), (.int 97), (.int 108), (.int 109), (.int 32), (.int 0), (.int 0), (.int 0), (.int 0), (.int 0), (.int 0), (.int 0), (.int 0), (.int 0), (.int 0)] (.int 0)
theorem ef_rmApB6 (m : MethodId) (x0 : Addr) (x1 : Addr)   : entryFrame m #[(.ref x0), (.ref x1)] 2 = mkF m 0 #[.val (.ref x0), .val (.ref x1)] [] := rfl
theorem rmApB6 (l : Launch) (Z : State) (a0 : Array Value) (hw : HW a0 Z) (ws : List Cond) (a1 : Addr) (vb : Addr) (kv : ClassId) (sa : Addr) (ta : Addr) (q : ClassId) (G1 : Int32) (h0 : Heap) (Z0 : Z.heap.size ≤ h0.size) (lo_a1 : Z.heap.size ≤ a1) (lo_vb : Z.heap.size ≤ vb) (ne_a1_vb : a1 ≠ vb) (ne_sa_a1 : sa ≠ a1) (ne_sa_vb : sa ≠ vb) (ne_ta_a1 : ta ≠ a1) (ne_ta_vb : ta ≠ vb) (OL : Old Z Z.heap.size h0) (O2 : Sta Z Z.heap "java/lang/String" "COMPACT_STRINGS" "Z" (.int G1)) (P5 : ¬ (G1 = (0 : Int32))) (S0 : Exa Z h0 sa "java/lang/String") (S1 : Fld Z h0 sa "java/lang/String" "coder" "B" (.int 0)) (S2 : Fld Z h0 sa "java/lang/String" "value" "[B" (.ref ta)) (S3 : Arv Z h0 ta q .byte (6 : Int32) [(.int 114), (.int 101), (.int 97), (.int 108), (.int 109), (.int 32)] (.int 0)) (B0 : Exa Z h0 a1 "java/lang/StringBuilder") (B1 : Fld Z h0 a1 "java/lang/AbstractStringBuilder" "value" "[B" (.ref vb)) (B2 : Fld Z h0 a1 "java/lang/AbstractStringBuilder" "coder" "B" (.int 0)) (B3 : Fld Z h0 a1 "java/lang/AbstractStringBuilder" "count" "I" (.int 0)) (B4 : Arv Z h0 vb kv .byte (16 : Int32) [(.int 0), (.int 0), (.int 0), (.int 0), (.int 0), (.int 0), (.int 0), (.int 0), (.int 0), (.int 0), (.int 0), (.int 0), (.int 0), (.int 0), (.int 0), (.int 0)] (.int 0)) :
    MetFree l yM30 (head1 (Cond.code yM30 jdk_67_method_7_code 2 (some (.object "java/lang/StringBuilder")) :: ws) (⟨4, 0, 0, 83⟩ : Room)) (fun a U => a = #[(.ref a1), (.ref sa)] ∧ Z.Warmed39 U.vm ∧ U.heap = h0) (fun _ _ _ _ _ => True) (fun _ U o U' => ∃ v L, o = .returned v ∧ Q_rmApB6 Z a1 vb kv sa ta q G1 h0 v U'.heap L ∧ FrameEnd U o U' L (⟨4, 0, 0, 83⟩ : Room).cells (⟨4, 0, 0, 83⟩ : Room).slots) := by
  refine MetFree.of_bodySF (plainFor_of_name (by first | (simp [plainName, overriddenIn]; done) | decide +kernel)) hisR ?_
  intro p e s m args below meth c s₁ Bd hml0 hP hK
  obtain ⟨rfl, hZ0', hh⟩ := hP
  have hx := Bd.exec
  have hby := Bd.bytes
  have hml : c.maxLocals = 2 := hml0
  have hZ0 : Z.Warmed39 s.vm := hZ0'
  have hown0 : s.vm.findClass "java/lang/StringBuilder" = some m.cls := findClass_of_methodNamed Bd.named
  have hnm := (name_of_methodNamed Bd.named Bd.method).1
  have hlk : meth.locks = false := Bd.notSynchronized
  have X0 : Stand p l e (⟨4, 0, 0, 83⟩ : Room) s m #[(.ref a1), (.ref sa)] below meth c s₁ [] 0 0 := Stand.of_body Bd
  have e0 : s₁.heap = h0 := by rw [← hh, Bd.state]; rfl
  have N0 := Fr.nil Z.heap.size
  have KP0 : Keep h0 h0 ([a1, vb] : List Addr) := Keep.refl _ _
  show Go p e below (fun t o => ∃ v L, o = .returned v ∧ Q_rmApB6 Z a1 vb kv sa ta q G1 h0 v t.heap L ∧ FrameEnd s o t L (⟨4, 0, 0, 83⟩ : Room).cells (⟨4, 0, 0, 83⟩ : Room).slots) (s₁.setTop (entryFrame m #[(.ref a1), (.ref sa)] 2))
  refine Go.on (w := s₁.setTop (mkF m 0 #[rv a1, rv sa] [])) (fun t k => castTop (ef_rmApB6 m a1 sa) k) ?_
  have u_a1 : h0.size > a1 := B0.lt
  have u_vb : h0.size > vb := B4.lt
  have u_s : h0.size > sa := S0.lt
  have u_t : h0.size > ta := S3.lt
  obtain ⟨v222, _, ⟨T222, L222, k222, n222⟩, -, X222, ⟨Lc222, hQ222, l222, y222, z222⟩, st222⟩ := superBack X0 hx hZ0 (y := yM31) hown0 (w_205 hw) (own_same (y := yM31) (w_206 hw) (w_225 hw) rfl (by decide)) (w_206 hw) (w_207 hw) (by decide) (backOf (W := 0) (rmApA6 l Z a0 hw [] a1 vb kv sa ta q G1 h0 (by omega) (by omega) (by omega) ne_a1_vb ne_sa_a1 ne_sa_vb ne_ta_a1 ne_ta_vb OL O2 P5 S0 S1 S2 S3 B0 B1 B2 B3 B4) hZ0 (w_209 hw) (w_189 hw) (by decide) (by decide)) e0 (Ins.self B0) (g := (mkF m 2 #[rv a1, rv sa] [(.ref sa), (.ref a1)])) rfl (by rw [hml]; rfl) (w_209 hw) (argsL := [(.ref sa)]) (rest := []) (lenOf pd_16 rfl) rfl (by show 2 * 0 + _ ≤ _; exact Nat.le_of_eq rfl) (hb hby d28_2) (fun _ _ => ⟨rfl, e0, (by decide : 0 + 0 ≤ _), (by decide : 0 + 0 ≤ _)⟩)
  dsimp only [Pt.U, Pt.locs, Pt.cells, Pt.slots] at X222 l222 y222 z222 st222 hQ222
  subst l222 y222 z222
  obtain ⟨rfl, Nq222, K222, f222_0, f222_1, f222_2, f222_3, f222_4⟩ := hQ222
  have N222 := Fr.app N0 Nq222
  have eK222 : T222.heap = T222.heap := rfl
  have z222 : h0.size ≤ T222.heap.size := K222.1
  have KP222 : Keep h0 T222.heap ([a1, vb] : List Addr) := KP0.trans K222 (allS (P := fun zq => zq ∈ ([a1, vb] : List Addr) ∨ h0.size ≤ zq) (Or.inl (List.mem_of_getElem? (i := 0) rfl)) (allS (P := fun zq => zq ∈ ([a1, vb] : List Addr) ∨ h0.size ≤ zq) (Or.inl (List.mem_of_getElem? (i := 1) rfl)) all0))
  refine Go.on (w := T222.setTop (mkF m 7 #[rv a1, rv sa] [(.ref a1)])) (fun t k => XS.aloadN X0.here hx rfl (hb hby d28_0) rfl rfl (XS.aloadN X0.here hx rfl (hb hby d28_1) rfl rfl (st222.trans (XS.pop X222.here hx rfl (hb hby d28_5) rfl rfl (XS.aloadN X222.here hx rfl (hb hby d28_6) rfl rfl k))))) ?_
  refine Go.finH X222 hlk (v := some (.ref a1)) (fun h => by rw [Bd.returns] at h; cases h) (fun fs hr => ?_) (endH (Q := Q_rmApB6 Z a1 vb kv sa ta q G1 h0) (by rw [eK222]; exact ⟨rfl, N222, KP222, f222_0, f222_1, f222_2, f222_3, f222_4⟩) (by decide) (by decide))
  exact retOut X222 hx Bd.returns rfl (Or.inr (Or.inr (Or.inr (Or.inr ⟨rfl, rfl, rfl⟩)))) (hb hby d28_7) hr
def Q_rmLen1 (Z : State) (sa : Addr) (ta : Addr) (q : ClassId) (G1 : Int32) (v0 : Int32) (h0 : Heap) (vv : Option Value) (h : Heap) (L : List Loc) : Prop := vv = some (.int 1) ∧ Fr Z.heap.size L ∧ h = h0
theorem ef_rmLen1 (m : MethodId) (x0 : Addr)   : entryFrame m #[(.ref x0)] 1 = mkF m 0 #[.val (.ref x0)] [] := rfl
theorem rmLen1 (l : Launch) (Z : State) (a0 : Array Value) (hw : HW a0 Z) (ws : List Cond) (sa : Addr) (ta : Addr) (q : ClassId) (G1 : Int32) (v0 : Int32) (h0 : Heap) (OL : Old Z Z.heap.size h0) (O2 : Sta Z Z.heap "java/lang/String" "COMPACT_STRINGS" "Z" (.int G1)) (P5 : ¬ (G1 = (0 : Int32))) (S0 : Exa Z h0 sa "java/lang/String") (S1 : Fld Z h0 sa "java/lang/String" "coder" "B" (.int 0)) (S2 : Fld Z h0 sa "java/lang/String" "value" "[B" (.ref ta)) (S3 : Arv Z h0 ta q .byte (1 : Int32) [(.int v0)] (.int 0)) :
    MetFree l yM32 (head1 (Cond.code yM32 jdk_42_method_54_code 1 (some .int) :: ws) (⟨1, 0, 0, 13⟩ : Room)) (fun a U => a = #[(.ref sa)] ∧ Z.Warmed39 U.vm ∧ U.heap = h0) (fun _ _ _ _ _ => True) (fun _ U o U' => ∃ v L, o = .returned v ∧ Q_rmLen1 Z sa ta q G1 v0 h0 v U'.heap L ∧ FrameEnd U o U' L (⟨1, 0, 0, 13⟩ : Room).cells (⟨1, 0, 0, 13⟩ : Room).slots) := by
  refine MetFree.of_bodySF (plainFor_of_name (by first | (simp [plainName, overriddenIn]; done) | decide +kernel)) hisR ?_
  intro p e s m args below meth c s₁ Bd hml0 hP hK
  obtain ⟨rfl, hZ0', hh⟩ := hP
  have hx := Bd.exec
  have hby := Bd.bytes
  have hml : c.maxLocals = 1 := hml0
  have hZ0 : Z.Warmed39 s.vm := hZ0'
  have hown0 : s.vm.findClass "java/lang/String" = some m.cls := findClass_of_methodNamed Bd.named
  have hnm := (name_of_methodNamed Bd.named Bd.method).1
  have hlk : meth.locks = false := Bd.notSynchronized
  have X0 : Stand p l e (⟨1, 0, 0, 13⟩ : Room) s m #[(.ref sa)] below meth c s₁ [] 0 0 := Stand.of_body Bd
  have e0 : s₁.heap = h0 := by rw [← hh, Bd.state]; rfl
  have N0 := Fr.nil Z.heap.size
  have KP0 : Keep h0 h0 ([] : List Addr) := Keep.refl _ _
  show Go p e below (fun t o => ∃ v L, o = .returned v ∧ Q_rmLen1 Z sa ta q G1 v0 h0 v t.heap L ∧ FrameEnd s o t L (⟨1, 0, 0, 13⟩ : Room).cells (⟨1, 0, 0, 13⟩ : Room).slots) (s₁.setTop (entryFrame m #[(.ref sa)] 1))
  refine Go.on (w := s₁.setTop (mkF m 0 #[rv sa] [])) (fun t k => castTop (ef_rmLen1 m sa) k) ?_
  obtain ⟨T223, X223, e223, st223⟩ := getF X0 hx hZ0 hown0 (host := "") (Or.inl (w_28 hw)) Via.refl e0 S2 (g := (mkF m 1 #[rv sa] [(.ref sa)])) rfl rfl (hb hby d22_1)
  obtain ⟨cl224, Ar224, q224, S224, M224, H224, U224⟩ := id S3
  refine Go.on (w := T223.setTop (mkF m 4 #[rv sa] [(.ref ta)])) (fun t k => XS.aloadN X0.here hx rfl (hb hby d22_0) rfl rfl (st223 _ k)) ?_
  refine Go.on (w := T223.setTop (mkF m 5 #[rv sa] [(.int 1)])) (fun t k => X223.arraylength hx (by rw [e223]; exact Ar224.1) (State.isArrayOf_alike hZ0.alike Ar224.2.1) (g := (mkF m 4 #[rv sa] [(.ref ta)])) rfl rfl (hb hby d22_4) _ (by rw [len_of S224 M224]; exact k)) ?_
  obtain ⟨cq225, kq225, q225a, q225b, q225c⟩ := isOf hZ0 e223 S0
  obtain ⟨v225, _, ⟨T225, L225, k225, n225⟩, -, X225, ⟨Lc225, hQ225, l225, y225, z225⟩, st225⟩ := X223.virtualBack hx (y := yM33) (z := yM33) hown0 (mvT hZ0 (w_215 hw)) (mvT hZ0 (w_216 hw)) (notFace_of_selects (args := #[]) (mvT hZ0 (w_218 hw))) (mvT hZ0 (w_218 hw)) (mvT hZ0 (w_217 hw)) (by decide) (backOf (W := 1) (rmCod l Z a0 hw [] sa G1 h0 OL O2 P5 S1) hZ0 (w_219 hw) (w_3 hw) (by decide) (by decide)) q225a q225c (g := (mkF m 6 #[rv sa] [(.ref sa), (.int 1)])) rfl (by rw [hml]; rfl) (Steps.refl _) (argsL := []) (rest := [(.int 1)]) (lenOf pd_12 rfl) rfl (by show 2 * 0 + _ ≤ _; exact Nat.le_of_eq rfl) (hb hby d22_6) (fun _ _ => ⟨rfl, e223, (by decide : 0 + 0 ≤ _), (by decide : 0 + 0 ≤ _)⟩)
  dsimp only [Pt.U, Pt.locs, Pt.cells, Pt.slots] at X225 l225 y225 z225 st225 hQ225
  subst l225 y225 z225
  obtain ⟨rfl, Nq225, eh225⟩ := hQ225
  have N225 := Fr.app N0 Nq225
  refine Go.on (w := T225.setTop (mkF m 9 #[rv sa] [(.int 0), (.int 1)])) (fun t k => XS.aloadN X223.here hx rfl (hb hby d22_5) rfl rfl (st225.trans k)) ?_
  refine Go.on (w := T225.setTop (mkF m 10 #[rv sa] [(.int 1)])) (fun t k => XS.ishr X225.here hx rfl (hb hby d22_9) rfl (by rw [(by decide : ((1 : Int32) >>> ((0 : Int32) &&& 31)) = (1 : Int32))]; exact k)) ?_
  refine Go.finH X225 hlk (v := some (.int 1)) (fun h => by rw [Bd.returns] at h; cases h) (fun fs hr => ?_) (endH (Q := Q_rmLen1 Z sa ta q G1 v0 h0) (by rw [eh225]; exact ⟨rfl, N225, rfl⟩) (by decide) (by decide))
  exact retOut X225 hx Bd.returns rfl (Or.inl ⟨rfl, Or.inl rfl, _, rfl⟩) (hb hby d22_10) hr
def Q_rmGb1 (Z : State) (vb : Addr) (kv : ClassId) (sa : Addr) (ta : Addr) (q : ClassId) (G1 : Int32) (v0 : Int32) (h0 : Heap) (vv : Option Value) (h : Heap) (L : List Loc) : Prop := vv = none ∧ Fr Z.heap.size L ∧ Keep h0 h [vb] ∧ Arv Z h vb kv .byte (16 : Int32) [(.int 114), (.int 101), (.int 97), (.int 108), (.int 109), (.int 32), (.int v0), (.int 0), (.int 0), (.int 0), (.int 0), (.int 0), (.int 0), (.int 0), (.int 0), (.int 0)] (.int 0)
theorem ef_rmGb1 (m : MethodId) (x0 : Addr) (x1 : Addr) (x2 : Int32) (x3 : Int32)   : entryFrame m #[(.ref x0), (.ref x1), (.int x2), (.int x3)] 4 = mkF m 0 #[.val (.ref x0), .val (.ref x1), .val (.int x2), .val (.int x3)] [] := rfl
theorem rmGb1 (l : Launch) (Z : State) (a0 : Array Value) (hw : HW a0 Z) (ws : List Cond) (vb : Addr) (kv : ClassId) (sa : Addr) (ta : Addr) (q : ClassId) (G1 : Int32) (v0 : Int32) (h0 : Heap) (Z0 : Z.heap.size ≤ h0.size) (lo_vb : Z.heap.size ≤ vb) (ne_sa_vb : sa ≠ vb) (ne_ta_vb : ta ≠ vb) (OL : Old Z Z.heap.size h0) (O2 : Sta Z Z.heap "java/lang/String" "COMPACT_STRINGS" "Z" (.int G1)) (P5 : ¬ (G1 = (0 : Int32))) (S0 : Exa Z h0 sa "java/lang/String") (S1 : Fld Z h0 sa "java/lang/String" "coder" "B" (.int 0)) (S2 : Fld Z h0 sa "java/lang/String" "value" "[B" (.ref ta)) (S3 : Arv Z h0 ta q .byte (1 : Int32) [(.int v0)] (.int 0)) (B4 : Arv Z h0 vb kv .byte (16 : Int32) [(.int 114), (.int 101), (.int 97), (.int 108), (.int 109), (.int 32), (.int 0), (.int 0), (.int 0), (.int 0), (.int 0), (.int 0), (.int 0), (.int 0), (.int 0), (.int 0)] (.int 0)) :
    MetFree l yM37 (head1 (Cond.code yM37 jdk_42_method_147_code 4 none :: ws) (⟨1, 0, 0, 40⟩ : Room)) (fun a U => a = #[(.ref sa), (.ref vb), (.int 6), (.int 0)] ∧ Z.Warmed39 U.vm ∧ U.heap = h0) (fun _ _ _ _ _ => True) (fun _ U o U' => ∃ v L, o = .returned v ∧ Q_rmGb1 Z vb kv sa ta q G1 v0 h0 v U'.heap L ∧ FrameEnd U o U' L (⟨1, 0, 0, 40⟩ : Room).cells (⟨1, 0, 0, 40⟩ : Room).slots) := by
  refine MetFree.of_bodySF (plainFor_of_name (by first | (simp [plainName, overriddenIn]; done) | decide +kernel)) hisR ?_
  intro p e s m args below meth c s₁ Bd hml0 hP hK
  obtain ⟨rfl, hZ0', hh⟩ := hP
  have hx := Bd.exec
  have hby := Bd.bytes
  have hml : c.maxLocals = 4 := hml0
  have hZ0 : Z.Warmed39 s.vm := hZ0'
  have hown0 : s.vm.findClass "java/lang/String" = some m.cls := findClass_of_methodNamed Bd.named
  have hnm := (name_of_methodNamed Bd.named Bd.method).1
  have hlk : meth.locks = false := Bd.notSynchronized
  have X0 : Stand p l e (⟨1, 0, 0, 40⟩ : Room) s m #[(.ref sa), (.ref vb), (.int 6), (.int 0)] below meth c s₁ [] 0 0 := Stand.of_body Bd
  have e0 : s₁.heap = h0 := by rw [← hh, Bd.state]; rfl
  have N0 := Fr.nil Z.heap.size
  have KP0 : Keep h0 h0 ([vb] : List Addr) := Keep.refl _ _
  show Go p e below (fun t o => ∃ v L, o = .returned v ∧ Q_rmGb1 Z vb kv sa ta q G1 v0 h0 v t.heap L ∧ FrameEnd s o t L (⟨1, 0, 0, 40⟩ : Room).cells (⟨1, 0, 0, 40⟩ : Room).slots) (s₁.setTop (entryFrame m #[(.ref sa), (.ref vb), (.int 6), (.int 0)] 4))
  refine Go.on (w := s₁.setTop (mkF m 0 #[rv sa, rv vb, iv 6, iv 0] [])) (fun t k => castTop (ef_rmGb1 m sa vb (6 : Int32) (0 : Int32)) k) ?_
  have u_vb : h0.size > vb := B4.lt
  have u_s : h0.size > sa := S0.lt
  have u_t : h0.size > ta := S3.lt
  obtain ⟨cq226, kq226, q226a, q226b, q226c⟩ := isOf hZ0 e0 S0
  obtain ⟨v226, _, ⟨T226, L226, k226, n226⟩, -, X226, ⟨Lc226, hQ226, l226, y226, z226⟩, st226⟩ := X0.virtualBack hx (y := yM33) (z := yM33) hown0 (mvT hZ0 (w_215 hw)) (mvT hZ0 (w_216 hw)) (notFace_of_selects (args := #[]) (mvT hZ0 (w_218 hw))) (mvT hZ0 (w_218 hw)) (mvT hZ0 (w_217 hw)) (by decide) (backOf (W := 0) (rmCod l Z a0 hw [] sa G1 h0 OL O2 P5 S1) hZ0 (w_219 hw) (w_3 hw) (by decide) (by decide)) q226a q226c (g := (mkF m 1 #[rv sa, rv vb, iv 6, iv 0] [(.ref sa)])) rfl (by rw [hml]; rfl) (Steps.refl _) (argsL := []) (rest := []) (lenOf pd_12 rfl) rfl (by show 2 * 0 + _ ≤ _; exact Nat.le_of_eq rfl) (hb hby d23_1) (fun _ _ => ⟨rfl, e0, (by decide : 0 + 0 ≤ _), (by decide : 0 + 0 ≤ _)⟩)
  dsimp only [Pt.U, Pt.locs, Pt.cells, Pt.slots] at X226 l226 y226 z226 st226 hQ226
  subst l226 y226 z226
  obtain ⟨rfl, Nq226, eh226⟩ := hQ226
  have N226 := Fr.app N0 Nq226
  obtain ⟨T227, X227, e227, st227⟩ := getF X226 hx hZ0 hown0 (host := "") (Or.inl (w_28 hw)) Via.refl eh226 S2 (g := (mkF m 9 #[rv sa, rv vb, iv 6, iv 0] [(.ref sa)])) rfl rfl (hb hby d23_9)
  refine Go.on (w := T227.setTop (mkF m 16 #[rv sa, rv vb, iv 6, iv 0] [(.int 0), (.int 6), (.ref vb), (.int 0), (.ref ta)])) (fun t k => XS.aloadN X0.here hx rfl (hb hby d23_0) rfl rfl (st226.trans (XS.iloadN X226.here hx rfl (hb hby d23_4) rfl (XS.icmpNo X226.here hx rfl (hb hby d23_5) rfl (teq (by decide : (0 : Int32) = (0 : Int32))).2 (XS.aloadN X226.here hx rfl (hb hby d23_8) rfl rfl (st227 _ (XS.iconst X227.here hx rfl (hb hby d23_12) (XS.aloadN X227.here hx rfl (hb hby d23_13) rfl rfl (XS.iloadN X227.here hx rfl (hb hby d23_14) rfl (XS.iloadN X227.here hx rfl (hb hby d23_15) rfl k)))))))))) ?_
  refine Go.on (w := T227.setTop (mkF m 17 #[rv sa, rv vb, iv 6, iv 0] [(.int 6), (.ref vb), (.int 0), (.ref ta)])) (fun t k => XS.ishl X227.here hx rfl (hb hby d23_16) rfl (by rw [(by decide : ((6 : Int32) <<< ((0 : Int32) &&& 31)) = (6 : Int32))]; exact k)) ?_
  obtain ⟨T228, X228, e228, st228⟩ := getF X227 hx hZ0 hown0 (host := "") (Or.inl (w_28 hw)) Via.refl e227 S2 (g := (mkF m 18 #[rv sa, rv vb, iv 6, iv 0] [(.ref sa), (.int 6), (.ref vb), (.int 0), (.ref ta)])) rfl rfl (hb hby d23_18)
  obtain ⟨cl229, Ar229, q229, S229, M229, H229, U229⟩ := id S3
  refine Go.on (w := T228.setTop (mkF m 21 #[rv sa, rv vb, iv 6, iv 0] [(.ref ta), (.int 6), (.ref vb), (.int 0), (.ref ta)])) (fun t k => XS.aloadN X227.here hx rfl (hb hby d23_17) rfl rfl (st228 _ k)) ?_
  refine Go.on (w := T228.setTop (mkF m 22 #[rv sa, rv vb, iv 6, iv 0] [(.int 1), (.int 6), (.ref vb), (.int 0), (.ref ta)])) (fun t k => X228.arraylength hx (by rw [e228]; exact Ar229.1) (State.isArrayOf_alike hZ0.alike Ar229.2.1) (g := (mkF m 21 #[rv sa, rv vb, iv 6, iv 0] [(.ref ta), (.int 6), (.ref vb), (.int 0), (.ref ta)])) rfl rfl (hb hby d23_21) _ (by rw [len_of S229 M229]; exact k)) ?_
  obtain ⟨T230, h230, L230, X230, e230, N230, K230, V230', st230⟩ := cpA X228 hx hZ0 hown0 (w_243 hw) (w_246 hw) (w_244 hw) (w_245 hw) e228 S3 B4 (us := [(.int v0)]) (Or.inl ⟨rfl, rfl⟩) (sp := (0 : Int32)) (dp := (6 : Int32)) (nn := (1 : Int32)) (by decide) (by decide) (by decide) (by decide) (by decide) rfl (Nat.le_of_ble_eq_true rfl) N226 (by omega) (g := (mkF m 22 #[rv sa, rv vb, iv 6, iv 0] [(.int 1), (.int 6), (.ref vb), (.int 0), (.ref ta)])) rfl (by rw [hml]; rfl) rfl (hb hby d23_22) (by decide) (W := 0) (by show 2 * 0 + _ ≤ _; exact Nat.le_of_eq rfl) (by decide)
  have V230 : Arv Z h230 vb kv .byte (16 : Int32) [(.int 114), (.int 101), (.int 97), (.int 108), (.int 109), (.int 32), (.int v0), (.int 0), (.int 0), (.int 0), (.int 0), (.int 0), (.int 0), (.int 0), (.int 0), (.int 0)] (.int 0) := V230'
  have z230 : h0.size ≤ h230.size := K230.1
  have KP230 : Keep h0 h230 ([vb] : List Addr) := KP0.trans K230 (allS (P := fun zq => zq ∈ ([vb] : List Addr) ∨ h0.size ≤ zq) (Or.inl (List.mem_of_getElem? (i := 0) rfl)) all0)
  refine Go.on (w := T230.setTop (mkF m 43 #[rv sa, rv vb, iv 6, iv 0] [])) (fun t k => st230 _ (XS.goto X230.here hx rfl (pc0 := 25) (pc' := 43) rfl (hb hby d23_25) (by decide) (by decide) k)) ?_
  refine Go.finH X230 hlk (v := none) (fun _ => rfl) (fun fs hr => ?_) (endH (Q := Q_rmGb1 Z vb kv sa ta q G1 v0 h0) (by rw [e230]; exact ⟨rfl, N230, KP230, V230⟩) (by decide) (by decide))
  exact X230.returnOut hx Bd.returns (hb hby d23_43) hr
def Q_rmInf1 (Z : State) (a1 : Addr) (sa : Addr) (G1 : Int32) (h0 : Heap) (vv : Option Value) (h : Heap) (L : List Loc) : Prop := vv = none ∧ Fr Z.heap.size L ∧ h = h0
theorem ef_rmInf1 (m : MethodId) (x0 : Addr) (x1 : Addr)   : entryFrame m #[(.ref x0), (.ref x1)] 2 = mkF m 0 #[.val (.ref x0), .val (.ref x1)] [] := rfl
theorem rmInf1 (l : Launch) (Z : State) (a0 : Array Value) (hw : HW a0 Z) (ws : List Cond) (a1 : Addr) (sa : Addr) (G1 : Int32) (h0 : Heap) (OL : Old Z Z.heap.size h0) (O2 : Sta Z Z.heap "java/lang/String" "COMPACT_STRINGS" "Z" (.int G1)) (P5 : ¬ (G1 = (0 : Int32))) (Bc : Fld Z h0 a1 "java/lang/AbstractStringBuilder" "coder" "B" (.int 0)) (S0 : Exa Z h0 sa "java/lang/String") (S1 : Fld Z h0 sa "java/lang/String" "coder" "B" (.int 0)) :
    MetFree l yM36 (head1 (Cond.code yM36 jdk_68_method_71_code 2 none :: ws) (⟨1, 0, 0, 13⟩ : Room)) (fun a U => a = #[(.ref a1), (.ref sa)] ∧ Z.Warmed39 U.vm ∧ U.heap = h0) (fun _ _ _ _ _ => True) (fun _ U o U' => ∃ v L, o = .returned v ∧ Q_rmInf1 Z a1 sa G1 h0 v U'.heap L ∧ FrameEnd U o U' L (⟨1, 0, 0, 13⟩ : Room).cells (⟨1, 0, 0, 13⟩ : Room).slots) := by
  refine MetFree.of_bodySF (plainFor_of_name (by first | (simp [plainName, overriddenIn]; done) | decide +kernel)) hisR ?_
  intro p e s m args below meth c s₁ Bd hml0 hP hK
  obtain ⟨rfl, hZ0', hh⟩ := hP
  have hx := Bd.exec
  have hby := Bd.bytes
  have hml : c.maxLocals = 2 := hml0
  have hZ0 : Z.Warmed39 s.vm := hZ0'
  have hown0 : s.vm.findClass "java/lang/AbstractStringBuilder" = some m.cls := findClass_of_methodNamed Bd.named
  have hnm := (name_of_methodNamed Bd.named Bd.method).1
  have hlk : meth.locks = false := Bd.notSynchronized
  have X0 : Stand p l e (⟨1, 0, 0, 13⟩ : Room) s m #[(.ref a1), (.ref sa)] below meth c s₁ [] 0 0 := Stand.of_body Bd
  have e0 : s₁.heap = h0 := by rw [← hh, Bd.state]; rfl
  have N0 := Fr.nil Z.heap.size
  have KP0 : Keep h0 h0 ([] : List Addr) := Keep.refl _ _
  show Go p e below (fun t o => ∃ v L, o = .returned v ∧ Q_rmInf1 Z a1 sa G1 h0 v t.heap L ∧ FrameEnd s o t L (⟨1, 0, 0, 13⟩ : Room).cells (⟨1, 0, 0, 13⟩ : Room).slots) (s₁.setTop (entryFrame m #[(.ref a1), (.ref sa)] 2))
  refine Go.on (w := s₁.setTop (mkF m 0 #[rv a1, rv sa] [])) (fun t k => castTop (ef_rmInf1 m a1 sa) k) ?_
  obtain ⟨T231, X231, e231, st231⟩ := getS2 X0 hx hZ0 hown0 (host := "") (Or.inl (w_192 hw)) Via.refl e0 (O2.ext OL.2) (g := (mkF m 0 #[rv a1, rv sa] [])) rfl (hb hby d24_0)
  obtain ⟨T232, X232, e232, st232⟩ := getF X231 hx hZ0 hown0 (host := "") (Or.inl (w_195 hw)) Via.refl e231 Bc (g := (mkF m 7 #[rv a1, rv sa] [(.ref a1)])) rfl rfl (hb hby d24_7)
  obtain ⟨cq233, kq233, q233a, q233b, q233c⟩ := isOf hZ0 e232 S0
  obtain ⟨v233, _, ⟨T233, L233, k233, n233⟩, -, X233, ⟨Lc233, hQ233, l233, y233, z233⟩, st233⟩ := X232.virtualBack hx (y := yM33) (z := yM33) hown0 (mvT hZ0 (w_237 hw)) (mvT hZ0 (w_216 hw)) (notFace_of_selects (args := #[]) (mvT hZ0 (w_218 hw))) (mvT hZ0 (w_218 hw)) (mvT hZ0 (w_217 hw)) (by decide) (backOf (W := 1) (rmCod l Z a0 hw [] sa G1 h0 OL O2 P5 S1) hZ0 (w_219 hw) (w_3 hw) (by decide) (by decide)) q233a q233c (g := (mkF m 11 #[rv a1, rv sa] [(.ref sa), (.int 0)])) rfl (by rw [hml]; rfl) (Steps.refl _) (argsL := []) (rest := [(.int 0)]) (lenOf pd_12 rfl) rfl (by show 2 * 0 + _ ≤ _; exact Nat.le_of_eq rfl) (hb hby d24_11) (fun _ _ => ⟨rfl, e232, (by decide : 0 + 0 ≤ _), (by decide : 0 + 0 ≤ _)⟩)
  dsimp only [Pt.U, Pt.locs, Pt.cells, Pt.slots] at X233 l233 y233 z233 st233 hQ233
  subst l233 y233 z233
  obtain ⟨rfl, Nq233, eh233⟩ := hQ233
  have N233 := Fr.app N0 Nq233
  refine Go.on (w := T233.setTop (mkF m 21 #[rv a1, rv sa] [])) (fun t k => st231 _ (XS.ifNo X231.here hx rfl (hb hby d24_3) rfl ((if0 _ _).trans (feq P5).1) (XS.aloadN X231.here hx rfl (hb hby d24_6) rfl rfl (st232 _ (XS.aloadN X232.here hx rfl (hb hby d24_10) rfl rfl (st233.trans (XS.icmpYes X233.here hx rfl (pc0 := 14) (pc' := 21) rfl (hb hby d24_14) rfl (teq (by decide : (0 : Int32) = (0 : Int32))).1 (by decide) (by decide) k))))))) ?_
  refine Go.finH X233 hlk (v := none) (fun _ => rfl) (fun fs hr => ?_) (endH (Q := Q_rmInf1 Z a1 sa G1 h0) (by rw [eh233]; exact ⟨rfl, N233, rfl⟩) (by decide) (by decide))
  exact X233.returnOut hx Bd.returns (hb hby d24_21) hr
def Q_rmEns1 (Z : State) (a1 : Addr) (vb : Addr) (kv : ClassId) (v0 : Int32) (h0 : Heap) (vv : Option Value) (h : Heap) (L : List Loc) : Prop := vv = none ∧ Fr Z.heap.size L ∧ h = h0
theorem ef_rmEns1 (m : MethodId) (x0 : Addr) (x1 : Int32)   : entryFrame m #[(.ref x0), (.int x1)] 3 = mkF m 0 #[.val (.ref x0), .val (.int x1), .unset] [] := rfl
theorem rmEns1 (l : Launch) (Z : State) (a0 : Array Value) (hw : HW a0 Z) (ws : List Cond) (a1 : Addr) (vb : Addr) (kv : ClassId) (v0 : Int32) (h0 : Heap) (Bv : Fld Z h0 a1 "java/lang/AbstractStringBuilder" "value" "[B" (.ref vb)) (Bc : Fld Z h0 a1 "java/lang/AbstractStringBuilder" "coder" "B" (.int 0)) (B4 : Arv Z h0 vb kv .byte (16 : Int32) [(.int 114), (.int 101), (.int 97), (.int 108), (.int 109), (.int 32), (.int 0), (.int 0), (.int 0), (.int 0), (.int 0), (.int 0), (.int 0), (.int 0), (.int 0), (.int 0)] (.int 0)) :
    MetFree l yM34 (head1 (Cond.code yM34 jdk_68_method_9_code 3 none :: ws) (⟨0, 0, 0, 0⟩ : Room)) (fun a U => a = #[(.ref a1), (.int 7)] ∧ Z.Warmed39 U.vm ∧ U.heap = h0) (fun _ _ _ _ _ => True) (fun _ U o U' => ∃ v L, o = .returned v ∧ Q_rmEns1 Z a1 vb kv v0 h0 v U'.heap L ∧ FrameEnd U o U' L (⟨0, 0, 0, 0⟩ : Room).cells (⟨0, 0, 0, 0⟩ : Room).slots) := by
  refine MetFree.of_bodySF (plainFor_of_name (by first | (simp [plainName, overriddenIn]; done) | decide +kernel)) hisR ?_
  intro p e s m args below meth c s₁ Bd hml0 hP hK
  obtain ⟨rfl, hZ0', hh⟩ := hP
  have hx := Bd.exec
  have hby := Bd.bytes
  have hml : c.maxLocals = 3 := hml0
  have hZ0 : Z.Warmed39 s.vm := hZ0'
  have hown0 : s.vm.findClass "java/lang/AbstractStringBuilder" = some m.cls := findClass_of_methodNamed Bd.named
  have hnm := (name_of_methodNamed Bd.named Bd.method).1
  have hlk : meth.locks = false := Bd.notSynchronized
  have X0 : Stand p l e (⟨0, 0, 0, 0⟩ : Room) s m #[(.ref a1), (.int 7)] below meth c s₁ [] 0 0 := Stand.of_body Bd
  have e0 : s₁.heap = h0 := by rw [← hh, Bd.state]; rfl
  have N0 := Fr.nil Z.heap.size
  have KP0 : Keep h0 h0 ([] : List Addr) := Keep.refl _ _
  show Go p e below (fun t o => ∃ v L, o = .returned v ∧ Q_rmEns1 Z a1 vb kv v0 h0 v t.heap L ∧ FrameEnd s o t L (⟨0, 0, 0, 0⟩ : Room).cells (⟨0, 0, 0, 0⟩ : Room).slots) (s₁.setTop (entryFrame m #[(.ref a1), (.int 7)] 3))
  refine Go.on (w := s₁.setTop (mkF m 0 #[rv a1, iv 7, .unset] [])) (fun t k => castTop (ef_rmEns1 m a1 (7 : Int32)) k) ?_
  obtain ⟨T234, X234, e234, st234⟩ := getF X0 hx hZ0 hown0 (host := "") (Or.inl (w_193 hw)) Via.refl e0 Bv (g := (mkF m 1 #[rv a1, iv 7, .unset] [(.ref a1)])) rfl rfl (hb hby d25_1)
  obtain ⟨cl235, Ar235, q235, S235, M235, H235, U235⟩ := id B4
  refine Go.on (w := T234.setTop (mkF m 4 #[rv a1, iv 7, .unset] [(.ref vb)])) (fun t k => XS.aloadN X0.here hx rfl (hb hby d25_0) rfl rfl (st234 _ k)) ?_
  refine Go.on (w := T234.setTop (mkF m 5 #[rv a1, iv 7, .unset] [(.int 16)])) (fun t k => X234.arraylength hx (by rw [e234]; exact Ar235.1) (State.isArrayOf_alike hZ0.alike Ar235.2.1) (g := (mkF m 4 #[rv a1, iv 7, .unset] [(.ref vb)])) rfl rfl (hb hby d25_4) _ (by rw [len_of S235 M235]; exact k)) ?_
  obtain ⟨T236, X236, e236, st236⟩ := getF X234 hx hZ0 hown0 (host := "") (Or.inl (w_195 hw)) Via.refl e234 Bc (g := (mkF m 6 #[rv a1, iv 7, .unset] [(.ref a1), (.int 16)])) rfl rfl (hb hby d25_6)
  refine Go.on (w := T236.setTop (mkF m 9 #[rv a1, iv 7, .unset] [(.int 0), (.int 16)])) (fun t k => XS.aloadN X234.here hx rfl (hb hby d25_5) rfl rfl (st236 _ k)) ?_
  refine Go.on (w := T236.setTop (mkF m 10 #[rv a1, iv 7, .unset] [(.int 16)])) (fun t k => XS.ishr X236.here hx rfl (hb hby d25_9) rfl (by rw [(by decide : ((16 : Int32) >>> ((0 : Int32) &&& 31)) = (16 : Int32))]; exact k)) ?_
  refine Go.on (w := T236.setTop (mkF m 13 #[rv a1, iv 7, iv 16] [(.int 16), (.int 7)])) (fun t k => XS.istoreN X236.here hx rfl (hb hby d25_10) rfl (l' := #[rv a1, iv 7, iv 16]) rfl (XS.iloadN X236.here hx rfl (hb hby d25_11) rfl (XS.iloadN X236.here hx rfl (hb hby d25_12) rfl k))) ?_
  refine Go.on (w := T236.setTop (mkF m 14 #[rv a1, iv 7, iv 16] [(.int (-9))])) (fun t k => XS.isub X236.here hx rfl (hb hby d25_13) rfl (by rw [(by decide : ((7 : Int32) - (16 : Int32)) = (-9 : Int32))]; exact k)) ?_
  refine Go.on (w := T236.setTop (mkF m 38 #[rv a1, iv 7, iv 16] [])) (fun t k => XS.ifYes X236.here hx rfl (pc0 := 14) (pc' := 38) rfl (hb hby d25_14) rfl ((if0 _ _).trans (flt (by decide : ¬ ((0 : Int32) < (-9 : Int32)))).2.2.2) (by decide) (by decide) k) ?_
  refine Go.finH X236 hlk (v := none) (fun _ => rfl) (fun fs hr => ?_) (endH (Q := Q_rmEns1 Z a1 vb kv v0 h0) (by rw [e236]; exact ⟨rfl, N0, rfl⟩) (by decide) (by decide))
  exact X236.returnOut hx Bd.returns (hb hby d25_38) hr
def Q_rmPut1 (Z : State) (a1 : Addr) (vb : Addr) (kv : ClassId) (sa : Addr) (ta : Addr) (q : ClassId) (G1 : Int32) (v0 : Int32) (h0 : Heap) (vv : Option Value) (h : Heap) (L : List Loc) : Prop := vv = none ∧ Fr Z.heap.size L ∧ Keep h0 h [vb] ∧ Exa Z h a1 "java/lang/StringBuilder" ∧ Fld Z h a1 "java/lang/AbstractStringBuilder" "value" "[B" (.ref vb) ∧ Fld Z h a1 "java/lang/AbstractStringBuilder" "coder" "B" (.int 0) ∧ Fld Z h a1 "java/lang/AbstractStringBuilder" "count" "I" (.int 6) ∧ Arv Z h vb kv .byte (16 : Int32) [(.int 114), (.int 101), (.int 97), (.int 108), (.int 109), (.int 32), (.int v0), (.int 0), (.int 0), (.int 0), (.int 0), (.int 0), (.int 0), (.int 0), (.int 0), (.int 0)] (.int 0)
theorem ef_rmPut1 (m : MethodId) (x0 : Addr) (x1 : Int32) (x2 : Addr)   : entryFrame m #[(.ref x0), (.int x1), (.ref x2)] 3 = mkF m 0 #[.val (.ref x0), .val (.int x1), .val (.ref x2)] [] := rfl
theorem rmPut1 (l : Launch) (Z : State) (a0 : Array Value) (hw : HW a0 Z) (ws : List Cond) (a1 : Addr) (vb : Addr) (kv : ClassId) (sa : Addr) (ta : Addr) (q : ClassId) (G1 : Int32) (v0 : Int32) (h0 : Heap) (Z0 : Z.heap.size ≤ h0.size) (lo_a1 : Z.heap.size ≤ a1) (lo_vb : Z.heap.size ≤ vb) (ne_a1_vb : a1 ≠ vb) (ne_sa_a1 : sa ≠ a1) (ne_sa_vb : sa ≠ vb) (ne_ta_a1 : ta ≠ a1) (ne_ta_vb : ta ≠ vb) (OL : Old Z Z.heap.size h0) (O2 : Sta Z Z.heap "java/lang/String" "COMPACT_STRINGS" "Z" (.int G1)) (P5 : ¬ (G1 = (0 : Int32))) (S0 : Exa Z h0 sa "java/lang/String") (S1 : Fld Z h0 sa "java/lang/String" "coder" "B" (.int 0)) (S2 : Fld Z h0 sa "java/lang/String" "value" "[B" (.ref ta)) (S3 : Arv Z h0 ta q .byte (1 : Int32) [(.int v0)] (.int 0)) (B0 : Exa Z h0 a1 "java/lang/StringBuilder") (B1 : Fld Z h0 a1 "java/lang/AbstractStringBuilder" "value" "[B" (.ref vb)) (B2 : Fld Z h0 a1 "java/lang/AbstractStringBuilder" "coder" "B" (.int 0)) (B3 : Fld Z h0 a1 "java/lang/AbstractStringBuilder" "count" "I" (.int 6)) (B4 : Arv Z h0 vb kv .byte (16 : Int32) [(.int 114), (.int 101), (.int 97), (.int 108), (.int 109), (.int 32), (.int 0), (.int 0), (.int 0), (.int 0), (.int 0), (.int 0), (.int 0), (.int 0), (.int 0), (.int 0)] (.int 0)) :
    MetFree l yM35 (head1 (Cond.code yM35 jdk_68_method_73_code 3 none :: ws) (⟨2, 0, 0, 55⟩ : Room)) (fun a U => a = #[(.ref a1), (.int 6), (.ref sa)] ∧ Z.Warmed39 U.vm ∧ U.heap = h0) (fun _ _ _ _ _ => True) (fun _ U o U' => ∃ v L, o = .returned v ∧ Q_rmPut1 Z a1 vb kv sa ta q G1 v0 h0 v U'.heap L ∧ FrameEnd U o U' L (⟨2, 0, 0, 55⟩ : Room).cells (⟨2, 0, 0, 55⟩ : Room).slots) := by
  refine MetFree.of_bodySF (plainFor_of_name (by first | (simp [plainName, overriddenIn]; done) | decide +kernel)) hisR ?_
  intro p e s m args below meth c s₁ Bd hml0 hP hK
  obtain ⟨rfl, hZ0', hh⟩ := hP
  have hx := Bd.exec
  have hby := Bd.bytes
  have hml : c.maxLocals = 3 := hml0
  have hZ0 : Z.Warmed39 s.vm := hZ0'
  have hown0 : s.vm.findClass "java/lang/AbstractStringBuilder" = some m.cls := findClass_of_methodNamed Bd.named
  have hnm := (name_of_methodNamed Bd.named Bd.method).1
  have hlk : meth.locks = false := Bd.notSynchronized
  have X0 : Stand p l e (⟨2, 0, 0, 55⟩ : Room) s m #[(.ref a1), (.int 6), (.ref sa)] below meth c s₁ [] 0 0 := Stand.of_body Bd
  have e0 : s₁.heap = h0 := by rw [← hh, Bd.state]; rfl
  have N0 := Fr.nil Z.heap.size
  have KP0 : Keep h0 h0 ([vb] : List Addr) := Keep.refl _ _
  show Go p e below (fun t o => ∃ v L, o = .returned v ∧ Q_rmPut1 Z a1 vb kv sa ta q G1 v0 h0 v t.heap L ∧ FrameEnd s o t L (⟨2, 0, 0, 55⟩ : Room).cells (⟨2, 0, 0, 55⟩ : Room).slots) (s₁.setTop (entryFrame m #[(.ref a1), (.int 6), (.ref sa)] 3))
  refine Go.on (w := s₁.setTop (mkF m 0 #[rv a1, iv 6, rv sa] [])) (fun t k => castTop (ef_rmPut1 m a1 (6 : Int32) sa) k) ?_
  have u_a1 : h0.size > a1 := B0.lt
  have u_vb : h0.size > vb := B4.lt
  have u_s : h0.size > sa := S0.lt
  have u_t : h0.size > ta := S3.lt
  obtain ⟨cq237, q237, q237'⟩ := B0.cell
  obtain ⟨v237, _, ⟨T237, L237, k237, n237⟩, -, X237, ⟨Lc237, hQ237, l237, y237, z237⟩, st237⟩ := X0.privateBack hx (y := yM36) hown0 (mvT hZ0 (w_232 hw)) (mvT hZ0 (w_233 hw)) (own_selN (mvT hZ0 (w_235 hw)) (Cond.privateMethod_at (mvP hZ0 (w_234 hw) (args := #[]))) (mvT hZ0 (w_233 hw)) (by decide)) (Cond.privateMethod_at (mvP hZ0 (w_234 hw) (args := #[]))) (mvT hZ0 (w_236 hw)) (by decide) (backOf (W := 0) (rmInf1 l Z a0 hw [] a1 sa G1 h0 OL O2 P5 B2 S0 S1) hZ0 (w_236 hw) (w_189 hw) (by decide) (by decide)) (g := (mkF m 2 #[rv a1, iv 6, rv sa] [(.ref sa), (.ref a1)])) rfl (by rw [hml]; rfl) (Steps.refl _) (a := a1) (by rw [e0]; exact q237) q237' (argsL := [(.ref sa)]) (rest := []) (lenOf pd_13 rfl) rfl (by show 2 * 0 + _ ≤ _; exact Nat.le_of_eq rfl) (hb hby d26_2) (fun _ _ => ⟨rfl, e0, (by decide : 0 + 0 ≤ _), (by decide : 0 + 0 ≤ _)⟩)
  dsimp only [Pt.U, Pt.locs, Pt.cells, Pt.slots] at X237 l237 y237 z237 st237 hQ237
  subst l237 y237 z237
  obtain ⟨rfl, Nq237, eh237⟩ := hQ237
  have N237 := Fr.app N0 Nq237
  obtain ⟨T238, X238, e238, st238⟩ := getF X237 hx hZ0 hown0 (host := "") (Or.inl (w_193 hw)) Via.refl eh237 B1 (g := (mkF m 7 #[rv a1, iv 6, rv sa] [(.ref a1), (.ref sa)])) rfl rfl (hb hby d26_7)
  obtain ⟨T239, X239, e239, st239⟩ := getF X238 hx hZ0 hown0 (host := "") (Or.inl (w_195 hw)) Via.refl e238 B2 (g := (mkF m 12 #[rv a1, iv 6, rv sa] [(.ref a1), (.int 6), (.ref vb), (.ref sa)])) rfl rfl (hb hby d26_12)
  obtain ⟨cq240, kq240, q240a, q240b, q240c⟩ := isOf hZ0 e239 S0
  obtain ⟨v240, _, ⟨T240, L240, k240, n240⟩, -, X240, ⟨Lc240, hQ240, l240, y240, z240⟩, st240⟩ := X239.virtualBack hx (y := yM37) (z := yM37) hown0 (mvT hZ0 (w_238 hw)) (mvT hZ0 (w_239 hw)) (notFace_of_selects (args := #[]) (mvT hZ0 (w_241 hw))) (mvT hZ0 (w_241 hw)) (mvT hZ0 (w_240 hw)) (by decide) (backOf (W := 0) (rmGb1 l Z a0 hw [] vb kv sa ta q G1 v0 h0 (by omega) (by omega) ne_sa_vb ne_ta_vb OL O2 P5 S0 S1 S2 S3 B4) hZ0 (w_242 hw) (w_3 hw) (by decide) (by decide)) q240a q240c (g := (mkF m 15 #[rv a1, iv 6, rv sa] [(.int 0), (.int 6), (.ref vb), (.ref sa)])) rfl (by rw [hml]; rfl) (Steps.refl _) (argsL := [(.ref vb), (.int 6), (.int 0)]) (rest := []) (lenOf pd_14 rfl) rfl (by show 2 * 0 + _ ≤ _; exact Nat.le_of_eq rfl) (hb hby d26_15) (fun _ _ => ⟨rfl, e239, (by decide : 0 + 0 ≤ _), (by decide : 0 + 0 ≤ _)⟩)
  dsimp only [Pt.U, Pt.locs, Pt.cells, Pt.slots] at X240 l240 y240 z240 st240 hQ240
  subst l240 y240 z240
  obtain ⟨rfl, Nq240, K240, f240_0⟩ := hQ240
  have N240 := Fr.app N237 Nq240
  have eK240 : T240.heap = T240.heap := rfl
  have z240 : h0.size ≤ T240.heap.size := K240.1
  have KP240 : Keep h0 T240.heap ([vb] : List Addr) := KP0.trans K240 (allS (P := fun zq => zq ∈ ([vb] : List Addr) ∨ h0.size ≤ zq) (Or.inl (List.mem_of_getElem? (i := 0) rfl)) all0)
  have F241 := (B0.keep K240)
  have F242 := (B1.keep K240 (ninS ne_a1_vb nin0))
  have F243 := (B2.keep K240 (ninS ne_a1_vb nin0))
  have F244 := (B3.keep K240 (ninS ne_a1_vb nin0))
  refine Go.on (w := T240.setTop (mkF m 18 #[rv a1, iv 6, rv sa] [])) (fun t k => XS.aloadN X0.here hx rfl (hb hby d26_0) rfl rfl (XS.aloadN X0.here hx rfl (hb hby d26_1) rfl rfl (st237.trans (XS.aloadN X237.here hx rfl (hb hby d26_5) rfl rfl (XS.aloadN X237.here hx rfl (hb hby d26_6) rfl rfl (st238 _ (XS.iloadN X238.here hx rfl (hb hby d26_10) rfl (XS.aloadN X238.here hx rfl (hb hby d26_11) rfl rfl (st239 _ (st240.trans k)))))))))) ?_
  refine Go.finH X240 hlk (v := none) (fun _ => rfl) (fun fs hr => ?_) (endH (Q := Q_rmPut1 Z a1 vb kv sa ta q G1 v0 h0) (by rw [eK240]; exact ⟨rfl, N240, KP240, F241, F242, F243, F244, f240_0⟩) (by decide) (by decide))
  exact X240.returnOut hx Bd.returns (hb hby d26_18) hr
def Q_rmApA1 (Z : State) (a1 : Addr) (vb : Addr) (kv : ClassId) (sa : Addr) (ta : Addr) (q : ClassId) (G1 : Int32) (v0 : Int32) (h0 : Heap) (vv : Option Value) (h : Heap) (L : List Loc) : Prop := vv = some (.ref a1) ∧ Fr Z.heap.size L ∧ Keep h0 h [a1, vb] ∧ Exa Z h a1 "java/lang/StringBuilder" ∧ Fld Z h a1 "java/lang/AbstractStringBuilder" "value" "[B" (.ref vb) ∧ Fld Z h a1 "java/lang/AbstractStringBuilder" "coder" "B" (.int 0) ∧ Fld Z h a1 "java/lang/AbstractStringBuilder" "count" "I" (.int 7) ∧ Arv Z h vb kv .byte (16 : Int32) [(.int 114), (.int 101), (.int 97), (.int 108), (.int 109), (.int 32), (.int v0), (.int 0), (.int 0), (.int 0), (.int 0), (.int 0), (.int 0), (.int 0), (.int 0), (.int 0)] (.int 0)
theorem ef_rmApA1 (m : MethodId) (x0 : Addr) (x1 : Addr)   : entryFrame m #[(.ref x0), (.ref x1)] 3 = mkF m 0 #[.val (.ref x0), .val (.ref x1), .unset] [] := rfl
theorem rmApA1 (l : Launch) (Z : State) (a0 : Array Value) (hw : HW a0 Z) (ws : List Cond) (a1 : Addr) (vb : Addr) (kv : ClassId) (sa : Addr) (ta : Addr) (q : ClassId) (G1 : Int32) (v0 : Int32) (h0 : Heap) (Z0 : Z.heap.size ≤ h0.size) (lo_a1 : Z.heap.size ≤ a1) (lo_vb : Z.heap.size ≤ vb) (ne_a1_vb : a1 ≠ vb) (ne_sa_a1 : sa ≠ a1) (ne_sa_vb : sa ≠ vb) (ne_ta_a1 : ta ≠ a1) (ne_ta_vb : ta ≠ vb) (OL : Old Z Z.heap.size h0) (O2 : Sta Z Z.heap "java/lang/String" "COMPACT_STRINGS" "Z" (.int G1)) (P5 : ¬ (G1 = (0 : Int32))) (S0 : Exa Z h0 sa "java/lang/String") (S1 : Fld Z h0 sa "java/lang/String" "coder" "B" (.int 0)) (S2 : Fld Z h0 sa "java/lang/String" "value" "[B" (.ref ta)) (S3 : Arv Z h0 ta q .byte (1 : Int32) [(.int v0)] (.int 0)) (B0 : Exa Z h0 a1 "java/lang/StringBuilder") (B1 : Fld Z h0 a1 "java/lang/AbstractStringBuilder" "value" "[B" (.ref vb)) (B2 : Fld Z h0 a1 "java/lang/AbstractStringBuilder" "coder" "B" (.int 0)) (B3 : Fld Z h0 a1 "java/lang/AbstractStringBuilder" "count" "I" (.int 6)) (B4 : Arv Z h0 vb kv .byte (16 : Int32) [(.int 114), (.int 101), (.int 97), (.int 108), (.int 109), (.int 32), (.int 0), (.int 0), (.int 0), (.int 0), (.int 0), (.int 0), (.int 0), (.int 0), (.int 0), (.int 0)] (.int 0)) :
    MetFree l yM31 (head1 (Cond.code yM31 jdk_68_method_22_code 3 (some (.object "java/lang/AbstractStringBuilder")) :: ws) (⟨3, 0, 0, 69⟩ : Room)) (fun a U => a = #[(.ref a1), (.ref sa)] ∧ Z.Warmed39 U.vm ∧ U.heap = h0) (fun _ _ _ _ _ => True) (fun _ U o U' => ∃ v L, o = .returned v ∧ Q_rmApA1 Z a1 vb kv sa ta q G1 v0 h0 v U'.heap L ∧ FrameEnd U o U' L (⟨3, 0, 0, 69⟩ : Room).cells (⟨3, 0, 0, 69⟩ : Room).slots) := by
  refine MetFree.of_bodySF (plainFor_of_name (by first | (simp [plainName, overriddenIn]; done) | decide +kernel)) hisR ?_
  intro p e s m args below meth c s₁ Bd hml0 hP hK
  obtain ⟨rfl, hZ0', hh⟩ := hP
  have hx := Bd.exec
  have hby := Bd.bytes
  have hml : c.maxLocals = 3 := hml0
  have hZ0 : Z.Warmed39 s.vm := hZ0'
  have hown0 : s.vm.findClass "java/lang/AbstractStringBuilder" = some m.cls := findClass_of_methodNamed Bd.named
  have hnm := (name_of_methodNamed Bd.named Bd.method).1
  have hlk : meth.locks = false := Bd.notSynchronized
  have X0 : Stand p l e (⟨3, 0, 0, 69⟩ : Room) s m #[(.ref a1), (.ref sa)] below meth c s₁ [] 0 0 := Stand.of_body Bd
  have e0 : s₁.heap = h0 := by rw [← hh, Bd.state]; rfl
  have N0 := Fr.nil Z.heap.size
  have KP0 : Keep h0 h0 ([a1, vb] : List Addr) := Keep.refl _ _
  show Go p e below (fun t o => ∃ v L, o = .returned v ∧ Q_rmApA1 Z a1 vb kv sa ta q G1 v0 h0 v t.heap L ∧ FrameEnd s o t L (⟨3, 0, 0, 69⟩ : Room).cells (⟨3, 0, 0, 69⟩ : Room).slots) (s₁.setTop (entryFrame m #[(.ref a1), (.ref sa)] 3))
  refine Go.on (w := s₁.setTop (mkF m 0 #[rv a1, rv sa, .unset] [])) (fun t k => castTop (ef_rmApA1 m a1 sa) k) ?_
  have u_a1 : h0.size > a1 := B0.lt
  have u_vb : h0.size > vb := B4.lt
  have u_s : h0.size > sa := S0.lt
  have u_t : h0.size > ta := S3.lt
  obtain ⟨cq245, kq245, q245a, q245b, q245c⟩ := isOf hZ0 e0 S0
  obtain ⟨v245, _, ⟨T245, L245, k245, n245⟩, -, X245, ⟨Lc245, hQ245, l245, y245, z245⟩, st245⟩ := X0.virtualBack hx (y := yM32) (z := yM32) hown0 (mvT hZ0 (w_210 hw)) (mvT hZ0 (w_211 hw)) (notFace_of_selects (args := #[]) (mvT hZ0 (w_213 hw))) (mvT hZ0 (w_213 hw)) (mvT hZ0 (w_212 hw)) (by decide) (backOf (W := 0) (rmLen1 l Z a0 hw [] sa ta q G1 v0 h0 OL O2 P5 S0 S1 S2 S3) hZ0 (w_214 hw) (w_3 hw) (by decide) (by decide)) q245a q245c (g := (mkF m 10 #[rv a1, rv sa, .unset] [(.ref sa)])) rfl (by rw [hml]; rfl) (Steps.refl _) (argsL := []) (rest := []) (lenOf pd_8 rfl) rfl (by show 2 * 0 + _ ≤ _; exact Nat.le_of_eq rfl) (hb hby d27_10) (fun _ _ => ⟨rfl, e0, (by decide : 0 + 0 ≤ _), (by decide : 0 + 0 ≤ _)⟩)
  dsimp only [Pt.U, Pt.locs, Pt.cells, Pt.slots] at X245 l245 y245 z245 st245 hQ245
  subst l245 y245 z245
  obtain ⟨rfl, Nq245, eh245⟩ := hQ245
  have N245 := Fr.app N0 Nq245
  obtain ⟨T246, X246, e246, st246⟩ := getF X245 hx hZ0 hown0 (host := "") (Or.inl (w_220 hw)) Via.refl eh245 B3 (g := (mkF m 16 #[rv a1, rv sa, iv 1] [(.ref a1), (.ref a1)])) rfl rfl (hb hby d27_16)
  refine Go.on (w := T246.setTop (mkF m 20 #[rv a1, rv sa, iv 1] [(.int 1), (.int 6), (.ref a1)])) (fun t k => XS.aloadN X0.here hx rfl (hb hby d27_0) rfl rfl (XS.ifnonnullYes X0.here hx rfl (pc0 := 1) (pc' := 9) rfl (hb hby d27_1) rfl (by decide) (by decide) (XS.aloadN X0.here hx rfl (hb hby d27_9) rfl rfl (st245.trans (XS.istoreN X245.here hx rfl (hb hby d27_13) rfl (l' := #[rv a1, rv sa, iv 1]) rfl (XS.aloadN X245.here hx rfl (hb hby d27_14) rfl rfl (XS.aloadN X245.here hx rfl (hb hby d27_15) rfl rfl (st246 _ (XS.iloadN X246.here hx rfl (hb hby d27_19) rfl k))))))))) ?_
  refine Go.on (w := T246.setTop (mkF m 21 #[rv a1, rv sa, iv 1] [(.int 7), (.ref a1)])) (fun t k => XS.iadd X246.here hx rfl (hb hby d27_20) rfl (by rw [(by decide : ((6 : Int32) + (1 : Int32)) = (7 : Int32))]; exact k)) ?_
  obtain ⟨cq247, q247, q247'⟩ := B0.cell
  obtain ⟨v247, _, ⟨T247, L247, k247, n247⟩, -, X247, ⟨Lc247, hQ247, l247, y247, z247⟩, st247⟩ := X246.privateBack hx (y := yM34) hown0 (mvT hZ0 (w_222 hw)) (mvT hZ0 (w_223 hw)) (own_selN (mvT hZ0 (w_225 hw)) (Cond.privateMethod_at (mvP hZ0 (w_224 hw) (args := #[]))) (mvT hZ0 (w_223 hw)) (by decide)) (Cond.privateMethod_at (mvP hZ0 (w_224 hw) (args := #[]))) (mvT hZ0 (w_226 hw)) (by decide) (backOf (W := 0) (rmEns1 l Z a0 hw [] a1 vb kv v0 h0 B1 B2 B4) hZ0 (w_226 hw) (w_189 hw) (by decide) (by decide)) (g := (mkF m 21 #[rv a1, rv sa, iv 1] [(.int 7), (.ref a1)])) rfl (by rw [hml]; rfl) (Steps.refl _) (a := a1) (by rw [e246]; exact q247) q247' (argsL := [(.int 7)]) (rest := []) (lenOf pd_11 rfl) rfl (by show 2 * 0 + _ ≤ _; exact Nat.le_of_eq rfl) (hb hby d27_21) (fun _ _ => ⟨rfl, e246, (by decide : 0 + 0 ≤ _), (by decide : 0 + 0 ≤ _)⟩)
  dsimp only [Pt.U, Pt.locs, Pt.cells, Pt.slots] at X247 l247 y247 z247 st247 hQ247
  subst l247 y247 z247
  obtain ⟨rfl, Nq247, eh247⟩ := hQ247
  have N247 := Fr.app N245 Nq247
  obtain ⟨T248, X248, e248, st248⟩ := getF X247 hx hZ0 hown0 (host := "") (Or.inl (w_220 hw)) Via.refl eh247 B3 (g := (mkF m 26 #[rv a1, rv sa, iv 1] [(.ref a1), (.ref a1)])) rfl rfl (hb hby d27_26)
  obtain ⟨cq249, q249, q249'⟩ := B0.cell
  obtain ⟨v249, _, ⟨T249, L249, k249, n249⟩, -, X249, ⟨Lc249, hQ249, l249, y249, z249⟩, st249⟩ := X248.privateBack hx (y := yM35) hown0 (mvT hZ0 (w_227 hw)) (mvT hZ0 (w_228 hw)) (own_selN (mvT hZ0 (w_230 hw)) (Cond.privateMethod_at (mvP hZ0 (w_229 hw) (args := #[]))) (mvT hZ0 (w_228 hw)) (by decide)) (Cond.privateMethod_at (mvP hZ0 (w_229 hw) (args := #[]))) (mvT hZ0 (w_231 hw)) (by decide) (backOf (W := 0) (rmPut1 l Z a0 hw [] a1 vb kv sa ta q G1 v0 h0 (by omega) (by omega) (by omega) ne_a1_vb ne_sa_a1 ne_sa_vb ne_ta_a1 ne_ta_vb OL O2 P5 S0 S1 S2 S3 B0 B1 B2 B3 B4) hZ0 (w_231 hw) (w_189 hw) (by decide) (by decide)) (g := (mkF m 30 #[rv a1, rv sa, iv 1] [(.ref sa), (.int 6), (.ref a1)])) rfl (by rw [hml]; rfl) (Steps.refl _) (a := a1) (by rw [e248]; exact q249) q249' (argsL := [(.int 6), (.ref sa)]) (rest := []) (lenOf pd_15 rfl) rfl (by show 2 * 0 + _ ≤ _; exact Nat.le_of_eq rfl) (hb hby d27_30) (fun _ _ => ⟨rfl, e248, (by decide : 0 + 0 ≤ _), (by decide : 0 + 0 ≤ _)⟩)
  dsimp only [Pt.U, Pt.locs, Pt.cells, Pt.slots] at X249 l249 y249 z249 st249 hQ249
  subst l249 y249 z249
  obtain ⟨rfl, Nq249, K249, f249_0, f249_1, f249_2, f249_3, f249_4⟩ := hQ249
  have N249 := Fr.app N247 Nq249
  have eK249 : T249.heap = T249.heap := rfl
  have z249 : h0.size ≤ T249.heap.size := K249.1
  have KP249 : Keep h0 T249.heap ([a1, vb] : List Addr) := KP0.trans K249 (allS (P := fun zq => zq ∈ ([a1, vb] : List Addr) ∨ h0.size ≤ zq) (Or.inl (List.mem_of_getElem? (i := 1) rfl)) all0)
  obtain ⟨T250, X250, e250, st250⟩ := getF X249 hx hZ0 hown0 (host := "") (Or.inl (w_220 hw)) Via.refl eK249 f249_3 (g := (mkF m 35 #[rv a1, rv sa, iv 1] [(.ref a1), (.ref a1)])) rfl rfl (hb hby d27_35)
  refine Go.on (w := T250.setTop (mkF m 39 #[rv a1, rv sa, iv 1] [(.int 1), (.int 6), (.ref a1)])) (fun t k => st247.trans (XS.aloadN X247.here hx rfl (hb hby d27_24) rfl rfl (XS.aloadN X247.here hx rfl (hb hby d27_25) rfl rfl (st248 _ (XS.aloadN X248.here hx rfl (hb hby d27_29) rfl rfl (st249.trans (XS.aloadN X249.here hx rfl (hb hby d27_33) rfl rfl (XS.dup X249.here hx rfl (hb hby d27_34) rfl rfl (st250 _ (XS.iloadN X250.here hx rfl (hb hby d27_38) rfl k)))))))))) ?_
  refine Go.on (w := T250.setTop (mkF m 40 #[rv a1, rv sa, iv 1] [(.int 7), (.ref a1)])) (fun t k => XS.iadd X250.here hx rfl (hb hby d27_39) rfl (by rw [(by decide : ((6 : Int32) + (1 : Int32)) = (7 : Int32))]; exact k)) ?_
  obtain ⟨T251, h251, X251, e251, W251, st251⟩ := putF X250 hx hZ0 hown0 (host := "") (Or.inl (w_220 hw)) Via.refl e250 f249_3 f249_0 (Or.inl (w_221 hw)) (w_180 hw) (ty := .int) (by decide) rfl rfl (g := (mkF m 40 #[rv a1, rv sa, iv 1] [(.int 7), (.ref a1)])) rfl rfl (hb hby d27_40)
  have z251 : T249.heap.size ≤ h251.size := Nat.le_of_eq W251.size.symm
  have KP251 : Keep h0 h251 ([a1, vb] : List Addr) := KP249.wr W251 (Or.inl (List.mem_of_getElem? (i := 0) rfl))
  have N251 := Fr.snoc X251 N249 (by omega)
  have Fw251 := f249_3.same W251
  have F252 := (f249_0.wr W251)
  have F253 := (f249_1.other W251 (Or.inr (slot_ne (Or.inl (w_194 hw)) (Or.inl (w_221 hw)) (by decide) (t := (.array .byte)) (t' := .int) (by decide) (by decide))))
  have F254 := (f249_2.other W251 (Or.inr (slot_ne (Or.inl (w_196 hw)) (Or.inl (w_221 hw)) (by decide) (t := .byte) (t' := .int) (by decide) (by decide))))
  have F255 := (f249_4.other W251 (Ne.symm ne_a1_vb))
  refine Go.on (w := T251.setTop (mkF m 44 #[rv a1, rv sa, iv 1] [(.ref a1)])) (fun t k => st251 _ (XS.aloadN X251.here hx rfl (hb hby d27_43) rfl rfl k)) ?_
  refine Go.finH X251 hlk (v := some (.ref a1)) (fun h => by rw [Bd.returns] at h; cases h) (fun fs hr => ?_) (endH (Q := Q_rmApA1 Z a1 vb kv sa ta q G1 v0 h0) (by rw [e251]; exact ⟨rfl, N251, KP251, F252, F253, F254, Fw251, F255⟩) (by decide) (by decide))
  exact retOut X251 hx Bd.returns rfl (Or.inr (Or.inr (Or.inr (Or.inr ⟨rfl, rfl, rfl⟩)))) (hb hby d27_44) hr
def Q_rmApB1 (Z : State) (a1 : Addr) (vb : Addr) (kv : ClassId) (sa : Addr) (ta : Addr) (q : ClassId) (G1 : Int32) (v0 : Int32) (h0 : Heap) (vv : Option Value) (h : Heap) (L : List Loc) : Prop := vv = some (.ref a1) ∧ Fr Z.heap.size L ∧ Keep h0 h [a1, vb] ∧ Exa Z h a1 "java/lang/StringBuilder" ∧ Fld Z h a1 "java/lang/AbstractStringBuilder" "value" "[B" (.ref vb) ∧ Fld Z h a1 "java/lang/AbstractStringBuilder" "coder" "B" (.int 0) ∧ Fld Z h a1 "java/lang/AbstractStringBuilder" "count" "I" (.int 7) ∧ Arv Z h vb kv .byte (16 : Int32) [(.int 114), (.int 101), (.int 97), (.int 108), (.int 109), (.int 32), (.int v0), (.int 0), (.int 0), (.int 0), (.int 0), (.int 0), (.int 0), (.int 0), (.int 0), (.int 0)] (.int 0)
theorem ef_rmApB1 (m : MethodId) (x0 : Addr) (x1 : Addr)   : entryFrame m #[(.ref x0), (.ref x1)] 2 = mkF m 0 #[.val (.ref x0), .val (.ref x1)] [] := rfl
theorem rmApB1 (l : Launch) (Z : State) (a0 : Array Value) (hw : HW a0 Z) (ws : List Cond) (a1 : Addr) (vb : Addr) (kv : ClassId) (sa : Addr) (ta : Addr) (q : ClassId) (G1 : Int32) (v0 : Int32) (h0 : Heap) (Z0 : Z.heap.size ≤ h0.size) (lo_a1 : Z.heap.size ≤ a1) (lo_vb : Z.heap.size ≤ vb) (ne_a1_vb : a1 ≠ vb) (ne_sa_a1 : sa ≠ a1) (ne_sa_vb : sa ≠ vb) (ne_ta_a1 : ta ≠ a1) (ne_ta_vb : ta ≠ vb) (OL : Old Z Z.heap.size h0) (O2 : Sta Z Z.heap "java/lang/String" "COMPACT_STRINGS" "Z" (.int G1)) (P5 : ¬ (G1 = (0 : Int32))) (S0 : Exa Z h0 sa "java/lang/String") (S1 : Fld Z h0 sa "java/lang/String" "coder" "B" (.int 0)) (S2 : Fld Z h0 sa "java/lang/String" "value" "[B" (.ref ta)) (S3 : Arv Z h0 ta q .byte (1 : Int32) [(.int v0)] (.int 0)) (B0 : Exa Z h0 a1 "java/lang/StringBuilder") (B1 : Fld Z h0 a1 "java/lang/AbstractStringBuilder" "value" "[B" (.ref vb)) (B2 : Fld Z h0 a1 "java/lang/AbstractStringBuilder" "coder" "B" (.int 0)) (B3 : Fld Z h0 a1 "java/lang/AbstractStringBuilder" "count" "I" (.int 6)) (B4 : Arv Z h0 vb kv .byte (16 : Int32) [(.int 114), (.int 101), (.int 97), (.int 108), (.int 109), (.int 32), (.int 0), (.int 0), (.int 0), (.int 0), (.int 0), (.int 0), (.int 0), (.int 0), (.int 0), (.int 0)] (.int 0)) :
    MetFree l yM30 (head1 (Cond.code yM30 jdk_67_method_7_code 2 (some (.object "java/lang/StringBuilder")) :: ws) (⟨4, 0, 0, 83⟩ : Room)) (fun a U => a = #[(.ref a1), (.ref sa)] ∧ Z.Warmed39 U.vm ∧ U.heap = h0) (fun _ _ _ _ _ => True) (fun _ U o U' => ∃ v L, o = .returned v ∧ Q_rmApB1 Z a1 vb kv sa ta q G1 v0 h0 v U'.heap L ∧ FrameEnd U o U' L (⟨4, 0, 0, 83⟩ : Room).cells (⟨4, 0, 0, 83⟩ : Room).slots) := by
  refine MetFree.of_bodySF (plainFor_of_name (by first | (simp [plainName, overriddenIn]; done) | decide +kernel)) hisR ?_
  intro p e s m args below meth c s₁ Bd hml0 hP hK
  obtain ⟨rfl, hZ0', hh⟩ := hP
  have hx := Bd.exec
  have hby := Bd.bytes
  have hml : c.maxLocals = 2 := hml0
  have hZ0 : Z.Warmed39 s.vm := hZ0'
  have hown0 : s.vm.findClass "java/lang/StringBuilder" = some m.cls := findClass_of_methodNamed Bd.named
  have hnm := (name_of_methodNamed Bd.named Bd.method).1
  have hlk : meth.locks = false := Bd.notSynchronized
  have X0 : Stand p l e (⟨4, 0, 0, 83⟩ : Room) s m #[(.ref a1), (.ref sa)] below meth c s₁ [] 0 0 := Stand.of_body Bd
  have e0 : s₁.heap = h0 := by rw [← hh, Bd.state]; rfl
  have N0 := Fr.nil Z.heap.size
  have KP0 : Keep h0 h0 ([a1, vb] : List Addr) := Keep.refl _ _
  show Go p e below (fun t o => ∃ v L, o = .returned v ∧ Q_rmApB1 Z a1 vb kv sa ta q G1 v0 h0 v t.heap L ∧ FrameEnd s o t L (⟨4, 0, 0, 83⟩ : Room).cells (⟨4, 0, 0, 83⟩ : Room).slots) (s₁.setTop (entryFrame m #[(.ref a1), (.ref sa)] 2))
  refine Go.on (w := s₁.setTop (mkF m 0 #[rv a1, rv sa] [])) (fun t k => castTop (ef_rmApB1 m a1 sa) k) ?_
  have u_a1 : h0.size > a1 := B0.lt
  have u_vb : h0.size > vb := B4.lt
  have u_s : h0.size > sa := S0.lt
  have u_t : h0.size > ta := S3.lt
  obtain ⟨v256, _, ⟨T256, L256, k256, n256⟩, -, X256, ⟨Lc256, hQ256, l256, y256, z256⟩, st256⟩ := superBack X0 hx hZ0 (y := yM31) hown0 (w_205 hw) (own_same (y := yM31) (w_206 hw) (w_225 hw) rfl (by decide)) (w_206 hw) (w_207 hw) (by decide) (backOf (W := 0) (rmApA1 l Z a0 hw [] a1 vb kv sa ta q G1 v0 h0 (by omega) (by omega) (by omega) ne_a1_vb ne_sa_a1 ne_sa_vb ne_ta_a1 ne_ta_vb OL O2 P5 S0 S1 S2 S3 B0 B1 B2 B3 B4) hZ0 (w_209 hw) (w_189 hw) (by decide) (by decide)) e0 (Ins.self B0) (g := (mkF m 2 #[rv a1, rv sa] [(.ref sa), (.ref a1)])) rfl (by rw [hml]; rfl) (w_209 hw) (argsL := [(.ref sa)]) (rest := []) (lenOf pd_16 rfl) rfl (by show 2 * 0 + _ ≤ _; exact Nat.le_of_eq rfl) (hb hby d28_2) (fun _ _ => ⟨rfl, e0, (by decide : 0 + 0 ≤ _), (by decide : 0 + 0 ≤ _)⟩)
  dsimp only [Pt.U, Pt.locs, Pt.cells, Pt.slots] at X256 l256 y256 z256 st256 hQ256
  subst l256 y256 z256
  obtain ⟨rfl, Nq256, K256, f256_0, f256_1, f256_2, f256_3, f256_4⟩ := hQ256
  have N256 := Fr.app N0 Nq256
  have eK256 : T256.heap = T256.heap := rfl
  have z256 : h0.size ≤ T256.heap.size := K256.1
  have KP256 : Keep h0 T256.heap ([a1, vb] : List Addr) := KP0.trans K256 (allS (P := fun zq => zq ∈ ([a1, vb] : List Addr) ∨ h0.size ≤ zq) (Or.inl (List.mem_of_getElem? (i := 0) rfl)) (allS (P := fun zq => zq ∈ ([a1, vb] : List Addr) ∨ h0.size ≤ zq) (Or.inl (List.mem_of_getElem? (i := 1) rfl)) all0))
  refine Go.on (w := T256.setTop (mkF m 7 #[rv a1, rv sa] [(.ref a1)])) (fun t k => XS.aloadN X0.here hx rfl (hb hby d28_0) rfl rfl (XS.aloadN X0.here hx rfl (hb hby d28_1) rfl rfl (st256.trans (XS.pop X256.here hx rfl (hb hby d28_5) rfl rfl (XS.aloadN X256.here hx rfl (hb hby d28_6) rfl rfl k))))) ?_
  refine Go.finH X256 hlk (v := some (.ref a1)) (fun h => by rw [Bd.returns] at h; cases h) (fun fs hr => ?_) (endH (Q := Q_rmApB1 Z a1 vb kv sa ta q G1 v0 h0) (by rw [eK256]; exact ⟨rfl, N256, KP256, f256_0, f256_1, f256_2, f256_3, f256_4⟩) (by decide) (by decide))
  exact retOut X256 hx Bd.returns rfl (Or.inr (Or.inr (Or.inr (Or.inr ⟨rfl, rfl, rfl⟩)))) (hb hby d28_7) hr
def Q_rmASi (Z : State) (a1 : Addr) (G1 : Int32) (h0 : Heap) (vv : Option Value) (h : Heap) (L : List Loc) : Prop := ∃ (vb : Addr) (kv : ClassId), vv = none ∧ Fr Z.heap.size L ∧ Keep h0 h [a1] ∧ (h0.size ≤ vb) ∧ Exa Z h a1 "java/lang/StringBuilder" ∧ Fld Z h a1 "java/lang/AbstractStringBuilder" "value" "[B" (.ref vb) ∧ Fld Z h a1 "java/lang/AbstractStringBuilder" "coder" "B" (.int 0) ∧ Fld Z h a1 "java/lang/AbstractStringBuilder" "count" "I" (.int 0) ∧ Arv Z h vb kv .byte (16 : Int32) [(.int 0), (.int 0), (.int 0), (.int 0), (.int 0), (.int 0), (.int 0), (.int 0), (.int 0), (.int 0), (.int 0), (.int 0), (.int 0), (.int 0), (.int 0), (.int 0)] (.int 0)
theorem ef_rmASi (m : MethodId) (x0 : Addr) (x1 : Int32)   : entryFrame m #[(.ref x0), (.int x1)] 2 = mkF m 0 #[.val (.ref x0), .val (.int x1)] [] := rfl
theorem rmASi (l : Launch) (Z : State) (a0 : Array Value) (hw : HW a0 Z) (ws : List Cond) (a1 : Addr) (G1 : Int32) (h0 : Heap) (Z0 : Z.heap.size ≤ h0.size) (OL : Old Z Z.heap.size h0) (O2 : Sta Z Z.heap "java/lang/String" "COMPACT_STRINGS" "Z" (.int G1)) (P5 : ¬ (G1 = (0 : Int32))) (lo_a1 : Z.heap.size ≤ a1) (E_a1 : Exa Z h0 a1 "java/lang/StringBuilder") (Fv : Fld Z h0 a1 "java/lang/AbstractStringBuilder" "value" "[B" .null) (Fc : Fld Z h0 a1 "java/lang/AbstractStringBuilder" "coder" "B" (.int 0)) (Fn : Fld Z h0 a1 "java/lang/AbstractStringBuilder" "count" "I" (.int 0)) :
    MetFree l yM29 (head1 (Cond.code yM29 jdk_68_method_2_code 2 none :: ws) (⟨1, 1, 16, 12⟩ : Room)) (fun a U => a = #[(.ref a1), (.int 16)] ∧ Z.Warmed39 U.vm ∧ U.heap = h0) (fun _ _ _ _ _ => True) (fun _ U o U' => ∃ v L, o = .returned v ∧ Q_rmASi Z a1 G1 h0 v U'.heap L ∧ FrameEnd U o U' L (⟨1, 1, 16, 12⟩ : Room).cells (⟨1, 1, 16, 12⟩ : Room).slots) := by
  refine MetFree.of_bodySF (plainFor_of_name (by first | (simp [plainName, overriddenIn]; done) | decide +kernel)) hisR ?_
  intro p e s m args below meth c s₁ Bd hml0 hP hK
  obtain ⟨rfl, hZ0', hh⟩ := hP
  have hx := Bd.exec
  have hby := Bd.bytes
  have hml : c.maxLocals = 2 := hml0
  have hZ0 : Z.Warmed39 s.vm := hZ0'
  have hown0 : s.vm.findClass "java/lang/AbstractStringBuilder" = some m.cls := findClass_of_methodNamed Bd.named
  have hnm := (name_of_methodNamed Bd.named Bd.method).1
  have hlk : meth.locks = false := Bd.notSynchronized
  have X0 : Stand p l e (⟨1, 1, 16, 12⟩ : Room) s m #[(.ref a1), (.int 16)] below meth c s₁ [] 0 0 := Stand.of_body Bd
  have e0 : s₁.heap = h0 := by rw [← hh, Bd.state]; rfl
  have N0 := Fr.nil Z.heap.size
  have KP0 : Keep h0 h0 ([a1] : List Addr) := Keep.refl _ _
  show Go p e below (fun t o => ∃ v L, o = .returned v ∧ Q_rmASi Z a1 G1 h0 v t.heap L ∧ FrameEnd s o t L (⟨1, 1, 16, 12⟩ : Room).cells (⟨1, 1, 16, 12⟩ : Room).slots) (s₁.setTop (entryFrame m #[(.ref a1), (.int 16)] 2))
  refine Go.on (w := s₁.setTop (mkF m 0 #[rv a1, iv 16] [])) (fun t k => castTop (ef_rmASi m a1 (16 : Int32)) k) ?_
  have u_a1 : h0.size > a1 := E_a1.lt
  obtain ⟨T257, X257, e257, st257⟩ := initO X0 hx hZ0 hown0 (w_191 hw) (w_12 hw) (w_13 hw) e0 (g := (mkF m 1 #[rv a1, iv 16] [(.ref a1)])) rfl (by rw [hml]; rfl) rfl (hb hby d29_1) (by decide) (W := 0) (by show 2 * 0 + _ ≤ _; exact Nat.le_of_eq rfl) (by decide)
  obtain ⟨T258, X258, e258, st258⟩ := getS2 X257 hx hZ0 hown0 (host := "") (Or.inl (w_192 hw)) Via.refl e257 (O2.ext OL.2) (g := (mkF m 4 #[rv a1, iv 16] [])) rfl (hb hby d29_4)
  obtain ⟨T259, h259, k259, X259, e259, E259, A259, Ex259, st259⟩ := newPE (aty := .byte) X258 hx hZ0 (w_19 hw) e258 (g := (mkF m 12 #[rv a1, iv 16] [(.int 16), (.ref a1)])) rfl (hb hby d29_12) rfl (by decide : ¬ ((16 : Int32) < (0 : Int32))) (cap := 16) (by decide) (by decide) (by decide) (by decide) (ad := "[B") (by decide)
  obtain ⟨b259, g259⟩ : ∃ z, z = h0.size := ⟨_, rfl⟩
  rw [← g259] at A259 st259 Ex259
  have V259 : Arv Z h259 b259 k259 .byte (16 : Int32) [(.int 0), (.int 0), (.int 0), (.int 0), (.int 0), (.int 0), (.int 0), (.int 0), (.int 0), (.int 0), (.int 0), (.int 0), (.int 0), (.int 0), (.int 0), (.int 0)] (.int 0) := (Arv.new A259 (by decide : ¬ ((16 : Int32) < (0 : Int32)))).pad (pad_rep [] (.int 0) 16)
  have u259 : h259.size > b259 := V259.lt
  have z259 : h0.size ≤ h259.size := E259.1
  have KP259 : Keep h0 h259 ([a1] : List Addr) := KP0.ext E259
  have F260 := (E_a1.ext E259)
  have F261 := (Fv.ext E259)
  obtain ⟨T262, h262, X262, e262, W262, st262⟩ := putF X259 hx hZ0 hown0 (host := "") (Or.inl (w_193 hw)) Via.refl e259 F261 F260 (Or.inl (w_194 hw)) (w_180 hw) (ty := (.array .byte)) (by decide) rfl rfl (g := (mkF m 14 #[rv a1, iv 16] [(.ref b259), (.ref a1)])) rfl rfl (hb hby d29_14)
  have z262 : h259.size ≤ h262.size := Nat.le_of_eq W262.size.symm
  have KP262 : Keep h0 h262 ([a1] : List Addr) := KP259.wr W262 (Or.inl (List.mem_of_getElem? (i := 0) rfl))
  have N262 := Fr.snoc X262 N0 (by omega)
  have Fw262 := F261.same W262
  have F263 := (F260.wr W262)
  have F264 := ((Fc.ext E259).other W262 (Or.inr (slot_ne (Or.inl (w_196 hw)) (Or.inl (w_194 hw)) (by decide) (t := .byte) (t' := (.array .byte)) (by decide) (by decide))))
  obtain ⟨T265, h265, X265, e265, W265, st265⟩ := putFN X262 hx hZ0 hown0 (w_195 hw) Via.refl e262 F264 F263 (Or.inl (w_196 hw)) (w_180 hw) (ty := .byte) (v' := (.int 0)) (by decide) rfl rfl (g := (mkF m 19 #[rv a1, iv 16] [(.int 0), (.ref a1)])) rfl rfl (hb hby d29_19)
  have z265 : h262.size ≤ h265.size := Nat.le_of_eq W265.size.symm
  have KP265 : Keep h0 h265 ([a1] : List Addr) := KP262.wr W265 (Or.inl (List.mem_of_getElem? (i := 0) rfl))
  have N265 := Fr.snoc X265 N262 (by omega)
  have Fw265 := F264.same W265
  have F266 := (F263.wr W265)
  have F267 := (Fw262.other W265 (Or.inr (slot_ne (Or.inl (w_194 hw)) (Or.inl (w_196 hw)) (by decide) (t := (.array .byte)) (t' := .byte) (by decide) (by decide))))
  have F268 := (((Fn.ext E259).other W262 (Or.inr (slot_ne (Or.inl (w_221 hw)) (Or.inl (w_194 hw)) (by decide) (t := .int) (t' := (.array .byte)) (by decide) (by decide)))).other W265 (Or.inr (slot_ne (Or.inl (w_221 hw)) (Or.inl (w_196 hw)) (by decide) (t := .int) (t' := .byte) (by decide) (by decide))))
  have F269 := ((V259.other W262 (show @Ne Nat b259 a1 by omega)).other W265 (show @Ne Nat b259 a1 by omega))
  refine Go.on (w := T265.setTop (mkF m 38 #[rv a1, iv 16] [])) (fun t k => XS.aloadN X0.here hx rfl (hb hby d29_0) rfl rfl (st257 _ (st258 _ (XS.ifNo X258.here hx rfl (hb hby d29_7) rfl ((if0 _ _).trans (feq P5).1) (XS.aloadN X258.here hx rfl (hb hby d29_10) rfl rfl (XS.iloadN X258.here hx rfl (hb hby d29_11) rfl (st259 _ (st262 _ (XS.aloadN X262.here hx rfl (hb hby d29_17) rfl rfl (XS.iconst X262.here hx rfl (hb hby d29_18) (st265 _ (XS.goto X265.here hx rfl (pc0 := 22) (pc' := 38) rfl (hb hby d29_22) (by decide) (by decide) k)))))))))))) ?_
  refine Go.finH X265 hlk (v := none) (fun _ => rfl) (fun fs hr => ?_) (endH (Q := Q_rmASi Z a1 G1 h0) (by rw [e265]; exact ⟨b259, k259, rfl, N265, KP265, (by omega), F266, F267, Fw265, F268, F269⟩) (by decide) (by decide))
  exact X265.returnOut hx Bd.returns (hb hby d29_38) hr
def Q_rmSBi (Z : State) (a1 : Addr) (G1 : Int32) (h0 : Heap) (vv : Option Value) (h : Heap) (L : List Loc) : Prop := ∃ (vb : Addr) (kv : ClassId), vv = none ∧ Fr Z.heap.size L ∧ Keep h0 h [a1] ∧ (h0.size ≤ vb) ∧ Exa Z h a1 "java/lang/StringBuilder" ∧ Fld Z h a1 "java/lang/AbstractStringBuilder" "value" "[B" (.ref vb) ∧ Fld Z h a1 "java/lang/AbstractStringBuilder" "coder" "B" (.int 0) ∧ Fld Z h a1 "java/lang/AbstractStringBuilder" "count" "I" (.int 0) ∧ Arv Z h vb kv .byte (16 : Int32) [(.int 0), (.int 0), (.int 0), (.int 0), (.int 0), (.int 0), (.int 0), (.int 0), (.int 0), (.int 0), (.int 0), (.int 0), (.int 0), (.int 0), (.int 0), (.int 0)] (.int 0)
theorem ef_rmSBi (m : MethodId) (x0 : Addr)   : entryFrame m #[(.ref x0)] 1 = mkF m 0 #[.val (.ref x0)] [] := rfl
theorem rmSBi (l : Launch) (Z : State) (a0 : Array Value) (hw : HW a0 Z) (ws : List Cond) (a1 : Addr) (G1 : Int32) (h0 : Heap) (Z0 : Z.heap.size ≤ h0.size) (OL : Old Z Z.heap.size h0) (O2 : Sta Z Z.heap "java/lang/String" "COMPACT_STRINGS" "Z" (.int G1)) (P5 : ¬ (G1 = (0 : Int32))) (lo_a1 : Z.heap.size ≤ a1) (E_a1 : Exa Z h0 a1 "java/lang/StringBuilder") (Fv : Fld Z h0 a1 "java/lang/AbstractStringBuilder" "value" "[B" .null) (Fc : Fld Z h0 a1 "java/lang/AbstractStringBuilder" "coder" "B" (.int 0)) (Fn : Fld Z h0 a1 "java/lang/AbstractStringBuilder" "count" "I" (.int 0)) :
    MetFree l yM28 (head1 (Cond.code yM28 jdk_67_method_1_code 1 none :: ws) (⟨2, 1, 16, 25⟩ : Room)) (fun a U => a = #[(.ref a1)] ∧ Z.Warmed39 U.vm ∧ U.heap = h0) (fun _ _ _ _ _ => True) (fun _ U o U' => ∃ v L, o = .returned v ∧ Q_rmSBi Z a1 G1 h0 v U'.heap L ∧ FrameEnd U o U' L (⟨2, 1, 16, 25⟩ : Room).cells (⟨2, 1, 16, 25⟩ : Room).slots) := by
  refine MetFree.of_bodySF (plainFor_of_name (by first | (simp [plainName, overriddenIn]; done) | decide +kernel)) hisR ?_
  intro p e s m args below meth c s₁ Bd hml0 hP hK
  obtain ⟨rfl, hZ0', hh⟩ := hP
  have hx := Bd.exec
  have hby := Bd.bytes
  have hml : c.maxLocals = 1 := hml0
  have hZ0 : Z.Warmed39 s.vm := hZ0'
  have hown0 : s.vm.findClass "java/lang/StringBuilder" = some m.cls := findClass_of_methodNamed Bd.named
  have hnm := (name_of_methodNamed Bd.named Bd.method).1
  have hlk : meth.locks = false := Bd.notSynchronized
  have X0 : Stand p l e (⟨2, 1, 16, 25⟩ : Room) s m #[(.ref a1)] below meth c s₁ [] 0 0 := Stand.of_body Bd
  have e0 : s₁.heap = h0 := by rw [← hh, Bd.state]; rfl
  have N0 := Fr.nil Z.heap.size
  have KP0 : Keep h0 h0 ([a1] : List Addr) := Keep.refl _ _
  show Go p e below (fun t o => ∃ v L, o = .returned v ∧ Q_rmSBi Z a1 G1 h0 v t.heap L ∧ FrameEnd s o t L (⟨2, 1, 16, 25⟩ : Room).cells (⟨2, 1, 16, 25⟩ : Room).slots) (s₁.setTop (entryFrame m #[(.ref a1)] 1))
  refine Go.on (w := s₁.setTop (mkF m 0 #[rv a1] [])) (fun t k => castTop (ef_rmSBi m a1) k) ?_
  have u_a1 : h0.size > a1 := E_a1.lt
  obtain ⟨v270, _, ⟨T270, L270, k270, n270⟩, -, X270, ⟨Lc270, hQ270, l270, y270, z270⟩, st270⟩ := X0.specialBack hx (y := yM29) rfl hown0 (mvT hZ0 (w_185 hw)) (mvT hZ0 (w_186 hw)) (mvT hZ0 (w_190 hw)) (by decide) (backOf (W := 0) (rmASi l Z a0 hw [] a1 G1 h0 (by omega) OL O2 P5 (by omega) E_a1 Fv Fc Fn) hZ0 (w_190 hw) (w_189 hw) (by decide) (by decide)) (g := (mkF m 3 #[rv a1] [(.int 16), (.ref a1)])) rfl (by rw [hml]; rfl) (Steps.refl _) (a := a1) (argsL := [(.int 16)]) (rest := []) (lenOf pd_11 rfl) rfl (by show 2 * 0 + _ ≤ _; exact Nat.le_of_eq rfl) (hb hby d30_3) (fun _ _ => ⟨rfl, e0, (by decide : 0 + 1 ≤ _), (by decide : 0 + 16 ≤ _)⟩)
  dsimp only [Pt.U, Pt.locs, Pt.cells, Pt.slots] at X270 l270 y270 z270 st270 hQ270
  subst l270 y270 z270
  obtain ⟨vb_270, kv_270, rfl, Nq270, K270, f270_0, f270_1, f270_2, f270_3, f270_4, f270_5⟩ := hQ270
  have N270 := Fr.app N0 Nq270
  have eK270 : T270.heap = T270.heap := rfl
  have z270 : h0.size ≤ T270.heap.size := K270.1
  have KP270 : Keep h0 T270.heap ([a1] : List Addr) := KP0.trans K270 (allS (P := fun zq => zq ∈ ([a1] : List Addr) ∨ h0.size ≤ zq) (Or.inl (List.mem_of_getElem? (i := 0) rfl)) all0)
  have u270_5 : T270.heap.size > vb_270 := f270_5.lt
  refine Go.on (w := T270.setTop (mkF m 6 #[rv a1] [])) (fun t k => XS.aloadN X0.here hx rfl (hb hby d30_0) rfl rfl (XS.bipush X0.here hx rfl (hb hby d30_1) (st270.trans k))) ?_
  refine Go.finH X270 hlk (v := none) (fun _ => rfl) (fun fs hr => ?_) (endH (Q := Q_rmSBi Z a1 G1 h0) (by rw [eK270]; exact ⟨vb_270, kv_270, rfl, N270, KP270, (by omega), f270_1, f270_2, f270_3, f270_4, f270_5⟩) (by decide) (by decide))
  exact X270.returnOut hx Bd.returns (hb hby d30_6) hr
def Q_rmGv (Z : State) (a1 : Addr) (vb : Addr) (h0 : Heap) (vv : Option Value) (h : Heap) (L : List Loc) : Prop := vv = some (.ref vb) ∧ Fr Z.heap.size L ∧ h = h0
theorem ef_rmGv (m : MethodId) (x0 : Addr)   : entryFrame m #[(.ref x0)] 1 = mkF m 0 #[.val (.ref x0)] [] := rfl
theorem rmGv (l : Launch) (Z : State) (a0 : Array Value) (hw : HW a0 Z) (ws : List Cond) (a1 : Addr) (vb : Addr) (h0 : Heap) (Bv : Fld Z h0 a1 "java/lang/AbstractStringBuilder" "value" "[B" (.ref vb)) :
    MetFree l yM42 (head1 (Cond.code yM42 jdk_68_method_64_code 1 (some (.array .byte)) :: ws) (⟨0, 0, 0, 0⟩ : Room)) (fun a U => a = #[(.ref a1)] ∧ Z.Warmed39 U.vm ∧ U.heap = h0) (fun _ _ _ _ _ => True) (fun _ U o U' => ∃ v L, o = .returned v ∧ Q_rmGv Z a1 vb h0 v U'.heap L ∧ FrameEnd U o U' L (⟨0, 0, 0, 0⟩ : Room).cells (⟨0, 0, 0, 0⟩ : Room).slots) := by
  refine MetFree.of_bodySF (plainFor_of_name (by first | (simp [plainName, overriddenIn]; done) | decide +kernel)) hisR ?_
  intro p e s m args below meth c s₁ Bd hml0 hP hK
  obtain ⟨rfl, hZ0', hh⟩ := hP
  have hx := Bd.exec
  have hby := Bd.bytes
  have hml : c.maxLocals = 1 := hml0
  have hZ0 : Z.Warmed39 s.vm := hZ0'
  have hown0 : s.vm.findClass "java/lang/AbstractStringBuilder" = some m.cls := findClass_of_methodNamed Bd.named
  have hnm := (name_of_methodNamed Bd.named Bd.method).1
  have hlk : meth.locks = false := Bd.notSynchronized
  have X0 : Stand p l e (⟨0, 0, 0, 0⟩ : Room) s m #[(.ref a1)] below meth c s₁ [] 0 0 := Stand.of_body Bd
  have e0 : s₁.heap = h0 := by rw [← hh, Bd.state]; rfl
  have N0 := Fr.nil Z.heap.size
  have KP0 : Keep h0 h0 ([] : List Addr) := Keep.refl _ _
  show Go p e below (fun t o => ∃ v L, o = .returned v ∧ Q_rmGv Z a1 vb h0 v t.heap L ∧ FrameEnd s o t L (⟨0, 0, 0, 0⟩ : Room).cells (⟨0, 0, 0, 0⟩ : Room).slots) (s₁.setTop (entryFrame m #[(.ref a1)] 1))
  refine Go.on (w := s₁.setTop (mkF m 0 #[rv a1] [])) (fun t k => castTop (ef_rmGv m a1) k) ?_
  obtain ⟨T271, X271, e271, st271⟩ := getF X0 hx hZ0 hown0 (host := "") (Or.inl (w_193 hw)) Via.refl e0 Bv (g := (mkF m 1 #[rv a1] [(.ref a1)])) rfl rfl (hb hby d31_1)
  refine Go.on (w := T271.setTop (mkF m 4 #[rv a1] [(.ref vb)])) (fun t k => XS.aloadN X0.here hx rfl (hb hby d31_0) rfl rfl (st271 _ k)) ?_
  refine Go.finH X271 hlk (v := some (.ref vb)) (fun h => by rw [Bd.returns] at h; cases h) (fun fs hr => ?_) (endH (Q := Q_rmGv Z a1 vb h0) (by rw [e271]; exact ⟨rfl, N0, rfl⟩) (by decide) (by decide))
  exact retOut X271 hx Bd.returns rfl (Or.inr (Or.inr (Or.inr (Or.inr ⟨rfl, rfl, rfl⟩)))) (hb hby d31_4) hr
def Q_rmAl (Z : State) (a1 : Addr) (h0 : Heap) (vv : Option Value) (h : Heap) (L : List Loc) : Prop := vv = some (.int 7) ∧ Fr Z.heap.size L ∧ h = h0
theorem ef_rmAl (m : MethodId) (x0 : Addr)   : entryFrame m #[(.ref x0)] 1 = mkF m 0 #[.val (.ref x0)] [] := rfl
theorem rmAl (l : Launch) (Z : State) (a0 : Array Value) (hw : HW a0 Z) (ws : List Cond) (a1 : Addr) (h0 : Heap) (Bn : Fld Z h0 a1 "java/lang/AbstractStringBuilder" "count" "I" (.int 7)) :
    MetFree l yM43 (head1 (Cond.code yM43 jdk_68_method_6_code 1 (some .int) :: ws) (⟨0, 0, 0, 0⟩ : Room)) (fun a U => a = #[(.ref a1)] ∧ Z.Warmed39 U.vm ∧ U.heap = h0) (fun _ _ _ _ _ => True) (fun _ U o U' => ∃ v L, o = .returned v ∧ Q_rmAl Z a1 h0 v U'.heap L ∧ FrameEnd U o U' L (⟨0, 0, 0, 0⟩ : Room).cells (⟨0, 0, 0, 0⟩ : Room).slots) := by
  refine MetFree.of_bodySF (plainFor_of_name (by first | (simp [plainName, overriddenIn]; done) | decide +kernel)) hisR ?_
  intro p e s m args below meth c s₁ Bd hml0 hP hK
  obtain ⟨rfl, hZ0', hh⟩ := hP
  have hx := Bd.exec
  have hby := Bd.bytes
  have hml : c.maxLocals = 1 := hml0
  have hZ0 : Z.Warmed39 s.vm := hZ0'
  have hown0 : s.vm.findClass "java/lang/AbstractStringBuilder" = some m.cls := findClass_of_methodNamed Bd.named
  have hnm := (name_of_methodNamed Bd.named Bd.method).1
  have hlk : meth.locks = false := Bd.notSynchronized
  have X0 : Stand p l e (⟨0, 0, 0, 0⟩ : Room) s m #[(.ref a1)] below meth c s₁ [] 0 0 := Stand.of_body Bd
  have e0 : s₁.heap = h0 := by rw [← hh, Bd.state]; rfl
  have N0 := Fr.nil Z.heap.size
  have KP0 : Keep h0 h0 ([] : List Addr) := Keep.refl _ _
  show Go p e below (fun t o => ∃ v L, o = .returned v ∧ Q_rmAl Z a1 h0 v t.heap L ∧ FrameEnd s o t L (⟨0, 0, 0, 0⟩ : Room).cells (⟨0, 0, 0, 0⟩ : Room).slots) (s₁.setTop (entryFrame m #[(.ref a1)] 1))
  refine Go.on (w := s₁.setTop (mkF m 0 #[rv a1] [])) (fun t k => castTop (ef_rmAl m a1) k) ?_
  obtain ⟨T272, X272, e272, st272⟩ := getF X0 hx hZ0 hown0 (host := "") (Or.inl (w_220 hw)) Via.refl e0 Bn (g := (mkF m 1 #[rv a1] [(.ref a1)])) rfl rfl (hb hby d32_1)
  refine Go.on (w := T272.setTop (mkF m 4 #[rv a1] [(.int 7)])) (fun t k => XS.aloadN X0.here hx rfl (hb hby d32_0) rfl rfl (st272 _ k)) ?_
  refine Go.finH X272 hlk (v := some (.int 7)) (fun h => by rw [Bd.returns] at h; cases h) (fun fs hr => ?_) (endH (Q := Q_rmAl Z a1 h0) (by rw [e272]; exact ⟨rfl, N0, rfl⟩) (by decide) (by decide))
  exact retOut X272 hx Bd.returns rfl (Or.inl ⟨rfl, Or.inl rfl, _, rfl⟩) (hb hby d32_4) hr
def Q_rmSl (Z : State) (a1 : Addr) (h0 : Heap) (vv : Option Value) (h : Heap) (L : List Loc) : Prop := vv = some (.int 7) ∧ Fr Z.heap.size L ∧ h = h0
theorem ef_rmSl (m : MethodId) (x0 : Addr)   : entryFrame m #[(.ref x0)] 1 = mkF m 0 #[.val (.ref x0)] [] := rfl
theorem rmSl (l : Launch) (Z : State) (a0 : Array Value) (hw : HW a0 Z) (ws : List Cond) (a1 : Addr) (h0 : Heap) (B0 : Exa Z h0 a1 "java/lang/StringBuilder") (Bn : Fld Z h0 a1 "java/lang/AbstractStringBuilder" "count" "I" (.int 7)) :
    MetFree l yM44 (head1 (Cond.code yM44 jdk_67_method_93_code 1 (some .int) :: ws) (⟨1, 0, 0, 12⟩ : Room)) (fun a U => a = #[(.ref a1)] ∧ Z.Warmed39 U.vm ∧ U.heap = h0) (fun _ _ _ _ _ => True) (fun _ U o U' => ∃ v L, o = .returned v ∧ Q_rmSl Z a1 h0 v U'.heap L ∧ FrameEnd U o U' L (⟨1, 0, 0, 12⟩ : Room).cells (⟨1, 0, 0, 12⟩ : Room).slots) := by
  refine MetFree.of_bodySF (plainFor_of_name (by first | (simp [plainName, overriddenIn]; done) | decide +kernel)) hisR ?_
  intro p e s m args below meth c s₁ Bd hml0 hP hK
  obtain ⟨rfl, hZ0', hh⟩ := hP
  have hx := Bd.exec
  have hby := Bd.bytes
  have hml : c.maxLocals = 1 := hml0
  have hZ0 : Z.Warmed39 s.vm := hZ0'
  have hown0 : s.vm.findClass "java/lang/StringBuilder" = some m.cls := findClass_of_methodNamed Bd.named
  have hnm := (name_of_methodNamed Bd.named Bd.method).1
  have hlk : meth.locks = false := Bd.notSynchronized
  have X0 : Stand p l e (⟨1, 0, 0, 12⟩ : Room) s m #[(.ref a1)] below meth c s₁ [] 0 0 := Stand.of_body Bd
  have e0 : s₁.heap = h0 := by rw [← hh, Bd.state]; rfl
  have N0 := Fr.nil Z.heap.size
  have KP0 : Keep h0 h0 ([] : List Addr) := Keep.refl _ _
  show Go p e below (fun t o => ∃ v L, o = .returned v ∧ Q_rmSl Z a1 h0 v t.heap L ∧ FrameEnd s o t L (⟨1, 0, 0, 12⟩ : Room).cells (⟨1, 0, 0, 12⟩ : Room).slots) (s₁.setTop (entryFrame m #[(.ref a1)] 1))
  refine Go.on (w := s₁.setTop (mkF m 0 #[rv a1] [])) (fun t k => castTop (ef_rmSl m a1) k) ?_
  obtain ⟨v273, _, ⟨T273, L273, k273, n273⟩, -, X273, ⟨Lc273, hQ273, l273, y273, z273⟩, st273⟩ := superBack X0 hx hZ0 (y := yM43) hown0 (w_270 hw) (own_same (y := yM43) (w_266 hw) (w_225 hw) rfl (by decide)) (w_266 hw) (w_207 hw) (by decide) (backOf (W := 0) (rmAl l Z a0 hw [] a1 h0 Bn) hZ0 (w_271 hw) (w_189 hw) (by decide) (by decide)) e0 (Ins.self B0) (g := (mkF m 1 #[rv a1] [(.ref a1)])) rfl (by rw [hml]; rfl) (w_271 hw) (argsL := []) (rest := []) (lenOf pd_8 rfl) rfl (by show 2 * 0 + _ ≤ _; exact Nat.le_of_eq rfl) (hb hby d33_1) (fun _ _ => ⟨rfl, e0, (by decide : 0 + 0 ≤ _), (by decide : 0 + 0 ≤ _)⟩)
  dsimp only [Pt.U, Pt.locs, Pt.cells, Pt.slots] at X273 l273 y273 z273 st273 hQ273
  subst l273 y273 z273
  obtain ⟨rfl, Nq273, eh273⟩ := hQ273
  have N273 := Fr.app N0 Nq273
  refine Go.on (w := T273.setTop (mkF m 4 #[rv a1] [(.int 7)])) (fun t k => XS.aloadN X0.here hx rfl (hb hby d33_0) rfl rfl (st273.trans k)) ?_
  refine Go.finH X273 hlk (v := some (.int 7)) (fun h => by rw [Bd.returns] at h; cases h) (fun fs hr => ?_) (endH (Q := Q_rmSl Z a1 h0) (by rw [eh273]; exact ⟨rfl, N273, rfl⟩) (by decide) (by decide))
  exact retOut X273 hx Bd.returns rfl (Or.inl ⟨rfl, Or.inl rfl, _, rfl⟩) (hb hby d33_4) hr
def Q_rmIl (Z : State) (a1 : Addr) (G1 : Int32) (h0 : Heap) (vv : Option Value) (h : Heap) (L : List Loc) : Prop := vv = some (.int 1) ∧ Fr Z.heap.size L ∧ h = h0
theorem ef_rmIl (m : MethodId) (x0 : Addr)   : entryFrame m #[(.ref x0)] 1 = mkF m 0 #[.val (.ref x0)] [] := rfl
theorem rmIl (l : Launch) (Z : State) (a0 : Array Value) (hw : HW a0 Z) (ws : List Cond) (a1 : Addr) (G1 : Int32) (h0 : Heap) (OL : Old Z Z.heap.size h0) (O2 : Sta Z Z.heap "java/lang/String" "COMPACT_STRINGS" "Z" (.int G1)) (P5 : ¬ (G1 = (0 : Int32))) (Bc : Fld Z h0 a1 "java/lang/AbstractStringBuilder" "coder" "B" (.int 0)) :
    MetFree l yM45 (head1 (Cond.code yM45 jdk_68_method_68_code 1 (some .boolean) :: ws) (⟨0, 0, 0, 0⟩ : Room)) (fun a U => a = #[(.ref a1)] ∧ Z.Warmed39 U.vm ∧ U.heap = h0) (fun _ _ _ _ _ => True) (fun _ U o U' => ∃ v L, o = .returned v ∧ Q_rmIl Z a1 G1 h0 v U'.heap L ∧ FrameEnd U o U' L (⟨0, 0, 0, 0⟩ : Room).cells (⟨0, 0, 0, 0⟩ : Room).slots) := by
  refine MetFree.of_bodySF (plainFor_of_name (by first | (simp [plainName, overriddenIn]; done) | decide +kernel)) hisR ?_
  intro p e s m args below meth c s₁ Bd hml0 hP hK
  obtain ⟨rfl, hZ0', hh⟩ := hP
  have hx := Bd.exec
  have hby := Bd.bytes
  have hml : c.maxLocals = 1 := hml0
  have hZ0 : Z.Warmed39 s.vm := hZ0'
  have hown0 : s.vm.findClass "java/lang/AbstractStringBuilder" = some m.cls := findClass_of_methodNamed Bd.named
  have hnm := (name_of_methodNamed Bd.named Bd.method).1
  have hlk : meth.locks = false := Bd.notSynchronized
  have X0 : Stand p l e (⟨0, 0, 0, 0⟩ : Room) s m #[(.ref a1)] below meth c s₁ [] 0 0 := Stand.of_body Bd
  have e0 : s₁.heap = h0 := by rw [← hh, Bd.state]; rfl
  have N0 := Fr.nil Z.heap.size
  have KP0 : Keep h0 h0 ([] : List Addr) := Keep.refl _ _
  show Go p e below (fun t o => ∃ v L, o = .returned v ∧ Q_rmIl Z a1 G1 h0 v t.heap L ∧ FrameEnd s o t L (⟨0, 0, 0, 0⟩ : Room).cells (⟨0, 0, 0, 0⟩ : Room).slots) (s₁.setTop (entryFrame m #[(.ref a1)] 1))
  refine Go.on (w := s₁.setTop (mkF m 0 #[rv a1] [])) (fun t k => castTop (ef_rmIl m a1) k) ?_
  obtain ⟨T274, X274, e274, st274⟩ := getS2 X0 hx hZ0 hown0 (host := "") (Or.inl (w_192 hw)) Via.refl e0 (O2.ext OL.2) (g := (mkF m 0 #[rv a1] [])) rfl (hb hby d34_0)
  obtain ⟨T275, X275, e275, st275⟩ := getF X274 hx hZ0 hown0 (host := "") (Or.inl (w_195 hw)) Via.refl e274 Bc (g := (mkF m 7 #[rv a1] [(.ref a1)])) rfl rfl (hb hby d34_7)
  refine Go.on (w := T275.setTop (mkF m 18 #[rv a1] [(.int 1)])) (fun t k => st274 _ (XS.ifNo X274.here hx rfl (hb hby d34_3) rfl ((if0 _ _).trans (feq P5).1) (XS.aloadN X274.here hx rfl (hb hby d34_6) rfl rfl (st275 _ (XS.ifNo X275.here hx rfl (hb hby d34_10) rfl ((if0 _ _).trans (teq (by decide : (0 : Int32) = (0 : Int32))).2) (XS.iconst X275.here hx rfl (hb hby d34_13) (XS.goto X275.here hx rfl (pc0 := 14) (pc' := 18) rfl (hb hby d34_14) (by decide) (by decide) k))))))) ?_
  refine Go.finH X275 hlk (v := some (.int 1)) (fun h => by rw [Bd.returns] at h; cases h) (fun fs hr => ?_) (endH (Q := Q_rmIl Z a1 G1 h0) (by rw [e275]; exact ⟨rfl, N0, rfl⟩) (by decide) (by decide))
  exact retN X275 hx (t := .boolean) Bd.returns (by simp) (hb hby d34_18) hr
def Q_rmCkl (Z : State) (u : Unit) (h0 : Heap) (vv : Option Value) (h : Heap) (L : List Loc) : Prop := vv = none ∧ Fr Z.heap.size L ∧ h = h0
theorem ef_rmCkl (m : MethodId) (x0 : Int32) (x1 : Int32)   : entryFrame m #[(.int x0), (.int x1)] 2 = mkF m 0 #[.val (.int x0), .val (.int x1)] [] := rfl
theorem rmCkl (l : Launch) (Z : State) (a0 : Array Value) (hw : HW a0 Z) (ws : List Cond) (u : Unit) (h0 : Heap) :
    MetFree l yM48 (head1 (Cond.code yM48 jdk_65_method_131_code 2 none :: ws) (⟨0, 0, 0, 0⟩ : Room)) (fun a U => a = #[(.int 0), (.int 7)] ∧ Z.Warmed39 U.vm ∧ U.heap = h0) (fun _ _ _ _ _ => True) (fun _ U o U' => ∃ v L, o = .returned v ∧ Q_rmCkl Z u h0 v U'.heap L ∧ FrameEnd U o U' L (⟨0, 0, 0, 0⟩ : Room).cells (⟨0, 0, 0, 0⟩ : Room).slots) := by
  refine MetFree.of_bodySF (plainFor_of_name (by first | (simp [plainName, overriddenIn]; done) | decide +kernel)) hisR ?_
  intro p e s m args below meth c s₁ Bd hml0 hP hK
  obtain ⟨rfl, hZ0', hh⟩ := hP
  have hx := Bd.exec
  have hby := Bd.bytes
  have hml : c.maxLocals = 2 := hml0
  have hZ0 : Z.Warmed39 s.vm := hZ0'
  have hown0 : s.vm.findClass "java/util/Arrays" = some m.cls := findClass_of_methodNamed Bd.named
  have hnm := (name_of_methodNamed Bd.named Bd.method).1
  have hlk : meth.locks = false := Bd.notSynchronized
  have X0 : Stand p l e (⟨0, 0, 0, 0⟩ : Room) s m #[(.int 0), (.int 7)] below meth c s₁ [] 0 0 := Stand.of_body Bd
  have e0 : s₁.heap = h0 := by rw [← hh, Bd.state]; rfl
  have N0 := Fr.nil Z.heap.size
  have KP0 : Keep h0 h0 ([] : List Addr) := Keep.refl _ _
  show Go p e below (fun t o => ∃ v L, o = .returned v ∧ Q_rmCkl Z u h0 v t.heap L ∧ FrameEnd s o t L (⟨0, 0, 0, 0⟩ : Room).cells (⟨0, 0, 0, 0⟩ : Room).slots) (s₁.setTop (entryFrame m #[(.int 0), (.int 7)] 2))
  refine Go.on (w := s₁.setTop (mkF m 0 #[iv 0, iv 7] [])) (fun t k => castTop (ef_rmCkl m (0 : Int32) (7 : Int32)) k) ?_
  refine Go.on (w := s₁.setTop (mkF m 37 #[iv 0, iv 7] [])) (fun t k => XS.iloadN X0.here hx rfl (hb hby d35_0) rfl (XS.iloadN X0.here hx rfl (hb hby d35_1) rfl (XS.icmpYes X0.here hx rfl (pc0 := 2) (pc' := 37) rfl (hb hby d35_2) rfl (flt (by decide : ¬ ((7 : Int32) < (0 : Int32)))).2.1 (by decide) (by decide) k))) ?_
  refine Go.finH X0 hlk (v := none) (fun _ => rfl) (fun fs hr => ?_) (endH (Q := Q_rmCkl Z u h0) (by rw [e0]; exact ⟨rfl, N0, rfl⟩) (by decide) (by decide))
  exact X0.returnOut hx Bd.returns (hb hby d35_37) hr
def Q_rmCrb (Z : State) (vb : Addr) (kv : ClassId) (v0 : Int32) (h0 : Heap) (vv : Option Value) (h : Heap) (L : List Loc) : Prop := ∃ (r : Addr) (kr : ClassId), vv = some (.ref r) ∧ Fr Z.heap.size L ∧ Keep h0 h [] ∧ (h0.size ≤ r) ∧ Exa Z h r "[B" ∧ Arv Z h r kr .byte (7 : Int32) [(.int 114), (.int 101), (.int 97), (.int 108), (.int 109), (.int 32), (.int v0)] (.int 0)
theorem ef_rmCrb (m : MethodId) (x0 : Addr) (x1 : Int32) (x2 : Int32)   : entryFrame m #[(.ref x0), (.int x1), (.int x2)] 5 = mkF m 0 #[.val (.ref x0), .val (.int x1), .val (.int x2), .unset, .unset] [] := rfl
theorem rmCrb (l : Launch) (Z : State) (a0 : Array Value) (hw : HW a0 Z) (ws : List Cond) (vb : Addr) (kv : ClassId) (v0 : Int32) (h0 : Heap) (Z0 : Z.heap.size ≤ h0.size) (Vb : Arv Z h0 vb kv .byte (16 : Int32) [(.int 114), (.int 101), (.int 97), (.int 108), (.int 109), (.int 32), (.int v0), (.int 0), (.int 0), (.int 0), (.int 0), (.int 0), (.int 0), (.int 0), (.int 0), (.int 0)] (.int 0)) :
    MetFree l yM47 (head1 (Cond.code yM47 jdk_65_method_133_code 5 (some (.array .byte)) :: ws) (⟨1, 1, 7, 40⟩ : Room)) (fun a U => a = #[(.ref vb), (.int 0), (.int 7)] ∧ Z.Warmed39 U.vm ∧ U.heap = h0) (fun _ _ _ _ _ => True) (fun _ U o U' => ∃ v L, o = .returned v ∧ Q_rmCrb Z vb kv v0 h0 v U'.heap L ∧ FrameEnd U o U' L (⟨1, 1, 7, 40⟩ : Room).cells (⟨1, 1, 7, 40⟩ : Room).slots) := by
  refine MetFree.of_bodySF (plainFor_of_name (by first | (simp [plainName, overriddenIn]; done) | decide +kernel)) hisR ?_
  intro p e s m args below meth c s₁ Bd hml0 hP hK
  obtain ⟨rfl, hZ0', hh⟩ := hP
  have hx := Bd.exec
  have hby := Bd.bytes
  have hml : c.maxLocals = 5 := hml0
  have hZ0 : Z.Warmed39 s.vm := hZ0'
  have hown0 : s.vm.findClass "java/util/Arrays" = some m.cls := findClass_of_methodNamed Bd.named
  have hnm := (name_of_methodNamed Bd.named Bd.method).1
  have hlk : meth.locks = false := Bd.notSynchronized
  have X0 : Stand p l e (⟨1, 1, 7, 40⟩ : Room) s m #[(.ref vb), (.int 0), (.int 7)] below meth c s₁ [] 0 0 := Stand.of_body Bd
  have e0 : s₁.heap = h0 := by rw [← hh, Bd.state]; rfl
  have N0 := Fr.nil Z.heap.size
  have KP0 : Keep h0 h0 ([] : List Addr) := Keep.refl _ _
  show Go p e below (fun t o => ∃ v L, o = .returned v ∧ Q_rmCrb Z vb kv v0 h0 v t.heap L ∧ FrameEnd s o t L (⟨1, 1, 7, 40⟩ : Room).cells (⟨1, 1, 7, 40⟩ : Room).slots) (s₁.setTop (entryFrame m #[(.ref vb), (.int 0), (.int 7)] 5))
  refine Go.on (w := s₁.setTop (mkF m 0 #[rv vb, iv 0, iv 7, .unset, .unset] [])) (fun t k => castTop (ef_rmCrb m vb (0 : Int32) (7 : Int32)) k) ?_
  have u_vb : h0.size > vb := Vb.lt
  obtain ⟨v276, _, ⟨T276, L276, k276, n276⟩, -, X276, ⟨Lc276, hQ276, l276, y276, z276⟩, st276⟩ := Jvm.LawKit.callS X0 hx (y := yM48) hown0 (mvT hZ0 (w_284 hw)) (mvT hZ0 (w_285 hw)) (mvT hZ0 (w_279 hw)) (mvT hZ0 (w_286 hw)) (by decide) (backOf (W := 0) (rmCkl l Z a0 hw [] () h0 ) hZ0 (w_286 hw) (w_279 hw) (by decide) (by decide)) (g := (mkF m 2 #[rv vb, iv 0, iv 7, .unset, .unset] [(.int 7), (.int 0)])) rfl (by rw [hml]; rfl) (argsL := [(.int 0), (.int 7)]) (rest := []) (lenOf pd_17 rfl) rfl (by show 2 * 0 + _ ≤ _; exact Nat.le_of_eq rfl) (hb hby d36_2) (fun _ _ => ⟨rfl, e0, (by decide : 0 + 0 ≤ _), (by decide : 0 + 0 ≤ _)⟩)
  dsimp only [Pt.U, Pt.locs, Pt.cells, Pt.slots] at X276 l276 y276 z276 st276 hQ276
  subst l276 y276 z276
  obtain ⟨rfl, Nq276, eh276⟩ := hQ276
  have N276 := Fr.app N0 Nq276
  refine Go.on (w := T276.setTop (mkF m 7 #[rv vb, iv 0, iv 7, .unset, .unset] [(.int 0), (.int 7)])) (fun t k => XS.iloadN X0.here hx rfl (hb hby d36_0) rfl (XS.iloadN X0.here hx rfl (hb hby d36_1) rfl (st276 _ (XS.iloadN X276.here hx rfl (hb hby d36_5) rfl (XS.iloadN X276.here hx rfl (hb hby d36_6) rfl k))))) ?_
  refine Go.on (w := T276.setTop (mkF m 8 #[rv vb, iv 0, iv 7, .unset, .unset] [(.int 7)])) (fun t k => XS.isub X276.here hx rfl (hb hby d36_7) rfl (by rw [(by decide : ((7 : Int32) - (0 : Int32)) = (7 : Int32))]; exact k)) ?_
  obtain ⟨T277, h277, k277, X277, e277, E277, A277, Ex277, st277⟩ := newPE (aty := .byte) X276 hx hZ0 (w_19 hw) eh276 (g := (mkF m 10 #[rv vb, iv 0, iv 7, iv 7, .unset] [(.int 7)])) rfl (hb hby d36_10) rfl (by decide : ¬ ((7 : Int32) < (0 : Int32))) (cap := 7) (by decide) (by decide) (by decide) (by decide) (ad := "[B") (by decide)
  obtain ⟨b277, g277⟩ : ∃ z, z = h0.size := ⟨_, rfl⟩
  rw [← g277] at A277 st277 Ex277
  have V277 : Arv Z h277 b277 k277 .byte (7 : Int32) [(.int 0), (.int 0), (.int 0), (.int 0), (.int 0), (.int 0), (.int 0)] (.int 0) := (Arv.new A277 (by decide : ¬ ((7 : Int32) < (0 : Int32)))).pad (pad_rep [] (.int 0) 7)
  have u277 : h277.size > b277 := V277.lt
  have z277 : h0.size ≤ h277.size := E277.1
  have KP277 : Keep h0 h277 ([] : List Addr) := KP0.ext E277
  have F278 := (Vb.ext E277)
  obtain ⟨cl279, Ar279, q279, S279, M279, H279, U279⟩ := id F278
  refine Go.on (w := T277.setTop (mkF m 20 #[rv vb, iv 0, iv 7, iv 7, rv b277] [(.ref vb), (.int 0), (.ref b277), (.int 0), (.ref vb)])) (fun t k => XS.istoreN X276.here hx rfl (hb hby d36_8) rfl (l' := #[rv vb, iv 0, iv 7, iv 7, .unset]) rfl (XS.iloadN X276.here hx rfl (hb hby d36_9) rfl (st277 _ (XS.astore X277.here hx rfl (hb hby d36_12) rfl rfl (l' := #[rv vb, iv 0, iv 7, iv 7, rv b277]) rfl (XS.aloadN X277.here hx rfl (hb hby d36_14) rfl rfl (XS.iloadN X277.here hx rfl (hb hby d36_15) rfl (XS.aload X277.here hx rfl (hb hby d36_16) rfl rfl (XS.iconst X277.here hx rfl (hb hby d36_18) (XS.aloadN X277.here hx rfl (hb hby d36_19) rfl rfl k))))))))) ?_
  refine Go.on (w := T277.setTop (mkF m 21 #[rv vb, iv 0, iv 7, iv 7, rv b277] [(.int 16), (.int 0), (.ref b277), (.int 0), (.ref vb)])) (fun t k => X277.arraylength hx (by rw [e277]; exact Ar279.1) (State.isArrayOf_alike hZ0.alike Ar279.2.1) (g := (mkF m 20 #[rv vb, iv 0, iv 7, iv 7, rv b277] [(.ref vb), (.int 0), (.ref b277), (.int 0), (.ref vb)])) rfl rfl (hb hby d36_20) _ (by rw [len_of S279 M279]; exact k)) ?_
  refine Go.on (w := T277.setTop (mkF m 22 #[rv vb, iv 0, iv 7, iv 7, rv b277] [(.int 0), (.int 16), (.int 0), (.ref b277), (.int 0), (.ref vb)])) (fun t k => XS.iloadN X277.here hx rfl (hb hby d36_21) rfl k) ?_
  refine Go.on (w := T277.setTop (mkF m 23 #[rv vb, iv 0, iv 7, iv 7, rv b277] [(.int 16), (.int 0), (.ref b277), (.int 0), (.ref vb)])) (fun t k => XS.isub X277.here hx rfl (hb hby d36_22) rfl (by rw [(by decide : ((16 : Int32) - (0 : Int32)) = (16 : Int32))]; exact k)) ?_
  obtain ⟨v280, _, ⟨T280, L280, k280, n280⟩, -, X280, ⟨Lc280, hQ280, l280, y280, z280⟩, st280⟩ := Jvm.LawKit.callS X277 hx (y := yM49) hown0 (mvT hZ0 (w_287 hw)) (mvT hZ0 (w_288 hw)) (mvT hZ0 (w_138 hw)) (mvT hZ0 (w_289 hw)) (by decide) (backOf (W := 4) (rmMin2 l Z a0 hw [] (16 : Int32) (7 : Int32) h277 (by decide)) hZ0 (w_289 hw) (w_138 hw) (by decide) (by decide)) (g := (mkF m 24 #[rv vb, iv 0, iv 7, iv 7, rv b277] [(.int 7), (.int 16), (.int 0), (.ref b277), (.int 0), (.ref vb)])) rfl (by rw [hml]; rfl) (argsL := [(.int 16), (.int 7)]) (rest := [(.int 0), (.ref b277), (.int 0), (.ref vb)]) (lenOf pd_2 rfl) rfl (by show 2 * 0 + _ ≤ _; exact Nat.le_of_eq rfl) (hb hby d36_24) (fun _ _ => ⟨rfl, e277, (by decide : 1 + 0 ≤ _), (by decide : 7 + 0 ≤ _)⟩)
  dsimp only [Pt.U, Pt.locs, Pt.cells, Pt.slots] at X280 l280 y280 z280 st280 hQ280
  subst l280 y280 z280
  obtain ⟨rfl, Nq280, eh280⟩ := hQ280
  have N280 := Fr.app N276 Nq280
  obtain ⟨T281, h281, L281, X281, e281, N281, K281, V281', st281⟩ := cpA X280 hx hZ0 hown0 (w_290 hw) (w_246 hw) (w_244 hw) (w_245 hw) eh280 F278 V277 (us := [(.int 114), (.int 101), (.int 97), (.int 108), (.int 109), (.int 32), (.int v0)]) (Or.inl ⟨rfl, rfl⟩) (sp := (0 : Int32)) (dp := (0 : Int32)) (nn := (7 : Int32)) (by decide) (by decide) (by decide) (by decide) (by decide) rfl (Nat.le_of_ble_eq_true rfl) N280 (by omega) (g := (mkF m 27 #[rv vb, iv 0, iv 7, iv 7, rv b277] [(.int 7), (.int 0), (.ref b277), (.int 0), (.ref vb)])) rfl (by rw [hml]; rfl) rfl (hb hby d36_27) (by decide) (W := 0) (by show 2 * 0 + _ ≤ _; exact Nat.le_of_eq rfl) (by decide)
  have V281 : Arv Z h281 b277 k277 .byte (7 : Int32) [(.int 114), (.int 101), (.int 97), (.int 108), (.int 109), (.int 32), (.int v0)] (.int 0) := V281'
  have z281 : h277.size ≤ h281.size := K281.1
  have KP281 : Keep h0 h281 ([] : List Addr) := KP277.trans K281 (allS (P := fun zq => zq ∈ ([] : List Addr) ∨ h0.size ≤ zq) (Or.inr (by omega)) all0)
  have F282 := (Ex277.keep K281)
  refine Go.on (w := T281.setTop (mkF m 32 #[rv vb, iv 0, iv 7, iv 7, rv b277] [(.ref b277)])) (fun t k => XS.iloadN X277.here hx rfl (hb hby d36_23) rfl (st280 _ (st281 _ (XS.aload X281.here hx rfl (hb hby d36_30) rfl rfl k)))) ?_
  refine Go.finH X281 hlk (v := some (.ref b277)) (fun h => by rw [Bd.returns] at h; cases h) (fun fs hr => ?_) (endH (Q := Q_rmCrb Z vb kv v0 h0) (by rw [e281]; exact ⟨b277, k277, rfl, N281, KP281, (by omega), F282, V281⟩) (by decide) (by decide))
  exact retOut X281 hx Bd.returns rfl (Or.inr (Or.inr (Or.inr (Or.inr ⟨rfl, rfl, rfl⟩)))) (hb hby d36_32) hr
def Q_rmCr (Z : State) (vb : Addr) (kv : ClassId) (v0 : Int32) (h0 : Heap) (vv : Option Value) (h : Heap) (L : List Loc) : Prop := ∃ (r : Addr) (kr : ClassId), vv = some (.ref r) ∧ Fr Z.heap.size L ∧ Keep h0 h [] ∧ (h0.size ≤ r) ∧ Exa Z h r "[B" ∧ Arv Z h r kr .byte (7 : Int32) [(.int 114), (.int 101), (.int 97), (.int 108), (.int 109), (.int 32), (.int v0)] (.int 0)
theorem ef_rmCr (m : MethodId) (x0 : Addr) (x1 : Int32) (x2 : Int32)   : entryFrame m #[(.ref x0), (.int x1), (.int x2)] 3 = mkF m 0 #[.val (.ref x0), .val (.int x1), .val (.int x2)] [] := rfl
theorem rmCr (l : Launch) (Z : State) (a0 : Array Value) (hw : HW a0 Z) (ws : List Cond) (vb : Addr) (kv : ClassId) (v0 : Int32) (h0 : Heap) (Z0 : Z.heap.size ≤ h0.size) (Vb : Arv Z h0 vb kv .byte (16 : Int32) [(.int 114), (.int 101), (.int 97), (.int 108), (.int 109), (.int 32), (.int v0), (.int 0), (.int 0), (.int 0), (.int 0), (.int 0), (.int 0), (.int 0), (.int 0), (.int 0)] (.int 0)) :
    MetFree l yM46 (head1 (Cond.code yM46 jdk_65_method_132_code 3 (some (.array .byte)) :: ws) (⟨2, 1, 7, 56⟩ : Room)) (fun a U => a = #[(.ref vb), (.int 0), (.int 7)] ∧ Z.Warmed39 U.vm ∧ U.heap = h0) (fun _ _ _ _ _ => True) (fun _ U o U' => ∃ v L, o = .returned v ∧ Q_rmCr Z vb kv v0 h0 v U'.heap L ∧ FrameEnd U o U' L (⟨2, 1, 7, 56⟩ : Room).cells (⟨2, 1, 7, 56⟩ : Room).slots) := by
  refine MetFree.of_bodySF (plainFor_of_name (by first | (simp [plainName, overriddenIn]; done) | decide +kernel)) hisR ?_
  intro p e s m args below meth c s₁ Bd hml0 hP hK
  obtain ⟨rfl, hZ0', hh⟩ := hP
  have hx := Bd.exec
  have hby := Bd.bytes
  have hml : c.maxLocals = 3 := hml0
  have hZ0 : Z.Warmed39 s.vm := hZ0'
  have hown0 : s.vm.findClass "java/util/Arrays" = some m.cls := findClass_of_methodNamed Bd.named
  have hnm := (name_of_methodNamed Bd.named Bd.method).1
  have hlk : meth.locks = false := Bd.notSynchronized
  have X0 : Stand p l e (⟨2, 1, 7, 56⟩ : Room) s m #[(.ref vb), (.int 0), (.int 7)] below meth c s₁ [] 0 0 := Stand.of_body Bd
  have e0 : s₁.heap = h0 := by rw [← hh, Bd.state]; rfl
  have N0 := Fr.nil Z.heap.size
  have KP0 : Keep h0 h0 ([] : List Addr) := Keep.refl _ _
  show Go p e below (fun t o => ∃ v L, o = .returned v ∧ Q_rmCr Z vb kv v0 h0 v t.heap L ∧ FrameEnd s o t L (⟨2, 1, 7, 56⟩ : Room).cells (⟨2, 1, 7, 56⟩ : Room).slots) (s₁.setTop (entryFrame m #[(.ref vb), (.int 0), (.int 7)] 3))
  refine Go.on (w := s₁.setTop (mkF m 0 #[rv vb, iv 0, iv 7] [])) (fun t k => castTop (ef_rmCr m vb (0 : Int32) (7 : Int32)) k) ?_
  have u_vb : h0.size > vb := Vb.lt
  obtain ⟨cl283, Ar283, q283, S283, M283, H283, U283⟩ := id Vb
  refine Go.on (w := s₁.setTop (mkF m 6 #[rv vb, iv 0, iv 7] [(.ref vb), (.int 7)])) (fun t k => XS.iloadN X0.here hx rfl (hb hby d37_0) rfl (XS.ifNo X0.here hx rfl (hb hby d37_1) rfl ((if0 _ _).trans (teq (by decide : (0 : Int32) = (0 : Int32))).2) (XS.iloadN X0.here hx rfl (hb hby d37_4) rfl (XS.aloadN X0.here hx rfl (hb hby d37_5) rfl rfl k)))) ?_
  refine Go.on (w := s₁.setTop (mkF m 7 #[rv vb, iv 0, iv 7] [(.int 16), (.int 7)])) (fun t k => X0.arraylength hx (by rw [e0]; exact Ar283.1) (State.isArrayOf_alike hZ0.alike Ar283.2.1) (g := (mkF m 6 #[rv vb, iv 0, iv 7] [(.ref vb), (.int 7)])) rfl rfl (hb hby d37_6) _ (by rw [len_of S283 M283]; exact k)) ?_
  obtain ⟨v284, _, ⟨T284, L284, k284, n284⟩, -, X284, ⟨Lc284, hQ284, l284, y284, z284⟩, st284⟩ := Jvm.LawKit.callS X0 hx (y := yM47) hown0 (mvT hZ0 (w_281 hw)) (mvT hZ0 (w_282 hw)) (mvT hZ0 (w_279 hw)) (mvT hZ0 (w_283 hw)) (by decide) (backOf (W := 0) (rmCrb l Z a0 hw [] vb kv v0 h0 (by omega) Vb) hZ0 (w_283 hw) (w_279 hw) (by decide) (by decide)) (g := (mkF m 13 #[rv vb, iv 0, iv 7] [(.int 7), (.int 0), (.ref vb)])) rfl (by rw [hml]; rfl) (argsL := [(.ref vb), (.int 0), (.int 7)]) (rest := []) (lenOf pd_18 rfl) rfl (by show 2 * 0 + _ ≤ _; exact Nat.le_of_eq rfl) (hb hby d37_13) (fun _ _ => ⟨rfl, e0, (by decide : 0 + 1 ≤ _), (by decide : 0 + 7 ≤ _)⟩)
  dsimp only [Pt.U, Pt.locs, Pt.cells, Pt.slots] at X284 l284 y284 z284 st284 hQ284
  subst l284 y284 z284
  obtain ⟨r_284, kr_284, rfl, Nq284, K284, f284_0, f284_1, f284_2⟩ := hQ284
  have N284 := Fr.app N0 Nq284
  have eK284 : T284.heap = T284.heap := rfl
  have z284 : h0.size ≤ T284.heap.size := K284.1
  have KP284 : Keep h0 T284.heap ([] : List Addr) := KP0.trans K284 all0
  have u284_1 : T284.heap.size > r_284 := f284_1.lt
  have u284_2 : T284.heap.size > r_284 := f284_2.lt
  refine Go.on (w := T284.setTop (mkF m 16 #[rv vb, iv 0, iv 7] [(.ref r_284)])) (fun t k => XS.icmpNo X0.here hx rfl (hb hby d37_7) rfl (feq (by decide : ¬ ((7 : Int32) = (16 : Int32)))).1 (XS.aloadN X0.here hx rfl (hb hby d37_10) rfl rfl (XS.iloadN X0.here hx rfl (hb hby d37_11) rfl (XS.iloadN X0.here hx rfl (hb hby d37_12) rfl (st284 _ k))))) ?_
  refine Go.finH X284 hlk (v := some (.ref r_284)) (fun h => by rw [Bd.returns] at h; cases h) (fun fs hr => ?_) (endH (Q := Q_rmCr Z vb kv v0 h0) (by rw [eK284]; exact ⟨r_284, kr_284, rfl, N284, KP284, (by omega), f284_1, f284_2⟩) (by decide) (by decide))
  exact retOut X284 hx Bd.returns rfl (Or.inr (Or.inr (Or.inr (Or.inr ⟨rfl, rfl, rfl⟩)))) (hb hby d37_16) hr
def Q_rmSa (Z : State) (a2 : Addr) (a1 : Addr) (vb : Addr) (kv : ClassId) (v0 : Int32) (G1 : Int32) (h0 : Heap) (vv : Option Value) (h : Heap) (L : List Loc) : Prop := ∃ (tt : Addr) (kt : ClassId), vv = none ∧ Fr Z.heap.size L ∧ Keep h0 h [a2] ∧ (h0.size ≤ tt) ∧ Exa Z h a2 "java/lang/String" ∧ Fld Z h a2 "java/lang/String" "coder" "B" (.int 0) ∧ Fld Z h a2 "java/lang/String" "value" "[B" (.ref tt) ∧ Exa Z h tt "[B" ∧ Arv Z h tt kt .byte (7 : Int32) [(.int 114), (.int 101), (.int 97), (.int 108), (.int 109), (.int 32), (.int v0)] (.int 0)
theorem ef_rmSa (m : MethodId) (x0 : Addr) (x1 : Addr)   : entryFrame m #[(.ref x0), (.ref x1), .null] 5 = mkF m 0 #[.val (.ref x0), .val (.ref x1), .val .null, .unset, .unset] [] := rfl
theorem rmSa (l : Launch) (Z : State) (a0 : Array Value) (hw : HW a0 Z) (ws : List Cond) (a2 : Addr) (a1 : Addr) (vb : Addr) (kv : ClassId) (v0 : Int32) (G1 : Int32) (h0 : Heap) (Z0 : Z.heap.size ≤ h0.size) (OL : Old Z Z.heap.size h0) (O2 : Sta Z Z.heap "java/lang/String" "COMPACT_STRINGS" "Z" (.int G1)) (P5 : ¬ (G1 = (0 : Int32))) (lo_a2 : Z.heap.size ≤ a2) (ne_a1_a2 : a1 ≠ a2) (ne_vb_a2 : vb ≠ a2) (E_a2 : Exa Z h0 a2 "java/lang/String") (Fc : Fld Z h0 a2 "java/lang/String" "coder" "B" (.int 0)) (Fv : Fld Z h0 a2 "java/lang/String" "value" "[B" .null) (B0 : Exa Z h0 a1 "java/lang/StringBuilder") (B1 : Fld Z h0 a1 "java/lang/AbstractStringBuilder" "value" "[B" (.ref vb)) (B2 : Fld Z h0 a1 "java/lang/AbstractStringBuilder" "coder" "B" (.int 0)) (B3 : Fld Z h0 a1 "java/lang/AbstractStringBuilder" "count" "I" (.int 7)) (B4 : Arv Z h0 vb kv .byte (16 : Int32) [(.int 114), (.int 101), (.int 97), (.int 108), (.int 109), (.int 32), (.int v0), (.int 0), (.int 0), (.int 0), (.int 0), (.int 0), (.int 0), (.int 0), (.int 0), (.int 0)] (.int 0)) :
    MetFree l yM41 (head1 (Cond.code yM41 jdk_42_method_150_code 5 none :: ws) (⟨3, 1, 7, 71⟩ : Room)) (fun a U => a = #[(.ref a2), (.ref a1), .null] ∧ Z.Warmed39 U.vm ∧ U.heap = h0) (fun _ _ _ _ _ => True) (fun _ U o U' => ∃ v L, o = .returned v ∧ Q_rmSa Z a2 a1 vb kv v0 G1 h0 v U'.heap L ∧ FrameEnd U o U' L (⟨3, 1, 7, 71⟩ : Room).cells (⟨3, 1, 7, 71⟩ : Room).slots) := by
  refine MetFree.of_bodySF (plainFor_of_name (by first | (simp [plainName, overriddenIn]; done) | decide +kernel)) hisR ?_
  intro p e s m args below meth c s₁ Bd hml0 hP hK
  obtain ⟨rfl, hZ0', hh⟩ := hP
  have hx := Bd.exec
  have hby := Bd.bytes
  have hml : c.maxLocals = 5 := hml0
  have hZ0 : Z.Warmed39 s.vm := hZ0'
  have hown0 : s.vm.findClass "java/lang/String" = some m.cls := findClass_of_methodNamed Bd.named
  have hnm := (name_of_methodNamed Bd.named Bd.method).1
  have hlk : meth.locks = false := Bd.notSynchronized
  have X0 : Stand p l e (⟨3, 1, 7, 71⟩ : Room) s m #[(.ref a2), (.ref a1), .null] below meth c s₁ [] 0 0 := Stand.of_body Bd
  have e0 : s₁.heap = h0 := by rw [← hh, Bd.state]; rfl
  have N0 := Fr.nil Z.heap.size
  have KP0 : Keep h0 h0 ([a2] : List Addr) := Keep.refl _ _
  show Go p e below (fun t o => ∃ v L, o = .returned v ∧ Q_rmSa Z a2 a1 vb kv v0 G1 h0 v t.heap L ∧ FrameEnd s o t L (⟨3, 1, 7, 71⟩ : Room).cells (⟨3, 1, 7, 71⟩ : Room).slots) (s₁.setTop (entryFrame m #[(.ref a2), (.ref a1), .null] 5))
  refine Go.on (w := s₁.setTop (mkF m 0 #[rv a2, rv a1, .val .null, .unset, .unset] [])) (fun t k => castTop (ef_rmSa m a2 a1) k) ?_
  have u_a2 : h0.size > a2 := E_a2.lt
  have u_a1 : h0.size > a1 := B0.lt
  have u_vb : h0.size > vb := B4.lt
  obtain ⟨T285, X285, e285, st285⟩ := initO X0 hx hZ0 hown0 (w_11 hw) (w_12 hw) (w_13 hw) e0 (g := (mkF m 1 #[rv a2, rv a1, .val .null, .unset, .unset] [(.ref a2)])) rfl (by rw [hml]; rfl) rfl (hb hby d38_1) (by decide) (W := 0) (by show 2 * 0 + _ ≤ _; exact Nat.le_of_eq rfl) (by decide)
  obtain ⟨cq286, kq286, q286a, q286b, q286c⟩ := isOf hZ0 e285 B0
  obtain ⟨v286, _, ⟨T286, L286, k286, n286⟩, -, X286, ⟨Lc286, hQ286, l286, y286, z286⟩, st286⟩ := X285.virtualBack hx (y := yM42) (z := yM42) hown0 (mvT hZ0 (w_259 hw)) (mvT hZ0 (w_260 hw)) (notFace_of_selects (args := #[]) (mvT hZ0 (w_262 hw))) (mvT hZ0 (w_262 hw)) (mvT hZ0 (w_261 hw)) (by decide) (backOf (W := 0) (rmGv l Z a0 hw [] a1 vb h0 B1) hZ0 (w_263 hw) (w_189 hw) (by decide) (by decide)) q286a q286c (g := (mkF m 5 #[rv a2, rv a1, .val .null, .unset, .unset] [(.ref a1)])) rfl (by rw [hml]; rfl) (Steps.refl _) (argsL := []) (rest := []) (lenOf pd_10 rfl) rfl (by show 2 * 0 + _ ≤ _; exact Nat.le_of_eq rfl) (hb hby d38_5) (fun _ _ => ⟨rfl, e285, (by decide : 0 + 0 ≤ _), (by decide : 0 + 0 ≤ _)⟩)
  dsimp only [Pt.U, Pt.locs, Pt.cells, Pt.slots] at X286 l286 y286 z286 st286 hQ286
  subst l286 y286 z286
  obtain ⟨rfl, Nq286, eh286⟩ := hQ286
  have N286 := Fr.app N0 Nq286
  obtain ⟨cq287, kq287, q287a, q287b, q287c⟩ := isOf hZ0 eh286 B0
  obtain ⟨v287, _, ⟨T287, L287, k287, n287⟩, -, X287, ⟨Lc287, hQ287, l287, y287, z287⟩, st287⟩ := X286.virtualBack hx (y := yM43) (z := yM44) hown0 (mvT hZ0 (w_264 hw)) (mvT hZ0 (w_265 hw)) (own_noface (args := #[]) (mvT hZ0 (w_225 hw)) rfl) (mvT hZ0 (w_267 hw)) (mvT hZ0 (w_268 hw)) (by decide) (backOf (W := 0) (rmSl l Z a0 hw [] a1 h0 B0 B3) hZ0 (w_269 hw) (w_181 hw) (by decide) (by decide)) q287a q287c (g := (mkF m 10 #[rv a2, rv a1, .val .null, rv vb, .unset] [(.ref a1)])) rfl (by rw [hml]; rfl) (Steps.refl _) (argsL := []) (rest := []) (lenOf pd_8 rfl) rfl (by show 2 * 0 + _ ≤ _; exact Nat.le_of_eq rfl) (hb hby d38_10) (fun _ _ => ⟨rfl, eh286, (by decide : 0 + 0 ≤ _), (by decide : 0 + 0 ≤ _)⟩)
  dsimp only [Pt.U, Pt.locs, Pt.cells, Pt.slots] at X287 l287 y287 z287 st287 hQ287
  subst l287 y287 z287
  obtain ⟨rfl, Nq287, eh287⟩ := hQ287
  have N287 := Fr.app N286 Nq287
  obtain ⟨cq288, kq288, q288a, q288b, q288c⟩ := isOf hZ0 eh287 B0
  obtain ⟨v288, _, ⟨T288, L288, k288, n288⟩, -, X288, ⟨Lc288, hQ288, l288, y288, z288⟩, st288⟩ := X287.virtualBack hx (y := yM45) (z := yM45) hown0 (mvT hZ0 (w_272 hw)) (mvT hZ0 (w_273 hw)) (notFace_of_selects (args := #[]) (mvT hZ0 (w_275 hw))) (mvT hZ0 (w_275 hw)) (mvT hZ0 (w_274 hw)) (by decide) (backOf (W := 0) (rmIl l Z a0 hw [] a1 G1 h0 OL O2 P5 B2) hZ0 (w_276 hw) (w_189 hw) (by decide) (by decide)) q288a q288c (g := (mkF m 16 #[rv a2, rv a1, .val .null, rv vb, iv 7] [(.ref a1)])) rfl (by rw [hml]; rfl) (Steps.refl _) (argsL := []) (rest := []) (lenOf pd_7 rfl) rfl (by show 2 * 0 + _ ≤ _; exact Nat.le_of_eq rfl) (hb hby d38_16) (fun _ _ => ⟨rfl, eh287, (by decide : 0 + 0 ≤ _), (by decide : 0 + 0 ≤ _)⟩)
  dsimp only [Pt.U, Pt.locs, Pt.cells, Pt.slots] at X288 l288 y288 z288 st288 hQ288
  subst l288 y288 z288
  obtain ⟨rfl, Nq288, eh288⟩ := hQ288
  have N288 := Fr.app N287 Nq288
  obtain ⟨T289, h289, X289, e289, W289, st289⟩ := putFN X288 hx hZ0 hown0 (w_26 hw) Via.refl eh288 Fc E_a2 (Or.inr ⟨(w_27 hw), rfl, hnm⟩) (w_2 hw) (ty := .byte) (v' := (.int 0)) (by decide) rfl rfl (g := (mkF m 24 #[rv a2, rv a1, .val .null, rv vb, iv 7] [(.int 0), (.ref a2)])) rfl rfl (hb hby d38_24)
  have z289 : h0.size ≤ h289.size := Nat.le_of_eq W289.size.symm
  have KP289 : Keep h0 h289 ([a2] : List Addr) := KP0.wr W289 (Or.inl (List.mem_of_getElem? (i := 0) rfl))
  have N289 := Fr.snoc X289 N288 (by omega)
  have Fw289 := Fc.same W289
  have F291 := (B4.other W289 ne_vb_a2)
  obtain ⟨v290, _, ⟨T290, L290, k290, n290⟩, -, X290, ⟨Lc290, hQ290, l290, y290, z290⟩, st290⟩ := Jvm.LawKit.callS X289 hx (y := yM46) hown0 (mvT hZ0 (w_277 hw)) (mvT hZ0 (w_278 hw)) (mvT hZ0 (w_279 hw)) (mvT hZ0 (w_280 hw)) (by decide) (backOf (W := 1) (rmCr l Z a0 hw [] vb kv v0 h289 (by omega) F291) hZ0 (w_280 hw) (w_279 hw) (by decide) (by decide)) (g := (mkF m 32 #[rv a2, rv a1, .val .null, rv vb, iv 7] [(.int 7), (.int 0), (.ref vb), (.ref a2)])) rfl (by rw [hml]; rfl) (argsL := [(.ref vb), (.int 0), (.int 7)]) (rest := [(.ref a2)]) (lenOf pd_18 rfl) rfl (by show 2 * 0 + _ ≤ _; exact Nat.le_of_eq rfl) (hb hby d38_32) (fun _ _ => ⟨rfl, e289, (by decide : 0 + 1 ≤ _), (by decide : 0 + 7 ≤ _)⟩)
  dsimp only [Pt.U, Pt.locs, Pt.cells, Pt.slots] at X290 l290 y290 z290 st290 hQ290
  subst l290 y290 z290
  obtain ⟨r_290, kr_290, rfl, Nq290, K290, f290_0, f290_1, f290_2⟩ := hQ290
  have N290 := Fr.app N289 Nq290
  have eK290 : T290.heap = T290.heap := rfl
  have z290 : h289.size ≤ T290.heap.size := K290.1
  have KP290 : Keep h0 T290.heap ([a2] : List Addr) := KP289.trans K290 all0
  have u290_1 : T290.heap.size > r_290 := f290_1.lt
  have u290_2 : T290.heap.size > r_290 := f290_2.lt
  have F292 := ((E_a2.wr W289).keep K290)
  have F293 := ((Fv.other W289 (Or.inr (slot_ne (Or.inr (w_29 hw)) (Or.inr (w_27 hw)) (by decide) (t := (.array .byte)) (t' := .byte) (by decide) (by decide)))).keep K290 nin0)
  obtain ⟨T294, h294, X294, e294, W294, st294⟩ := putF X290 hx hZ0 hown0 (host := "") (Or.inl (w_28 hw)) Via.refl eK290 F293 F292 (Or.inr ⟨(w_29 hw), rfl, hnm⟩) (w_2 hw) (ty := (.array .byte)) (by decide) rfl rfl (g := (mkF m 35 #[rv a2, rv a1, .val .null, rv vb, iv 7] [(.ref r_290), (.ref a2)])) rfl rfl (hb hby d38_35)
  have z294 : T290.heap.size ≤ h294.size := Nat.le_of_eq W294.size.symm
  have KP294 : Keep h0 h294 ([a2] : List Addr) := KP290.wr W294 (Or.inl (List.mem_of_getElem? (i := 0) rfl))
  have N294 := Fr.snoc X294 N290 (by omega)
  have Fw294 := F293.same W294
  have F295 := (F292.wr W294)
  have F296 := ((Fw289.keep K290 nin0).other W294 (Or.inr (slot_ne (Or.inr (w_27 hw)) (Or.inr (w_29 hw)) (by decide) (t := .byte) (t' := (.array .byte)) (by decide) (by decide))))
  have F297 := (f290_1.wr W294)
  have F298 := (f290_2.other W294 (show @Ne Nat r_290 a2 by omega))
  refine Go.on (w := T294.setTop (mkF m 97 #[rv a2, rv a1, .val .null, rv vb, iv 7] [])) (fun t k => XS.aloadN X0.here hx rfl (hb hby d38_0) rfl rfl (st285 _ (XS.aloadN X285.here hx rfl (hb hby d38_4) rfl rfl (st286.trans (XS.astoreN X286.here hx rfl (hb hby d38_8) rfl rfl (l' := #[rv a2, rv a1, .val .null, rv vb, .unset]) rfl (XS.aloadN X286.here hx rfl (hb hby d38_9) rfl rfl (st287.trans (XS.istore X287.here hx rfl (hb hby d38_13) rfl (l' := #[rv a2, rv a1, .val .null, rv vb, iv 7]) rfl (XS.aloadN X287.here hx rfl (hb hby d38_15) rfl rfl (st288.trans (XS.ifNo X288.here hx rfl (hb hby d38_19) rfl ((if0 _ _).trans (feq (by decide : ¬ ((1 : Int32) = (0 : Int32)))).1) (XS.aloadN X288.here hx rfl (hb hby d38_22) rfl rfl (XS.iconst X288.here hx rfl (hb hby d38_23) (st289 _ (XS.aloadN X289.here hx rfl (hb hby d38_27) rfl rfl (XS.aloadN X289.here hx rfl (hb hby d38_28) rfl rfl (XS.iconst X289.here hx rfl (hb hby d38_29) (XS.iload X289.here hx rfl (hb hby d38_30) rfl (st290 _ (st294 _ (XS.goto X294.here hx rfl (pc0 := 38) (pc' := 97) rfl (hb hby d38_38) (by decide) (by decide) k))))))))))))))))))))) ?_
  refine Go.finH X294 hlk (v := none) (fun _ => rfl) (fun fs hr => ?_) (endH (Q := Q_rmSa Z a2 a1 vb kv v0 G1 h0) (by rw [e294]; exact ⟨r_290, kr_290, rfl, N294, KP294, (by omega), F295, F296, Fw294, F297, F298⟩) (by decide) (by decide))
  exact X294.returnOut hx Bd.returns (hb hby d38_97) hr
def Q_rmSs (Z : State) (a2 : Addr) (a1 : Addr) (vb : Addr) (kv : ClassId) (v0 : Int32) (G1 : Int32) (h0 : Heap) (vv : Option Value) (h : Heap) (L : List Loc) : Prop := ∃ (tt : Addr) (kt : ClassId), vv = none ∧ Fr Z.heap.size L ∧ Keep h0 h [a2] ∧ (h0.size ≤ tt) ∧ Exa Z h a2 "java/lang/String" ∧ Fld Z h a2 "java/lang/String" "coder" "B" (.int 0) ∧ Fld Z h a2 "java/lang/String" "value" "[B" (.ref tt) ∧ Exa Z h tt "[B" ∧ Arv Z h tt kt .byte (7 : Int32) [(.int 114), (.int 101), (.int 97), (.int 108), (.int 109), (.int 32), (.int v0)] (.int 0)
theorem ef_rmSs (m : MethodId) (x0 : Addr) (x1 : Addr)   : entryFrame m #[(.ref x0), (.ref x1)] 2 = mkF m 0 #[.val (.ref x0), .val (.ref x1)] [] := rfl
theorem rmSs (l : Launch) (Z : State) (a0 : Array Value) (hw : HW a0 Z) (ws : List Cond) (a2 : Addr) (a1 : Addr) (vb : Addr) (kv : ClassId) (v0 : Int32) (G1 : Int32) (h0 : Heap) (Z0 : Z.heap.size ≤ h0.size) (OL : Old Z Z.heap.size h0) (O2 : Sta Z Z.heap "java/lang/String" "COMPACT_STRINGS" "Z" (.int G1)) (P5 : ¬ (G1 = (0 : Int32))) (lo_a2 : Z.heap.size ≤ a2) (ne_a1_a2 : a1 ≠ a2) (ne_vb_a2 : vb ≠ a2) (E_a2 : Exa Z h0 a2 "java/lang/String") (Fc : Fld Z h0 a2 "java/lang/String" "coder" "B" (.int 0)) (Fv : Fld Z h0 a2 "java/lang/String" "value" "[B" .null) (B0 : Exa Z h0 a1 "java/lang/StringBuilder") (B1 : Fld Z h0 a1 "java/lang/AbstractStringBuilder" "value" "[B" (.ref vb)) (B2 : Fld Z h0 a1 "java/lang/AbstractStringBuilder" "coder" "B" (.int 0)) (B3 : Fld Z h0 a1 "java/lang/AbstractStringBuilder" "count" "I" (.int 7)) (B4 : Arv Z h0 vb kv .byte (16 : Int32) [(.int 114), (.int 101), (.int 97), (.int 108), (.int 109), (.int 32), (.int v0), (.int 0), (.int 0), (.int 0), (.int 0), (.int 0), (.int 0), (.int 0), (.int 0), (.int 0)] (.int 0)) :
    MetFree l yM40 (head1 (Cond.code yM40 jdk_42_method_53_code 2 none :: ws) (⟨4, 1, 7, 87⟩ : Room)) (fun a U => a = #[(.ref a2), (.ref a1)] ∧ Z.Warmed39 U.vm ∧ U.heap = h0) (fun _ _ _ _ _ => True) (fun _ U o U' => ∃ v L, o = .returned v ∧ Q_rmSs Z a2 a1 vb kv v0 G1 h0 v U'.heap L ∧ FrameEnd U o U' L (⟨4, 1, 7, 87⟩ : Room).cells (⟨4, 1, 7, 87⟩ : Room).slots) := by
  refine MetFree.of_bodySF (plainFor_of_name (by first | (simp [plainName, overriddenIn]; done) | decide +kernel)) hisR ?_
  intro p e s m args below meth c s₁ Bd hml0 hP hK
  obtain ⟨rfl, hZ0', hh⟩ := hP
  have hx := Bd.exec
  have hby := Bd.bytes
  have hml : c.maxLocals = 2 := hml0
  have hZ0 : Z.Warmed39 s.vm := hZ0'
  have hown0 : s.vm.findClass "java/lang/String" = some m.cls := findClass_of_methodNamed Bd.named
  have hnm := (name_of_methodNamed Bd.named Bd.method).1
  have hlk : meth.locks = false := Bd.notSynchronized
  have X0 : Stand p l e (⟨4, 1, 7, 87⟩ : Room) s m #[(.ref a2), (.ref a1)] below meth c s₁ [] 0 0 := Stand.of_body Bd
  have e0 : s₁.heap = h0 := by rw [← hh, Bd.state]; rfl
  have N0 := Fr.nil Z.heap.size
  have KP0 : Keep h0 h0 ([a2] : List Addr) := Keep.refl _ _
  show Go p e below (fun t o => ∃ v L, o = .returned v ∧ Q_rmSs Z a2 a1 vb kv v0 G1 h0 v t.heap L ∧ FrameEnd s o t L (⟨4, 1, 7, 87⟩ : Room).cells (⟨4, 1, 7, 87⟩ : Room).slots) (s₁.setTop (entryFrame m #[(.ref a2), (.ref a1)] 2))
  refine Go.on (w := s₁.setTop (mkF m 0 #[rv a2, rv a1] [])) (fun t k => castTop (ef_rmSs m a2 a1) k) ?_
  have u_a2 : h0.size > a2 := E_a2.lt
  have u_a1 : h0.size > a1 := B0.lt
  have u_vb : h0.size > vb := B4.lt
  obtain ⟨v299, _, ⟨T299, L299, k299, n299⟩, -, X299, ⟨Lc299, hQ299, l299, y299, z299⟩, st299⟩ := X0.specialBack hx (y := yM41) rfl hown0 (mvT hZ0 (w_256 hw)) (mvT hZ0 (w_257 hw)) (mvT hZ0 (w_258 hw)) (by decide) (backOf (W := 0) (rmSa l Z a0 hw [] a2 a1 vb kv v0 G1 h0 (by omega) OL O2 P5 (by omega) ne_a1_a2 ne_vb_a2 E_a2 Fc Fv B0 B1 B2 B3 B4) hZ0 (w_258 hw) (w_3 hw) (by decide) (by decide)) (g := (mkF m 3 #[rv a2, rv a1] [.null, (.ref a1), (.ref a2)])) rfl (by rw [hml]; rfl) (Steps.refl _) (a := a2) (argsL := [(.ref a1), .null]) (rest := []) (lenOf pd_19 rfl) rfl (by show 2 * 0 + _ ≤ _; exact Nat.le_of_eq rfl) (hb hby d39_3) (fun _ _ => ⟨rfl, e0, (by decide : 0 + 1 ≤ _), (by decide : 0 + 7 ≤ _)⟩)
  dsimp only [Pt.U, Pt.locs, Pt.cells, Pt.slots] at X299 l299 y299 z299 st299 hQ299
  subst l299 y299 z299
  obtain ⟨tt_299, kt_299, rfl, Nq299, K299, f299_0, f299_1, f299_2, f299_3, f299_4, f299_5⟩ := hQ299
  have N299 := Fr.app N0 Nq299
  have eK299 : T299.heap = T299.heap := rfl
  have z299 : h0.size ≤ T299.heap.size := K299.1
  have KP299 : Keep h0 T299.heap ([a2] : List Addr) := KP0.trans K299 (allS (P := fun zq => zq ∈ ([a2] : List Addr) ∨ h0.size ≤ zq) (Or.inl (List.mem_of_getElem? (i := 0) rfl)) all0)
  have u299_4 : T299.heap.size > tt_299 := f299_4.lt
  have u299_5 : T299.heap.size > tt_299 := f299_5.lt
  refine Go.on (w := T299.setTop (mkF m 6 #[rv a2, rv a1] [])) (fun t k => XS.aloadN X0.here hx rfl (hb hby d39_0) rfl rfl (XS.aloadN X0.here hx rfl (hb hby d39_1) rfl rfl (XS.aconstNull X0.here hx rfl (hb hby d39_2) (st299.trans k)))) ?_
  refine Go.finH X299 hlk (v := none) (fun _ => rfl) (fun fs hr => ?_) (endH (Q := Q_rmSs Z a2 a1 vb kv v0 G1 h0) (by rw [eK299]; exact ⟨tt_299, kt_299, rfl, N299, KP299, (by omega), f299_1, f299_2, f299_3, f299_4, f299_5⟩) (by decide) (by decide))
  exact X299.returnOut hx Bd.returns (hb hby d39_6) hr
def Q_rmTs (Z : State) (a1 : Addr) (vb : Addr) (kv : ClassId) (v0 : Int32) (G1 : Int32) (h0 : Heap) (vv : Option Value) (h : Heap) (L : List Loc) : Prop := ∃ (r : Addr) (tt : Addr) (kt : ClassId), vv = some (.ref r) ∧ Fr Z.heap.size L ∧ Keep h0 h [] ∧ (h0.size ≤ r) ∧ (h0.size ≤ tt) ∧ Exa Z h r "java/lang/String" ∧ Fld Z h r "java/lang/String" "coder" "B" (.int 0) ∧ Fld Z h r "java/lang/String" "value" "[B" (.ref tt) ∧ Exa Z h tt "[B" ∧ Arv Z h tt kt .byte (7 : Int32) [(.int 114), (.int 101), (.int 97), (.int 108), (.int 109), (.int 32), (.int v0)] (.int 0)
theorem ef_rmTs (m : MethodId) (x0 : Addr)   : entryFrame m #[(.ref x0)] 1 = mkF m 0 #[.val (.ref x0)] [] := rfl
theorem rmTs (l : Launch) (Z : State) (a0 : Array Value) (hw : HW a0 Z) (ws : List Cond) (a1 : Addr) (vb : Addr) (kv : ClassId) (v0 : Int32) (G1 : Int32) (h0 : Heap) (Z0 : Z.heap.size ≤ h0.size) (OL : Old Z Z.heap.size h0) (O2 : Sta Z Z.heap "java/lang/String" "COMPACT_STRINGS" "Z" (.int G1)) (P5 : ¬ (G1 = (0 : Int32))) (B0 : Exa Z h0 a1 "java/lang/StringBuilder") (B1 : Fld Z h0 a1 "java/lang/AbstractStringBuilder" "value" "[B" (.ref vb)) (B2 : Fld Z h0 a1 "java/lang/AbstractStringBuilder" "coder" "B" (.int 0)) (B3 : Fld Z h0 a1 "java/lang/AbstractStringBuilder" "count" "I" (.int 7)) (B4 : Arv Z h0 vb kv .byte (16 : Int32) [(.int 114), (.int 101), (.int 97), (.int 108), (.int 109), (.int 32), (.int v0), (.int 0), (.int 0), (.int 0), (.int 0), (.int 0), (.int 0), (.int 0), (.int 0), (.int 0)] (.int 0)) :
    MetFree l yM39 (head1 (Cond.code yM39 jdk_67_method_42_code 1 (some (.object "java/lang/String")) :: ws) (⟨5, 2, 11, 101⟩ : Room)) (fun a U => a = #[(.ref a1)] ∧ Z.Warmed39 U.vm ∧ U.heap = h0) (fun _ _ _ _ _ => True) (fun _ U o U' => ∃ v L, o = .returned v ∧ Q_rmTs Z a1 vb kv v0 G1 h0 v U'.heap L ∧ FrameEnd U o U' L (⟨5, 2, 11, 101⟩ : Room).cells (⟨5, 2, 11, 101⟩ : Room).slots) := by
  refine MetFree.of_bodySF (plainFor_of_name (by first | (simp [plainName, overriddenIn]; done) | decide +kernel)) hisR ?_
  intro p e s m args below meth c s₁ Bd hml0 hP hK
  obtain ⟨rfl, hZ0', hh⟩ := hP
  have hx := Bd.exec
  have hby := Bd.bytes
  have hml : c.maxLocals = 1 := hml0
  have hZ0 : Z.Warmed39 s.vm := hZ0'
  have hown0 : s.vm.findClass "java/lang/StringBuilder" = some m.cls := findClass_of_methodNamed Bd.named
  have hnm := (name_of_methodNamed Bd.named Bd.method).1
  have hlk : meth.locks = false := Bd.notSynchronized
  have X0 : Stand p l e (⟨5, 2, 11, 101⟩ : Room) s m #[(.ref a1)] below meth c s₁ [] 0 0 := Stand.of_body Bd
  have e0 : s₁.heap = h0 := by rw [← hh, Bd.state]; rfl
  have N0 := Fr.nil Z.heap.size
  have KP0 : Keep h0 h0 ([] : List Addr) := Keep.refl _ _
  show Go p e below (fun t o => ∃ v L, o = .returned v ∧ Q_rmTs Z a1 vb kv v0 G1 h0 v t.heap L ∧ FrameEnd s o t L (⟨5, 2, 11, 101⟩ : Room).cells (⟨5, 2, 11, 101⟩ : Room).slots) (s₁.setTop (entryFrame m #[(.ref a1)] 1))
  refine Go.on (w := s₁.setTop (mkF m 0 #[rv a1] [])) (fun t k => castTop (ef_rmTs m a1) k) ?_
  have u_a1 : h0.size > a1 := B0.lt
  have u_vb : h0.size > vb := B4.lt
  obtain ⟨T300, h300, X300, e300, E300, A300, D300, -, st300⟩ := newO X0 hx hZ0 hown0 (w_252 hw) (w_2 hw) (w_3 hw) e0 (g := (mkF m 0 #[rv a1] [])) rfl (hb hby d40_0) (by decide) (by decide)
  obtain ⟨b300, g300⟩ : ∃ z, z = h0.size := ⟨_, rfl⟩
  rw [← g300] at A300 D300 st300
  have u300 : h300.size > b300 := A300.lt
  have z300 : h0.size ≤ h300.size := E300.1
  have KP300 : Keep h0 h300 ([] : List Addr) := KP0.ext E300
  have Fn300_27 : Fld Z h300 b300 "java/lang/String" "coder" "B" (.int 0) := D300 (Or.inr (w_27 hw)) (ty := .byte) (by decide)
  have Fn300_29 : Fld Z h300 b300 "java/lang/String" "value" "[B" .null := D300 (Or.inr (w_29 hw)) (ty := (.array .byte)) (by decide)
  have F302 := (OL.ext E300)
  have F303 := (B0.ext E300)
  have F304 := (B1.ext E300)
  have F305 := (B2.ext E300)
  have F306 := (B3.ext E300)
  have F307 := (B4.ext E300)
  obtain ⟨v301, _, ⟨T301, L301, k301, n301⟩, -, X301, ⟨Lc301, hQ301, l301, y301, z301⟩, st301⟩ := X300.specialBack hx (y := yM40) rfl hown0 (mvT hZ0 (w_253 hw)) (mvT hZ0 (w_254 hw)) (mvT hZ0 (w_255 hw)) (by decide) (backOf (W := 1) (rmSs l Z a0 hw [] b300 a1 vb kv v0 G1 h300 (by omega) F302 O2 P5 (by omega) (show @Ne Nat a1 b300 by omega) (show @Ne Nat vb b300 by omega) A300 Fn300_27 Fn300_29 F303 F304 F305 F306 F307) hZ0 (w_255 hw) (w_3 hw) (by decide) (by decide)) (g := (mkF m 5 #[rv a1] [(.ref a1), (.ref b300), (.ref b300)])) rfl (by rw [hml]; rfl) (Steps.refl _) (a := b300) (argsL := [(.ref a1)]) (rest := [(.ref b300)]) (lenOf pd_20 rfl) rfl (by show 2 * 0 + _ ≤ _; exact Nat.le_of_eq rfl) (hb hby d40_5) (fun _ _ => ⟨rfl, e300, (by decide : 1 + 1 ≤ _), (by decide : 4 + 7 ≤ _)⟩)
  dsimp only [Pt.U, Pt.locs, Pt.cells, Pt.slots] at X301 l301 y301 z301 st301 hQ301
  subst l301 y301 z301
  obtain ⟨tt_301, kt_301, rfl, Nq301, K301, f301_0, f301_1, f301_2, f301_3, f301_4, f301_5⟩ := hQ301
  have N301 := Fr.app N0 Nq301
  have eK301 : T301.heap = T301.heap := rfl
  have z301 : h300.size ≤ T301.heap.size := K301.1
  have KP301 : Keep h0 T301.heap ([] : List Addr) := KP300.trans K301 (allS (P := fun zq => zq ∈ ([] : List Addr) ∨ h0.size ≤ zq) (Or.inr (by omega)) all0)
  have u301_4 : T301.heap.size > tt_301 := f301_4.lt
  have u301_5 : T301.heap.size > tt_301 := f301_5.lt
  refine Go.on (w := T301.setTop (mkF m 8 #[rv a1] [(.ref b300)])) (fun t k => st300 _ (XS.dup X300.here hx rfl (hb hby d40_3) rfl rfl (XS.aloadN X300.here hx rfl (hb hby d40_4) rfl rfl (st301.trans k)))) ?_
  refine Go.finH X301 hlk (v := some (.ref b300)) (fun h => by rw [Bd.returns] at h; cases h) (fun fs hr => ?_) (endH (Q := Q_rmTs Z a1 vb kv v0 G1 h0) (by rw [eK301]; exact ⟨b300, tt_301, kt_301, rfl, N301, KP301, (by omega), (by omega), f301_1, f301_2, f301_3, f301_4, f301_5⟩) (by decide) (by decide))
  exact retOut X301 hx Bd.returns rfl (Or.inr (Or.inr (Or.inr (Or.inr ⟨rfl, rfl, rfl⟩)))) (hb hby d40_8) hr
def Q_rmKey (Z : State) (sa : Addr) (ta : Addr) (q : ClassId) (G1 : Int32) (v0 : Int32) (h0 : Heap) (vv : Option Value) (h : Heap) (L : List Loc) : Prop := ∃ (r : Addr) (tr : Addr) (kr : ClassId), vv = some (.ref r) ∧ Fr Z.heap.size L ∧ Keep h0 h [] ∧ (h0.size ≤ r) ∧ (h0.size ≤ tr) ∧ Exa Z h r "java/lang/String" ∧ Fld Z h r "java/lang/String" "coder" "B" (.int 0) ∧ Fld Z h r "java/lang/String" "value" "[B" (.ref tr) ∧ Exa Z h tr "[B" ∧ Arv Z h tr kr .byte (7 : Int32) [(.int 114), (.int 101), (.int 97), (.int 108), (.int 109), (.int 32), (.int v0)] (.int 0)
theorem ef_rmKey (m : MethodId) (x1 : Addr)   : entryFrame m #[.null, (.ref x1)] 2 = mkF m 0 #[.val .null, .val (.ref x1)] [] := rfl
theorem rmKey (l : Launch) (Z : State) (a0 : Array Value) (hw : HW a0 Z) (ws : List Cond) (sa : Addr) (ta : Addr) (q : ClassId) (G1 : Int32) (v0 : Int32) (h0 : Heap) (hEL : EW Z a0 EL) (Z0 : Z.heap.size ≤ h0.size) (OL : Old Z Z.heap.size h0) (O2 : Sta Z Z.heap "java/lang/String" "COMPACT_STRINGS" "Z" (.int G1)) (P5 : ¬ (G1 = (0 : Int32))) (S0 : Exa Z h0 sa "java/lang/String") (S1 : Fld Z h0 sa "java/lang/String" "coder" "B" (.int 0)) (S2 : Fld Z h0 sa "java/lang/String" "value" "[B" (.ref ta)) (S3 : Arv Z h0 ta q .byte (1 : Int32) [(.int v0)] (.int 0)) :
    MetFree l yM27 (head1 (Cond.code yM27 prog_22_method_8_code 2 (some (.object "java/lang/String")) :: ws) (⟨6, 6, 59, 113⟩ : Room)) (fun a U => a = #[.null, (.ref sa)] ∧ Z.Warmed39 U.vm ∧ U.heap = h0 ∧ CHv Z EL U.vm h0) (fun _ _ _ _ _ => True) (fun _ U o U' => ∃ v L, o = .returned v ∧ Q_rmKey Z sa ta q G1 v0 h0 v U'.heap L ∧ CHr Z EL U.vm U.heap U'.vm U'.heap ∧ ReturnedEndW U o U' L (⟨6, 6, 59, 113⟩ : Room).cells (⟨6, 6, 59, 113⟩ : Room).slots) := by
  refine MetFree.of_bodySF (plainFor_of_name (by first | (simp [plainName, overriddenIn]; done) | decide +kernel)) hisR ?_
  intro p e s m args below meth c s₁ Bd hml0 hP hK
  obtain ⟨rfl, hZ0', hh, hC0⟩ := hP
  have hx := Bd.exec
  have hby := Bd.bytes
  have hml : c.maxLocals = 2 := hml0
  have hZ0 : Z.Warmed39 (s.setVm s.vm).vm := hZ0'
  have hown0 : (s.setVm s.vm).vm.findClass "com/example/realmwright/realmwright/KeycloakRoles" = some m.cls := findClass_of_methodNamed Bd.named
  have hnm := (name_of_methodNamed Bd.named Bd.method).1
  have hlk : meth.locks = false := Bd.notSynchronized
  have X0 : Stand p l e (⟨6, 6, 59, 113⟩ : Room) (s.setVm s.vm) m #[.null, (.ref sa)] below meth c s₁ [] 0 0 := Stand.of_body Bd
  have e0 : s₁.heap = h0 := by rw [← hh, Bd.state]; rfl
  have hS0 : s.Since s.vm s.heap.size := (State.WarmedH.refl s).since _
  have hk0 : s.heap.size ≤ h0.size := by rw [hh]; exact Nat.le_refl _
  have CR0 : CHr Z EL s.vm s.heap s.vm h0 := by rw [hh]; exact CHr.refl hC0
  have N0 := Fr.nil Z.heap.size
  have KP0 : Keep h0 h0 ([] : List Addr) := Keep.refl _ _
  show Go p e below (fun t o => ∃ v L, o = .returned v ∧ Q_rmKey Z sa ta q G1 v0 h0 v t.heap L ∧ CHr Z EL s.vm s.heap t.vm t.heap ∧ ReturnedEndW s o t L (⟨6, 6, 59, 113⟩ : Room).cells (⟨6, 6, 59, 113⟩ : Room).slots) (s₁.setTop (entryFrame m #[.null, (.ref sa)] 2))
  refine Go.on (w := s₁.setTop (mkF m 0 #[.val .null, rv sa] [])) (fun t k => castTop (ef_rmKey m sa) k) ?_
  have u_s : h0.size > sa := S0.lt
  have u_t : h0.size > ta := S3.lt
  obtain ⟨T308, h308, X308, e308, E308, A308, D308, -, st308⟩ := newO X0 hx hZ0 hown0 (w_179 hw) (w_180 hw) (w_181 hw) e0 (g := (mkF m 4 #[.val .null, rv sa] [])) rfl (hb hby d41_4) (by decide) (by decide)
  obtain ⟨b308, g308⟩ : ∃ z, z = h0.size := ⟨_, rfl⟩
  rw [← g308] at A308 D308 st308
  have u308 : h308.size > b308 := A308.lt
  have z308 : h0.size ≤ h308.size := E308.1
  have CR308 := CR0.trans (CHr.ext E308 CR0.1)
  have KP308 : Keep h0 h308 ([] : List Addr) := KP0.ext E308
  have Fn308_194 : Fld Z h308 b308 "java/lang/AbstractStringBuilder" "value" "[B" .null := D308 (Or.inl (w_194 hw)) (ty := (.array .byte)) (by decide)
  have Fn308_196 : Fld Z h308 b308 "java/lang/AbstractStringBuilder" "coder" "B" (.int 0) := D308 (Or.inl (w_196 hw)) (ty := .byte) (by decide)
  have Fn308_221 : Fld Z h308 b308 "java/lang/AbstractStringBuilder" "count" "I" (.int 0) := D308 (Or.inl (w_221 hw)) (ty := .int) (by decide)
  have F310 := (OL.ext E308)
  obtain ⟨v309, _, ⟨T309, L309, k309, n309⟩, -, X309, ⟨Lc309, hQ309, l309, y309, z309⟩, st309⟩ := X308.specialBack hx (y := yM28) rfl hown0 (mvT hZ0 (w_182 hw)) (mvT hZ0 (w_183 hw)) (mvT hZ0 (w_184 hw)) (by decide) (backOf (W := 1) (rmSBi l Z a0 hw [] b308 G1 h308 (by omega) F310 O2 P5 (by omega) A308 Fn308_194 Fn308_196 Fn308_221) hZ0 (w_184 hw) (w_181 hw) (by decide) (by decide)) (g := (mkF m 8 #[.val .null, rv sa] [(.ref b308), (.ref b308)])) rfl (by rw [hml]; rfl) (Steps.refl _) (a := b308) (argsL := []) (rest := [(.ref b308)]) (lenOf pd_0 rfl) rfl (by show 2 * 0 + _ ≤ _; exact Nat.le_of_eq rfl) (hb hby d41_8) (fun _ _ => ⟨rfl, e308, (by decide : 1 + 1 ≤ _), (by decide : 4 + 16 ≤ _)⟩)
  dsimp only [Pt.U, Pt.locs, Pt.cells, Pt.slots] at X309 l309 y309 z309 st309 hQ309
  subst l309 y309 z309
  obtain ⟨vb_309, kv_309, rfl, Nq309, K309, f309_0, f309_1, f309_2, f309_3, f309_4, f309_5⟩ := hQ309
  have N309 := Fr.app N0 Nq309
  have eK309 : T309.heap = T309.heap := rfl
  have Sn309_5 : Safe Z EL s.vm h308 vb_309 := Safe.new (by omega)
  have CR309 := CR308.trans (CHr.keep K309 (sfS (Safe.exa hZ0.alike A308 (by decide) (by decide)) sf0) CR308.1)
  have z309 : h308.size ≤ T309.heap.size := K309.1
  have KP309 : Keep h0 T309.heap ([] : List Addr) := KP308.trans K309 (allS (P := fun zq => zq ∈ ([] : List Addr) ∨ h0.size ≤ zq) (Or.inr (by omega)) all0)
  have u309_5 : T309.heap.size > vb_309 := f309_5.lt
  obtain ⟨b311, T311, h311, j311, t311, k311, X311, e311, E311, hS311, hk311, hZ311, hown311, Ex311, Fc311, Fv311, Av311, ua311, ub311, C311, Li311, sf311, st311⟩ := ldcCH X309 hx hZ0 hown0 (w_197 hw) (sAt hw) eK309 hS0 (by omega) hEL (by simp [EL]) CR309.1 (vs := [.int (114 : Int32), .int (101 : Int32), .int (97 : Int32), .int (108 : Int32), .int (109 : Int32), .int (32 : Int32)]) (z := (6 : Int32)) (by decide) (by decide) (by decide) (g := (mkF m 11 #[.val .null, rv sa] [(.ref b308)])) rfl (hb hby d41_11) (n := 24) (by decide) (by decide) (by decide) (by decide)
  have z311 : T309.heap.size ≤ h311.size := E311.1
  have CR311 := CR309.trans C311
  have KP311 : Keep h0 h311 ([] : List Addr) := KP309.ext E311
  have va311 : h311.size > b311 := ua311
  have vb311 : h311.size > t311 := ub311
  have V312 : Arv Z h311 t311 k311 .byte (6 : Int32) [(.int 114), (.int 101), (.int 97), (.int 108), (.int 109), (.int 32)] (.int 0) := Av311
  have F313 := (f309_1.ext E311)
  have F314 := (C311.safe (show @LT.lt Nat _ vb_309 T309.heap.size by omega) (Safe.keep K309 (sfS (Safe.exa hZ0.alike A308 (by decide) (by decide)) sf0) CR308.1 Sn309_5))
  have F316 := ((F310.keep K309 (allS (by omega) all0)).ext E311)
  have F317 := (f309_2.ext E311)
  have F318 := (f309_3.ext E311)
  have F319 := (f309_4.ext E311)
  have F320 := (f309_5.ext E311)
  obtain ⟨cq315, kq315, q315a, q315b, q315c⟩ := isOf hZ311 e311 F313
  obtain ⟨v315, _, ⟨T315, L315, k315, n315⟩, -, X315, ⟨Lc315, hQ315, l315, y315, z315⟩, st315⟩ := X311.virtualBack hx (y := yM30) (z := yM30) hown311 (mvT hZ311 (w_200 hw)) (mvT hZ311 (w_201 hw)) (notFace_of_selects (args := #[]) (mvT hZ311 (w_203 hw))) (mvT hZ311 (w_203 hw)) (mvT hZ311 (w_202 hw)) (by decide) (backOf (W := 0) (rmApB6 l Z a0 hw [] b308 vb_309 kv_309 b311 t311 k311 G1 h311 (by omega) (by omega) (by omega) (show @Ne Nat b308 vb_309 by omega) (Ne.symm (sf311 _ (Safe.exa hZ311.alike F313 (by decide) (by decide))).1) (Ne.symm (sf311 _ F314).1) (Ne.symm (sf311 _ (Safe.exa hZ311.alike F313 (by decide) (by decide))).2) (Ne.symm (sf311 _ F314).2) F316 O2 P5 Ex311 Fc311 Fv311 V312 F313 F317 F318 F319 F320) hZ311 (w_204 hw) (w_181 hw) (by decide) (by decide)) q315a q315c (g := (mkF m 13 #[.val .null, rv sa] [(.ref b311), (.ref b308)])) rfl (by rw [hml]; rfl) (Steps.refl _) (argsL := [(.ref b311)]) (rest := []) (lenOf pd_21 rfl) rfl (by show 2 * 0 + _ ≤ _; exact Nat.le_of_eq rfl) (hb hby d41_13) (fun _ _ => ⟨rfl, e311, (by decide : 4 + 0 ≤ _), (by decide : 48 + 0 ≤ _)⟩)
  dsimp only [Pt.U, Pt.locs, Pt.cells, Pt.slots] at X315 l315 y315 z315 st315 hQ315
  subst l315 y315 z315
  obtain ⟨rfl, Nq315, K315, f315_0, f315_1, f315_2, f315_3, f315_4⟩ := hQ315
  have N315 := Fr.app N309 Nq315
  have eK315 : T315.heap = T315.heap := rfl
  have CR315 := CR311.trans (CHr.keep K315 (sfS (Safe.exa hZ311.alike F313 (by decide) (by decide)) (sfS F314 sf0)) CR311.1)
  have z315 : h311.size ≤ T315.heap.size := K315.1
  have KP315 : Keep h0 T315.heap ([] : List Addr) := KP311.trans K315 (allS (P := fun zq => zq ∈ ([] : List Addr) ∨ h0.size ≤ zq) (Or.inr (by omega)) (allS (P := fun zq => zq ∈ ([] : List Addr) ∨ h0.size ≤ zq) (Or.inr (by omega)) all0))
  have F322 := (F316.keep K315 (allS (by omega) (allS (by omega) all0)))
  have F323 := ((((S0.ext E308).keep K309).ext E311).keep K315)
  have F324 := ((((S1.ext E308).keep K309 (ninS (show @Ne Nat sa b308 by omega) nin0)).ext E311).keep K315 (ninS (show @Ne Nat sa b308 by omega) (ninS (show @Ne Nat sa vb_309 by omega) nin0)))
  have F325 := ((((S2.ext E308).keep K309 (ninS (show @Ne Nat sa b308 by omega) nin0)).ext E311).keep K315 (ninS (show @Ne Nat sa b308 by omega) (ninS (show @Ne Nat sa vb_309 by omega) nin0)))
  have F326 := ((((S3.ext E308).keep K309 (ninS (show @Ne Nat ta b308 by omega) nin0)).ext E311).keep K315 (ninS (show @Ne Nat ta b308 by omega) (ninS (show @Ne Nat ta vb_309 by omega) nin0)))
  obtain ⟨cq321, kq321, q321a, q321b, q321c⟩ := isOf hZ311 eK315 f315_0
  obtain ⟨v321, _, ⟨T321, L321, k321, n321⟩, -, X321, ⟨Lc321, hQ321, l321, y321, z321⟩, st321⟩ := X315.virtualBack hx (y := yM30) (z := yM30) hown311 (mvT hZ311 (w_200 hw)) (mvT hZ311 (w_201 hw)) (notFace_of_selects (args := #[]) (mvT hZ311 (w_203 hw))) (mvT hZ311 (w_203 hw)) (mvT hZ311 (w_202 hw)) (by decide) (backOf (W := 0) (rmApB1 l Z a0 hw [] b308 vb_309 kv_309 sa ta q G1 v0 T315.heap (by omega) (by omega) (by omega) (show @Ne Nat b308 vb_309 by omega) (show @Ne Nat sa b308 by omega) (show @Ne Nat sa vb_309 by omega) (show @Ne Nat ta b308 by omega) (show @Ne Nat ta vb_309 by omega) F322 O2 P5 F323 F324 F325 F326 f315_0 f315_1 f315_2 f315_3 f315_4) hZ311 (w_204 hw) (w_181 hw) (by decide) (by decide)) q321a q321c (g := (mkF m 17 #[.val .null, rv sa] [(.ref sa), (.ref b308)])) rfl (by rw [hml]; rfl) (Steps.refl _) (argsL := [(.ref sa)]) (rest := []) (lenOf pd_21 rfl) rfl (by show 2 * 0 + _ ≤ _; exact Nat.le_of_eq rfl) (hb hby d41_17) (fun _ _ => ⟨rfl, eK315, (by decide : 4 + 0 ≤ _), (by decide : 48 + 0 ≤ _)⟩)
  dsimp only [Pt.U, Pt.locs, Pt.cells, Pt.slots] at X321 l321 y321 z321 st321 hQ321
  subst l321 y321 z321
  obtain ⟨rfl, Nq321, K321, f321_0, f321_1, f321_2, f321_3, f321_4⟩ := hQ321
  have N321 := Fr.app N315 Nq321
  have eK321 : T321.heap = T321.heap := rfl
  have F327 := (Safe.keep K315 (sfS (Safe.exa hZ311.alike F313 (by decide) (by decide)) (sfS F314 sf0)) CR311.1 F314)
  have CR321 := CR315.trans (CHr.keep K321 (sfS (Safe.exa hZ311.alike f315_0 (by decide) (by decide)) (sfS F327 sf0)) CR315.1)
  have z321 : T315.heap.size ≤ T321.heap.size := K321.1
  have KP321 : Keep h0 T321.heap ([] : List Addr) := KP315.trans K321 (allS (P := fun zq => zq ∈ ([] : List Addr) ∨ h0.size ≤ zq) (Or.inr (by omega)) (allS (P := fun zq => zq ∈ ([] : List Addr) ∨ h0.size ≤ zq) (Or.inr (by omega)) all0))
  have F329 := (F322.keep K321 (allS (by omega) (allS (by omega) all0)))
  obtain ⟨cq328, kq328, q328a, q328b, q328c⟩ := isOf hZ311 eK321 f321_0
  obtain ⟨v328, _, ⟨T328, L328, k328, n328⟩, -, X328, ⟨Lc328, hQ328, l328, y328, z328⟩, st328⟩ := X321.virtualBack hx (y := yM39) (z := yM39) hown311 (mvT hZ311 (w_247 hw)) (mvT hZ311 (w_248 hw)) (notFace_of_selects (args := #[]) (mvT hZ311 (w_250 hw))) (mvT hZ311 (w_250 hw)) (mvT hZ311 (w_249 hw)) (by decide) (backOf (W := 0) (rmTs l Z a0 hw [] b308 vb_309 kv_309 v0 G1 T321.heap (by omega) F329 O2 P5 f321_0 f321_1 f321_2 f321_3 f321_4) hZ311 (w_251 hw) (w_181 hw) (by decide) (by decide)) q328a q328c (g := (mkF m 20 #[.val .null, rv sa] [(.ref b308)])) rfl (by rw [hml]; rfl) (Steps.refl _) (argsL := []) (rest := []) (lenOf pd_22 rfl) rfl (by show 2 * 0 + _ ≤ _; exact Nat.le_of_eq rfl) (hb hby d41_20) (fun _ _ => ⟨rfl, eK321, (by decide : 4 + 2 ≤ _), (by decide : 48 + 11 ≤ _)⟩)
  dsimp only [Pt.U, Pt.locs, Pt.cells, Pt.slots] at X328 l328 y328 z328 st328 hQ328
  subst l328 y328 z328
  obtain ⟨r_328, tt_328, kt_328, rfl, Nq328, K328, f328_0, f328_1, f328_2, f328_3, f328_4, f328_5, f328_6⟩ := hQ328
  have N328 := Fr.app N321 Nq328
  have eK328 : T328.heap = T328.heap := rfl
  have Sn328_6 : Safe Z EL T311.vm T321.heap tt_328 := Safe.new (by omega)
  have CR328 := CR321.trans (CHr.keep K328 sf0 CR321.1)
  have z328 : T321.heap.size ≤ T328.heap.size := K328.1
  have KP328 : Keep h0 T328.heap ([] : List Addr) := KP321.trans K328 all0
  have u328_2 : T328.heap.size > r_328 := f328_2.lt
  have u328_5 : T328.heap.size > tt_328 := f328_5.lt
  have u328_6 : T328.heap.size > tt_328 := f328_6.lt
  refine Go.on (w := T328.setTop (mkF m 66 #[.val .null, rv sa] [(.ref r_328)])) (fun t k => XS.aloadN X0.here hx rfl (hb hby d41_0) rfl rfl (XS.ifnonnullNo X0.here hx rfl (hb hby d41_1) rfl (st308 _ (XS.dup X308.here hx rfl (hb hby d41_7) rfl rfl (st309.trans (st311 _ (st315.trans (XS.aloadN X315.here hx rfl (hb hby d41_16) rfl rfl (st321.trans (st328.trans (XS.goto X328.here hx rfl (pc0 := 23) (pc' := 66) rfl (hb hby d41_23) (by decide) (by decide) k))))))))))) ?_
  have CE330 := CR328.trans (CHv.at X328 hZ311 hEL CR328.1)
  refine Go.fin X328 hS311 (by rw [eK328]; omega) hlk (v := some (.ref r_328)) (fun h => by rw [Bd.returns] at h; cases h) (fun fs hr => ?_) (endP (Q := Q_rmKey Z sa ta q G1 v0 h0) (by rw [eK328]; exact ⟨r_328, tt_328, kt_328, rfl, N328, KP328, (by omega), (by omega), f328_2, f328_3, f328_4, f328_5, f328_6⟩) (by rw [eK328]; exact CE330) (by decide) (by decide))
  exact retOut X328 hx Bd.returns rfl (Or.inr (Or.inr (Or.inr (Or.inr ⟨rfl, rfl, rfl⟩)))) (hb hby d41_66) hr
def Q_rmCp0 (Z : State) (ta : Addr) (q : ClassId) (v0 : Int32) (h0 : Heap) (vv : Option Value) (h : Heap) (L : List Loc) : Prop := vv = some (.int 7) ∧ Fr Z.heap.size L ∧ h = h0
theorem ef_rmCp0 (m : MethodId) (x0 : Addr) (x1 : Int32) (x2 : Int32)   : entryFrame m #[(.ref x0), (.int x1), (.int x2)] 5 = mkF m 0 #[.val (.ref x0), .val (.int x1), .val (.int x2), .unset, .unset] [] := rfl
theorem rmCp0 (l : Launch) (Z : State) (a0 : Array Value) (hw : HW a0 Z) (ws : List Cond) (ta : Addr) (q : ClassId) (v0 : Int32) (h0 : Heap) (Vt : Arv Z h0 ta q .byte (7 : Int32) [(.int 114), (.int 101), (.int 97), (.int 108), (.int 109), (.int 32), (.int v0)] (.int 0)) (hv : ¬ v0 < (0 : Int32)) :
    MetFree l yM55 (head1 (Cond.code yM55 jdk_123_method_3_code 5 (some .int) :: ws) (⟨0, 0, 0, 0⟩ : Room)) (fun a U => a = #[(.ref ta), (.int 0), (.int 7)] ∧ Z.Warmed39 U.vm ∧ U.heap = h0) (fun _ _ _ _ _ => True) (fun _ U o U' => ∃ v L, o = .returned v ∧ Q_rmCp0 Z ta q v0 h0 v U'.heap L ∧ FrameEnd U o U' L (⟨0, 0, 0, 0⟩ : Room).cells (⟨0, 0, 0, 0⟩ : Room).slots) := by
  refine MetFree.of_bodySF (plainFor_of_name (by first | (simp [plainName, overriddenIn]; done) | decide +kernel)) hisR ?_
  intro p e s m args below meth c s₁ Bd hml0 hP hK
  obtain ⟨rfl, hZ0', hh⟩ := hP
  have hx := Bd.exec
  have hby := Bd.bytes
  have hml : c.maxLocals = 5 := hml0
  have hZ0 : Z.Warmed39 s.vm := hZ0'
  have hown0 : s.vm.findClass "java/lang/StringCoding" = some m.cls := findClass_of_methodNamed Bd.named
  have hnm := (name_of_methodNamed Bd.named Bd.method).1
  have hlk : meth.locks = false := Bd.notSynchronized
  have X0 : Stand p l e (⟨0, 0, 0, 0⟩ : Room) s m #[(.ref ta), (.int 0), (.int 7)] below meth c s₁ [] 0 0 := Stand.of_body Bd
  have e0 : s₁.heap = h0 := by rw [← hh, Bd.state]; rfl
  have N0 := Fr.nil Z.heap.size
  have KP0 : Keep h0 h0 ([] : List Addr) := Keep.refl _ _
  show Go p e below (fun t o => ∃ v L, o = .returned v ∧ Q_rmCp0 Z ta q v0 h0 v t.heap L ∧ FrameEnd s o t L (⟨0, 0, 0, 0⟩ : Room).cells (⟨0, 0, 0, 0⟩ : Room).slots) (s₁.setTop (entryFrame m #[(.ref ta), (.int 0), (.int 7)] 5))
  refine Go.on (w := s₁.setTop (mkF m 0 #[rv ta, iv 0, iv 7, .unset, .unset] [])) (fun t k => castTop (ef_rmCp0 m ta (0 : Int32) (7 : Int32)) k) ?_
  have u_t : h0.size > ta := Vt.lt
  refine Go.on (w := s₁.setTop (mkF m 2 #[rv ta, iv 0, iv 7, .unset, .unset] [(.int 7), (.int 0)])) (fun t k => XS.iloadN X0.here hx rfl (hb hby d42_0) rfl (XS.iloadN X0.here hx rfl (hb hby d42_1) rfl k)) ?_
  refine Go.on (w := s₁.setTop (mkF m 3 #[rv ta, iv 0, iv 7, .unset, .unset] [(.int 7)])) (fun t k => XS.iadd X0.here hx rfl (hb hby d42_2) rfl (by rw [(by decide : ((0 : Int32) + (7 : Int32)) = (7 : Int32))]; exact k)) ?_
  obtain ⟨cl331, Ar331, q331, S331, M331, H331, U331⟩ := id Vt
  have hin331 := ((inb_of S331 ⟨(by decide), (by decide)⟩) : ¬ ((0 : Int32) < 0 ∨ cl331.slots.size ≤ ((0 : Int32)).toNatClampNeg))
  obtain ⟨cl332, Ar332, q332, S332, M332, H332, U332⟩ := id Vt
  have hin332 := ((inb_of S332 ⟨(by decide), (by decide)⟩) : ¬ ((1 : Int32) < 0 ∨ cl332.slots.size ≤ ((1 : Int32)).toNatClampNeg))
  refine Go.on (w := s₁.setTop (mkF m 13 #[rv ta, iv 0, iv 7, iv 7, iv 2] [])) (fun t k => XS.istoreN X0.here hx rfl (hb hby d42_3) rfl (l' := #[rv ta, iv 0, iv 7, iv 7, .unset]) rfl (XS.iloadN X0.here hx rfl (hb hby d42_4) rfl (XS.istore X0.here hx rfl (hb hby d42_5) rfl (l' := #[rv ta, iv 0, iv 7, iv 7, iv 0]) rfl (XS.iload X0.here hx rfl (hb hby d42_7) rfl (XS.iloadN X0.here hx rfl (hb hby d42_9) rfl (XS.icmpNo X0.here hx rfl (hb hby d42_10) rfl (tlt (by decide : (0 : Int32) < (7 : Int32))).2.1 (XS.aloadN X0.here hx rfl (hb hby d42_13) rfl rfl (XS.iload X0.here hx rfl (hb hby d42_14) rfl (X0.baloadBytes hx (j := (0 : Int32)) (v := (.int 114)) (by rw [e0]; exact Ar331.1) (State.isArrayOf_alike hZ0.alike Ar331.2.1) Ar331.2.2 hin331 (H331.at hin331 rfl) (g := (mkF m 16 #[rv ta, iv 0, iv 7, iv 7, iv 0] [(.int 0), (.ref ta)])) rfl rfl (hb hby d42_16) _ (XS.ifYes X0.here hx rfl (pc0 := 17) (pc' := 25) rfl (hb hby d42_17) rfl ((if0 _ _).trans (flt (by decide : ¬ ((114 : Int32) < (0 : Int32)))).2.1) (by decide) (by decide) (XS.iinc X0.here hx rfl (hb hby d42_25) rfl (l' := #[rv ta, iv 0, iv 7, iv 7, iv 1]) rfl (XS.goto X0.here hx rfl (pc0 := 28) (pc' := 7) rfl (hb hby d42_28) (by decide) (by decide) (XS.iload X0.here hx rfl (hb hby d42_7) rfl (XS.iloadN X0.here hx rfl (hb hby d42_9) rfl (XS.icmpNo X0.here hx rfl (hb hby d42_10) rfl (tlt (by decide : (1 : Int32) < (7 : Int32))).2.1 (XS.aloadN X0.here hx rfl (hb hby d42_13) rfl rfl (XS.iload X0.here hx rfl (hb hby d42_14) rfl (X0.baloadBytes hx (j := (1 : Int32)) (v := (.int 101)) (by rw [e0]; exact Ar332.1) (State.isArrayOf_alike hZ0.alike Ar332.2.1) Ar332.2.2 hin332 (H332.at hin332 rfl) (g := (mkF m 16 #[rv ta, iv 0, iv 7, iv 7, iv 1] [(.int 1), (.ref ta)])) rfl rfl (hb hby d42_16) _ (XS.ifYes X0.here hx rfl (pc0 := 17) (pc' := 25) rfl (hb hby d42_17) rfl ((if0 _ _).trans (flt (by decide : ¬ ((101 : Int32) < (0 : Int32)))).2.1) (by decide) (by decide) (XS.iinc X0.here hx rfl (hb hby d42_25) rfl (l' := #[rv ta, iv 0, iv 7, iv 7, iv 2]) rfl (XS.goto X0.here hx rfl (pc0 := 28) (pc' := 7) rfl (hb hby d42_28) (by decide) (by decide) (XS.iload X0.here hx rfl (hb hby d42_7) rfl (XS.iloadN X0.here hx rfl (hb hby d42_9) rfl (XS.icmpNo X0.here hx rfl (hb hby d42_10) rfl (tlt (by decide : (2 : Int32) < (7 : Int32))).2.1 k)))))))))))))))))))))))) ?_
  refine Go.on (w := s₁.setTop (mkF m 14 #[rv ta, iv 0, iv 7, iv 7, iv 2] [(.ref ta)])) (fun t k => XS.aloadN X0.here hx rfl (hb hby d42_13) rfl rfl k) ?_
  obtain ⟨cl333, Ar333, q333, S333, M333, H333, U333⟩ := id Vt
  have hin333 := ((inb_of S333 ⟨(by decide), (by decide)⟩) : ¬ ((2 : Int32) < 0 ∨ cl333.slots.size ≤ ((2 : Int32)).toNatClampNeg))
  obtain ⟨cl334, Ar334, q334, S334, M334, H334, U334⟩ := id Vt
  have hin334 := ((inb_of S334 ⟨(by decide), (by decide)⟩) : ¬ ((3 : Int32) < 0 ∨ cl334.slots.size ≤ ((3 : Int32)).toNatClampNeg))
  obtain ⟨cl335, Ar335, q335, S335, M335, H335, U335⟩ := id Vt
  have hin335 := ((inb_of S335 ⟨(by decide), (by decide)⟩) : ¬ ((4 : Int32) < 0 ∨ cl335.slots.size ≤ ((4 : Int32)).toNatClampNeg))
  refine Go.on (w := s₁.setTop (mkF m 9 #[rv ta, iv 0, iv 7, iv 7, iv 5] [(.int 5)])) (fun t k => XS.iload X0.here hx rfl (hb hby d42_14) rfl (X0.baloadBytes hx (j := (2 : Int32)) (v := (.int 97)) (by rw [e0]; exact Ar333.1) (State.isArrayOf_alike hZ0.alike Ar333.2.1) Ar333.2.2 hin333 (H333.at hin333 rfl) (g := (mkF m 16 #[rv ta, iv 0, iv 7, iv 7, iv 2] [(.int 2), (.ref ta)])) rfl rfl (hb hby d42_16) _ (XS.ifYes X0.here hx rfl (pc0 := 17) (pc' := 25) rfl (hb hby d42_17) rfl ((if0 _ _).trans (flt (by decide : ¬ ((97 : Int32) < (0 : Int32)))).2.1) (by decide) (by decide) (XS.iinc X0.here hx rfl (hb hby d42_25) rfl (l' := #[rv ta, iv 0, iv 7, iv 7, iv 3]) rfl (XS.goto X0.here hx rfl (pc0 := 28) (pc' := 7) rfl (hb hby d42_28) (by decide) (by decide) (XS.iload X0.here hx rfl (hb hby d42_7) rfl (XS.iloadN X0.here hx rfl (hb hby d42_9) rfl (XS.icmpNo X0.here hx rfl (hb hby d42_10) rfl (tlt (by decide : (3 : Int32) < (7 : Int32))).2.1 (XS.aloadN X0.here hx rfl (hb hby d42_13) rfl rfl (XS.iload X0.here hx rfl (hb hby d42_14) rfl (X0.baloadBytes hx (j := (3 : Int32)) (v := (.int 108)) (by rw [e0]; exact Ar334.1) (State.isArrayOf_alike hZ0.alike Ar334.2.1) Ar334.2.2 hin334 (H334.at hin334 rfl) (g := (mkF m 16 #[rv ta, iv 0, iv 7, iv 7, iv 3] [(.int 3), (.ref ta)])) rfl rfl (hb hby d42_16) _ (XS.ifYes X0.here hx rfl (pc0 := 17) (pc' := 25) rfl (hb hby d42_17) rfl ((if0 _ _).trans (flt (by decide : ¬ ((108 : Int32) < (0 : Int32)))).2.1) (by decide) (by decide) (XS.iinc X0.here hx rfl (hb hby d42_25) rfl (l' := #[rv ta, iv 0, iv 7, iv 7, iv 4]) rfl (XS.goto X0.here hx rfl (pc0 := 28) (pc' := 7) rfl (hb hby d42_28) (by decide) (by decide) (XS.iload X0.here hx rfl (hb hby d42_7) rfl (XS.iloadN X0.here hx rfl (hb hby d42_9) rfl (XS.icmpNo X0.here hx rfl (hb hby d42_10) rfl (tlt (by decide : (4 : Int32) < (7 : Int32))).2.1 (XS.aloadN X0.here hx rfl (hb hby d42_13) rfl rfl (XS.iload X0.here hx rfl (hb hby d42_14) rfl (X0.baloadBytes hx (j := (4 : Int32)) (v := (.int 109)) (by rw [e0]; exact Ar335.1) (State.isArrayOf_alike hZ0.alike Ar335.2.1) Ar335.2.2 hin335 (H335.at hin335 rfl) (g := (mkF m 16 #[rv ta, iv 0, iv 7, iv 7, iv 4] [(.int 4), (.ref ta)])) rfl rfl (hb hby d42_16) _ (XS.ifYes X0.here hx rfl (pc0 := 17) (pc' := 25) rfl (hb hby d42_17) rfl ((if0 _ _).trans (flt (by decide : ¬ ((109 : Int32) < (0 : Int32)))).2.1) (by decide) (by decide) (XS.iinc X0.here hx rfl (hb hby d42_25) rfl (l' := #[rv ta, iv 0, iv 7, iv 7, iv 5]) rfl (XS.goto X0.here hx rfl (pc0 := 28) (pc' := 7) rfl (hb hby d42_28) (by decide) (by decide) (XS.iload X0.here hx rfl (hb hby d42_7) rfl k)))))))))))))))))))))))) ?_
  refine Go.on (w := s₁.setTop (mkF m 10 #[rv ta, iv 0, iv 7, iv 7, iv 5] [(.int 7), (.int 5)])) (fun t k => XS.iloadN X0.here hx rfl (hb hby d42_9) rfl k) ?_
  obtain ⟨cl336, Ar336, q336, S336, M336, H336, U336⟩ := id Vt
  have hin336 := ((inb_of S336 ⟨(by decide), (by decide)⟩) : ¬ ((5 : Int32) < 0 ∨ cl336.slots.size ≤ ((5 : Int32)).toNatClampNeg))
  obtain ⟨cl337, Ar337, q337, S337, M337, H337, U337⟩ := id Vt
  have hin337 := ((inb_of S337 ⟨(by decide), (by decide)⟩) : ¬ ((6 : Int32) < 0 ∨ cl337.slots.size ≤ ((6 : Int32)).toNatClampNeg))
  refine Go.on (w := s₁.setTop (mkF m 32 #[rv ta, iv 0, iv 7, iv 7, iv 7] [(.int 7)])) (fun t k => XS.icmpNo X0.here hx rfl (hb hby d42_10) rfl (tlt (by decide : (5 : Int32) < (7 : Int32))).2.1 (XS.aloadN X0.here hx rfl (hb hby d42_13) rfl rfl (XS.iload X0.here hx rfl (hb hby d42_14) rfl (X0.baloadBytes hx (j := (5 : Int32)) (v := (.int 32)) (by rw [e0]; exact Ar336.1) (State.isArrayOf_alike hZ0.alike Ar336.2.1) Ar336.2.2 hin336 (H336.at hin336 rfl) (g := (mkF m 16 #[rv ta, iv 0, iv 7, iv 7, iv 5] [(.int 5), (.ref ta)])) rfl rfl (hb hby d42_16) _ (XS.ifYes X0.here hx rfl (pc0 := 17) (pc' := 25) rfl (hb hby d42_17) rfl ((if0 _ _).trans (flt (by decide : ¬ ((32 : Int32) < (0 : Int32)))).2.1) (by decide) (by decide) (XS.iinc X0.here hx rfl (hb hby d42_25) rfl (l' := #[rv ta, iv 0, iv 7, iv 7, iv 6]) rfl (XS.goto X0.here hx rfl (pc0 := 28) (pc' := 7) rfl (hb hby d42_28) (by decide) (by decide) (XS.iload X0.here hx rfl (hb hby d42_7) rfl (XS.iloadN X0.here hx rfl (hb hby d42_9) rfl (XS.icmpNo X0.here hx rfl (hb hby d42_10) rfl (tlt (by decide : (6 : Int32) < (7 : Int32))).2.1 (XS.aloadN X0.here hx rfl (hb hby d42_13) rfl rfl (XS.iload X0.here hx rfl (hb hby d42_14) rfl (X0.baloadBytes hx (j := (6 : Int32)) (v := (.int v0)) (by rw [e0]; exact Ar337.1) (State.isArrayOf_alike hZ0.alike Ar337.2.1) Ar337.2.2 hin337 (H337.at hin337 rfl) (g := (mkF m 16 #[rv ta, iv 0, iv 7, iv 7, iv 6] [(.int 6), (.ref ta)])) rfl rfl (hb hby d42_16) _ (XS.ifYes X0.here hx rfl (pc0 := 17) (pc' := 25) rfl (hb hby d42_17) rfl ((if0 _ _).trans (flt hv).2.1) (by decide) (by decide) (XS.iinc X0.here hx rfl (hb hby d42_25) rfl (l' := #[rv ta, iv 0, iv 7, iv 7, iv 7]) rfl (XS.goto X0.here hx rfl (pc0 := 28) (pc' := 7) rfl (hb hby d42_28) (by decide) (by decide) (XS.iload X0.here hx rfl (hb hby d42_7) rfl (XS.iloadN X0.here hx rfl (hb hby d42_9) rfl (XS.icmpYes X0.here hx rfl (pc0 := 10) (pc' := 31) rfl (hb hby d42_10) rfl (flt (by decide : ¬ ((7 : Int32) < (7 : Int32)))).2.1 (by decide) (by decide) (XS.iloadN X0.here hx rfl (hb hby d42_31) rfl k)))))))))))))))))))) ?_
  refine Go.finH X0 hlk (v := some (.int 7)) (fun h => by rw [Bd.returns] at h; cases h) (fun fs hr => ?_) (endH (Q := Q_rmCp0 Z ta q v0 h0) (by rw [e0]; exact ⟨rfl, N0, rfl⟩) (by decide) (by decide))
  exact retOut X0 hx Bd.returns rfl (Or.inl ⟨rfl, Or.inl rfl, _, rfl⟩) (hb hby d42_32) hr
def Q_rmHn0 (Z : State) (ta : Addr) (q : ClassId) (v0 : Int32) (h0 : Heap) (vv : Option Value) (h : Heap) (L : List Loc) : Prop := vv = some (.int 0) ∧ Fr Z.heap.size L ∧ h = h0
theorem ef_rmHn0 (m : MethodId) (x0 : Addr) (x1 : Int32) (x2 : Int32)   : entryFrame m #[(.ref x0), (.int x1), (.int x2)] 3 = mkF m 0 #[.val (.ref x0), .val (.int x1), .val (.int x2)] [] := rfl
theorem rmHn0 (l : Launch) (Z : State) (a0 : Array Value) (hw : HW a0 Z) (ws : List Cond) (ta : Addr) (q : ClassId) (v0 : Int32) (h0 : Heap) (Vt : Arv Z h0 ta q .byte (7 : Int32) [(.int 114), (.int 101), (.int 97), (.int 108), (.int 109), (.int 32), (.int v0)] (.int 0)) (hv : ¬ v0 < (0 : Int32)) :
    MetFree l yM54 (head1 (Cond.code yM54 jdk_123_method_2_code 3 (some .boolean) :: ws) (⟨1, 0, 0, 16⟩ : Room)) (fun a U => a = #[(.ref ta), (.int 0), (.int 7)] ∧ Z.Warmed39 U.vm ∧ U.heap = h0) (fun _ _ _ _ _ => True) (fun _ U o U' => ∃ v L, o = .returned v ∧ Q_rmHn0 Z ta q v0 h0 v U'.heap L ∧ FrameEnd U o U' L (⟨1, 0, 0, 16⟩ : Room).cells (⟨1, 0, 0, 16⟩ : Room).slots) := by
  refine MetFree.of_bodySF (plainFor_of_name (by first | (simp [plainName, overriddenIn]; done) | decide +kernel)) hisR ?_
  intro p e s m args below meth c s₁ Bd hml0 hP hK
  obtain ⟨rfl, hZ0', hh⟩ := hP
  have hx := Bd.exec
  have hby := Bd.bytes
  have hml : c.maxLocals = 3 := hml0
  have hZ0 : Z.Warmed39 s.vm := hZ0'
  have hown0 : s.vm.findClass "java/lang/StringCoding" = some m.cls := findClass_of_methodNamed Bd.named
  have hnm := (name_of_methodNamed Bd.named Bd.method).1
  have hlk : meth.locks = false := Bd.notSynchronized
  have X0 : Stand p l e (⟨1, 0, 0, 16⟩ : Room) s m #[(.ref ta), (.int 0), (.int 7)] below meth c s₁ [] 0 0 := Stand.of_body Bd
  have e0 : s₁.heap = h0 := by rw [← hh, Bd.state]; rfl
  have N0 := Fr.nil Z.heap.size
  have KP0 : Keep h0 h0 ([] : List Addr) := Keep.refl _ _
  show Go p e below (fun t o => ∃ v L, o = .returned v ∧ Q_rmHn0 Z ta q v0 h0 v t.heap L ∧ FrameEnd s o t L (⟨1, 0, 0, 16⟩ : Room).cells (⟨1, 0, 0, 16⟩ : Room).slots) (s₁.setTop (entryFrame m #[(.ref ta), (.int 0), (.int 7)] 3))
  refine Go.on (w := s₁.setTop (mkF m 0 #[rv ta, iv 0, iv 7] [])) (fun t k => castTop (ef_rmHn0 m ta (0 : Int32) (7 : Int32)) k) ?_
  have u_t : h0.size > ta := Vt.lt
  obtain ⟨v338, _, ⟨T338, L338, k338, n338⟩, -, X338, ⟨Lc338, hQ338, l338, y338, z338⟩, st338⟩ := Jvm.LawKit.callS X0 hx (y := yM55) hown0 (mvT hZ0 (w_315 hw)) (mvT hZ0 (w_316 hw)) (mvT hZ0 (w_313 hw)) (mvT hZ0 (w_317 hw)) (by decide) (backOf (W := 0) (rmCp0 l Z a0 hw [] ta q v0 h0 Vt hv) hZ0 (w_317 hw) (w_313 hw) (by decide) (by decide)) (g := (mkF m 3 #[rv ta, iv 0, iv 7] [(.int 7), (.int 0), (.ref ta)])) rfl (by rw [hml]; rfl) (argsL := [(.ref ta), (.int 0), (.int 7)]) (rest := []) (lenOf pd_23 rfl) rfl (by show 2 * 0 + _ ≤ _; exact Nat.le_of_eq rfl) (hb hby d43_3) (fun _ _ => ⟨rfl, e0, (by decide : 0 + 0 ≤ _), (by decide : 0 + 0 ≤ _)⟩)
  dsimp only [Pt.U, Pt.locs, Pt.cells, Pt.slots] at X338 l338 y338 z338 st338 hQ338
  subst l338 y338 z338
  obtain ⟨rfl, Nq338, eh338⟩ := hQ338
  have N338 := Fr.app N0 Nq338
  refine Go.on (w := T338.setTop (mkF m 15 #[rv ta, iv 0, iv 7] [(.int 0)])) (fun t k => XS.aloadN X0.here hx rfl (hb hby d43_0) rfl rfl (XS.iloadN X0.here hx rfl (hb hby d43_1) rfl (XS.iloadN X0.here hx rfl (hb hby d43_2) rfl (st338 _ (XS.iloadN X338.here hx rfl (hb hby d43_6) rfl (XS.icmpYes X338.here hx rfl (pc0 := 7) (pc' := 14) rfl (hb hby d43_7) rfl (teq (by decide : (7 : Int32) = (7 : Int32))).1 (by decide) (by decide) (XS.iconst X338.here hx rfl (hb hby d43_14) k))))))) ?_
  refine Go.finH X338 hlk (v := some (.int 0)) (fun h => by rw [Bd.returns] at h; cases h) (fun fs hr => ?_) (endH (Q := Q_rmHn0 Z ta q v0 h0) (by rw [eh338]; exact ⟨rfl, N338, rfl⟩) (by decide) (by decide))
  exact retN X338 hx (t := .boolean) Bd.returns (by simp) (hb hby d43_15) hr
def Q_rmCp1 (Z : State) (ta : Addr) (q : ClassId) (v0 : Int32) (h0 : Heap) (vv : Option Value) (h : Heap) (L : List Loc) : Prop := vv = some (.int 6) ∧ Fr Z.heap.size L ∧ h = h0
theorem ef_rmCp1 (m : MethodId) (x0 : Addr) (x1 : Int32) (x2 : Int32)   : entryFrame m #[(.ref x0), (.int x1), (.int x2)] 5 = mkF m 0 #[.val (.ref x0), .val (.int x1), .val (.int x2), .unset, .unset] [] := rfl
theorem rmCp1 (l : Launch) (Z : State) (a0 : Array Value) (hw : HW a0 Z) (ws : List Cond) (ta : Addr) (q : ClassId) (v0 : Int32) (h0 : Heap) (Vt : Arv Z h0 ta q .byte (7 : Int32) [(.int 114), (.int 101), (.int 97), (.int 108), (.int 109), (.int 32), (.int v0)] (.int 0)) (hv : v0 < (0 : Int32)) :
    MetFree l yM55 (head1 (Cond.code yM55 jdk_123_method_3_code 5 (some .int) :: ws) (⟨0, 0, 0, 0⟩ : Room)) (fun a U => a = #[(.ref ta), (.int 0), (.int 7)] ∧ Z.Warmed39 U.vm ∧ U.heap = h0) (fun _ _ _ _ _ => True) (fun _ U o U' => ∃ v L, o = .returned v ∧ Q_rmCp1 Z ta q v0 h0 v U'.heap L ∧ FrameEnd U o U' L (⟨0, 0, 0, 0⟩ : Room).cells (⟨0, 0, 0, 0⟩ : Room).slots) := by
  refine MetFree.of_bodySF (plainFor_of_name (by first | (simp [plainName, overriddenIn]; done) | decide +kernel)) hisR ?_
  intro p e s m args below meth c s₁ Bd hml0 hP hK
  obtain ⟨rfl, hZ0', hh⟩ := hP
  have hx := Bd.exec
  have hby := Bd.bytes
  have hml : c.maxLocals = 5 := hml0
  have hZ0 : Z.Warmed39 s.vm := hZ0'
  have hown0 : s.vm.findClass "java/lang/StringCoding" = some m.cls := findClass_of_methodNamed Bd.named
  have hnm := (name_of_methodNamed Bd.named Bd.method).1
  have hlk : meth.locks = false := Bd.notSynchronized
  have X0 : Stand p l e (⟨0, 0, 0, 0⟩ : Room) s m #[(.ref ta), (.int 0), (.int 7)] below meth c s₁ [] 0 0 := Stand.of_body Bd
  have e0 : s₁.heap = h0 := by rw [← hh, Bd.state]; rfl
  have N0 := Fr.nil Z.heap.size
  have KP0 : Keep h0 h0 ([] : List Addr) := Keep.refl _ _
  show Go p e below (fun t o => ∃ v L, o = .returned v ∧ Q_rmCp1 Z ta q v0 h0 v t.heap L ∧ FrameEnd s o t L (⟨0, 0, 0, 0⟩ : Room).cells (⟨0, 0, 0, 0⟩ : Room).slots) (s₁.setTop (entryFrame m #[(.ref ta), (.int 0), (.int 7)] 5))
  refine Go.on (w := s₁.setTop (mkF m 0 #[rv ta, iv 0, iv 7, .unset, .unset] [])) (fun t k => castTop (ef_rmCp1 m ta (0 : Int32) (7 : Int32)) k) ?_
  have u_t : h0.size > ta := Vt.lt
  refine Go.on (w := s₁.setTop (mkF m 2 #[rv ta, iv 0, iv 7, .unset, .unset] [(.int 7), (.int 0)])) (fun t k => XS.iloadN X0.here hx rfl (hb hby d42_0) rfl (XS.iloadN X0.here hx rfl (hb hby d42_1) rfl k)) ?_
  refine Go.on (w := s₁.setTop (mkF m 3 #[rv ta, iv 0, iv 7, .unset, .unset] [(.int 7)])) (fun t k => XS.iadd X0.here hx rfl (hb hby d42_2) rfl (by rw [(by decide : ((0 : Int32) + (7 : Int32)) = (7 : Int32))]; exact k)) ?_
  obtain ⟨cl339, Ar339, q339, S339, M339, H339, U339⟩ := id Vt
  have hin339 := ((inb_of S339 ⟨(by decide), (by decide)⟩) : ¬ ((0 : Int32) < 0 ∨ cl339.slots.size ≤ ((0 : Int32)).toNatClampNeg))
  obtain ⟨cl340, Ar340, q340, S340, M340, H340, U340⟩ := id Vt
  have hin340 := ((inb_of S340 ⟨(by decide), (by decide)⟩) : ¬ ((1 : Int32) < 0 ∨ cl340.slots.size ≤ ((1 : Int32)).toNatClampNeg))
  refine Go.on (w := s₁.setTop (mkF m 13 #[rv ta, iv 0, iv 7, iv 7, iv 2] [])) (fun t k => XS.istoreN X0.here hx rfl (hb hby d42_3) rfl (l' := #[rv ta, iv 0, iv 7, iv 7, .unset]) rfl (XS.iloadN X0.here hx rfl (hb hby d42_4) rfl (XS.istore X0.here hx rfl (hb hby d42_5) rfl (l' := #[rv ta, iv 0, iv 7, iv 7, iv 0]) rfl (XS.iload X0.here hx rfl (hb hby d42_7) rfl (XS.iloadN X0.here hx rfl (hb hby d42_9) rfl (XS.icmpNo X0.here hx rfl (hb hby d42_10) rfl (tlt (by decide : (0 : Int32) < (7 : Int32))).2.1 (XS.aloadN X0.here hx rfl (hb hby d42_13) rfl rfl (XS.iload X0.here hx rfl (hb hby d42_14) rfl (X0.baloadBytes hx (j := (0 : Int32)) (v := (.int 114)) (by rw [e0]; exact Ar339.1) (State.isArrayOf_alike hZ0.alike Ar339.2.1) Ar339.2.2 hin339 (H339.at hin339 rfl) (g := (mkF m 16 #[rv ta, iv 0, iv 7, iv 7, iv 0] [(.int 0), (.ref ta)])) rfl rfl (hb hby d42_16) _ (XS.ifYes X0.here hx rfl (pc0 := 17) (pc' := 25) rfl (hb hby d42_17) rfl ((if0 _ _).trans (flt (by decide : ¬ ((114 : Int32) < (0 : Int32)))).2.1) (by decide) (by decide) (XS.iinc X0.here hx rfl (hb hby d42_25) rfl (l' := #[rv ta, iv 0, iv 7, iv 7, iv 1]) rfl (XS.goto X0.here hx rfl (pc0 := 28) (pc' := 7) rfl (hb hby d42_28) (by decide) (by decide) (XS.iload X0.here hx rfl (hb hby d42_7) rfl (XS.iloadN X0.here hx rfl (hb hby d42_9) rfl (XS.icmpNo X0.here hx rfl (hb hby d42_10) rfl (tlt (by decide : (1 : Int32) < (7 : Int32))).2.1 (XS.aloadN X0.here hx rfl (hb hby d42_13) rfl rfl (XS.iload X0.here hx rfl (hb hby d42_14) rfl (X0.baloadBytes hx (j := (1 : Int32)) (v := (.int 101)) (by rw [e0]; exact Ar340.1) (State.isArrayOf_alike hZ0.alike Ar340.2.1) Ar340.2.2 hin340 (H340.at hin340 rfl) (g := (mkF m 16 #[rv ta, iv 0, iv 7, iv 7, iv 1] [(.int 1), (.ref ta)])) rfl rfl (hb hby d42_16) _ (XS.ifYes X0.here hx rfl (pc0 := 17) (pc' := 25) rfl (hb hby d42_17) rfl ((if0 _ _).trans (flt (by decide : ¬ ((101 : Int32) < (0 : Int32)))).2.1) (by decide) (by decide) (XS.iinc X0.here hx rfl (hb hby d42_25) rfl (l' := #[rv ta, iv 0, iv 7, iv 7, iv 2]) rfl (XS.goto X0.here hx rfl (pc0 := 28) (pc' := 7) rfl (hb hby d42_28) (by decide) (by decide) (XS.iload X0.here hx rfl (hb hby d42_7) rfl (XS.iloadN X0.here hx rfl (hb hby d42_9) rfl (XS.icmpNo X0.here hx rfl (hb hby d42_10) rfl (tlt (by decide : (2 : Int32) < (7 : Int32))).2.1 k)))))))))))))))))))))))) ?_
  refine Go.on (w := s₁.setTop (mkF m 14 #[rv ta, iv 0, iv 7, iv 7, iv 2] [(.ref ta)])) (fun t k => XS.aloadN X0.here hx rfl (hb hby d42_13) rfl rfl k) ?_
  obtain ⟨cl341, Ar341, q341, S341, M341, H341, U341⟩ := id Vt
  have hin341 := ((inb_of S341 ⟨(by decide), (by decide)⟩) : ¬ ((2 : Int32) < 0 ∨ cl341.slots.size ≤ ((2 : Int32)).toNatClampNeg))
  obtain ⟨cl342, Ar342, q342, S342, M342, H342, U342⟩ := id Vt
  have hin342 := ((inb_of S342 ⟨(by decide), (by decide)⟩) : ¬ ((3 : Int32) < 0 ∨ cl342.slots.size ≤ ((3 : Int32)).toNatClampNeg))
  obtain ⟨cl343, Ar343, q343, S343, M343, H343, U343⟩ := id Vt
  have hin343 := ((inb_of S343 ⟨(by decide), (by decide)⟩) : ¬ ((4 : Int32) < 0 ∨ cl343.slots.size ≤ ((4 : Int32)).toNatClampNeg))
  refine Go.on (w := s₁.setTop (mkF m 9 #[rv ta, iv 0, iv 7, iv 7, iv 5] [(.int 5)])) (fun t k => XS.iload X0.here hx rfl (hb hby d42_14) rfl (X0.baloadBytes hx (j := (2 : Int32)) (v := (.int 97)) (by rw [e0]; exact Ar341.1) (State.isArrayOf_alike hZ0.alike Ar341.2.1) Ar341.2.2 hin341 (H341.at hin341 rfl) (g := (mkF m 16 #[rv ta, iv 0, iv 7, iv 7, iv 2] [(.int 2), (.ref ta)])) rfl rfl (hb hby d42_16) _ (XS.ifYes X0.here hx rfl (pc0 := 17) (pc' := 25) rfl (hb hby d42_17) rfl ((if0 _ _).trans (flt (by decide : ¬ ((97 : Int32) < (0 : Int32)))).2.1) (by decide) (by decide) (XS.iinc X0.here hx rfl (hb hby d42_25) rfl (l' := #[rv ta, iv 0, iv 7, iv 7, iv 3]) rfl (XS.goto X0.here hx rfl (pc0 := 28) (pc' := 7) rfl (hb hby d42_28) (by decide) (by decide) (XS.iload X0.here hx rfl (hb hby d42_7) rfl (XS.iloadN X0.here hx rfl (hb hby d42_9) rfl (XS.icmpNo X0.here hx rfl (hb hby d42_10) rfl (tlt (by decide : (3 : Int32) < (7 : Int32))).2.1 (XS.aloadN X0.here hx rfl (hb hby d42_13) rfl rfl (XS.iload X0.here hx rfl (hb hby d42_14) rfl (X0.baloadBytes hx (j := (3 : Int32)) (v := (.int 108)) (by rw [e0]; exact Ar342.1) (State.isArrayOf_alike hZ0.alike Ar342.2.1) Ar342.2.2 hin342 (H342.at hin342 rfl) (g := (mkF m 16 #[rv ta, iv 0, iv 7, iv 7, iv 3] [(.int 3), (.ref ta)])) rfl rfl (hb hby d42_16) _ (XS.ifYes X0.here hx rfl (pc0 := 17) (pc' := 25) rfl (hb hby d42_17) rfl ((if0 _ _).trans (flt (by decide : ¬ ((108 : Int32) < (0 : Int32)))).2.1) (by decide) (by decide) (XS.iinc X0.here hx rfl (hb hby d42_25) rfl (l' := #[rv ta, iv 0, iv 7, iv 7, iv 4]) rfl (XS.goto X0.here hx rfl (pc0 := 28) (pc' := 7) rfl (hb hby d42_28) (by decide) (by decide) (XS.iload X0.here hx rfl (hb hby d42_7) rfl (XS.iloadN X0.here hx rfl (hb hby d42_9) rfl (XS.icmpNo X0.here hx rfl (hb hby d42_10) rfl (tlt (by decide : (4 : Int32) < (7 : Int32))).2.1 (XS.aloadN X0.here hx rfl (hb hby d42_13) rfl rfl (XS.iload X0.here hx rfl (hb hby d42_14) rfl (X0.baloadBytes hx (j := (4 : Int32)) (v := (.int 109)) (by rw [e0]; exact Ar343.1) (State.isArrayOf_alike hZ0.alike Ar343.2.1) Ar343.2.2 hin343 (H343.at hin343 rfl) (g := (mkF m 16 #[rv ta, iv 0, iv 7, iv 7, iv 4] [(.int 4), (.ref ta)])) rfl rfl (hb hby d42_16) _ (XS.ifYes X0.here hx rfl (pc0 := 17) (pc' := 25) rfl (hb hby d42_17) rfl ((if0 _ _).trans (flt (by decide : ¬ ((109 : Int32) < (0 : Int32)))).2.1) (by decide) (by decide) (XS.iinc X0.here hx rfl (hb hby d42_25) rfl (l' := #[rv ta, iv 0, iv 7, iv 7, iv 5]) rfl (XS.goto X0.here hx rfl (pc0 := 28) (pc' := 7) rfl (hb hby d42_28) (by decide) (by decide) (XS.iload X0.here hx rfl (hb hby d42_7) rfl k)))))))))))))))))))))))) ?_
  refine Go.on (w := s₁.setTop (mkF m 10 #[rv ta, iv 0, iv 7, iv 7, iv 5] [(.int 7), (.int 5)])) (fun t k => XS.iloadN X0.here hx rfl (hb hby d42_9) rfl k) ?_
  obtain ⟨cl344, Ar344, q344, S344, M344, H344, U344⟩ := id Vt
  have hin344 := ((inb_of S344 ⟨(by decide), (by decide)⟩) : ¬ ((5 : Int32) < 0 ∨ cl344.slots.size ≤ ((5 : Int32)).toNatClampNeg))
  obtain ⟨cl345, Ar345, q345, S345, M345, H345, U345⟩ := id Vt
  have hin345 := ((inb_of S345 ⟨(by decide), (by decide)⟩) : ¬ ((6 : Int32) < 0 ∨ cl345.slots.size ≤ ((6 : Int32)).toNatClampNeg))
  refine Go.on (w := s₁.setTop (mkF m 23 #[rv ta, iv 0, iv 7, iv 7, iv 6] [(.int 0), (.int 6)])) (fun t k => XS.icmpNo X0.here hx rfl (hb hby d42_10) rfl (tlt (by decide : (5 : Int32) < (7 : Int32))).2.1 (XS.aloadN X0.here hx rfl (hb hby d42_13) rfl rfl (XS.iload X0.here hx rfl (hb hby d42_14) rfl (X0.baloadBytes hx (j := (5 : Int32)) (v := (.int 32)) (by rw [e0]; exact Ar344.1) (State.isArrayOf_alike hZ0.alike Ar344.2.1) Ar344.2.2 hin344 (H344.at hin344 rfl) (g := (mkF m 16 #[rv ta, iv 0, iv 7, iv 7, iv 5] [(.int 5), (.ref ta)])) rfl rfl (hb hby d42_16) _ (XS.ifYes X0.here hx rfl (pc0 := 17) (pc' := 25) rfl (hb hby d42_17) rfl ((if0 _ _).trans (flt (by decide : ¬ ((32 : Int32) < (0 : Int32)))).2.1) (by decide) (by decide) (XS.iinc X0.here hx rfl (hb hby d42_25) rfl (l' := #[rv ta, iv 0, iv 7, iv 7, iv 6]) rfl (XS.goto X0.here hx rfl (pc0 := 28) (pc' := 7) rfl (hb hby d42_28) (by decide) (by decide) (XS.iload X0.here hx rfl (hb hby d42_7) rfl (XS.iloadN X0.here hx rfl (hb hby d42_9) rfl (XS.icmpNo X0.here hx rfl (hb hby d42_10) rfl (tlt (by decide : (6 : Int32) < (7 : Int32))).2.1 (XS.aloadN X0.here hx rfl (hb hby d42_13) rfl rfl (XS.iload X0.here hx rfl (hb hby d42_14) rfl (X0.baloadBytes hx (j := (6 : Int32)) (v := (.int v0)) (by rw [e0]; exact Ar345.1) (State.isArrayOf_alike hZ0.alike Ar345.2.1) Ar345.2.2 hin345 (H345.at hin345 rfl) (g := (mkF m 16 #[rv ta, iv 0, iv 7, iv 7, iv 6] [(.int 6), (.ref ta)])) rfl rfl (hb hby d42_16) _ (XS.ifNo X0.here hx rfl (hb hby d42_17) rfl ((if0 _ _).trans (tlt hv).2.1) (XS.iload X0.here hx rfl (hb hby d42_20) rfl (XS.iloadN X0.here hx rfl (hb hby d42_22) rfl k)))))))))))))))) ?_
  refine Go.on (w := s₁.setTop (mkF m 24 #[rv ta, iv 0, iv 7, iv 7, iv 6] [(.int 6)])) (fun t k => XS.isub X0.here hx rfl (hb hby d42_23) rfl (by rw [(by decide : ((6 : Int32) - (0 : Int32)) = (6 : Int32))]; exact k)) ?_
  refine Go.finH X0 hlk (v := some (.int 6)) (fun h => by rw [Bd.returns] at h; cases h) (fun fs hr => ?_) (endH (Q := Q_rmCp1 Z ta q v0 h0) (by rw [e0]; exact ⟨rfl, N0, rfl⟩) (by decide) (by decide))
  exact retOut X0 hx Bd.returns rfl (Or.inl ⟨rfl, Or.inl rfl, _, rfl⟩) (hb hby d42_24) hr
def Q_rmHn1 (Z : State) (ta : Addr) (q : ClassId) (v0 : Int32) (h0 : Heap) (vv : Option Value) (h : Heap) (L : List Loc) : Prop := vv = some (.int 1) ∧ Fr Z.heap.size L ∧ h = h0
theorem ef_rmHn1 (m : MethodId) (x0 : Addr) (x1 : Int32) (x2 : Int32)   : entryFrame m #[(.ref x0), (.int x1), (.int x2)] 3 = mkF m 0 #[.val (.ref x0), .val (.int x1), .val (.int x2)] [] := rfl
theorem rmHn1 (l : Launch) (Z : State) (a0 : Array Value) (hw : HW a0 Z) (ws : List Cond) (ta : Addr) (q : ClassId) (v0 : Int32) (h0 : Heap) (Vt : Arv Z h0 ta q .byte (7 : Int32) [(.int 114), (.int 101), (.int 97), (.int 108), (.int 109), (.int 32), (.int v0)] (.int 0)) (hv : v0 < (0 : Int32)) :
    MetFree l yM54 (head1 (Cond.code yM54 jdk_123_method_2_code 3 (some .boolean) :: ws) (⟨1, 0, 0, 16⟩ : Room)) (fun a U => a = #[(.ref ta), (.int 0), (.int 7)] ∧ Z.Warmed39 U.vm ∧ U.heap = h0) (fun _ _ _ _ _ => True) (fun _ U o U' => ∃ v L, o = .returned v ∧ Q_rmHn1 Z ta q v0 h0 v U'.heap L ∧ FrameEnd U o U' L (⟨1, 0, 0, 16⟩ : Room).cells (⟨1, 0, 0, 16⟩ : Room).slots) := by
  refine MetFree.of_bodySF (plainFor_of_name (by first | (simp [plainName, overriddenIn]; done) | decide +kernel)) hisR ?_
  intro p e s m args below meth c s₁ Bd hml0 hP hK
  obtain ⟨rfl, hZ0', hh⟩ := hP
  have hx := Bd.exec
  have hby := Bd.bytes
  have hml : c.maxLocals = 3 := hml0
  have hZ0 : Z.Warmed39 s.vm := hZ0'
  have hown0 : s.vm.findClass "java/lang/StringCoding" = some m.cls := findClass_of_methodNamed Bd.named
  have hnm := (name_of_methodNamed Bd.named Bd.method).1
  have hlk : meth.locks = false := Bd.notSynchronized
  have X0 : Stand p l e (⟨1, 0, 0, 16⟩ : Room) s m #[(.ref ta), (.int 0), (.int 7)] below meth c s₁ [] 0 0 := Stand.of_body Bd
  have e0 : s₁.heap = h0 := by rw [← hh, Bd.state]; rfl
  have N0 := Fr.nil Z.heap.size
  have KP0 : Keep h0 h0 ([] : List Addr) := Keep.refl _ _
  show Go p e below (fun t o => ∃ v L, o = .returned v ∧ Q_rmHn1 Z ta q v0 h0 v t.heap L ∧ FrameEnd s o t L (⟨1, 0, 0, 16⟩ : Room).cells (⟨1, 0, 0, 16⟩ : Room).slots) (s₁.setTop (entryFrame m #[(.ref ta), (.int 0), (.int 7)] 3))
  refine Go.on (w := s₁.setTop (mkF m 0 #[rv ta, iv 0, iv 7] [])) (fun t k => castTop (ef_rmHn1 m ta (0 : Int32) (7 : Int32)) k) ?_
  have u_t : h0.size > ta := Vt.lt
  obtain ⟨v346, _, ⟨T346, L346, k346, n346⟩, -, X346, ⟨Lc346, hQ346, l346, y346, z346⟩, st346⟩ := Jvm.LawKit.callS X0 hx (y := yM55) hown0 (mvT hZ0 (w_315 hw)) (mvT hZ0 (w_316 hw)) (mvT hZ0 (w_313 hw)) (mvT hZ0 (w_317 hw)) (by decide) (backOf (W := 0) (rmCp1 l Z a0 hw [] ta q v0 h0 Vt hv) hZ0 (w_317 hw) (w_313 hw) (by decide) (by decide)) (g := (mkF m 3 #[rv ta, iv 0, iv 7] [(.int 7), (.int 0), (.ref ta)])) rfl (by rw [hml]; rfl) (argsL := [(.ref ta), (.int 0), (.int 7)]) (rest := []) (lenOf pd_23 rfl) rfl (by show 2 * 0 + _ ≤ _; exact Nat.le_of_eq rfl) (hb hby d43_3) (fun _ _ => ⟨rfl, e0, (by decide : 0 + 0 ≤ _), (by decide : 0 + 0 ≤ _)⟩)
  dsimp only [Pt.U, Pt.locs, Pt.cells, Pt.slots] at X346 l346 y346 z346 st346 hQ346
  subst l346 y346 z346
  obtain ⟨rfl, Nq346, eh346⟩ := hQ346
  have N346 := Fr.app N0 Nq346
  refine Go.on (w := T346.setTop (mkF m 15 #[rv ta, iv 0, iv 7] [(.int 1)])) (fun t k => XS.aloadN X0.here hx rfl (hb hby d43_0) rfl rfl (XS.iloadN X0.here hx rfl (hb hby d43_1) rfl (XS.iloadN X0.here hx rfl (hb hby d43_2) rfl (st346 _ (XS.iloadN X346.here hx rfl (hb hby d43_6) rfl (XS.icmpNo X346.here hx rfl (hb hby d43_7) rfl (feq (by decide : ¬ ((6 : Int32) = (7 : Int32)))).1 (XS.iconst X346.here hx rfl (hb hby d43_10) (XS.goto X346.here hx rfl (pc0 := 11) (pc' := 15) rfl (hb hby d43_11) (by decide) (by decide) k)))))))) ?_
  refine Go.finH X346 hlk (v := some (.int 1)) (fun h => by rw [Bd.returns] at h; cases h) (fun fs hr => ?_) (endH (Q := Q_rmHn1 Z ta q v0 h0) (by rw [eh346]; exact ⟨rfl, N346, rfl⟩) (by decide) (by decide))
  exact retN X346 hx (t := .boolean) Bd.returns (by simp) (hb hby d43_15) hr
def Q_rmNbl (Z : State) (u : Unit) (h0 : Heap) (vv : Option Value) (h : Heap) (L : List Loc) : Prop := vv = some (.int 14) ∧ Fr Z.heap.size L ∧ h = h0
theorem ef_rmNbl (m : MethodId) (x0 : Int32)   : entryFrame m #[(.int x0)] 1 = mkF m 0 #[.val (.int x0)] [] := rfl
theorem rmNbl (l : Launch) (Z : State) (a0 : Array Value) (hw : HW a0 Z) (ws : List Cond) (u : Unit) (h0 : Heap) :
    MetFree l yM60 (head1 (Cond.code yM60 jdk_52_method_3_code 1 (some .int) :: ws) (⟨0, 0, 0, 0⟩ : Room)) (fun a U => a = #[(.int 7)] ∧ Z.Warmed39 U.vm ∧ U.heap = h0) (fun _ _ _ _ _ => True) (fun _ U o U' => ∃ v L, o = .returned v ∧ Q_rmNbl Z u h0 v U'.heap L ∧ FrameEnd U o U' L (⟨0, 0, 0, 0⟩ : Room).cells (⟨0, 0, 0, 0⟩ : Room).slots) := by
  refine MetFree.of_bodySF (plainFor_of_name (by first | (simp [plainName, overriddenIn]; done) | decide +kernel)) hisR ?_
  intro p e s m args below meth c s₁ Bd hml0 hP hK
  obtain ⟨rfl, hZ0', hh⟩ := hP
  have hx := Bd.exec
  have hby := Bd.bytes
  have hml : c.maxLocals = 1 := hml0
  have hZ0 : Z.Warmed39 s.vm := hZ0'
  have hown0 : s.vm.findClass "java/lang/StringUTF16" = some m.cls := findClass_of_methodNamed Bd.named
  have hnm := (name_of_methodNamed Bd.named Bd.method).1
  have hlk : meth.locks = false := Bd.notSynchronized
  have X0 : Stand p l e (⟨0, 0, 0, 0⟩ : Room) s m #[(.int 7)] below meth c s₁ [] 0 0 := Stand.of_body Bd
  have e0 : s₁.heap = h0 := by rw [← hh, Bd.state]; rfl
  have N0 := Fr.nil Z.heap.size
  have KP0 : Keep h0 h0 ([] : List Addr) := Keep.refl _ _
  show Go p e below (fun t o => ∃ v L, o = .returned v ∧ Q_rmNbl Z u h0 v t.heap L ∧ FrameEnd s o t L (⟨0, 0, 0, 0⟩ : Room).cells (⟨0, 0, 0, 0⟩ : Room).slots) (s₁.setTop (entryFrame m #[(.int 7)] 1))
  refine Go.on (w := s₁.setTop (mkF m 0 #[iv 7] [])) (fun t k => castTop (ef_rmNbl m (7 : Int32)) k) ?_
  refine Go.on (w := s₁.setTop (mkF m 57 #[iv 7] [(.int 1), (.int 7)])) (fun t k => XS.iloadN X0.here hx rfl (hb hby d44_0) rfl (XS.ifYes X0.here hx rfl (pc0 := 1) (pc' := 12) rfl (hb hby d44_1) rfl ((if0 _ _).trans (flt (by decide : ¬ ((7 : Int32) < (0 : Int32)))).2.1) (by decide) (by decide) (XS.iloadN X0.here hx rfl (hb hby d44_12) rfl (X0.ldcInt hx hown0 (mvT hZ0 (w_340 hw)) (g := (mkF m 13 #[iv 7] [(.int 7)])) rfl (hb hby d44_13) _ (XS.icmpYes X0.here hx rfl (pc0 := 15) (pc' := 55) rfl (hb hby d44_15) rfl (tlt (by decide : (7 : Int32) < (1073741823 : Int32))).1 (by decide) (by decide) (XS.iloadN X0.here hx rfl (hb hby d44_55) rfl (XS.iconst X0.here hx rfl (hb hby d44_56) k))))))) ?_
  refine Go.on (w := s₁.setTop (mkF m 58 #[iv 7] [(.int 14)])) (fun t k => XS.ishl X0.here hx rfl (hb hby d44_57) rfl (by rw [(by decide : ((7 : Int32) <<< ((1 : Int32) &&& 31)) = (14 : Int32))]; exact k)) ?_
  refine Go.finH X0 hlk (v := some (.int 14)) (fun h => by rw [Bd.returns] at h; cases h) (fun fs hr => ?_) (endH (Q := Q_rmNbl Z u h0) (by rw [e0]; exact ⟨rfl, N0, rfl⟩) (by decide) (by decide))
  exact retOut X0 hx Bd.returns rfl (Or.inl ⟨rfl, Or.inl rfl, _, rfl⟩) (hb hby d44_58) hr
def Q_rmNbf (Z : State) (u : Unit) (h0 : Heap) (vv : Option Value) (h : Heap) (L : List Loc) : Prop := ∃ (r : Addr) (kr : ClassId), vv = some (.ref r) ∧ Fr Z.heap.size L ∧ Keep h0 h [] ∧ (h0.size ≤ r) ∧ Exa Z h r "[B" ∧ Arv Z h r kr .byte (14 : Int32) [(.int 0), (.int 0), (.int 0), (.int 0), (.int 0), (.int 0), (.int 0), (.int 0), (.int 0), (.int 0), (.int 0), (.int 0), (.int 0), (.int 0)] (.int 0)
theorem ef_rmNbf (m : MethodId) (x0 : Int32)   : entryFrame m #[(.int x0)] 1 = mkF m 0 #[.val (.int x0)] [] := rfl
theorem rmNbf (l : Launch) (Z : State) (a0 : Array Value) (hw : HW a0 Z) (ws : List Cond) (u : Unit) (h0 : Heap) (Z0 : Z.heap.size ≤ h0.size) :
    MetFree l yM59 (head1 (Cond.code yM59 jdk_52_method_2_code 1 (some (.array .byte)) :: ws) (⟨1, 1, 14, 12⟩ : Room)) (fun a U => a = #[(.int 7)] ∧ Z.Warmed39 U.vm ∧ U.heap = h0) (fun _ _ _ _ _ => True) (fun _ U o U' => ∃ v L, o = .returned v ∧ Q_rmNbf Z u h0 v U'.heap L ∧ FrameEnd U o U' L (⟨1, 1, 14, 12⟩ : Room).cells (⟨1, 1, 14, 12⟩ : Room).slots) := by
  refine MetFree.of_bodySF (plainFor_of_name (by first | (simp [plainName, overriddenIn]; done) | decide +kernel)) hisR ?_
  intro p e s m args below meth c s₁ Bd hml0 hP hK
  obtain ⟨rfl, hZ0', hh⟩ := hP
  have hx := Bd.exec
  have hby := Bd.bytes
  have hml : c.maxLocals = 1 := hml0
  have hZ0 : Z.Warmed39 s.vm := hZ0'
  have hown0 : s.vm.findClass "java/lang/StringUTF16" = some m.cls := findClass_of_methodNamed Bd.named
  have hnm := (name_of_methodNamed Bd.named Bd.method).1
  have hlk : meth.locks = false := Bd.notSynchronized
  have X0 : Stand p l e (⟨1, 1, 14, 12⟩ : Room) s m #[(.int 7)] below meth c s₁ [] 0 0 := Stand.of_body Bd
  have e0 : s₁.heap = h0 := by rw [← hh, Bd.state]; rfl
  have N0 := Fr.nil Z.heap.size
  have KP0 : Keep h0 h0 ([] : List Addr) := Keep.refl _ _
  show Go p e below (fun t o => ∃ v L, o = .returned v ∧ Q_rmNbf Z u h0 v t.heap L ∧ FrameEnd s o t L (⟨1, 1, 14, 12⟩ : Room).cells (⟨1, 1, 14, 12⟩ : Room).slots) (s₁.setTop (entryFrame m #[(.int 7)] 1))
  refine Go.on (w := s₁.setTop (mkF m 0 #[iv 7] [])) (fun t k => castTop (ef_rmNbf m (7 : Int32)) k) ?_
  obtain ⟨v347, _, ⟨T347, L347, k347, n347⟩, -, X347, ⟨Lc347, hQ347, l347, y347, z347⟩, st347⟩ := Jvm.LawKit.callS X0 hx (y := yM60) hown0 (mvT hZ0 (w_337 hw)) (mvT hZ0 (w_338 hw)) (mvT hZ0 (w_17 hw)) (mvT hZ0 (w_339 hw)) (by decide) (backOf (W := 0) (rmNbl l Z a0 hw [] () h0 ) hZ0 (w_339 hw) (w_17 hw) (by decide) (by decide)) (g := (mkF m 1 #[iv 7] [(.int 7)])) rfl (by rw [hml]; rfl) (argsL := [(.int 7)]) (rest := []) (lenOf pd_24 rfl) rfl (by show 2 * 0 + _ ≤ _; exact Nat.le_of_eq rfl) (hb hby d45_1) (fun _ _ => ⟨rfl, e0, (by decide : 0 + 0 ≤ _), (by decide : 0 + 0 ≤ _)⟩)
  dsimp only [Pt.U, Pt.locs, Pt.cells, Pt.slots] at X347 l347 y347 z347 st347 hQ347
  subst l347 y347 z347
  obtain ⟨rfl, Nq347, eh347⟩ := hQ347
  have N347 := Fr.app N0 Nq347
  obtain ⟨T348, h348, k348, X348, e348, E348, A348, Ex348, st348⟩ := newPE (aty := .byte) X347 hx hZ0 (w_19 hw) eh347 (g := (mkF m 4 #[iv 7] [(.int 14)])) rfl (hb hby d45_4) rfl (by decide : ¬ ((14 : Int32) < (0 : Int32))) (cap := 14) (by decide) (by decide) (by decide) (by decide) (ad := "[B") (by decide)
  obtain ⟨b348, g348⟩ : ∃ z, z = h0.size := ⟨_, rfl⟩
  rw [← g348] at A348 st348 Ex348
  have V348 : Arv Z h348 b348 k348 .byte (14 : Int32) [(.int 0), (.int 0), (.int 0), (.int 0), (.int 0), (.int 0), (.int 0), (.int 0), (.int 0), (.int 0), (.int 0), (.int 0), (.int 0), (.int 0)] (.int 0) := (Arv.new A348 (by decide : ¬ ((14 : Int32) < (0 : Int32)))).pad (pad_rep [] (.int 0) 14)
  have u348 : h348.size > b348 := V348.lt
  have z348 : h0.size ≤ h348.size := E348.1
  have KP348 : Keep h0 h348 ([] : List Addr) := KP0.ext E348
  refine Go.on (w := T348.setTop (mkF m 6 #[iv 7] [(.ref b348)])) (fun t k => XS.iloadN X0.here hx rfl (hb hby d45_0) rfl (st347 _ (st348 _ k))) ?_
  refine Go.finH X348 hlk (v := some (.ref b348)) (fun h => by rw [Bd.returns] at h; cases h) (fun fs hr => ?_) (endH (Q := Q_rmNbf Z u h0) (by rw [e348]; exact ⟨b348, k348, rfl, N347, KP348, (by omega), Ex348, V348⟩) (by decide) (by decide))
  exact retOut X348 hx Bd.returns rfl (Or.inr (Or.inr (Or.inr (Or.inr ⟨rfl, rfl, rfl⟩)))) (hb hby d45_6) hr
def Q_rmCo (Z : State) (ta : Addr) (q : ClassId) (z0 : Int32) (z1 : Int32) (z2 : Int32) (z3 : Int32) (z4 : Int32) (z5 : Int32) (z6 : Int32) (z7 : Int32) (h0 : Heap) (vv : Option Value) (h : Heap) (L : List Loc) : Prop := ∃ (r : Addr) (kr : ClassId), vv = some (.ref r) ∧ Fr Z.heap.size L ∧ Keep h0 h [] ∧ (h0.size ≤ r) ∧ Arv Z h r kr .byte (8 : Int32) [(.int z0), (.int z1), (.int z2), (.int z3), (.int z4), (.int z5), (.int z6), (.int z7)] (.int 0)
theorem ef_rmCo (m : MethodId) (x0 : Addr) (x1 : Int32)   : entryFrame m #[(.ref x0), (.int x1)] 3 = mkF m 0 #[.val (.ref x0), .val (.int x1), .unset] [] := rfl
theorem rmCo (l : Launch) (Z : State) (a0 : Array Value) (hw : HW a0 Z) (ws : List Cond) (ta : Addr) (q : ClassId) (z0 : Int32) (z1 : Int32) (z2 : Int32) (z3 : Int32) (z4 : Int32) (z5 : Int32) (z6 : Int32) (z7 : Int32) (h0 : Heap) (Z0 : Z.heap.size ≤ h0.size) (Vt : Arv Z h0 ta q .byte (14 : Int32) [(.int z0), (.int z1), (.int z2), (.int z3), (.int z4), (.int z5), (.int z6), (.int z7), (.int 0), (.int 0), (.int 0), (.int 0), (.int 0), (.int 0)] (.int 0)) :
    MetFree l yM61 (head1 (Cond.code yM61 jdk_65_method_121_code 3 (some (.array .byte)) :: ws) (⟨1, 1, 8, 40⟩ : Room)) (fun a U => a = #[(.ref ta), (.int 8)] ∧ Z.Warmed39 U.vm ∧ U.heap = h0) (fun _ _ _ _ _ => True) (fun _ U o U' => ∃ v L, o = .returned v ∧ Q_rmCo Z ta q z0 z1 z2 z3 z4 z5 z6 z7 h0 v U'.heap L ∧ FrameEnd U o U' L (⟨1, 1, 8, 40⟩ : Room).cells (⟨1, 1, 8, 40⟩ : Room).slots) := by
  refine MetFree.of_bodySF (plainFor_of_name (by first | (simp [plainName, overriddenIn]; done) | decide +kernel)) hisR ?_
  intro p e s m args below meth c s₁ Bd hml0 hP hK
  obtain ⟨rfl, hZ0', hh⟩ := hP
  have hx := Bd.exec
  have hby := Bd.bytes
  have hml : c.maxLocals = 3 := hml0
  have hZ0 : Z.Warmed39 s.vm := hZ0'
  have hown0 : s.vm.findClass "java/util/Arrays" = some m.cls := findClass_of_methodNamed Bd.named
  have hnm := (name_of_methodNamed Bd.named Bd.method).1
  have hlk : meth.locks = false := Bd.notSynchronized
  have X0 : Stand p l e (⟨1, 1, 8, 40⟩ : Room) s m #[(.ref ta), (.int 8)] below meth c s₁ [] 0 0 := Stand.of_body Bd
  have e0 : s₁.heap = h0 := by rw [← hh, Bd.state]; rfl
  have N0 := Fr.nil Z.heap.size
  have KP0 : Keep h0 h0 ([] : List Addr) := Keep.refl _ _
  show Go p e below (fun t o => ∃ v L, o = .returned v ∧ Q_rmCo Z ta q z0 z1 z2 z3 z4 z5 z6 z7 h0 v t.heap L ∧ FrameEnd s o t L (⟨1, 1, 8, 40⟩ : Room).cells (⟨1, 1, 8, 40⟩ : Room).slots) (s₁.setTop (entryFrame m #[(.ref ta), (.int 8)] 3))
  refine Go.on (w := s₁.setTop (mkF m 0 #[rv ta, iv 8, .unset] [])) (fun t k => castTop (ef_rmCo m ta (8 : Int32)) k) ?_
  have u_t : h0.size > ta := Vt.lt
  obtain ⟨cl349, Ar349, q349, S349, M349, H349, U349⟩ := id Vt
  refine Go.on (w := s₁.setTop (mkF m 2 #[rv ta, iv 8, .unset] [(.ref ta), (.int 8)])) (fun t k => XS.iloadN X0.here hx rfl (hb hby d46_0) rfl (XS.aloadN X0.here hx rfl (hb hby d46_1) rfl rfl k)) ?_
  refine Go.on (w := s₁.setTop (mkF m 3 #[rv ta, iv 8, .unset] [(.int 14), (.int 8)])) (fun t k => X0.arraylength hx (by rw [e0]; exact Ar349.1) (State.isArrayOf_alike hZ0.alike Ar349.2.1) (g := (mkF m 2 #[rv ta, iv 8, .unset] [(.ref ta), (.int 8)])) rfl rfl (hb hby d46_2) _ (by rw [len_of S349 M349]; exact k)) ?_
  obtain ⟨T350, h350, k350, X350, e350, E350, A350, Ex350, st350⟩ := newPE (aty := .byte) X0 hx hZ0 (w_19 hw) e0 (g := (mkF m 15 #[rv ta, iv 8, .unset] [(.int 8)])) rfl (hb hby d46_15) rfl (by decide : ¬ ((8 : Int32) < (0 : Int32))) (cap := 8) (by decide) (by decide) (by decide) (by decide) (ad := "[B") (by decide)
  obtain ⟨b350, g350⟩ : ∃ z, z = h0.size := ⟨_, rfl⟩
  rw [← g350] at A350 st350 Ex350
  have V350 : Arv Z h350 b350 k350 .byte (8 : Int32) [(.int 0), (.int 0), (.int 0), (.int 0), (.int 0), (.int 0), (.int 0), (.int 0)] (.int 0) := (Arv.new A350 (by decide : ¬ ((8 : Int32) < (0 : Int32)))).pad (pad_rep [] (.int 0) 8)
  have u350 : h350.size > b350 := V350.lt
  have z350 : h0.size ≤ h350.size := E350.1
  have KP350 : Keep h0 h350 ([] : List Addr) := KP0.ext E350
  have F351 := (Vt.ext E350)
  obtain ⟨cl352, Ar352, q352, S352, M352, H352, U352⟩ := id F351
  refine Go.on (w := T350.setTop (mkF m 23 #[rv ta, iv 8, rv b350] [(.ref ta), (.int 0), (.ref b350), (.int 0), (.ref ta)])) (fun t k => XS.icmpYes X0.here hx rfl (pc0 := 3) (pc' := 14) rfl (hb hby d46_3) rfl (feq (by decide : ¬ ((8 : Int32) = (14 : Int32)))).2 (by decide) (by decide) (XS.iloadN X0.here hx rfl (hb hby d46_14) rfl (st350 _ (XS.astoreN X350.here hx rfl (hb hby d46_17) rfl rfl (l' := #[rv ta, iv 8, rv b350]) rfl (XS.aloadN X350.here hx rfl (hb hby d46_18) rfl rfl (XS.iconst X350.here hx rfl (hb hby d46_19) (XS.aloadN X350.here hx rfl (hb hby d46_20) rfl rfl (XS.iconst X350.here hx rfl (hb hby d46_21) (XS.aloadN X350.here hx rfl (hb hby d46_22) rfl rfl k))))))))) ?_
  refine Go.on (w := T350.setTop (mkF m 24 #[rv ta, iv 8, rv b350] [(.int 14), (.int 0), (.ref b350), (.int 0), (.ref ta)])) (fun t k => X350.arraylength hx (by rw [e350]; exact Ar352.1) (State.isArrayOf_alike hZ0.alike Ar352.2.1) (g := (mkF m 23 #[rv ta, iv 8, rv b350] [(.ref ta), (.int 0), (.ref b350), (.int 0), (.ref ta)])) rfl rfl (hb hby d46_23) _ (by rw [len_of S352 M352]; exact k)) ?_
  obtain ⟨v353, _, ⟨T353, L353, k353, n353⟩, -, X353, ⟨Lc353, hQ353, l353, y353, z353⟩, st353⟩ := Jvm.LawKit.callS X350 hx (y := yM49) hown0 (mvT hZ0 (w_287 hw)) (mvT hZ0 (w_288 hw)) (mvT hZ0 (w_138 hw)) (mvT hZ0 (w_289 hw)) (by decide) (backOf (W := 4) (rmMin2 l Z a0 hw [] (14 : Int32) (8 : Int32) h350 (by decide)) hZ0 (w_289 hw) (w_138 hw) (by decide) (by decide)) (g := (mkF m 25 #[rv ta, iv 8, rv b350] [(.int 8), (.int 14), (.int 0), (.ref b350), (.int 0), (.ref ta)])) rfl (by rw [hml]; rfl) (argsL := [(.int 14), (.int 8)]) (rest := [(.int 0), (.ref b350), (.int 0), (.ref ta)]) (lenOf pd_2 rfl) rfl (by show 2 * 0 + _ ≤ _; exact Nat.le_of_eq rfl) (hb hby d46_25) (fun _ _ => ⟨rfl, e350, (by decide : 1 + 0 ≤ _), (by decide : 8 + 0 ≤ _)⟩)
  dsimp only [Pt.U, Pt.locs, Pt.cells, Pt.slots] at X353 l353 y353 z353 st353 hQ353
  subst l353 y353 z353
  obtain ⟨rfl, Nq353, eh353⟩ := hQ353
  have N353 := Fr.app N0 Nq353
  obtain ⟨T354, h354, L354, X354, e354, N354, K354, V354', st354⟩ := cpA X353 hx hZ0 hown0 (w_290 hw) (w_246 hw) (w_244 hw) (w_245 hw) eh353 F351 V350 (us := [(.int z0), (.int z1), (.int z2), (.int z3), (.int z4), (.int z5), (.int z6), (.int z7)]) (Or.inl ⟨rfl, rfl⟩) (sp := (0 : Int32)) (dp := (0 : Int32)) (nn := (8 : Int32)) (by decide) (by decide) (by decide) (by decide) (by decide) rfl (Nat.le_of_ble_eq_true rfl) N353 (by omega) (g := (mkF m 28 #[rv ta, iv 8, rv b350] [(.int 8), (.int 0), (.ref b350), (.int 0), (.ref ta)])) rfl (by rw [hml]; rfl) rfl (hb hby d46_28) (by decide) (W := 0) (by show 2 * 0 + _ ≤ _; exact Nat.le_of_eq rfl) (by decide)
  have V354 : Arv Z h354 b350 k350 .byte (8 : Int32) [(.int z0), (.int z1), (.int z2), (.int z3), (.int z4), (.int z5), (.int z6), (.int z7)] (.int 0) := V354'
  have z354 : h350.size ≤ h354.size := K354.1
  have KP354 : Keep h0 h354 ([] : List Addr) := KP350.trans K354 (allS (P := fun zq => zq ∈ ([] : List Addr) ∨ h0.size ≤ zq) (Or.inr (by omega)) all0)
  refine Go.on (w := T354.setTop (mkF m 32 #[rv ta, iv 8, rv b350] [(.ref b350)])) (fun t k => XS.iloadN X350.here hx rfl (hb hby d46_24) rfl (st353 _ (st354 _ (XS.aloadN X354.here hx rfl (hb hby d46_31) rfl rfl k)))) ?_
  refine Go.finH X354 hlk (v := some (.ref b350)) (fun h => by rw [Bd.returns] at h; cases h) (fun fs hr => ?_) (endH (Q := Q_rmCo Z ta q z0 z1 z2 z3 z4 z5 z6 z7 h0) (by rw [e354]; exact ⟨b350, k350, rfl, N354, KP354, (by omega), V354⟩) (by decide) (by decide))
  exact retOut X354 hx Bd.returns rfl (Or.inr (Or.inr (Or.inr (Or.inr ⟨rfl, rfl, rfl⟩)))) (hb hby d46_32) hr
def Q_rmE8 (Z : State) (ta : Addr) (q : ClassId) (v0 : Int32) (h0 : Heap) (vv : Option Value) (h : Heap) (L : List Loc) : Prop := ∃ (r : Addr) (kr : ClassId) (zr : Int32) (vr : List Value), vv = some (.ref r) ∧ Fr Z.heap.size L ∧ Keep h0 h [] ∧ (h0.size ≤ r) ∧ (zr = 7 ∨ zr = 8) ∧ Arv Z h r kr .byte zr vr (.int 0)
theorem ef_rmE8 (m : MethodId) (x0 : Int32) (x1 : Addr) (x2 : Int32)   : entryFrame m #[(.int x0), (.ref x1), (.int x2)] 9 = mkF m 0 #[.val (.int x0), .val (.ref x1), .val (.int x2), .unset, .unset, .unset, .unset, .unset, .unset] [] := by first | (simp [entryFrame, mkF, argsToLocals, Value.category]; done) | rfl
theorem rmE8 (l : Launch) (Z : State) (a0 : Array Value) (hw : HW a0 Z) (ws : List Cond) (ta : Addr) (q : ClassId) (v0 : Int32) (h0 : Heap) (Z0 : Z.heap.size ≤ h0.size) (Et : Exa Z h0 ta "[B") (Vt : Arv Z h0 ta q .byte (7 : Int32) [(.int 114), (.int 101), (.int 97), (.int 108), (.int 109), (.int 32), (.int v0)] (.int 0)) :
    MetFree l yM53 (head1 (Cond.code yM53 jdk_42_method_46_code 9 (some (.array .byte)) :: ws) (⟨2, 2, 22, 54⟩ : Room)) (fun a U => a = #[(.int 0), (.ref ta), (.int 1)] ∧ Z.Warmed39 U.vm ∧ U.heap = h0) (fun _ _ _ _ _ => True) (fun _ U o U' => ∃ v L, o = .returned v ∧ Q_rmE8 Z ta q v0 h0 v U'.heap L ∧ FrameEnd U o U' L (⟨2, 2, 22, 54⟩ : Room).cells (⟨2, 2, 22, 54⟩ : Room).slots) := by
  refine MetFree.of_bodySF (plainFor_of_name (by first | (simp [plainName, overriddenIn]; done) | decide +kernel)) hisR ?_
  intro p e s m args below meth c s₁ Bd hml0 hP hK
  obtain ⟨rfl, hZ0', hh⟩ := hP
  have hx := Bd.exec
  have hby := Bd.bytes
  have hml : c.maxLocals = 9 := hml0
  have hZ0 : Z.Warmed39 s.vm := hZ0'
  have hown0 : s.vm.findClass "java/lang/String" = some m.cls := findClass_of_methodNamed Bd.named
  have hnm := (name_of_methodNamed Bd.named Bd.method).1
  have hlk : meth.locks = false := Bd.notSynchronized
  have X0 : Stand p l e (⟨2, 2, 22, 54⟩ : Room) s m #[(.int 0), (.ref ta), (.int 1)] below meth c s₁ [] 0 0 := Stand.of_body Bd
  have e0 : s₁.heap = h0 := by rw [← hh, Bd.state]; rfl
  have N0 := Fr.nil Z.heap.size
  have KP0 : Keep h0 h0 ([] : List Addr) := Keep.refl _ _
  show Go p e below (fun t o => ∃ v L, o = .returned v ∧ Q_rmE8 Z ta q v0 h0 v t.heap L ∧ FrameEnd s o t L (⟨2, 2, 22, 54⟩ : Room).cells (⟨2, 2, 22, 54⟩ : Room).slots) (s₁.setTop (entryFrame m #[(.int 0), (.ref ta), (.int 1)] 9))
  refine Go.on (w := s₁.setTop (mkF m 0 #[iv 0, rv ta, iv 1, .unset, .unset, .unset, .unset, .unset, .unset] [])) (fun t k => castTop (ef_rmE8 m (0 : Int32) ta (1 : Int32)) k) ?_
  have u_t : h0.size > ta := Vt.lt
  by_cases hv : v0 < (0 : Int32)
  ·
    obtain ⟨cl355, Ar355, q355, S355, M355, H355, U355⟩ := id Vt
    refine Go.on (w := s₁.setTop (mkF m 14 #[iv 0, rv ta, iv 1, .unset, .unset, .unset, .unset, .unset, .unset] [(.ref ta), (.int 0), (.ref ta)])) (fun t k => XS.iloadN X0.here hx rfl (hb hby d47_0) rfl (XS.iconst X0.here hx rfl (hb hby d47_1) (XS.icmpYes X0.here hx rfl (pc0 := 2) (pc' := 11) rfl (hb hby d47_2) rfl (feq (by decide : ¬ ((0 : Int32) = (1 : Int32)))).2 (by decide) (by decide) (XS.aloadN X0.here hx rfl (hb hby d47_11) rfl rfl (XS.iconst X0.here hx rfl (hb hby d47_12) (XS.aloadN X0.here hx rfl (hb hby d47_13) rfl rfl k)))))) ?_
    refine Go.on (w := s₁.setTop (mkF m 15 #[iv 0, rv ta, iv 1, .unset, .unset, .unset, .unset, .unset, .unset] [(.int 7), (.int 0), (.ref ta)])) (fun t k => X0.arraylength hx (by rw [e0]; exact Ar355.1) (State.isArrayOf_alike hZ0.alike Ar355.2.1) (g := (mkF m 14 #[iv 0, rv ta, iv 1, .unset, .unset, .unset, .unset, .unset, .unset] [(.ref ta), (.int 0), (.ref ta)])) rfl rfl (hb hby d47_14) _ (by rw [len_of S355 M355]; exact k)) ?_
    obtain ⟨v356, _, ⟨T356, L356, k356, n356⟩, -, X356, ⟨Lc356, hQ356, l356, y356, z356⟩, st356⟩ := Jvm.LawKit.callS X0 hx (y := yM54) hown0 (mvT hZ0 (w_311 hw)) (mvT hZ0 (w_312 hw)) (mvT hZ0 (w_313 hw)) (mvT hZ0 (w_314 hw)) (by decide) (backOf (W := 0) (rmHn1 l Z a0 hw [] ta q v0 h0 Vt hv) hZ0 (w_314 hw) (w_313 hw) (by decide) (by decide)) (g := (mkF m 15 #[iv 0, rv ta, iv 1, .unset, .unset, .unset, .unset, .unset, .unset] [(.int 7), (.int 0), (.ref ta)])) rfl (by rw [hml]; rfl) (argsL := [(.ref ta), (.int 0), (.int 7)]) (rest := []) (lenOf pd_25 rfl) rfl (by show 2 * 0 + _ ≤ _; exact Nat.le_of_eq rfl) (hb hby d47_15) (fun _ _ => ⟨rfl, e0, (by decide : 0 + 0 ≤ _), (by decide : 0 + 0 ≤ _)⟩)
    dsimp only [Pt.U, Pt.locs, Pt.cells, Pt.slots] at X356 l356 y356 z356 st356 hQ356
    subst l356 y356 z356
    obtain ⟨rfl, Nq356, eh356⟩ := hQ356
    have N356 := Fr.app N0 Nq356
    obtain ⟨cl357, Ar357, q357, S357, M357, H357, U357⟩ := id Vt
    refine Go.on (w := T356.setTop (mkF m 32 #[iv 0, rv ta, iv 1, iv 0, .unset, .unset, .unset, .unset, .unset] [(.ref ta)])) (fun t k => st356 _ (XS.ifYes X356.here hx rfl (pc0 := 18) (pc' := 29) rfl (hb hby d47_18) rfl ((if0 _ _).trans (feq (by decide : ¬ ((1 : Int32) = (0 : Int32)))).2) (by decide) (by decide) (XS.iconst X356.here hx rfl (hb hby d47_29) (XS.istoreN X356.here hx rfl (hb hby d47_30) rfl (l' := #[iv 0, rv ta, iv 1, iv 0, .unset, .unset, .unset, .unset, .unset]) rfl (XS.aloadN X356.here hx rfl (hb hby d47_31) rfl rfl k))))) ?_
    refine Go.on (w := T356.setTop (mkF m 33 #[iv 0, rv ta, iv 1, iv 0, .unset, .unset, .unset, .unset, .unset] [(.int 7)])) (fun t k => X356.arraylength hx (by rw [eh356]; exact Ar357.1) (State.isArrayOf_alike hZ0.alike Ar357.2.1) (g := (mkF m 32 #[iv 0, rv ta, iv 1, iv 0, .unset, .unset, .unset, .unset, .unset] [(.ref ta)])) rfl rfl (hb hby d47_32) _ (by rw [len_of S357 M357]; exact k)) ?_
    obtain ⟨v358, _, ⟨T358, L358, k358, n358⟩, -, X358, ⟨Lc358, hQ358, l358, y358, z358⟩, st358⟩ := Jvm.LawKit.callS X356 hx (y := yM59) hown0 (mvT hZ0 (w_334 hw)) (mvT hZ0 (w_335 hw)) (mvT hZ0 (w_17 hw)) (mvT hZ0 (w_336 hw)) (by decide) (backOf (W := 0) (rmNbf l Z a0 hw [] () h0 (by omega)) hZ0 (w_336 hw) (w_17 hw) (by decide) (by decide)) (g := (mkF m 33 #[iv 0, rv ta, iv 1, iv 0, .unset, .unset, .unset, .unset, .unset] [(.int 7)])) rfl (by rw [hml]; rfl) (argsL := [(.int 7)]) (rest := []) (lenOf pd_26 rfl) rfl (by show 2 * 0 + _ ≤ _; exact Nat.le_of_eq rfl) (hb hby d47_33) (fun _ _ => ⟨rfl, eh356, (by decide : 0 + 1 ≤ _), (by decide : 0 + 14 ≤ _)⟩)
    dsimp only [Pt.U, Pt.locs, Pt.cells, Pt.slots] at X358 l358 y358 z358 st358 hQ358
    subst l358 y358 z358
    obtain ⟨r_358, kr_358, rfl, Nq358, K358, f358_0, f358_1, f358_2⟩ := hQ358
    have N358 := Fr.app N356 Nq358
    have eK358 : T358.heap = T358.heap := rfl
    have z358 : h0.size ≤ T358.heap.size := K358.1
    have KP358 : Keep h0 T358.heap ([] : List Addr) := KP0.trans K358 all0
    have u358_1 : T358.heap.size > r_358 := f358_1.lt
    have u358_2 : T358.heap.size > r_358 := f358_2.lt
    have F359 := (Vt.keep K358 nin0)
    obtain ⟨cl360, Ar360, q360, S360, M360, H360, U360⟩ := id F359
    refine Go.on (w := T358.setTop (mkF m 43 #[iv 0, rv ta, iv 1, iv 0, rv r_358, rv ta, .unset, .unset, .unset] [(.ref ta)])) (fun t k => st358 _ (XS.astore X358.here hx rfl (hb hby d47_36) rfl rfl (l' := #[iv 0, rv ta, iv 1, iv 0, rv r_358, .unset, .unset, .unset, .unset]) rfl (XS.aloadN X358.here hx rfl (hb hby d47_38) rfl rfl (XS.astore X358.here hx rfl (hb hby d47_39) rfl rfl (l' := #[iv 0, rv ta, iv 1, iv 0, rv r_358, rv ta, .unset, .unset, .unset]) rfl (XS.aload X358.here hx rfl (hb hby d47_41) rfl rfl k))))) ?_
    refine Go.on (w := T358.setTop (mkF m 44 #[iv 0, rv ta, iv 1, iv 0, rv r_358, rv ta, .unset, .unset, .unset] [(.int 7)])) (fun t k => X358.arraylength hx (by rw [eK358]; exact Ar360.1) (State.isArrayOf_alike hZ0.alike Ar360.2.1) (g := (mkF m 43 #[iv 0, rv ta, iv 1, iv 0, rv r_358, rv ta, .unset, .unset, .unset] [(.ref ta)])) rfl rfl (hb hby d47_43) _ (by rw [len_of S360 M360]; exact k)) ?_
    obtain ⟨cl361, Ar361, q361, S361, M361, H361, U361⟩ := id F359
    have hin361 := ((inb_of S361 ⟨(by decide), (by decide)⟩) : ¬ ((0 : Int32) < 0 ∨ cl361.slots.size ≤ ((0 : Int32)).toNatClampNeg))
    obtain ⟨cl362, Ar362, q362, S362, M362, H362, U362⟩ := id f358_2
    obtain ⟨T362, h362, X362, e362, W362, st362⟩ := stB X358 hx hZ0 eK358 Ar362 (j := (0 : Int32)) (inb_of S362 ⟨(by decide), (by decide)⟩) (g := (mkF m 117 #[iv 0, rv ta, iv 1, iv 1, rv r_358, rv ta, iv 7, iv 0, iv 114] [(.int 114), (.int 0), (.ref r_358)])) rfl rfl (hb hby d47_117)
    have V362 : Arv Z h362 r_358 kr_358 .byte (14 : Int32) [(.int 114), (.int 0), (.int 0), (.int 0), (.int 0), (.int 0), (.int 0), (.int 0), (.int 0), (.int 0), (.int 0), (.int 0), (.int 0), (.int 0)] (.int 0) := (Arv.set Ar362 q362 S362 M362 H362 U362 (fits_nar_byte _) W362 0 rfl (Nat.le_of_ble_eq_true rfl))
    have z362 : T358.heap.size ≤ h362.size := Nat.le_of_eq W362.size.symm
    have KP362 : Keep h0 h362 ([] : List Addr) := KP358.wr W362 (Or.inr (by omega))
    have N362 := Fr.snoc X362 N358 (by omega)
    have F363 := (F359.other W362 (show @Ne Nat ta r_358 by omega))
    obtain ⟨cl364, Ar364, q364, S364, M364, H364, U364⟩ := id F363
    have hin364 := ((inb_of S364 ⟨(by decide), (by decide)⟩) : ¬ ((1 : Int32) < 0 ∨ cl364.slots.size ≤ ((1 : Int32)).toNatClampNeg))
    refine Go.on (w := T362.setTop (mkF m 60 #[iv 0, rv ta, iv 1, iv 1, rv r_358, rv ta, iv 7, iv 1, iv 114] [(.int 1), (.ref ta)])) (fun t k => XS.istore X358.here hx rfl (hb hby d47_44) rfl (l' := #[iv 0, rv ta, iv 1, iv 0, rv r_358, rv ta, iv 7, .unset, .unset]) rfl (XS.iconst X358.here hx rfl (hb hby d47_46) (XS.istore X358.here hx rfl (hb hby d47_47) rfl (l' := #[iv 0, rv ta, iv 1, iv 0, rv r_358, rv ta, iv 7, iv 0, .unset]) rfl (XS.iload X358.here hx rfl (hb hby d47_49) rfl (XS.iload X358.here hx rfl (hb hby d47_51) rfl (XS.icmpNo X358.here hx rfl (hb hby d47_53) rfl (tlt (by decide : (0 : Int32) < (7 : Int32))).2.1 (XS.aload X358.here hx rfl (hb hby d47_56) rfl rfl (XS.iload X358.here hx rfl (hb hby d47_58) rfl (X358.baloadBytes hx (j := (0 : Int32)) (v := (.int 114)) (by rw [eK358]; exact Ar361.1) (State.isArrayOf_alike hZ0.alike Ar361.2.1) Ar361.2.2 hin361 (H361.at hin361 rfl) (g := (mkF m 60 #[iv 0, rv ta, iv 1, iv 0, rv r_358, rv ta, iv 7, iv 0, .unset] [(.int 0), (.ref ta)])) rfl rfl (hb hby d47_60) _ (XS.istore X358.here hx rfl (hb hby d47_61) rfl (l' := #[iv 0, rv ta, iv 1, iv 0, rv r_358, rv ta, iv 7, iv 0, iv 114]) rfl (XS.iload X358.here hx rfl (hb hby d47_63) rfl (XS.ifYes X358.here hx rfl (pc0 := 65) (pc' := 109) rfl (hb hby d47_65) rfl ((if0 _ _).trans (flt (by decide : ¬ ((114 : Int32) < (0 : Int32)))).2.1) (by decide) (by decide) (XS.aload X358.here hx rfl (hb hby d47_109) rfl rfl (XS.iloadN X358.here hx rfl (hb hby d47_111) rfl (XS.iinc X358.here hx rfl (hb hby d47_112) rfl (l' := #[iv 0, rv ta, iv 1, iv 1, rv r_358, rv ta, iv 7, iv 0, iv 114]) rfl (XS.iload X358.here hx rfl (hb hby d47_115) rfl (st362 _ (XS.iinc X362.here hx rfl (hb hby d47_118) rfl (l' := #[iv 0, rv ta, iv 1, iv 1, rv r_358, rv ta, iv 7, iv 1, iv 114]) rfl (XS.goto X362.here hx rfl (pc0 := 121) (pc' := 49) rfl (hb hby d47_121) (by decide) (by decide) (XS.iload X362.here hx rfl (hb hby d47_49) rfl (XS.iload X362.here hx rfl (hb hby d47_51) rfl (XS.icmpNo X362.here hx rfl (hb hby d47_53) rfl (tlt (by decide : (1 : Int32) < (7 : Int32))).2.1 (XS.aload X362.here hx rfl (hb hby d47_56) rfl rfl (XS.iload X362.here hx rfl (hb hby d47_58) rfl k)))))))))))))))))))))))) ?_
    refine Go.on (w := T362.setTop (mkF m 61 #[iv 0, rv ta, iv 1, iv 1, rv r_358, rv ta, iv 7, iv 1, iv 114] [(.int 101)])) (fun t k => X362.baloadBytes hx (j := (1 : Int32)) (v := (.int 101)) (by rw [e362]; exact Ar364.1) (State.isArrayOf_alike hZ0.alike Ar364.2.1) Ar364.2.2 hin364 (H364.at hin364 rfl) (g := (mkF m 60 #[iv 0, rv ta, iv 1, iv 1, rv r_358, rv ta, iv 7, iv 1, iv 114] [(.int 1), (.ref ta)])) rfl rfl (hb hby d47_60) _ k) ?_
    obtain ⟨cl365, Ar365, q365, S365, M365, H365, U365⟩ := id V362
    obtain ⟨T365, h365, X365, e365, W365, st365⟩ := stB X362 hx hZ0 e362 Ar365 (j := (1 : Int32)) (inb_of S365 ⟨(by decide), (by decide)⟩) (g := (mkF m 117 #[iv 0, rv ta, iv 1, iv 2, rv r_358, rv ta, iv 7, iv 1, iv 101] [(.int 101), (.int 1), (.ref r_358)])) rfl rfl (hb hby d47_117)
    have V365 : Arv Z h365 r_358 kr_358 .byte (14 : Int32) [(.int 114), (.int 101), (.int 0), (.int 0), (.int 0), (.int 0), (.int 0), (.int 0), (.int 0), (.int 0), (.int 0), (.int 0), (.int 0), (.int 0)] (.int 0) := (Arv.set Ar365 q365 S365 M365 H365 U365 (fits_nar_byte _) W365 1 rfl (Nat.le_of_ble_eq_true rfl))
    have z365 : h362.size ≤ h365.size := Nat.le_of_eq W365.size.symm
    have KP365 : Keep h0 h365 ([] : List Addr) := KP362.wr W365 (Or.inr (by omega))
    have N365 := Fr.snoc X365 N362 (by omega)
    have F366 := (F363.other W365 (show @Ne Nat ta r_358 by omega))
    obtain ⟨cl367, Ar367, q367, S367, M367, H367, U367⟩ := id F366
    have hin367 := ((inb_of S367 ⟨(by decide), (by decide)⟩) : ¬ ((2 : Int32) < 0 ∨ cl367.slots.size ≤ ((2 : Int32)).toNatClampNeg))
    obtain ⟨cl368, Ar368, q368, S368, M368, H368, U368⟩ := id V365
    obtain ⟨T368, h368, X368, e368, W368, st368⟩ := stB X365 hx hZ0 e365 Ar368 (j := (2 : Int32)) (inb_of S368 ⟨(by decide), (by decide)⟩) (g := (mkF m 117 #[iv 0, rv ta, iv 1, iv 3, rv r_358, rv ta, iv 7, iv 2, iv 97] [(.int 97), (.int 2), (.ref r_358)])) rfl rfl (hb hby d47_117)
    have V368 : Arv Z h368 r_358 kr_358 .byte (14 : Int32) [(.int 114), (.int 101), (.int 97), (.int 0), (.int 0), (.int 0), (.int 0), (.int 0), (.int 0), (.int 0), (.int 0), (.int 0), (.int 0), (.int 0)] (.int 0) := (Arv.set Ar368 q368 S368 M368 H368 U368 (fits_nar_byte _) W368 2 rfl (Nat.le_of_ble_eq_true rfl))
    have z368 : h365.size ≤ h368.size := Nat.le_of_eq W368.size.symm
    have KP368 : Keep h0 h368 ([] : List Addr) := KP365.wr W368 (Or.inr (by omega))
    have N368 := Fr.snoc X368 N365 (by omega)
    refine Go.on (w := T368.setTop (mkF m 118 #[iv 0, rv ta, iv 1, iv 3, rv r_358, rv ta, iv 7, iv 2, iv 97] [])) (fun t k => XS.istore X362.here hx rfl (hb hby d47_61) rfl (l' := #[iv 0, rv ta, iv 1, iv 1, rv r_358, rv ta, iv 7, iv 1, iv 101]) rfl (XS.iload X362.here hx rfl (hb hby d47_63) rfl (XS.ifYes X362.here hx rfl (pc0 := 65) (pc' := 109) rfl (hb hby d47_65) rfl ((if0 _ _).trans (flt (by decide : ¬ ((101 : Int32) < (0 : Int32)))).2.1) (by decide) (by decide) (XS.aload X362.here hx rfl (hb hby d47_109) rfl rfl (XS.iloadN X362.here hx rfl (hb hby d47_111) rfl (XS.iinc X362.here hx rfl (hb hby d47_112) rfl (l' := #[iv 0, rv ta, iv 1, iv 2, rv r_358, rv ta, iv 7, iv 1, iv 101]) rfl (XS.iload X362.here hx rfl (hb hby d47_115) rfl (st365 _ (XS.iinc X365.here hx rfl (hb hby d47_118) rfl (l' := #[iv 0, rv ta, iv 1, iv 2, rv r_358, rv ta, iv 7, iv 2, iv 101]) rfl (XS.goto X365.here hx rfl (pc0 := 121) (pc' := 49) rfl (hb hby d47_121) (by decide) (by decide) (XS.iload X365.here hx rfl (hb hby d47_49) rfl (XS.iload X365.here hx rfl (hb hby d47_51) rfl (XS.icmpNo X365.here hx rfl (hb hby d47_53) rfl (tlt (by decide : (2 : Int32) < (7 : Int32))).2.1 (XS.aload X365.here hx rfl (hb hby d47_56) rfl rfl (XS.iload X365.here hx rfl (hb hby d47_58) rfl (X365.baloadBytes hx (j := (2 : Int32)) (v := (.int 97)) (by rw [e365]; exact Ar367.1) (State.isArrayOf_alike hZ0.alike Ar367.2.1) Ar367.2.2 hin367 (H367.at hin367 rfl) (g := (mkF m 60 #[iv 0, rv ta, iv 1, iv 2, rv r_358, rv ta, iv 7, iv 2, iv 101] [(.int 2), (.ref ta)])) rfl rfl (hb hby d47_60) _ (XS.istore X365.here hx rfl (hb hby d47_61) rfl (l' := #[iv 0, rv ta, iv 1, iv 2, rv r_358, rv ta, iv 7, iv 2, iv 97]) rfl (XS.iload X365.here hx rfl (hb hby d47_63) rfl (XS.ifYes X365.here hx rfl (pc0 := 65) (pc' := 109) rfl (hb hby d47_65) rfl ((if0 _ _).trans (flt (by decide : ¬ ((97 : Int32) < (0 : Int32)))).2.1) (by decide) (by decide) (XS.aload X365.here hx rfl (hb hby d47_109) rfl rfl (XS.iloadN X365.here hx rfl (hb hby d47_111) rfl (XS.iinc X365.here hx rfl (hb hby d47_112) rfl (l' := #[iv 0, rv ta, iv 1, iv 3, rv r_358, rv ta, iv 7, iv 2, iv 97]) rfl (XS.iload X365.here hx rfl (hb hby d47_115) rfl (st368 _ k)))))))))))))))))))))))) ?_
    refine Go.on (w := T368.setTop (mkF m 121 #[iv 0, rv ta, iv 1, iv 3, rv r_358, rv ta, iv 7, iv 3, iv 97] [])) (fun t k => XS.iinc X368.here hx rfl (hb hby d47_118) rfl (l' := #[iv 0, rv ta, iv 1, iv 3, rv r_358, rv ta, iv 7, iv 3, iv 97]) rfl k) ?_
    have F369 := (F366.other W368 (show @Ne Nat ta r_358 by omega))
    obtain ⟨cl370, Ar370, q370, S370, M370, H370, U370⟩ := id F369
    have hin370 := ((inb_of S370 ⟨(by decide), (by decide)⟩) : ¬ ((3 : Int32) < 0 ∨ cl370.slots.size ≤ ((3 : Int32)).toNatClampNeg))
    obtain ⟨cl371, Ar371, q371, S371, M371, H371, U371⟩ := id V368
    obtain ⟨T371, h371, X371, e371, W371, st371⟩ := stB X368 hx hZ0 e368 Ar371 (j := (3 : Int32)) (inb_of S371 ⟨(by decide), (by decide)⟩) (g := (mkF m 117 #[iv 0, rv ta, iv 1, iv 4, rv r_358, rv ta, iv 7, iv 3, iv 108] [(.int 108), (.int 3), (.ref r_358)])) rfl rfl (hb hby d47_117)
    have V371 : Arv Z h371 r_358 kr_358 .byte (14 : Int32) [(.int 114), (.int 101), (.int 97), (.int 108), (.int 0), (.int 0), (.int 0), (.int 0), (.int 0), (.int 0), (.int 0), (.int 0), (.int 0), (.int 0)] (.int 0) := (Arv.set Ar371 q371 S371 M371 H371 U371 (fits_nar_byte _) W371 3 rfl (Nat.le_of_ble_eq_true rfl))
    have z371 : h368.size ≤ h371.size := Nat.le_of_eq W371.size.symm
    have KP371 : Keep h0 h371 ([] : List Addr) := KP368.wr W371 (Or.inr (by omega))
    have N371 := Fr.snoc X371 N368 (by omega)
    have F372 := (F369.other W371 (show @Ne Nat ta r_358 by omega))
    obtain ⟨cl373, Ar373, q373, S373, M373, H373, U373⟩ := id F372
    have hin373 := ((inb_of S373 ⟨(by decide), (by decide)⟩) : ¬ ((4 : Int32) < 0 ∨ cl373.slots.size ≤ ((4 : Int32)).toNatClampNeg))
    refine Go.on (w := T371.setTop (mkF m 63 #[iv 0, rv ta, iv 1, iv 4, rv r_358, rv ta, iv 7, iv 4, iv 109] [])) (fun t k => XS.goto X368.here hx rfl (pc0 := 121) (pc' := 49) rfl (hb hby d47_121) (by decide) (by decide) (XS.iload X368.here hx rfl (hb hby d47_49) rfl (XS.iload X368.here hx rfl (hb hby d47_51) rfl (XS.icmpNo X368.here hx rfl (hb hby d47_53) rfl (tlt (by decide : (3 : Int32) < (7 : Int32))).2.1 (XS.aload X368.here hx rfl (hb hby d47_56) rfl rfl (XS.iload X368.here hx rfl (hb hby d47_58) rfl (X368.baloadBytes hx (j := (3 : Int32)) (v := (.int 108)) (by rw [e368]; exact Ar370.1) (State.isArrayOf_alike hZ0.alike Ar370.2.1) Ar370.2.2 hin370 (H370.at hin370 rfl) (g := (mkF m 60 #[iv 0, rv ta, iv 1, iv 3, rv r_358, rv ta, iv 7, iv 3, iv 97] [(.int 3), (.ref ta)])) rfl rfl (hb hby d47_60) _ (XS.istore X368.here hx rfl (hb hby d47_61) rfl (l' := #[iv 0, rv ta, iv 1, iv 3, rv r_358, rv ta, iv 7, iv 3, iv 108]) rfl (XS.iload X368.here hx rfl (hb hby d47_63) rfl (XS.ifYes X368.here hx rfl (pc0 := 65) (pc' := 109) rfl (hb hby d47_65) rfl ((if0 _ _).trans (flt (by decide : ¬ ((108 : Int32) < (0 : Int32)))).2.1) (by decide) (by decide) (XS.aload X368.here hx rfl (hb hby d47_109) rfl rfl (XS.iloadN X368.here hx rfl (hb hby d47_111) rfl (XS.iinc X368.here hx rfl (hb hby d47_112) rfl (l' := #[iv 0, rv ta, iv 1, iv 4, rv r_358, rv ta, iv 7, iv 3, iv 108]) rfl (XS.iload X368.here hx rfl (hb hby d47_115) rfl (st371 _ (XS.iinc X371.here hx rfl (hb hby d47_118) rfl (l' := #[iv 0, rv ta, iv 1, iv 4, rv r_358, rv ta, iv 7, iv 4, iv 108]) rfl (XS.goto X371.here hx rfl (pc0 := 121) (pc' := 49) rfl (hb hby d47_121) (by decide) (by decide) (XS.iload X371.here hx rfl (hb hby d47_49) rfl (XS.iload X371.here hx rfl (hb hby d47_51) rfl (XS.icmpNo X371.here hx rfl (hb hby d47_53) rfl (tlt (by decide : (4 : Int32) < (7 : Int32))).2.1 (XS.aload X371.here hx rfl (hb hby d47_56) rfl rfl (XS.iload X371.here hx rfl (hb hby d47_58) rfl (X371.baloadBytes hx (j := (4 : Int32)) (v := (.int 109)) (by rw [e371]; exact Ar373.1) (State.isArrayOf_alike hZ0.alike Ar373.2.1) Ar373.2.2 hin373 (H373.at hin373 rfl) (g := (mkF m 60 #[iv 0, rv ta, iv 1, iv 4, rv r_358, rv ta, iv 7, iv 4, iv 108] [(.int 4), (.ref ta)])) rfl rfl (hb hby d47_60) _ (XS.istore X371.here hx rfl (hb hby d47_61) rfl (l' := #[iv 0, rv ta, iv 1, iv 4, rv r_358, rv ta, iv 7, iv 4, iv 109]) rfl k)))))))))))))))))))))))) ?_
    refine Go.on (w := T371.setTop (mkF m 65 #[iv 0, rv ta, iv 1, iv 4, rv r_358, rv ta, iv 7, iv 4, iv 109] [(.int 109)])) (fun t k => XS.iload X371.here hx rfl (hb hby d47_63) rfl k) ?_
    obtain ⟨cl374, Ar374, q374, S374, M374, H374, U374⟩ := id V371
    obtain ⟨T374, h374, X374, e374, W374, st374⟩ := stB X371 hx hZ0 e371 Ar374 (j := (4 : Int32)) (inb_of S374 ⟨(by decide), (by decide)⟩) (g := (mkF m 117 #[iv 0, rv ta, iv 1, iv 5, rv r_358, rv ta, iv 7, iv 4, iv 109] [(.int 109), (.int 4), (.ref r_358)])) rfl rfl (hb hby d47_117)
    have V374 : Arv Z h374 r_358 kr_358 .byte (14 : Int32) [(.int 114), (.int 101), (.int 97), (.int 108), (.int 109), (.int 0), (.int 0), (.int 0), (.int 0), (.int 0), (.int 0), (.int 0), (.int 0), (.int 0)] (.int 0) := (Arv.set Ar374 q374 S374 M374 H374 U374 (fits_nar_byte _) W374 4 rfl (Nat.le_of_ble_eq_true rfl))
    have z374 : h371.size ≤ h374.size := Nat.le_of_eq W374.size.symm
    have KP374 : Keep h0 h374 ([] : List Addr) := KP371.wr W374 (Or.inr (by omega))
    have N374 := Fr.snoc X374 N371 (by omega)
    have F375 := (F372.other W374 (show @Ne Nat ta r_358 by omega))
    obtain ⟨cl376, Ar376, q376, S376, M376, H376, U376⟩ := id F375
    have hin376 := ((inb_of S376 ⟨(by decide), (by decide)⟩) : ¬ ((5 : Int32) < 0 ∨ cl376.slots.size ≤ ((5 : Int32)).toNatClampNeg))
    obtain ⟨cl377, Ar377, q377, S377, M377, H377, U377⟩ := id V374
    obtain ⟨T377, h377, X377, e377, W377, st377⟩ := stB X374 hx hZ0 e374 Ar377 (j := (5 : Int32)) (inb_of S377 ⟨(by decide), (by decide)⟩) (g := (mkF m 117 #[iv 0, rv ta, iv 1, iv 6, rv r_358, rv ta, iv 7, iv 5, iv 32] [(.int 32), (.int 5), (.ref r_358)])) rfl rfl (hb hby d47_117)
    have V377 : Arv Z h377 r_358 kr_358 .byte (14 : Int32) [(.int 114), (.int 101), (.int 97), (.int 108), (.int 109), (.int 32), (.int 0), (.int 0), (.int 0), (.int 0), (.int 0), (.int 0), (.int 0), (.int 0)] (.int 0) := (Arv.set Ar377 q377 S377 M377 H377 U377 (fits_nar_byte _) W377 5 rfl (Nat.le_of_ble_eq_true rfl))
    have z377 : h374.size ≤ h377.size := Nat.le_of_eq W377.size.symm
    have KP377 : Keep h0 h377 ([] : List Addr) := KP374.wr W377 (Or.inr (by omega))
    have N377 := Fr.snoc X377 N374 (by omega)
    refine Go.on (w := T377.setTop (mkF m 49 #[iv 0, rv ta, iv 1, iv 6, rv r_358, rv ta, iv 7, iv 6, iv 32] [])) (fun t k => XS.ifYes X371.here hx rfl (pc0 := 65) (pc' := 109) rfl (hb hby d47_65) rfl ((if0 _ _).trans (flt (by decide : ¬ ((109 : Int32) < (0 : Int32)))).2.1) (by decide) (by decide) (XS.aload X371.here hx rfl (hb hby d47_109) rfl rfl (XS.iloadN X371.here hx rfl (hb hby d47_111) rfl (XS.iinc X371.here hx rfl (hb hby d47_112) rfl (l' := #[iv 0, rv ta, iv 1, iv 5, rv r_358, rv ta, iv 7, iv 4, iv 109]) rfl (XS.iload X371.here hx rfl (hb hby d47_115) rfl (st374 _ (XS.iinc X374.here hx rfl (hb hby d47_118) rfl (l' := #[iv 0, rv ta, iv 1, iv 5, rv r_358, rv ta, iv 7, iv 5, iv 109]) rfl (XS.goto X374.here hx rfl (pc0 := 121) (pc' := 49) rfl (hb hby d47_121) (by decide) (by decide) (XS.iload X374.here hx rfl (hb hby d47_49) rfl (XS.iload X374.here hx rfl (hb hby d47_51) rfl (XS.icmpNo X374.here hx rfl (hb hby d47_53) rfl (tlt (by decide : (5 : Int32) < (7 : Int32))).2.1 (XS.aload X374.here hx rfl (hb hby d47_56) rfl rfl (XS.iload X374.here hx rfl (hb hby d47_58) rfl (X374.baloadBytes hx (j := (5 : Int32)) (v := (.int 32)) (by rw [e374]; exact Ar376.1) (State.isArrayOf_alike hZ0.alike Ar376.2.1) Ar376.2.2 hin376 (H376.at hin376 rfl) (g := (mkF m 60 #[iv 0, rv ta, iv 1, iv 5, rv r_358, rv ta, iv 7, iv 5, iv 109] [(.int 5), (.ref ta)])) rfl rfl (hb hby d47_60) _ (XS.istore X374.here hx rfl (hb hby d47_61) rfl (l' := #[iv 0, rv ta, iv 1, iv 5, rv r_358, rv ta, iv 7, iv 5, iv 32]) rfl (XS.iload X374.here hx rfl (hb hby d47_63) rfl (XS.ifYes X374.here hx rfl (pc0 := 65) (pc' := 109) rfl (hb hby d47_65) rfl ((if0 _ _).trans (flt (by decide : ¬ ((32 : Int32) < (0 : Int32)))).2.1) (by decide) (by decide) (XS.aload X374.here hx rfl (hb hby d47_109) rfl rfl (XS.iloadN X374.here hx rfl (hb hby d47_111) rfl (XS.iinc X374.here hx rfl (hb hby d47_112) rfl (l' := #[iv 0, rv ta, iv 1, iv 6, rv r_358, rv ta, iv 7, iv 5, iv 32]) rfl (XS.iload X374.here hx rfl (hb hby d47_115) rfl (st377 _ (XS.iinc X377.here hx rfl (hb hby d47_118) rfl (l' := #[iv 0, rv ta, iv 1, iv 6, rv r_358, rv ta, iv 7, iv 6, iv 32]) rfl (XS.goto X377.here hx rfl (pc0 := 121) (pc' := 49) rfl (hb hby d47_121) (by decide) (by decide) k)))))))))))))))))))))))) ?_
    refine Go.on (w := T377.setTop (mkF m 51 #[iv 0, rv ta, iv 1, iv 6, rv r_358, rv ta, iv 7, iv 6, iv 32] [(.int 6)])) (fun t k => XS.iload X377.here hx rfl (hb hby d47_49) rfl k) ?_
    have F378 := (F375.other W377 (show @Ne Nat ta r_358 by omega))
    obtain ⟨cl379, Ar379, q379, S379, M379, H379, U379⟩ := id F378
    have hin379 := ((inb_of S379 ⟨(by decide), (by decide)⟩) : ¬ ((6 : Int32) < 0 ∨ cl379.slots.size ≤ ((6 : Int32)).toNatClampNeg))
    obtain ⟨cl380, Ar380, q380, S380, M380, H380, U380⟩ := id V377
    obtain ⟨T380, h380, X380, e380, W380, st380⟩ := stB X377 hx hZ0 e377 Ar380 (j := (6 : Int32)) (inb_of S380 ⟨(by decide), (by decide)⟩) (g := (mkF m 88 #[iv 0, rv ta, iv 1, iv 7, rv r_358, rv ta, iv 7, iv 6, iv v0] [(.int (((192 : Int32) ||| ((v0 &&& (255 : Int32)) >>> ((6 : Int32) &&& 31))).toInt8.toInt32)), (.int 6), (.ref r_358)])) rfl rfl (hb hby d47_88)
    have V380 : Arv Z h380 r_358 kr_358 .byte (14 : Int32) [(.int 114), (.int 101), (.int 97), (.int 108), (.int 109), (.int 32), (.int (nar .byte (((192 : Int32) ||| ((v0 &&& (255 : Int32)) >>> ((6 : Int32) &&& 31))).toInt8.toInt32))), (.int 0), (.int 0), (.int 0), (.int 0), (.int 0), (.int 0), (.int 0)] (.int 0) := (Arv.set Ar380 q380 S380 M380 H380 U380 (fits_nar_byte _) W380 6 rfl (Nat.le_of_ble_eq_true rfl))
    have z380 : h377.size ≤ h380.size := Nat.le_of_eq W380.size.symm
    have KP380 : Keep h0 h380 ([] : List Addr) := KP377.wr W380 (Or.inr (by omega))
    have N380 := Fr.snoc X380 N377 (by omega)
    refine Go.on (w := T380.setTop (mkF m 98 #[iv 0, rv ta, iv 1, iv 8, rv r_358, rv ta, iv 7, iv 6, iv v0] [(.int 128), (.int 7), (.ref r_358)])) (fun t k => XS.iload X377.here hx rfl (hb hby d47_51) rfl (XS.icmpNo X377.here hx rfl (hb hby d47_53) rfl (tlt (by decide : (6 : Int32) < (7 : Int32))).2.1 (XS.aload X377.here hx rfl (hb hby d47_56) rfl rfl (XS.iload X377.here hx rfl (hb hby d47_58) rfl (X377.baloadBytes hx (j := (6 : Int32)) (v := (.int v0)) (by rw [e377]; exact Ar379.1) (State.isArrayOf_alike hZ0.alike Ar379.2.1) Ar379.2.2 hin379 (H379.at hin379 rfl) (g := (mkF m 60 #[iv 0, rv ta, iv 1, iv 6, rv r_358, rv ta, iv 7, iv 6, iv 32] [(.int 6), (.ref ta)])) rfl rfl (hb hby d47_60) _ (XS.istore X377.here hx rfl (hb hby d47_61) rfl (l' := #[iv 0, rv ta, iv 1, iv 6, rv r_358, rv ta, iv 7, iv 6, iv v0]) rfl (XS.iload X377.here hx rfl (hb hby d47_63) rfl (XS.ifNo X377.here hx rfl (hb hby d47_65) rfl ((if0 _ _).trans (tlt hv).2.1) (XS.aload X377.here hx rfl (hb hby d47_68) rfl rfl (XS.iloadN X377.here hx rfl (hb hby d47_70) rfl (XS.iinc X377.here hx rfl (hb hby d47_71) rfl (l' := #[iv 0, rv ta, iv 1, iv 7, rv r_358, rv ta, iv 7, iv 6, iv v0]) rfl (XS.sipush X377.here hx rfl (hb hby d47_74) (XS.iload X377.here hx rfl (hb hby d47_77) rfl (XS.sipush X377.here hx rfl (hb hby d47_79) (XS.iand X377.here hx rfl (hb hby d47_82) rfl (XS.bipush X377.here hx rfl (hb hby d47_83) (XS.ishr X377.here hx rfl (hb hby d47_85) rfl (XS.ior X377.here hx rfl (hb hby d47_86) rfl (XS.i2b X377.here hx rfl (hb hby d47_87) rfl (st380 _ (XS.aload X380.here hx rfl (hb hby d47_89) rfl rfl (XS.iloadN X380.here hx rfl (hb hby d47_91) rfl (XS.iinc X380.here hx rfl (hb hby d47_92) rfl (l' := #[iv 0, rv ta, iv 1, iv 8, rv r_358, rv ta, iv 7, iv 6, iv v0]) rfl (XS.sipush X380.here hx rfl (hb hby d47_95) k)))))))))))))))))))))))) ?_
    refine Go.on (w := T380.setTop (mkF m 100 #[iv 0, rv ta, iv 1, iv 8, rv r_358, rv ta, iv 7, iv 6, iv v0] [(.int v0), (.int 128), (.int 7), (.ref r_358)])) (fun t k => XS.iload X380.here hx rfl (hb hby d47_98) rfl k) ?_
    obtain ⟨cl381, Ar381, q381, S381, M381, H381, U381⟩ := id V380
    obtain ⟨T381, h381, X381, e381, W381, st381⟩ := stB X380 hx hZ0 e380 Ar381 (j := (7 : Int32)) (inb_of S381 ⟨(by decide), (by decide)⟩) (g := (mkF m 105 #[iv 0, rv ta, iv 1, iv 8, rv r_358, rv ta, iv 7, iv 6, iv v0] [(.int (((128 : Int32) ||| (v0 &&& (63 : Int32))).toInt8.toInt32)), (.int 7), (.ref r_358)])) rfl rfl (hb hby d47_105)
    have V381 : Arv Z h381 r_358 kr_358 .byte (14 : Int32) [(.int 114), (.int 101), (.int 97), (.int 108), (.int 109), (.int 32), (.int (nar .byte (((192 : Int32) ||| ((v0 &&& (255 : Int32)) >>> ((6 : Int32) &&& 31))).toInt8.toInt32))), (.int (nar .byte (((128 : Int32) ||| (v0 &&& (63 : Int32))).toInt8.toInt32))), (.int 0), (.int 0), (.int 0), (.int 0), (.int 0), (.int 0)] (.int 0) := (Arv.set Ar381 q381 S381 M381 H381 U381 (fits_nar_byte _) W381 7 rfl (Nat.le_of_ble_eq_true rfl))
    have z381 : h380.size ≤ h381.size := Nat.le_of_eq W381.size.symm
    have KP381 : Keep h0 h381 ([] : List Addr) := KP380.wr W381 (Or.inr (by omega))
    have N381 := Fr.snoc X381 N380 (by omega)
    obtain ⟨cl382, Ar382, q382, S382, M382, H382, U382⟩ := id V381
    refine Go.on (w := T381.setTop (mkF m 127 #[iv 0, rv ta, iv 1, iv 8, rv r_358, rv ta, iv 7, iv 7, iv v0] [(.ref r_358), (.int 8)])) (fun t k => XS.bipush X380.here hx rfl (hb hby d47_100) (XS.iand X380.here hx rfl (hb hby d47_102) rfl (XS.ior X380.here hx rfl (hb hby d47_103) rfl (XS.i2b X380.here hx rfl (hb hby d47_104) rfl (st381 _ (XS.goto X381.here hx rfl (pc0 := 106) (pc' := 118) rfl (hb hby d47_106) (by decide) (by decide) (XS.iinc X381.here hx rfl (hb hby d47_118) rfl (l' := #[iv 0, rv ta, iv 1, iv 8, rv r_358, rv ta, iv 7, iv 7, iv v0]) rfl (XS.goto X381.here hx rfl (pc0 := 121) (pc' := 49) rfl (hb hby d47_121) (by decide) (by decide) (XS.iload X381.here hx rfl (hb hby d47_49) rfl (XS.iload X381.here hx rfl (hb hby d47_51) rfl (XS.icmpYes X381.here hx rfl (pc0 := 53) (pc' := 124) rfl (hb hby d47_53) rfl (flt (by decide : ¬ ((7 : Int32) < (7 : Int32)))).2.1 (by decide) (by decide) (XS.iloadN X381.here hx rfl (hb hby d47_124) rfl (XS.aload X381.here hx rfl (hb hby d47_125) rfl rfl k))))))))))))) ?_
    refine Go.on (w := T381.setTop (mkF m 128 #[iv 0, rv ta, iv 1, iv 8, rv r_358, rv ta, iv 7, iv 7, iv v0] [(.int 14), (.int 8)])) (fun t k => X381.arraylength hx (by rw [e381]; exact Ar382.1) (State.isArrayOf_alike hZ0.alike Ar382.2.1) (g := (mkF m 127 #[iv 0, rv ta, iv 1, iv 8, rv r_358, rv ta, iv 7, iv 7, iv v0] [(.ref r_358), (.int 8)])) rfl rfl (hb hby d47_127) _ (by rw [len_of S382 M382]; exact k)) ?_
    obtain ⟨v383, _, ⟨T383, L383, k383, n383⟩, -, X383, ⟨Lc383, hQ383, l383, y383, z383⟩, st383⟩ := Jvm.LawKit.callS X381 hx (y := yM61) hown0 (mvT hZ0 (w_341 hw)) (mvT hZ0 (w_342 hw)) (mvT hZ0 (w_279 hw)) (mvT hZ0 (w_343 hw)) (by decide) (backOf (W := 0) (rmCo l Z a0 hw [] r_358 kr_358 (114 : Int32) (101 : Int32) (97 : Int32) (108 : Int32) (109 : Int32) (32 : Int32) (nar .byte (((192 : Int32) ||| ((v0 &&& (255 : Int32)) >>> ((6 : Int32) &&& 31))).toInt8.toInt32)) (nar .byte (((128 : Int32) ||| (v0 &&& (63 : Int32))).toInt8.toInt32)) h381 (by omega) V381) hZ0 (w_343 hw) (w_279 hw) (by decide) (by decide)) (g := (mkF m 137 #[iv 0, rv ta, iv 1, iv 8, rv r_358, rv ta, iv 7, iv 7, iv v0] [(.int 8), (.ref r_358)])) rfl (by rw [hml]; rfl) (argsL := [(.ref r_358), (.int 8)]) (rest := []) (lenOf pd_27 rfl) rfl (by show 2 * 0 + _ ≤ _; exact Nat.le_of_eq rfl) (hb hby d47_137) (fun _ _ => ⟨rfl, e381, (by decide : 1 + 1 ≤ _), (by decide : 14 + 8 ≤ _)⟩)
    dsimp only [Pt.U, Pt.locs, Pt.cells, Pt.slots] at X383 l383 y383 z383 st383 hQ383
    subst l383 y383 z383
    obtain ⟨r_383, kr_383, rfl, Nq383, K383, f383_0, f383_1⟩ := hQ383
    have N383 := Fr.app N381 Nq383
    have eK383 : T383.heap = T383.heap := rfl
    have z383 : h381.size ≤ T383.heap.size := K383.1
    have KP383 : Keep h0 T383.heap ([] : List Addr) := KP381.trans K383 all0
    have u383_1 : T383.heap.size > r_383 := f383_1.lt
    refine Go.on (w := T383.setTop (mkF m 140 #[iv 0, rv ta, iv 1, iv 8, rv r_358, rv ta, iv 7, iv 7, iv v0] [(.ref r_383)])) (fun t k => XS.icmpYes X381.here hx rfl (pc0 := 128) (pc' := 134) rfl (hb hby d47_128) rfl (feq (by decide : ¬ ((8 : Int32) = (14 : Int32)))).2 (by decide) (by decide) (XS.aload X381.here hx rfl (hb hby d47_134) rfl rfl (XS.iloadN X381.here hx rfl (hb hby d47_136) rfl (st383 _ k)))) ?_
    refine Go.finH X383 hlk (v := some (.ref r_383)) (fun h => by rw [Bd.returns] at h; cases h) (fun fs hr => ?_) (endH (Q := Q_rmE8 Z ta q v0 h0) (by rw [eK383]; exact ⟨r_383, kr_383, (8 : Int32), [(.int 114), (.int 101), (.int 97), (.int 108), (.int 109), (.int 32), (.int (nar .byte (((192 : Int32) ||| ((v0 &&& (255 : Int32)) >>> ((6 : Int32) &&& 31))).toInt8.toInt32))), (.int (nar .byte (((128 : Int32) ||| (v0 &&& (63 : Int32))).toInt8.toInt32)))], rfl, N383, KP383, (by omega), (Or.inr rfl), f383_1⟩) (by decide) (by decide))
    exact retOut X383 hx Bd.returns rfl (Or.inr (Or.inr (Or.inr (Or.inr ⟨rfl, rfl, rfl⟩)))) (hb hby d47_140) hr
  ·
    obtain ⟨cl384, Ar384, q384, S384, M384, H384, U384⟩ := id Vt
    refine Go.on (w := s₁.setTop (mkF m 14 #[iv 0, rv ta, iv 1, .unset, .unset, .unset, .unset, .unset, .unset] [(.ref ta), (.int 0), (.ref ta)])) (fun t k => XS.iloadN X0.here hx rfl (hb hby d47_0) rfl (XS.iconst X0.here hx rfl (hb hby d47_1) (XS.icmpYes X0.here hx rfl (pc0 := 2) (pc' := 11) rfl (hb hby d47_2) rfl (feq (by decide : ¬ ((0 : Int32) = (1 : Int32)))).2 (by decide) (by decide) (XS.aloadN X0.here hx rfl (hb hby d47_11) rfl rfl (XS.iconst X0.here hx rfl (hb hby d47_12) (XS.aloadN X0.here hx rfl (hb hby d47_13) rfl rfl k)))))) ?_
    refine Go.on (w := s₁.setTop (mkF m 15 #[iv 0, rv ta, iv 1, .unset, .unset, .unset, .unset, .unset, .unset] [(.int 7), (.int 0), (.ref ta)])) (fun t k => X0.arraylength hx (by rw [e0]; exact Ar384.1) (State.isArrayOf_alike hZ0.alike Ar384.2.1) (g := (mkF m 14 #[iv 0, rv ta, iv 1, .unset, .unset, .unset, .unset, .unset, .unset] [(.ref ta), (.int 0), (.ref ta)])) rfl rfl (hb hby d47_14) _ (by rw [len_of S384 M384]; exact k)) ?_
    obtain ⟨v385, _, ⟨T385, L385, k385, n385⟩, -, X385, ⟨Lc385, hQ385, l385, y385, z385⟩, st385⟩ := Jvm.LawKit.callS X0 hx (y := yM54) hown0 (mvT hZ0 (w_311 hw)) (mvT hZ0 (w_312 hw)) (mvT hZ0 (w_313 hw)) (mvT hZ0 (w_314 hw)) (by decide) (backOf (W := 0) (rmHn0 l Z a0 hw [] ta q v0 h0 Vt hv) hZ0 (w_314 hw) (w_313 hw) (by decide) (by decide)) (g := (mkF m 15 #[iv 0, rv ta, iv 1, .unset, .unset, .unset, .unset, .unset, .unset] [(.int 7), (.int 0), (.ref ta)])) rfl (by rw [hml]; rfl) (argsL := [(.ref ta), (.int 0), (.int 7)]) (rest := []) (lenOf pd_25 rfl) rfl (by show 2 * 0 + _ ≤ _; exact Nat.le_of_eq rfl) (hb hby d47_15) (fun _ _ => ⟨rfl, e0, (by decide : 0 + 0 ≤ _), (by decide : 0 + 0 ≤ _)⟩)
    dsimp only [Pt.U, Pt.locs, Pt.cells, Pt.slots] at X385 l385 y385 z385 st385 hQ385
    subst l385 y385 z385
    obtain ⟨rfl, Nq385, eh385⟩ := hQ385
    have N385 := Fr.app N0 Nq385
    obtain ⟨T386, h386, X386, e386, E386, A386, Ex386, st386⟩ := cloneH X385 hx hZ0 hown0 (w_318 hw) (w_319 hw) (w_323 hw) (w_321 hw) (w_322 hw) (w_324 hw) eh385 (Arv.arh Vt) Et (g := (mkF m 22 #[iv 0, rv ta, iv 1, .unset, .unset, .unset, .unset, .unset, .unset] [(.ref ta)])) rfl (by rw [hml]; rfl) rfl (hb hby d47_22) (by decide) (W := 0) (cap := 7) (by show 2 * 0 + _ ≤ _; exact Nat.le_of_eq rfl) (by decide) (by decide) (by decide) (by decide)
    obtain ⟨b386, g386⟩ : ∃ z, z = h0.size := ⟨_, rfl⟩
    rw [← g386] at A386 Ex386 st386
    have V386 : Arv Z h386 b386 q .byte (7 : Int32) [(.int 114), (.int 101), (.int 97), (.int 108), (.int 109), (.int 32), (.int v0)] (.int 0) := A386
    have u386 : h386.size > b386 := V386.lt
    have z386 : h0.size ≤ h386.size := E386.1
    have KP386 : Keep h0 h386 ([] : List Addr) := KP0.ext E386
    obtain ⟨T387, X387, e387, st387⟩ := castY X386 hx hZ0 hown0 (w_325 hw) e386 (Ins.self Ex386) (g := (mkF m 25 #[iv 0, rv ta, iv 1, .unset, .unset, .unset, .unset, .unset, .unset] [(.ref b386)])) rfl rfl (hb hby d47_25)
    refine Go.on (w := T387.setTop (mkF m 28 #[iv 0, rv ta, iv 1, .unset, .unset, .unset, .unset, .unset, .unset] [(.ref b386)])) (fun t k => st385 _ (XS.ifNo X385.here hx rfl (hb hby d47_18) rfl ((if0 _ _).trans (teq (by decide : (0 : Int32) = (0 : Int32))).2) (XS.aloadN X385.here hx rfl (hb hby d47_21) rfl rfl (st386 _ (st387 _ k))))) ?_
    refine Go.finH X387 hlk (v := some (.ref b386)) (fun h => by rw [Bd.returns] at h; cases h) (fun fs hr => ?_) (endH (Q := Q_rmE8 Z ta q v0 h0) (by rw [e387]; exact ⟨b386, q, (7 : Int32), [(.int 114), (.int 101), (.int 97), (.int 108), (.int 109), (.int 32), (.int v0)], rfl, N385, KP386, (by omega), (Or.inl rfl), V386⟩) (by decide) (by decide))
    exact retOut X387 hx Bd.returns rfl (Or.inr (Or.inr (Or.inr (Or.inr ⟨rfl, rfl, rfl⟩)))) (hb hby d47_28) hr
def Q_rmEnc (Z : State) (ta : Addr) (q : ClassId) (v0 : Int32) (cu : Addr) (h0 : Heap) (vv : Option Value) (h : Heap) (L : List Loc) : Prop := ∃ (r : Addr) (kr : ClassId) (zr : Int32) (vr : List Value), vv = some (.ref r) ∧ Fr Z.heap.size L ∧ Keep h0 h [] ∧ (h0.size ≤ r) ∧ (zr = 7 ∨ zr = 8) ∧ Arv Z h r kr .byte zr vr (.int 0)
theorem ef_rmEnc (m : MethodId) (x0 : Addr) (x1 : Int32) (x2 : Addr)   : entryFrame m #[(.ref x0), (.int x1), (.ref x2)] 3 = mkF m 0 #[.val (.ref x0), .val (.int x1), .val (.ref x2)] [] := rfl
theorem rmEnc (l : Launch) (Z : State) (a0 : Array Value) (hw : HW a0 Z) (ws : List Cond) (ta : Addr) (q : ClassId) (v0 : Int32) (cu : Addr) (h0 : Heap) (Z0 : Z.heap.size ≤ h0.size) (OL : Old Z Z.heap.size h0) (OI : Sta Z Z.heap "sun/nio/cs/UTF_8" "INSTANCE" "Lsun/nio/cs/UTF_8;" (.ref cu)) (Et : Exa Z h0 ta "[B") (Vt : Arv Z h0 ta q .byte (7 : Int32) [(.int 114), (.int 101), (.int 97), (.int 108), (.int 109), (.int 32), (.int v0)] (.int 0)) :
    MetFree l yM52 (head1 (Cond.code yM52 jdk_42_method_18_code 3 (some (.array .byte)) :: ws) (⟨3, 2, 22, 74⟩ : Room)) (fun a U => a = #[(.ref cu), (.int 0), (.ref ta)] ∧ Z.Warmed39 U.vm ∧ U.heap = h0) (fun _ _ _ _ _ => True) (fun _ U o U' => ∃ v L, o = .returned v ∧ Q_rmEnc Z ta q v0 cu h0 v U'.heap L ∧ FrameEnd U o U' L (⟨3, 2, 22, 74⟩ : Room).cells (⟨3, 2, 22, 74⟩ : Room).slots) := by
  refine MetFree.of_bodySF (plainFor_of_name (by first | (simp [plainName, overriddenIn]; done) | decide +kernel)) hisR ?_
  intro p e s m args below meth c s₁ Bd hml0 hP hK
  obtain ⟨rfl, hZ0', hh⟩ := hP
  have hx := Bd.exec
  have hby := Bd.bytes
  have hml : c.maxLocals = 3 := hml0
  have hZ0 : Z.Warmed39 s.vm := hZ0'
  have hown0 : s.vm.findClass "java/lang/String" = some m.cls := findClass_of_methodNamed Bd.named
  have hnm := (name_of_methodNamed Bd.named Bd.method).1
  have hlk : meth.locks = false := Bd.notSynchronized
  have X0 : Stand p l e (⟨3, 2, 22, 74⟩ : Room) s m #[(.ref cu), (.int 0), (.ref ta)] below meth c s₁ [] 0 0 := Stand.of_body Bd
  have e0 : s₁.heap = h0 := by rw [← hh, Bd.state]; rfl
  have N0 := Fr.nil Z.heap.size
  have KP0 : Keep h0 h0 ([] : List Addr) := Keep.refl _ _
  show Go p e below (fun t o => ∃ v L, o = .returned v ∧ Q_rmEnc Z ta q v0 cu h0 v t.heap L ∧ FrameEnd s o t L (⟨3, 2, 22, 74⟩ : Room).cells (⟨3, 2, 22, 74⟩ : Room).slots) (s₁.setTop (entryFrame m #[(.ref cu), (.int 0), (.ref ta)] 3))
  refine Go.on (w := s₁.setTop (mkF m 0 #[rv cu, iv 0, rv ta] [])) (fun t k => castTop (ef_rmEnc m cu (0 : Int32) ta) k) ?_
  have u_t : h0.size > ta := Vt.lt
  obtain ⟨T388, X388, e388, st388⟩ := getS2 X0 hx hZ0 hown0 (host := "") (Or.inl (w_306 hw)) Via.refl e0 (OI.ext OL.2) (g := (mkF m 1 #[rv cu, iv 0, rv ta] [(.ref cu)])) rfl (hb hby d48_1)
  obtain ⟨v389, _, ⟨T389, L389, k389, n389⟩, -, X389, ⟨Lc389, hQ389, l389, y389, z389⟩, st389⟩ := Jvm.LawKit.callS X388 hx (y := yM53) hown0 (mvT hZ0 (w_308 hw)) (mvT hZ0 (w_309 hw)) (mvT hZ0 (w_3 hw)) (mvT hZ0 (w_310 hw)) (by decide) (backOf (W := 0) (rmE8 l Z a0 hw [] ta q v0 h0 (by omega) Et Vt) hZ0 (w_310 hw) (w_3 hw) (by decide) (by decide)) (g := (mkF m 10 #[rv cu, iv 0, rv ta] [(.int 1), (.ref ta), (.int 0)])) rfl (by rw [hml]; rfl) (argsL := [(.int 0), (.ref ta), (.int 1)]) (rest := []) (lenOf pd_28 rfl) rfl (by show 2 * 0 + _ ≤ _; exact Nat.le_of_eq rfl) (hb hby d48_10) (fun _ _ => ⟨rfl, e388, (by decide : 0 + 2 ≤ _), (by decide : 0 + 22 ≤ _)⟩)
  dsimp only [Pt.U, Pt.locs, Pt.cells, Pt.slots] at X389 l389 y389 z389 st389 hQ389
  subst l389 y389 z389
  obtain ⟨r_389, kr_389, zr_389, vr_389, rfl, Nq389, K389, f389_0, f389_1, f389_2⟩ := hQ389
  have N389 := Fr.app N0 Nq389
  have eK389 : T389.heap = T389.heap := rfl
  have z389 : h0.size ≤ T389.heap.size := K389.1
  have KP389 : Keep h0 T389.heap ([] : List Addr) := KP0.trans K389 all0
  have u389_2 : T389.heap.size > r_389 := f389_2.lt
  refine Go.on (w := T389.setTop (mkF m 13 #[rv cu, iv 0, rv ta] [(.ref r_389)])) (fun t k => XS.aloadN X0.here hx rfl (hb hby d48_0) rfl rfl (st388 _ (Jvm.RoadKit.acmp (g := (mkF m 4 #[rv cu, iv 0, rv ta] [(.ref cu), (.ref cu)])) X388 hx rfl rfl rfl (pc0 := 4) (pc' := 7) (same := true) rfl (hb hby d48_4) rfl (decide_eq_true rfl) (by decide) (by decide) (XS.iloadN X388.here hx rfl (hb hby d48_7) rfl (XS.aloadN X388.here hx rfl (hb hby d48_8) rfl rfl (XS.iconst X388.here hx rfl (hb hby d48_9) (st389 _ k))))))) ?_
  refine Go.finH X389 hlk (v := some (.ref r_389)) (fun h => by rw [Bd.returns] at h; cases h) (fun fs hr => ?_) (endH (Q := Q_rmEnc Z ta q v0 cu h0) (by rw [eK389]; exact ⟨r_389, kr_389, zr_389, vr_389, rfl, N389, KP389, (by omega), f389_1, f389_2⟩) (by decide) (by decide))
  exact retOut X389 hx Bd.returns rfl (Or.inr (Or.inr (Or.inr (Or.inr ⟨rfl, rfl, rfl⟩)))) (hb hby d48_13) hr
def Q_rmGbc (Z : State) (sa : Addr) (ta : Addr) (q : ClassId) (G1 : Int32) (v0 : Int32) (cu : Addr) (h0 : Heap) (vv : Option Value) (h : Heap) (L : List Loc) : Prop := ∃ (r : Addr) (kr : ClassId) (zr : Int32) (vr : List Value), vv = some (.ref r) ∧ Fr Z.heap.size L ∧ Keep h0 h [] ∧ (h0.size ≤ r) ∧ (zr = 7 ∨ zr = 8) ∧ Arv Z h r kr .byte zr vr (.int 0)
theorem ef_rmGbc (m : MethodId) (x0 : Addr) (x1 : Addr)   : entryFrame m #[(.ref x0), (.ref x1)] 2 = mkF m 0 #[.val (.ref x0), .val (.ref x1)] [] := rfl
theorem rmGbc (l : Launch) (Z : State) (a0 : Array Value) (hw : HW a0 Z) (ws : List Cond) (sa : Addr) (ta : Addr) (q : ClassId) (G1 : Int32) (v0 : Int32) (cu : Addr) (h0 : Heap) (Z0 : Z.heap.size ≤ h0.size) (OL : Old Z Z.heap.size h0) (O2 : Sta Z Z.heap "java/lang/String" "COMPACT_STRINGS" "Z" (.int G1)) (P5 : ¬ (G1 = (0 : Int32))) (OI : Sta Z Z.heap "sun/nio/cs/UTF_8" "INSTANCE" "Lsun/nio/cs/UTF_8;" (.ref cu)) (S0 : Exa Z h0 sa "java/lang/String") (S1 : Fld Z h0 sa "java/lang/String" "coder" "B" (.int 0)) (S2 : Fld Z h0 sa "java/lang/String" "value" "[B" (.ref ta)) (S3 : Exa Z h0 ta "[B") (S4 : Arv Z h0 ta q .byte (7 : Int32) [(.int 114), (.int 101), (.int 97), (.int 108), (.int 109), (.int 32), (.int v0)] (.int 0)) :
    MetFree l yM51 (head1 (Cond.code yM51 jdk_42_method_64_code 2 (some (.array .byte)) :: ws) (⟨4, 2, 22, 88⟩ : Room)) (fun a U => a = #[(.ref sa), (.ref cu)] ∧ Z.Warmed39 U.vm ∧ U.heap = h0) (fun _ _ _ _ _ => True) (fun _ U o U' => ∃ v L, o = .returned v ∧ Q_rmGbc Z sa ta q G1 v0 cu h0 v U'.heap L ∧ FrameEnd U o U' L (⟨4, 2, 22, 88⟩ : Room).cells (⟨4, 2, 22, 88⟩ : Room).slots) := by
  refine MetFree.of_bodySF (plainFor_of_name (by first | (simp [plainName, overriddenIn]; done) | decide +kernel)) hisR ?_
  intro p e s m args below meth c s₁ Bd hml0 hP hK
  obtain ⟨rfl, hZ0', hh⟩ := hP
  have hx := Bd.exec
  have hby := Bd.bytes
  have hml : c.maxLocals = 2 := hml0
  have hZ0 : Z.Warmed39 s.vm := hZ0'
  have hown0 : s.vm.findClass "java/lang/String" = some m.cls := findClass_of_methodNamed Bd.named
  have hnm := (name_of_methodNamed Bd.named Bd.method).1
  have hlk : meth.locks = false := Bd.notSynchronized
  have X0 : Stand p l e (⟨4, 2, 22, 88⟩ : Room) s m #[(.ref sa), (.ref cu)] below meth c s₁ [] 0 0 := Stand.of_body Bd
  have e0 : s₁.heap = h0 := by rw [← hh, Bd.state]; rfl
  have N0 := Fr.nil Z.heap.size
  have KP0 : Keep h0 h0 ([] : List Addr) := Keep.refl _ _
  show Go p e below (fun t o => ∃ v L, o = .returned v ∧ Q_rmGbc Z sa ta q G1 v0 cu h0 v t.heap L ∧ FrameEnd s o t L (⟨4, 2, 22, 88⟩ : Room).cells (⟨4, 2, 22, 88⟩ : Room).slots) (s₁.setTop (entryFrame m #[(.ref sa), (.ref cu)] 2))
  refine Go.on (w := s₁.setTop (mkF m 0 #[rv sa, rv cu] [])) (fun t k => castTop (ef_rmGbc m sa cu) k) ?_
  have u_s : h0.size > sa := S0.lt
  have u_t : h0.size > ta := S4.lt
  obtain ⟨cq390, kq390, q390a, q390b, q390c⟩ := isOf hZ0 e0 S0
  obtain ⟨v390, _, ⟨T390, L390, k390, n390⟩, -, X390, ⟨Lc390, hQ390, l390, y390, z390⟩, st390⟩ := X0.virtualBack hx (y := yM33) (z := yM33) hown0 (mvT hZ0 (w_215 hw)) (mvT hZ0 (w_216 hw)) (notFace_of_selects (args := #[]) (mvT hZ0 (w_218 hw))) (mvT hZ0 (w_218 hw)) (mvT hZ0 (w_217 hw)) (by decide) (backOf (W := 1) (rmCod l Z a0 hw [] sa G1 h0 OL O2 P5 S1) hZ0 (w_219 hw) (w_3 hw) (by decide) (by decide)) q390a q390c (g := (mkF m 14 #[rv sa, rv cu] [(.ref sa), (.ref cu)])) rfl (by rw [hml]; rfl) (Steps.refl _) (argsL := []) (rest := [(.ref cu)]) (lenOf pd_12 rfl) rfl (by show 2 * 0 + _ ≤ _; exact Nat.le_of_eq rfl) (hb hby d49_14) (fun _ _ => ⟨rfl, e0, (by decide : 0 + 0 ≤ _), (by decide : 0 + 0 ≤ _)⟩)
  dsimp only [Pt.U, Pt.locs, Pt.cells, Pt.slots] at X390 l390 y390 z390 st390 hQ390
  subst l390 y390 z390
  obtain ⟨rfl, Nq390, eh390⟩ := hQ390
  have N390 := Fr.app N0 Nq390
  obtain ⟨T391, X391, e391, st391⟩ := getF X390 hx hZ0 hown0 (host := "") (Or.inl (w_28 hw)) Via.refl eh390 S2 (g := (mkF m 18 #[rv sa, rv cu] [(.ref sa), (.int 0), (.ref cu)])) rfl rfl (hb hby d49_18)
  obtain ⟨v392, _, ⟨T392, L392, k392, n392⟩, -, X392, ⟨Lc392, hQ392, l392, y392, z392⟩, st392⟩ := Jvm.LawKit.callS X391 hx (y := yM52) hown0 (mvT hZ0 (w_303 hw)) (mvT hZ0 (w_304 hw)) (mvT hZ0 (w_3 hw)) (mvT hZ0 (w_305 hw)) (by decide) (backOf (W := 0) (rmEnc l Z a0 hw [] ta q v0 cu h0 (by omega) OL OI S3 S4) hZ0 (w_305 hw) (w_3 hw) (by decide) (by decide)) (g := (mkF m 21 #[rv sa, rv cu] [(.ref ta), (.int 0), (.ref cu)])) rfl (by rw [hml]; rfl) (argsL := [(.ref cu), (.int 0), (.ref ta)]) (rest := []) (lenOf pd_29 rfl) rfl (by show 2 * 0 + _ ≤ _; exact Nat.le_of_eq rfl) (hb hby d49_21) (fun _ _ => ⟨rfl, e391, (by decide : 0 + 2 ≤ _), (by decide : 0 + 22 ≤ _)⟩)
  dsimp only [Pt.U, Pt.locs, Pt.cells, Pt.slots] at X392 l392 y392 z392 st392 hQ392
  subst l392 y392 z392
  obtain ⟨r_392, kr_392, zr_392, vr_392, rfl, Nq392, K392, f392_0, f392_1, f392_2⟩ := hQ392
  have N392 := Fr.app N390 Nq392
  have eK392 : T392.heap = T392.heap := rfl
  have z392 : h0.size ≤ T392.heap.size := K392.1
  have KP392 : Keep h0 T392.heap ([] : List Addr) := KP0.trans K392 all0
  have u392_2 : T392.heap.size > r_392 := f392_2.lt
  refine Go.on (w := T392.setTop (mkF m 24 #[rv sa, rv cu] [(.ref r_392)])) (fun t k => XS.aloadN X0.here hx rfl (hb hby d49_0) rfl rfl (XS.ifnonnullYes X0.here hx rfl (pc0 := 1) (pc' := 12) rfl (hb hby d49_1) rfl (by decide) (by decide) (XS.aloadN X0.here hx rfl (hb hby d49_12) rfl rfl (XS.aloadN X0.here hx rfl (hb hby d49_13) rfl rfl (st390.trans (XS.aloadN X390.here hx rfl (hb hby d49_17) rfl rfl (st391 _ (st392 _ k)))))))) ?_
  refine Go.finH X392 hlk (v := some (.ref r_392)) (fun h => by rw [Bd.returns] at h; cases h) (fun fs hr => ?_) (endH (Q := Q_rmGbc Z sa ta q G1 v0 cu h0) (by rw [eK392]; exact ⟨r_392, kr_392, zr_392, vr_392, rfl, N392, KP392, (by omega), f392_1, f392_2⟩) (by decide) (by decide))
  exact retOut X392 hx Bd.returns rfl (Or.inr (Or.inr (Or.inr (Or.inr ⟨rfl, rfl, rfl⟩)))) (hb hby d49_24) hr
def Q_rmWs0 (Z : State) (a1 : Addr) (u : Int32) (al : Addr) (md : Int32) (ee : Addr) (ke : ClassId) (x : Addr) (kb : ClassId) (h0 : Heap) (vv : Option Value) (h : Heap) (L : List Loc) : Prop := vv = none ∧ Fr Z.heap.size L ∧ Keep h0 h [a1, x] ∧ Exa Z h a1 "com/example/realmwright/realmwright/ByteLog" ∧ Fld Z h a1 "com/example/realmwright/realmwright/ByteLog" "blocks" "Ljava/util/List;" (.ref al) ∧ Fld Z h a1 "com/example/realmwright/realmwright/ByteLog" "used" "I" (.int (u + (1 : Int32))) ∧ Exa Z h al "java/util/ArrayList" ∧ Fld Z h al "java/util/AbstractList" "modCount" "I" (.int md) ∧ Fld Z h al "java/util/ArrayList" "elementData" "[Ljava/lang/Object;" (.ref ee) ∧ Fld Z h al "java/util/ArrayList" "size" "I" (.int 1) ∧ Arv Z h ee ke (.object "java/lang/Object") (10 : Int32) [(.ref x), .null, .null, .null, .null, .null, .null, .null, .null, .null] .null ∧ own_blk Z h x kb ∧ Exa Z h x "[B"
theorem ef_rmWs0 (m : MethodId) (x0 : Addr)   : entryFrame m #[(.ref x0), .null] 6 = mkF m 0 #[.val (.ref x0), .val .null, .unset, .unset, .unset, .unset] [] := rfl
theorem rmWs0 (l : Launch) (Z : State) (a0 : Array Value) (hw : HW a0 Z) (ws : List Cond) (a1 : Addr) (u : Int32) (al : Addr) (md : Int32) (ee : Addr) (ke : ClassId) (x : Addr) (kb : ClassId) (h0 : Heap) (Z0 : Z.heap.size ≤ h0.size) (lo_a1 : Z.heap.size ≤ a1) (lo_x : Z.heap.size ≤ x) (ne_al_a1 : al ≠ a1) (ne_ee_a1 : ee ≠ a1) (ne_al_x : al ≠ x) (ne_ee_x : ee ≠ x) (ne_a1_x : a1 ≠ x) (L0 : Exa Z h0 a1 "com/example/realmwright/realmwright/ByteLog") (L1 : Fld Z h0 a1 "com/example/realmwright/realmwright/ByteLog" "blocks" "Ljava/util/List;" (.ref al)) (L2 : Fld Z h0 a1 "com/example/realmwright/realmwright/ByteLog" "used" "I" (.int u)) (L3 : Exa Z h0 al "java/util/ArrayList") (L4 : Fld Z h0 al "java/util/AbstractList" "modCount" "I" (.int md)) (L5 : Fld Z h0 al "java/util/ArrayList" "elementData" "[Ljava/lang/Object;" (.ref ee)) (L6 : Fld Z h0 al "java/util/ArrayList" "size" "I" (.int 1)) (L7 : Arv Z h0 ee ke (.object "java/lang/Object") (10 : Int32) [(.ref x), .null, .null, .null, .null, .null, .null, .null, .null, .null] .null) (L8 : own_blk Z h0 x kb) (L9 : Exa Z h0 x "[B") (hu : own_us (60 : Int32) u) :
    MetFree l yM50 (head1 (Cond.code yM50 prog_1_method_3_code 6 none :: ws) (⟨6, 0, 0, 82⟩ : Room)) (fun a U => a = #[(.ref a1), .null] ∧ Z.Warmed39 U.vm ∧ U.heap = h0) (fun _ _ _ _ _ => True) (fun _ U o U' => ∃ v L, o = .returned v ∧ Q_rmWs0 Z a1 u al md ee ke x kb h0 v U'.heap L ∧ FrameEnd U o U' L (⟨6, 0, 0, 82⟩ : Room).cells (⟨6, 0, 0, 82⟩ : Room).slots) := by
  refine MetFree.of_bodySF (plainFor_of_name (by first | (simp [plainName, overriddenIn]; done) | decide +kernel)) hisR ?_
  intro p e s m args below meth c s₁ Bd hml0 hP hK
  obtain ⟨rfl, hZ0', hh⟩ := hP
  have hx := Bd.exec
  have hby := Bd.bytes
  have hml : c.maxLocals = 6 := hml0
  have hZ0 : Z.Warmed39 s.vm := hZ0'
  have hown0 : s.vm.findClass "com/example/realmwright/realmwright/ByteLog" = some m.cls := findClass_of_methodNamed Bd.named
  have hnm := (name_of_methodNamed Bd.named Bd.method).1
  have hlk : meth.locks = false := Bd.notSynchronized
  have X0 : Stand p l e (⟨6, 0, 0, 82⟩ : Room) s m #[(.ref a1), .null] below meth c s₁ [] 0 0 := Stand.of_body Bd
  have e0 : s₁.heap = h0 := by rw [← hh, Bd.state]; rfl
  have N0 := Fr.nil Z.heap.size
  have KP0 : Keep h0 h0 ([a1, x] : List Addr) := Keep.refl _ _
  show Go p e below (fun t o => ∃ v L, o = .returned v ∧ Q_rmWs0 Z a1 u al md ee ke x kb h0 v t.heap L ∧ FrameEnd s o t L (⟨6, 0, 0, 82⟩ : Room).cells (⟨6, 0, 0, 82⟩ : Room).slots) (s₁.setTop (entryFrame m #[(.ref a1), .null] 6))
  refine Go.on (w := s₁.setTop (mkF m 0 #[rv a1, .val .null, .unset, .unset, .unset, .unset] [])) (fun t k => castTop (ef_rmWs0 m a1) k) ?_
  have u_a1 : h0.size > a1 := L0.lt
  have u_al : h0.size > al := L3.lt
  have u_e : h0.size > ee := L7.lt
  have u_x : h0.size > x := L8.lt
  obtain ⟨cq393, kq393, q393a, q393b, q393c⟩ := isOf hZ0 e0 L0
  obtain ⟨v393, _, ⟨T393, L393, k393, n393⟩, -, X393, ⟨Lc393, hQ393, l393, y393, z393⟩, st393⟩ := X0.virtualBack hx (y := yM9) (z := yM9) hown0 (mvT hZ0 (w_326 hw)) (mvT hZ0 (w_87 hw)) (notFace_of_selects (args := #[]) (mvT hZ0 (w_89 hw))) (mvT hZ0 (w_89 hw)) (mvT hZ0 (w_88 hw)) (by decide) (backOf (W := 0) (rmWcN0 l Z a0 hw [] a1 u al md ee ke x kb h0 (by omega) (by omega) (by omega) ne_al_a1 ne_ee_a1 ne_al_x ne_ee_x ne_a1_x L0 L1 L2 L3 L4 L5 L6 L7 L8 L9 hu) hZ0 (w_90 hw) (w_39 hw) (by decide) (by decide)) q393a q393c (g := (mkF m 6 #[rv a1, .val .null, .unset, .unset, .unset, .unset] [(.long 0), (.ref a1)])) rfl (by rw [hml]; rfl) (Steps.refl _) (argsL := [(.long 0)]) (rest := []) (lenOf pd_30 rfl) rfl (by show 2 * 0 + _ ≤ _; exact Nat.le_of_eq rfl) (hb hby d50_6) (fun _ _ => ⟨rfl, e0, (by decide : 0 + 0 ≤ _), (by decide : 0 + 0 ≤ _)⟩)
  dsimp only [Pt.U, Pt.locs, Pt.cells, Pt.slots] at X393 l393 y393 z393 st393 hQ393
  subst l393 y393 z393
  obtain ⟨rfl, Nq393, K393, f393_0, f393_1, f393_2, f393_3, f393_4, f393_5, f393_6, f393_7, f393_8, f393_9⟩ := hQ393
  have N393 := Fr.app N0 Nq393
  have eK393 : T393.heap = T393.heap := rfl
  have z393 : h0.size ≤ T393.heap.size := K393.1
  have KP393 : Keep h0 T393.heap ([a1, x] : List Addr) := KP0.trans K393 (allS (P := fun zq => zq ∈ ([a1, x] : List Addr) ∨ h0.size ≤ zq) (Or.inl (List.mem_of_getElem? (i := 0) rfl)) (allS (P := fun zq => zq ∈ ([a1, x] : List Addr) ∨ h0.size ≤ zq) (Or.inl (List.mem_of_getElem? (i := 1) rfl)) all0))
  refine Go.on (w := T393.setTop (mkF m 9 #[rv a1, .val .null, .unset, .unset, .unset, .unset] [])) (fun t k => XS.aloadN X0.here hx rfl (hb hby d50_0) rfl rfl (XS.ifnonnullNo X0.here hx rfl (hb hby d50_1) rfl (XS.aloadN X0.here hx rfl (hb hby d50_4) rfl rfl (XS.lconst X0.here hx rfl (hb hby d50_5) (st393.trans k))))) ?_
  refine Go.finH X393 hlk (v := none) (fun _ => rfl) (fun fs hr => ?_) (endH (Q := Q_rmWs0 Z a1 u al md ee ke x kb h0) (by rw [eK393]; exact ⟨rfl, N393, KP393, f393_0, f393_1, f393_2, f393_3, f393_4, f393_5, f393_6, f393_7, f393_8, f393_9⟩) (by decide) (by decide))
  exact X393.returnOut hx Bd.returns (hb hby d50_9) hr
def Q_rmWs1 (Z : State) (a1 : Addr) (u : Int32) (al : Addr) (md : Int32) (ee : Addr) (ke : ClassId) (x : Addr) (kb : ClassId) (sa : Addr) (ta : Addr) (q : ClassId) (G1 : Int32) (v0 : Int32) (cu : Addr) (h0 : Heap) (vv : Option Value) (h : Heap) (L : List Loc) : Prop := ∃ (u' : Int32), vv = none ∧ Fr Z.heap.size L ∧ Keep h0 h [a1, x] ∧ Exa Z h a1 "com/example/realmwright/realmwright/ByteLog" ∧ Fld Z h a1 "com/example/realmwright/realmwright/ByteLog" "blocks" "Ljava/util/List;" (.ref al) ∧ Fld Z h a1 "com/example/realmwright/realmwright/ByteLog" "used" "I" (.int u') ∧ Exa Z h al "java/util/ArrayList" ∧ Fld Z h al "java/util/AbstractList" "modCount" "I" (.int md) ∧ Fld Z h al "java/util/ArrayList" "elementData" "[Ljava/lang/Object;" (.ref ee) ∧ Fld Z h al "java/util/ArrayList" "size" "I" (.int 1) ∧ Arv Z h ee ke (.object "java/lang/Object") (10 : Int32) [(.ref x), .null, .null, .null, .null, .null, .null, .null, .null, .null] .null ∧ own_blk Z h x kb ∧ Exa Z h x "[B" ∧ (own_us (40 : Int32) u')
theorem ef_rmWs1 (m : MethodId) (x0 : Addr) (x1 : Addr)   : entryFrame m #[(.ref x0), (.ref x1)] 6 = mkF m 0 #[.val (.ref x0), .val (.ref x1), .unset, .unset, .unset, .unset] [] := rfl
theorem rmWs1 (l : Launch) (Z : State) (a0 : Array Value) (hw : HW a0 Z) (ws : List Cond) (a1 : Addr) (u : Int32) (al : Addr) (md : Int32) (ee : Addr) (ke : ClassId) (x : Addr) (kb : ClassId) (sa : Addr) (ta : Addr) (q : ClassId) (G1 : Int32) (v0 : Int32) (cu : Addr) (h0 : Heap) (Z0 : Z.heap.size ≤ h0.size) (lo_a1 : Z.heap.size ≤ a1) (lo_x : Z.heap.size ≤ x) (ne_al_a1 : al ≠ a1) (ne_ee_a1 : ee ≠ a1) (ne_al_x : al ≠ x) (ne_ee_x : ee ≠ x) (ne_a1_x : a1 ≠ x) (L0 : Exa Z h0 a1 "com/example/realmwright/realmwright/ByteLog") (L1 : Fld Z h0 a1 "com/example/realmwright/realmwright/ByteLog" "blocks" "Ljava/util/List;" (.ref al)) (L2 : Fld Z h0 a1 "com/example/realmwright/realmwright/ByteLog" "used" "I" (.int u)) (L3 : Exa Z h0 al "java/util/ArrayList") (L4 : Fld Z h0 al "java/util/AbstractList" "modCount" "I" (.int md)) (L5 : Fld Z h0 al "java/util/ArrayList" "elementData" "[Ljava/lang/Object;" (.ref ee)) (L6 : Fld Z h0 al "java/util/ArrayList" "size" "I" (.int 1)) (L7 : Arv Z h0 ee ke (.object "java/lang/Object") (10 : Int32) [(.ref x), .null, .null, .null, .null, .null, .null, .null, .null, .null] .null) (L8 : own_blk Z h0 x kb) (L9 : Exa Z h0 x "[B") (OL : Old Z Z.heap.size h0) (O2 : Sta Z Z.heap "java/lang/String" "COMPACT_STRINGS" "Z" (.int G1)) (P5 : ¬ (G1 = (0 : Int32))) (OU : Sta Z Z.heap "java/nio/charset/StandardCharsets" "UTF_8" "Ljava/nio/charset/Charset;" (.ref cu)) (OI : Sta Z Z.heap "sun/nio/cs/UTF_8" "INSTANCE" "Lsun/nio/cs/UTF_8;" (.ref cu)) (ne_sa_a1 : sa ≠ a1) (ne_sa_x : sa ≠ x) (ne_ta_a1 : ta ≠ a1) (ne_ta_x : ta ≠ x) (hu : own_us (20 : Int32) u) (S0 : Exa Z h0 sa "java/lang/String") (S1 : Fld Z h0 sa "java/lang/String" "coder" "B" (.int 0)) (S2 : Fld Z h0 sa "java/lang/String" "value" "[B" (.ref ta)) (S3 : Exa Z h0 ta "[B") (S4 : Arv Z h0 ta q .byte (7 : Int32) [(.int 114), (.int 101), (.int 97), (.int 108), (.int 109), (.int 32), (.int v0)] (.int 0)) :
    MetFree l yM50 (head1 (Cond.code yM50 prog_1_method_3_code 6 none :: ws) (⟨6, 2, 22, 101⟩ : Room)) (fun a U => a = #[(.ref a1), (.ref sa)] ∧ Z.Warmed39 U.vm ∧ U.heap = h0) (fun _ _ _ _ _ => True) (fun _ U o U' => ∃ v L, o = .returned v ∧ Q_rmWs1 Z a1 u al md ee ke x kb sa ta q G1 v0 cu h0 v U'.heap L ∧ FrameEnd U o U' L (⟨6, 2, 22, 101⟩ : Room).cells (⟨6, 2, 22, 101⟩ : Room).slots) := by
  refine MetFree.of_bodySF (plainFor_of_name (by first | (simp [plainName, overriddenIn]; done) | decide +kernel)) hisR ?_
  intro p e s m args below meth c s₁ Bd hml0 hP hK
  obtain ⟨rfl, hZ0', hh⟩ := hP
  have hx := Bd.exec
  have hby := Bd.bytes
  have hml : c.maxLocals = 6 := hml0
  have hZ0 : Z.Warmed39 s.vm := hZ0'
  have hown0 : s.vm.findClass "com/example/realmwright/realmwright/ByteLog" = some m.cls := findClass_of_methodNamed Bd.named
  have hnm := (name_of_methodNamed Bd.named Bd.method).1
  have hlk : meth.locks = false := Bd.notSynchronized
  have X0 : Stand p l e (⟨6, 2, 22, 101⟩ : Room) s m #[(.ref a1), (.ref sa)] below meth c s₁ [] 0 0 := Stand.of_body Bd
  have e0 : s₁.heap = h0 := by rw [← hh, Bd.state]; rfl
  have N0 := Fr.nil Z.heap.size
  have KP0 : Keep h0 h0 ([a1, x] : List Addr) := Keep.refl _ _
  show Go p e below (fun t o => ∃ v L, o = .returned v ∧ Q_rmWs1 Z a1 u al md ee ke x kb sa ta q G1 v0 cu h0 v t.heap L ∧ FrameEnd s o t L (⟨6, 2, 22, 101⟩ : Room).cells (⟨6, 2, 22, 101⟩ : Room).slots) (s₁.setTop (entryFrame m #[(.ref a1), (.ref sa)] 6))
  refine Go.on (w := s₁.setTop (mkF m 0 #[rv a1, rv sa, .unset, .unset, .unset, .unset] [])) (fun t k => castTop (ef_rmWs1 m a1 sa) k) ?_
  have u_a1 : h0.size > a1 := L0.lt
  have u_al : h0.size > al := L3.lt
  have u_e : h0.size > ee := L7.lt
  have u_x : h0.size > x := L8.lt
  have u_s : h0.size > sa := S0.lt
  have u_t : h0.size > ta := S4.lt
  obtain ⟨T394, X394, e394, st394⟩ := getS2 X0 hx hZ0 hown0 (host := "") (Or.inl (w_296 hw)) Via.refl e0 (OU.ext OL.2) (g := (mkF m 11 #[rv a1, rv sa, .unset, .unset, .unset, .unset] [(.ref sa)])) rfl (hb hby d50_11)
  obtain ⟨cq395, kq395, q395a, q395b, q395c⟩ := isOf hZ0 e394 S0
  obtain ⟨v395, _, ⟨T395, L395, k395, n395⟩, -, X395, ⟨Lc395, hQ395, l395, y395, z395⟩, st395⟩ := X394.virtualBack hx (y := yM51) (z := yM51) hown0 (mvT hZ0 (w_298 hw)) (mvT hZ0 (w_299 hw)) (notFace_of_selects (args := #[]) (mvT hZ0 (w_301 hw))) (mvT hZ0 (w_301 hw)) (mvT hZ0 (w_300 hw)) (by decide) (backOf (W := 0) (rmGbc l Z a0 hw [] sa ta q G1 v0 cu h0 (by omega) OL O2 P5 OI S0 S1 S2 S3 S4) hZ0 (w_302 hw) (w_3 hw) (by decide) (by decide)) q395a q395c (g := (mkF m 14 #[rv a1, rv sa, .unset, .unset, .unset, .unset] [(.ref cu), (.ref sa)])) rfl (by rw [hml]; rfl) (Steps.refl _) (argsL := [(.ref cu)]) (rest := []) (lenOf pd_31 rfl) rfl (by show 2 * 0 + _ ≤ _; exact Nat.le_of_eq rfl) (hb hby d50_14) (fun _ _ => ⟨rfl, e394, (by decide : 0 + 2 ≤ _), (by decide : 0 + 22 ≤ _)⟩)
  dsimp only [Pt.U, Pt.locs, Pt.cells, Pt.slots] at X395 l395 y395 z395 st395 hQ395
  subst l395 y395 z395
  obtain ⟨r_395, kr_395, zr_395, vr_395, rfl, Nq395, K395, f395_0, f395_1, f395_2⟩ := hQ395
  have N395 := Fr.app N0 Nq395
  have eK395 : T395.heap = T395.heap := rfl
  have z395 : h0.size ≤ T395.heap.size := K395.1
  have KP395 : Keep h0 T395.heap ([a1, x] : List Addr) := KP0.trans K395 all0
  have u395_2 : T395.heap.size > r_395 := f395_2.lt
  refine Go.on (w := T395.setTop (mkF m 17 #[rv a1, rv sa, .unset, .unset, .unset, .unset] [(.ref r_395)])) (fun t k => XS.aloadN X0.here hx rfl (hb hby d50_0) rfl rfl (XS.ifnonnullYes X0.here hx rfl (pc0 := 1) (pc' := 10) rfl (hb hby d50_1) rfl (by decide) (by decide) (XS.aloadN X0.here hx rfl (hb hby d50_10) rfl rfl (st394 _ (st395.trans k))))) ?_
  rcases f395_1 with ez | ez
  ·
    rw [ez] at f395_2
    obtain ⟨cl397, Ar397, q397, S397, M397, H397, U397⟩ := id f395_2
    refine Go.on (w := T395.setTop (mkF m 20 #[rv a1, rv sa, rv r_395, .unset, .unset, .unset] [(.ref r_395), (.ref a1)])) (fun t k => XS.astoreN X395.here hx rfl (hb hby d50_17) rfl rfl (l' := #[rv a1, rv sa, rv r_395, .unset, .unset, .unset]) rfl (XS.aloadN X395.here hx rfl (hb hby d50_18) rfl rfl (XS.aloadN X395.here hx rfl (hb hby d50_19) rfl rfl k))) ?_
    refine Go.on (w := T395.setTop (mkF m 21 #[rv a1, rv sa, rv r_395, .unset, .unset, .unset] [(.int 7), (.ref a1)])) (fun t k => X395.arraylength hx (by rw [eK395]; exact Ar397.1) (State.isArrayOf_alike hZ0.alike Ar397.2.1) (g := (mkF m 20 #[rv a1, rv sa, rv r_395, .unset, .unset, .unset] [(.ref r_395), (.ref a1)])) rfl rfl (hb hby d50_20) _ (by rw [len_of S397 M397]; exact k)) ?_
    refine Go.on (w := T395.setTop (mkF m 22 #[rv a1, rv sa, rv r_395, .unset, .unset, .unset] [(.int 1), (.int 7), (.ref a1)])) (fun t k => XS.iconst X395.here hx rfl (hb hby d50_21) k) ?_
    refine Go.on (w := T395.setTop (mkF m 23 #[rv a1, rv sa, rv r_395, .unset, .unset, .unset] [(.int 8), (.ref a1)])) (fun t k => XS.iadd X395.here hx rfl (hb hby d50_22) rfl (by rw [(by decide : ((7 : Int32) + (1 : Int32)) = (8 : Int32))]; exact k)) ?_
    refine Go.on (w := T395.setTop (mkF m 24 #[rv a1, rv sa, rv r_395, .unset, .unset, .unset] [(.long 8), (.ref a1)])) (fun t k => XS.i2l X395.here hx rfl (hb hby d50_23) rfl (by rw [(by decide : ((8 : Int32).toInt64) = (8 : Int64))]; exact k)) ?_
    have F399 := (L0.keep K395)
    have F400 := (L1.keep K395 nin0)
    have F401 := (L2.keep K395 nin0)
    have F402 := (L3.keep K395)
    have F403 := (L4.keep K395 nin0)
    have F404 := (L5.keep K395 nin0)
    have F405 := (L6.keep K395 nin0)
    have F406 := (L7.keep K395 nin0)
    have F407 := (L8.keep K395 nin0)
    have F408 := (L9.keep K395)
    obtain ⟨cq398, kq398, q398a, q398b, q398c⟩ := isOf hZ0 eK395 F399
    obtain ⟨v398, _, ⟨T398, L398, k398, n398⟩, -, X398, ⟨Lc398, hQ398, l398, y398, z398⟩, st398⟩ := X395.virtualBack hx (y := yM9) (z := yM9) hown0 (mvT hZ0 (w_326 hw)) (mvT hZ0 (w_87 hw)) (notFace_of_selects (args := #[]) (mvT hZ0 (w_89 hw))) (mvT hZ0 (w_89 hw)) (mvT hZ0 (w_88 hw)) (by decide) (backOf (W := 0) (rmWcN8 l Z a0 hw [] a1 u al md ee ke x kb T395.heap (by omega) (by omega) (by omega) ne_al_a1 ne_ee_a1 ne_al_x ne_ee_x ne_a1_x F399 F400 F401 F402 F403 F404 F405 F406 F407 F408 (own_us20 hu)) hZ0 (w_90 hw) (w_39 hw) (by decide) (by decide)) q398a q398c (g := (mkF m 24 #[rv a1, rv sa, rv r_395, .unset, .unset, .unset] [(.long 8), (.ref a1)])) rfl (by rw [hml]; rfl) (Steps.refl _) (argsL := [(.long 8)]) (rest := []) (lenOf pd_30 rfl) rfl (by show 2 * 0 + _ ≤ _; exact Nat.le_of_eq rfl) (hb hby d50_24) (fun _ _ => ⟨rfl, eK395, (by decide : 2 + 0 ≤ _), (by decide : 22 + 0 ≤ _)⟩)
    dsimp only [Pt.U, Pt.locs, Pt.cells, Pt.slots] at X398 l398 y398 z398 st398 hQ398
    subst l398 y398 z398
    obtain ⟨rfl, Nq398, K398, f398_0, f398_1, f398_2, f398_3, f398_4, f398_5, f398_6, f398_7, f398_8, f398_9⟩ := hQ398
    have N398 := Fr.app N395 Nq398
    have eK398 : T398.heap = T398.heap := rfl
    have z398 : T395.heap.size ≤ T398.heap.size := K398.1
    have KP398 : Keep h0 T398.heap ([a1, x] : List Addr) := KP395.trans K398 (allS (P := fun zq => zq ∈ ([a1, x] : List Addr) ∨ h0.size ≤ zq) (Or.inl (List.mem_of_getElem? (i := 0) rfl)) (allS (P := fun zq => zq ∈ ([a1, x] : List Addr) ∨ h0.size ≤ zq) (Or.inl (List.mem_of_getElem? (i := 1) rfl)) all0))
    have F409 := (f395_2.keep K398 (ninS (show @Ne Nat r_395 a1 by omega) (ninS (show @Ne Nat r_395 x by omega) nin0)))
    obtain ⟨cl410, Ar410, q410, S410, M410, H410, U410⟩ := id F409
    refine Go.on (w := T398.setTop (mkF m 31 #[rv a1, rv sa, rv r_395, iv 0, .unset, .unset] [(.ref r_395), (.int 0)])) (fun t k => st398.trans (XS.iconst X398.here hx rfl (hb hby d50_27) (XS.istoreN X398.here hx rfl (hb hby d50_28) rfl (l' := #[rv a1, rv sa, rv r_395, iv 0, .unset, .unset]) rfl (XS.iloadN X398.here hx rfl (hb hby d50_29) rfl (XS.aloadN X398.here hx rfl (hb hby d50_30) rfl rfl k))))) ?_
    refine Go.on (w := T398.setTop (mkF m 32 #[rv a1, rv sa, rv r_395, iv 0, .unset, .unset] [(.int 7), (.int 0)])) (fun t k => X398.arraylength hx (by rw [eK398]; exact Ar410.1) (State.isArrayOf_alike hZ0.alike Ar410.2.1) (g := (mkF m 31 #[rv a1, rv sa, rv r_395, iv 0, .unset, .unset] [(.ref r_395), (.int 0)])) rfl rfl (hb hby d50_31) _ (by rw [len_of S410 M410]; exact k)) ?_
    obtain ⟨cq411, q411, q411'⟩ := f398_0.cell
    obtain ⟨v411, _, ⟨T411, L411, k411, n411⟩, -, X411, ⟨Lc411, hQ411, l411, y411, z411⟩, st411⟩ := X398.privateBack hx (y := yM11) hown0 (mvT hZ0 (w_96 hw)) (mvT hZ0 (w_97 hw)) (own_selI (mvT hZ0 (w_38 hw)) (Cond.privateMethod_at (mvP hZ0 (w_98 hw) (args := #[]))) (mvT hZ0 (w_97 hw)) (by decide)) (Cond.privateMethod_at (mvP hZ0 (w_98 hw) (args := #[]))) (mvT hZ0 (w_99 hw)) (by decide) (backOf (W := 0) (rmLbN l Z a0 hw [] a1 (u + (1 : Int32)) al md ee ke x kb T398.heap f398_0 f398_1 f398_2 f398_3 f398_4 f398_5 f398_6 f398_7 f398_8 f398_9 (own_us20' hu)) hZ0 (w_99 hw) (w_39 hw) (by decide) (by decide)) (g := (mkF m 36 #[rv a1, rv sa, rv r_395, iv 0, .unset, .unset] [(.ref a1)])) rfl (by rw [hml]; rfl) (Steps.refl _) (a := a1) (by rw [eK398]; exact q411) q411' (argsL := []) (rest := []) (lenOf pd_10 rfl) rfl (by show 2 * 0 + _ ≤ _; exact Nat.le_of_eq rfl) (hb hby d50_36) (fun _ _ => ⟨rfl, eK398, (by decide : 2 + 0 ≤ _), (by decide : 22 + 0 ≤ _)⟩)
    dsimp only [Pt.U, Pt.locs, Pt.cells, Pt.slots] at X411 l411 y411 z411 st411 hQ411
    subst l411 y411 z411
    obtain ⟨rfl, Nq411, eh411⟩ := hQ411
    have N411 := Fr.app N398 Nq411
    obtain ⟨cl412, Ar412, q412, S412, M412, H412, U412⟩ := id F409
    refine Go.on (w := T411.setTop (mkF m 42 #[rv a1, rv sa, rv r_395, iv 0, rv x, .unset] [(.ref r_395)])) (fun t k => XS.icmpNo X398.here hx rfl (hb hby d50_32) rfl (tlt (by decide : (0 : Int32) < (7 : Int32))).2.1 (XS.aloadN X398.here hx rfl (hb hby d50_35) rfl rfl (st411.trans (XS.astore X411.here hx rfl (hb hby d50_39) rfl rfl (l' := #[rv a1, rv sa, rv r_395, iv 0, rv x, .unset]) rfl (XS.aloadN X411.here hx rfl (hb hby d50_41) rfl rfl k))))) ?_
    refine Go.on (w := T411.setTop (mkF m 43 #[rv a1, rv sa, rv r_395, iv 0, rv x, .unset] [(.int 7)])) (fun t k => X411.arraylength hx (by rw [eh411]; exact Ar412.1) (State.isArrayOf_alike hZ0.alike Ar412.2.1) (g := (mkF m 42 #[rv a1, rv sa, rv r_395, iv 0, rv x, .unset] [(.ref r_395)])) rfl rfl (hb hby d50_42) _ (by rw [len_of S412 M412]; exact k)) ?_
    refine Go.on (w := T411.setTop (mkF m 44 #[rv a1, rv sa, rv r_395, iv 0, rv x, .unset] [(.int 0), (.int 7)])) (fun t k => XS.iloadN X411.here hx rfl (hb hby d50_43) rfl k) ?_
    refine Go.on (w := T411.setTop (mkF m 45 #[rv a1, rv sa, rv r_395, iv 0, rv x, .unset] [(.int 7)])) (fun t k => XS.isub X411.here hx rfl (hb hby d50_44) rfl (by rw [(by decide : ((7 : Int32) - (0 : Int32)) = (7 : Int32))]; exact k)) ?_
    obtain ⟨vs413, hl413, Vb413⟩ := id f398_8
    obtain ⟨cl414, Ar414, q414, S414, M414, H414, U414⟩ := id Vb413
    refine Go.on (w := T411.setTop (mkF m 47 #[rv a1, rv sa, rv r_395, iv 0, rv x, .unset] [(.ref x), (.int 7)])) (fun t k => XS.aload X411.here hx rfl (hb hby d50_45) rfl rfl k) ?_
    refine Go.on (w := T411.setTop (mkF m 48 #[rv a1, rv sa, rv r_395, iv 0, rv x, .unset] [(.int 64), (.int 7)])) (fun t k => X411.arraylength hx (by rw [eh411]; exact Ar414.1) (State.isArrayOf_alike hZ0.alike Ar414.2.1) (g := (mkF m 47 #[rv a1, rv sa, rv r_395, iv 0, rv x, .unset] [(.ref x), (.int 7)])) rfl rfl (hb hby d50_47) _ (by rw [len_of S414 M414]; exact k)) ?_
    obtain ⟨T415, X415, e415, st415⟩ := getF X411 hx hZ0 hown0 (host := "") (Or.inl (w_174 hw)) Via.refl eh411 f398_2 (g := (mkF m 49 #[rv a1, rv sa, rv r_395, iv 0, rv x, .unset] [(.ref a1), (.int 64), (.int 7)])) rfl rfl (hb hby d50_49)
    obtain ⟨v416, _, ⟨T416, L416, k416, n416⟩, -, X416, ⟨Lc416, hQ416, l416, y416, z416⟩, st416⟩ := Jvm.LawKit.callS X415 hx (y := yM49) hown0 (mvT hZ0 (w_327 hw)) (mvT hZ0 (w_288 hw)) (mvT hZ0 (w_138 hw)) (mvT hZ0 (w_289 hw)) (by decide) (backOf (W := 0) (rmMin l Z a0 hw [] (7 : Int32) ((64 : Int32) - (u + (1 : Int32))) T398.heap (own_usM7 hu)) hZ0 (w_289 hw) (w_138 hw) (by decide) (by decide)) (g := (mkF m 53 #[rv a1, rv sa, rv r_395, iv 0, rv x, .unset] [(.int ((64 : Int32) - (u + (1 : Int32)))), (.int 7)])) rfl (by rw [hml]; rfl) (argsL := [(.int 7), (.int ((64 : Int32) - (u + (1 : Int32))))]) (rest := []) (lenOf pd_2 rfl) rfl (by show 2 * 0 + _ ≤ _; exact Nat.le_of_eq rfl) (hb hby d50_53) (fun _ _ => ⟨rfl, e415, (by decide : 2 + 0 ≤ _), (by decide : 22 + 0 ≤ _)⟩)
    dsimp only [Pt.U, Pt.locs, Pt.cells, Pt.slots] at X416 l416 y416 z416 st416 hQ416
    subst l416 y416 z416
    obtain ⟨rfl, Nq416, eh416⟩ := hQ416
    have N416 := Fr.app N411 Nq416
    obtain ⟨T417, X417, e417, st417⟩ := getF X416 hx hZ0 hown0 (host := "") (Or.inl (w_174 hw)) Via.refl eh416 f398_2 (g := (mkF m 63 #[rv a1, rv sa, rv r_395, iv 0, rv x, iv 7] [(.ref a1), (.ref x), (.int 0), (.ref r_395)])) rfl rfl (hb hby d50_63)
    obtain ⟨T418, h418, L418, X418, e418, N418, K418, V418, st418⟩ := own_cpBlk X417 hx hZ0 hown0 (w_328 hw) (w_246 hw) (w_244 hw) (w_245 hw) e417 F409 f398_8 (dp := (u + (1 : Int32))) (nn := (7 : Int32)) (own_us20' hu) (own_usC7 hu) N416 (by omega) (g := (mkF m 68 #[rv a1, rv sa, rv r_395, iv 0, rv x, iv 7] [(.int 7), (.int (u + (1 : Int32))), (.ref x), (.int 0), (.ref r_395)])) rfl (by rw [hml]; rfl) rfl (hb hby d50_68) (by decide) (W := 0) (by show 2 * 0 + _ ≤ _; exact Nat.le_of_eq rfl) (by decide)
    have z418 : T398.heap.size ≤ h418.size := K418.1
    have KP418 : Keep h0 h418 ([a1, x] : List Addr) := KP398.trans K418 (allS (P := fun zq => zq ∈ ([a1, x] : List Addr) ∨ h0.size ≤ zq) (Or.inl (List.mem_of_getElem? (i := 1) rfl)) all0)
    have F419 := (f398_2.keep K418 (ninS ne_a1_x nin0))
    obtain ⟨T420, X420, e420, st420⟩ := getF X418 hx hZ0 hown0 (host := "") (Or.inl (w_174 hw)) Via.refl e418 F419 (g := (mkF m 73 #[rv a1, rv sa, rv r_395, iv 0, rv x, iv 7] [(.ref a1), (.ref a1)])) rfl rfl (hb hby d50_73)
    have F421 := (f398_0.keep K418)
    obtain ⟨T422, h422, X422, e422, W422, st422⟩ := putF X420 hx hZ0 hown0 (host := "") (Or.inl (w_174 hw)) Via.refl e420 F419 F421 (Or.inl (w_175 hw)) (w_38 hw) (ty := .int) (by decide) rfl rfl (g := (mkF m 79 #[rv a1, rv sa, rv r_395, iv 0, rv x, iv 7] [(.int ((u + (1 : Int32)) + (7 : Int32))), (.ref a1)])) rfl rfl (hb hby d50_79)
    have z422 : h418.size ≤ h422.size := Nat.le_of_eq W422.size.symm
    have KP422 : Keep h0 h422 ([a1, x] : List Addr) := KP418.wr W422 (Or.inl (List.mem_of_getElem? (i := 0) rfl))
    have N422 := Fr.snoc X422 N418 (by omega)
    have Fw422 := F419.same W422
    refine Go.on (w := T422.setTop (mkF m 85 #[rv a1, rv sa, rv r_395, iv 0, rv x, iv 7] [(.int 7), (.int 0)])) (fun t k => XS.aloadN X411.here hx rfl (hb hby d50_48) rfl rfl (st415 _ (XS.isub X415.here hx rfl (hb hby d50_52) rfl (st416 _ (XS.istore X416.here hx rfl (hb hby d50_56) rfl (l' := #[rv a1, rv sa, rv r_395, iv 0, rv x, iv 7]) rfl (XS.aloadN X416.here hx rfl (hb hby d50_58) rfl rfl (XS.iloadN X416.here hx rfl (hb hby d50_59) rfl (XS.aload X416.here hx rfl (hb hby d50_60) rfl rfl (XS.aloadN X416.here hx rfl (hb hby d50_62) rfl rfl (st417 _ (XS.iload X417.here hx rfl (hb hby d50_66) rfl (st418 _ (XS.aloadN X418.here hx rfl (hb hby d50_71) rfl rfl (XS.dup X418.here hx rfl (hb hby d50_72) rfl rfl (st420 _ (XS.iload X420.here hx rfl (hb hby d50_76) rfl (XS.iadd X420.here hx rfl (hb hby d50_78) rfl (st422 _ (XS.iloadN X422.here hx rfl (hb hby d50_82) rfl (XS.iload X422.here hx rfl (hb hby d50_83) rfl k)))))))))))))))))))) ?_
    refine Go.on (w := T422.setTop (mkF m 86 #[rv a1, rv sa, rv r_395, iv 0, rv x, iv 7] [(.int 7)])) (fun t k => XS.iadd X422.here hx rfl (hb hby d50_85) rfl (by rw [(by decide : ((0 : Int32) + (7 : Int32)) = (7 : Int32))]; exact k)) ?_
    have F423 := ((F409.keep K418 (ninS (show @Ne Nat r_395 x by omega) nin0)).other W422 (show @Ne Nat r_395 a1 by omega))
    obtain ⟨cl424, Ar424, q424, S424, M424, H424, U424⟩ := id F423
    refine Go.on (w := T422.setTop (mkF m 31 #[rv a1, rv sa, rv r_395, iv 7, rv x, iv 7] [(.ref r_395), (.int 7)])) (fun t k => XS.istoreN X422.here hx rfl (hb hby d50_86) rfl (l' := #[rv a1, rv sa, rv r_395, iv 7, rv x, iv 7]) rfl (XS.goto X422.here hx rfl (pc0 := 87) (pc' := 29) rfl (hb hby d50_87) (by decide) (by decide) (XS.iloadN X422.here hx rfl (hb hby d50_29) rfl (XS.aloadN X422.here hx rfl (hb hby d50_30) rfl rfl k)))) ?_
    refine Go.on (w := T422.setTop (mkF m 32 #[rv a1, rv sa, rv r_395, iv 7, rv x, iv 7] [(.int 7), (.int 7)])) (fun t k => X422.arraylength hx (by rw [e422]; exact Ar424.1) (State.isArrayOf_alike hZ0.alike Ar424.2.1) (g := (mkF m 31 #[rv a1, rv sa, rv r_395, iv 7, rv x, iv 7] [(.ref r_395), (.int 7)])) rfl rfl (hb hby d50_31) _ (by rw [len_of S424 M424]; exact k)) ?_
    have F425 := (F421.wr W422)
    have F426 := ((f398_1.keep K418 (ninS ne_a1_x nin0)).other W422 (Or.inr (slot_ne (Or.inr (w_69 hw)) (Or.inl (w_175 hw)) (by decide) (t := (.object "java/util/List")) (t' := .int) (by decide) (by decide))))
    have F427 := ((f398_3.keep K418).wr W422)
    have F428 := ((f398_4.keep K418 (ninS ne_al_x nin0)).other W422 (Or.inl ne_al_a1))
    have F429 := ((f398_5.keep K418 (ninS ne_al_x nin0)).other W422 (Or.inl ne_al_a1))
    have F430 := ((f398_6.keep K418 (ninS ne_al_x nin0)).other W422 (Or.inl ne_al_a1))
    have F431 := ((f398_7.keep K418 (ninS ne_ee_x nin0)).other W422 ne_ee_a1)
    have F432 := (V418.other W422 (Ne.symm ne_a1_x))
    have F433 := ((f398_9.keep K418).wr W422)
    refine Go.on (w := T422.setTop (mkF m 90 #[rv a1, rv sa, rv r_395, iv 7, rv x, iv 7] [])) (fun t k => XS.icmpYes X422.here hx rfl (pc0 := 32) (pc' := 90) rfl (hb hby d50_32) rfl (flt (by decide : ¬ ((7 : Int32) < (7 : Int32)))).2.1 (by decide) (by decide) k) ?_
    refine Go.finH X422 hlk (v := none) (fun _ => rfl) (fun fs hr => ?_) (endH (Q := Q_rmWs1 Z a1 u al md ee ke x kb sa ta q G1 v0 cu h0) (by rw [e422]; exact ⟨((u + (1 : Int32)) + (7 : Int32)), rfl, N422, KP422, F425, F426, Fw422, F427, F428, F429, F430, F431, F432, F433, (own_usW7 hu)⟩) (by decide) (by decide))
    exact X422.returnOut hx Bd.returns (hb hby d50_90) hr
  ·
    rw [ez] at f395_2
    obtain ⟨cl435, Ar435, q435, S435, M435, H435, U435⟩ := id f395_2
    refine Go.on (w := T395.setTop (mkF m 20 #[rv a1, rv sa, rv r_395, .unset, .unset, .unset] [(.ref r_395), (.ref a1)])) (fun t k => XS.astoreN X395.here hx rfl (hb hby d50_17) rfl rfl (l' := #[rv a1, rv sa, rv r_395, .unset, .unset, .unset]) rfl (XS.aloadN X395.here hx rfl (hb hby d50_18) rfl rfl (XS.aloadN X395.here hx rfl (hb hby d50_19) rfl rfl k))) ?_
    refine Go.on (w := T395.setTop (mkF m 21 #[rv a1, rv sa, rv r_395, .unset, .unset, .unset] [(.int 8), (.ref a1)])) (fun t k => X395.arraylength hx (by rw [eK395]; exact Ar435.1) (State.isArrayOf_alike hZ0.alike Ar435.2.1) (g := (mkF m 20 #[rv a1, rv sa, rv r_395, .unset, .unset, .unset] [(.ref r_395), (.ref a1)])) rfl rfl (hb hby d50_20) _ (by rw [len_of S435 M435]; exact k)) ?_
    refine Go.on (w := T395.setTop (mkF m 22 #[rv a1, rv sa, rv r_395, .unset, .unset, .unset] [(.int 1), (.int 8), (.ref a1)])) (fun t k => XS.iconst X395.here hx rfl (hb hby d50_21) k) ?_
    refine Go.on (w := T395.setTop (mkF m 23 #[rv a1, rv sa, rv r_395, .unset, .unset, .unset] [(.int 9), (.ref a1)])) (fun t k => XS.iadd X395.here hx rfl (hb hby d50_22) rfl (by rw [(by decide : ((8 : Int32) + (1 : Int32)) = (9 : Int32))]; exact k)) ?_
    refine Go.on (w := T395.setTop (mkF m 24 #[rv a1, rv sa, rv r_395, .unset, .unset, .unset] [(.long 9), (.ref a1)])) (fun t k => XS.i2l X395.here hx rfl (hb hby d50_23) rfl (by rw [(by decide : ((9 : Int32).toInt64) = (9 : Int64))]; exact k)) ?_
    have F437 := (L0.keep K395)
    have F438 := (L1.keep K395 nin0)
    have F439 := (L2.keep K395 nin0)
    have F440 := (L3.keep K395)
    have F441 := (L4.keep K395 nin0)
    have F442 := (L5.keep K395 nin0)
    have F443 := (L6.keep K395 nin0)
    have F444 := (L7.keep K395 nin0)
    have F445 := (L8.keep K395 nin0)
    have F446 := (L9.keep K395)
    obtain ⟨cq436, kq436, q436a, q436b, q436c⟩ := isOf hZ0 eK395 F437
    obtain ⟨v436, _, ⟨T436, L436, k436, n436⟩, -, X436, ⟨Lc436, hQ436, l436, y436, z436⟩, st436⟩ := X395.virtualBack hx (y := yM9) (z := yM9) hown0 (mvT hZ0 (w_326 hw)) (mvT hZ0 (w_87 hw)) (notFace_of_selects (args := #[]) (mvT hZ0 (w_89 hw))) (mvT hZ0 (w_89 hw)) (mvT hZ0 (w_88 hw)) (by decide) (backOf (W := 0) (rmWcN9 l Z a0 hw [] a1 u al md ee ke x kb T395.heap (by omega) (by omega) (by omega) ne_al_a1 ne_ee_a1 ne_al_x ne_ee_x ne_a1_x F437 F438 F439 F440 F441 F442 F443 F444 F445 F446 (own_us20 hu)) hZ0 (w_90 hw) (w_39 hw) (by decide) (by decide)) q436a q436c (g := (mkF m 24 #[rv a1, rv sa, rv r_395, .unset, .unset, .unset] [(.long 9), (.ref a1)])) rfl (by rw [hml]; rfl) (Steps.refl _) (argsL := [(.long 9)]) (rest := []) (lenOf pd_30 rfl) rfl (by show 2 * 0 + _ ≤ _; exact Nat.le_of_eq rfl) (hb hby d50_24) (fun _ _ => ⟨rfl, eK395, (by decide : 2 + 0 ≤ _), (by decide : 22 + 0 ≤ _)⟩)
    dsimp only [Pt.U, Pt.locs, Pt.cells, Pt.slots] at X436 l436 y436 z436 st436 hQ436
    subst l436 y436 z436
    obtain ⟨rfl, Nq436, K436, f436_0, f436_1, f436_2, f436_3, f436_4, f436_5, f436_6, f436_7, f436_8, f436_9⟩ := hQ436
    have N436 := Fr.app N395 Nq436
    have eK436 : T436.heap = T436.heap := rfl
    have z436 : T395.heap.size ≤ T436.heap.size := K436.1
    have KP436 : Keep h0 T436.heap ([a1, x] : List Addr) := KP395.trans K436 (allS (P := fun zq => zq ∈ ([a1, x] : List Addr) ∨ h0.size ≤ zq) (Or.inl (List.mem_of_getElem? (i := 0) rfl)) (allS (P := fun zq => zq ∈ ([a1, x] : List Addr) ∨ h0.size ≤ zq) (Or.inl (List.mem_of_getElem? (i := 1) rfl)) all0))
    have F447 := (f395_2.keep K436 (ninS (show @Ne Nat r_395 a1 by omega) (ninS (show @Ne Nat r_395 x by omega) nin0)))
    obtain ⟨cl448, Ar448, q448, S448, M448, H448, U448⟩ := id F447
    refine Go.on (w := T436.setTop (mkF m 31 #[rv a1, rv sa, rv r_395, iv 0, .unset, .unset] [(.ref r_395), (.int 0)])) (fun t k => st436.trans (XS.iconst X436.here hx rfl (hb hby d50_27) (XS.istoreN X436.here hx rfl (hb hby d50_28) rfl (l' := #[rv a1, rv sa, rv r_395, iv 0, .unset, .unset]) rfl (XS.iloadN X436.here hx rfl (hb hby d50_29) rfl (XS.aloadN X436.here hx rfl (hb hby d50_30) rfl rfl k))))) ?_
    refine Go.on (w := T436.setTop (mkF m 32 #[rv a1, rv sa, rv r_395, iv 0, .unset, .unset] [(.int 8), (.int 0)])) (fun t k => X436.arraylength hx (by rw [eK436]; exact Ar448.1) (State.isArrayOf_alike hZ0.alike Ar448.2.1) (g := (mkF m 31 #[rv a1, rv sa, rv r_395, iv 0, .unset, .unset] [(.ref r_395), (.int 0)])) rfl rfl (hb hby d50_31) _ (by rw [len_of S448 M448]; exact k)) ?_
    obtain ⟨cq449, q449, q449'⟩ := f436_0.cell
    obtain ⟨v449, _, ⟨T449, L449, k449, n449⟩, -, X449, ⟨Lc449, hQ449, l449, y449, z449⟩, st449⟩ := X436.privateBack hx (y := yM11) hown0 (mvT hZ0 (w_96 hw)) (mvT hZ0 (w_97 hw)) (own_selI (mvT hZ0 (w_38 hw)) (Cond.privateMethod_at (mvP hZ0 (w_98 hw) (args := #[]))) (mvT hZ0 (w_97 hw)) (by decide)) (Cond.privateMethod_at (mvP hZ0 (w_98 hw) (args := #[]))) (mvT hZ0 (w_99 hw)) (by decide) (backOf (W := 0) (rmLbN l Z a0 hw [] a1 (u + (1 : Int32)) al md ee ke x kb T436.heap f436_0 f436_1 f436_2 f436_3 f436_4 f436_5 f436_6 f436_7 f436_8 f436_9 (own_us20' hu)) hZ0 (w_99 hw) (w_39 hw) (by decide) (by decide)) (g := (mkF m 36 #[rv a1, rv sa, rv r_395, iv 0, .unset, .unset] [(.ref a1)])) rfl (by rw [hml]; rfl) (Steps.refl _) (a := a1) (by rw [eK436]; exact q449) q449' (argsL := []) (rest := []) (lenOf pd_10 rfl) rfl (by show 2 * 0 + _ ≤ _; exact Nat.le_of_eq rfl) (hb hby d50_36) (fun _ _ => ⟨rfl, eK436, (by decide : 2 + 0 ≤ _), (by decide : 22 + 0 ≤ _)⟩)
    dsimp only [Pt.U, Pt.locs, Pt.cells, Pt.slots] at X449 l449 y449 z449 st449 hQ449
    subst l449 y449 z449
    obtain ⟨rfl, Nq449, eh449⟩ := hQ449
    have N449 := Fr.app N436 Nq449
    obtain ⟨cl450, Ar450, q450, S450, M450, H450, U450⟩ := id F447
    refine Go.on (w := T449.setTop (mkF m 42 #[rv a1, rv sa, rv r_395, iv 0, rv x, .unset] [(.ref r_395)])) (fun t k => XS.icmpNo X436.here hx rfl (hb hby d50_32) rfl (tlt (by decide : (0 : Int32) < (8 : Int32))).2.1 (XS.aloadN X436.here hx rfl (hb hby d50_35) rfl rfl (st449.trans (XS.astore X449.here hx rfl (hb hby d50_39) rfl rfl (l' := #[rv a1, rv sa, rv r_395, iv 0, rv x, .unset]) rfl (XS.aloadN X449.here hx rfl (hb hby d50_41) rfl rfl k))))) ?_
    refine Go.on (w := T449.setTop (mkF m 43 #[rv a1, rv sa, rv r_395, iv 0, rv x, .unset] [(.int 8)])) (fun t k => X449.arraylength hx (by rw [eh449]; exact Ar450.1) (State.isArrayOf_alike hZ0.alike Ar450.2.1) (g := (mkF m 42 #[rv a1, rv sa, rv r_395, iv 0, rv x, .unset] [(.ref r_395)])) rfl rfl (hb hby d50_42) _ (by rw [len_of S450 M450]; exact k)) ?_
    refine Go.on (w := T449.setTop (mkF m 44 #[rv a1, rv sa, rv r_395, iv 0, rv x, .unset] [(.int 0), (.int 8)])) (fun t k => XS.iloadN X449.here hx rfl (hb hby d50_43) rfl k) ?_
    refine Go.on (w := T449.setTop (mkF m 45 #[rv a1, rv sa, rv r_395, iv 0, rv x, .unset] [(.int 8)])) (fun t k => XS.isub X449.here hx rfl (hb hby d50_44) rfl (by rw [(by decide : ((8 : Int32) - (0 : Int32)) = (8 : Int32))]; exact k)) ?_
    obtain ⟨vs451, hl451, Vb451⟩ := id f436_8
    obtain ⟨cl452, Ar452, q452, S452, M452, H452, U452⟩ := id Vb451
    refine Go.on (w := T449.setTop (mkF m 47 #[rv a1, rv sa, rv r_395, iv 0, rv x, .unset] [(.ref x), (.int 8)])) (fun t k => XS.aload X449.here hx rfl (hb hby d50_45) rfl rfl k) ?_
    refine Go.on (w := T449.setTop (mkF m 48 #[rv a1, rv sa, rv r_395, iv 0, rv x, .unset] [(.int 64), (.int 8)])) (fun t k => X449.arraylength hx (by rw [eh449]; exact Ar452.1) (State.isArrayOf_alike hZ0.alike Ar452.2.1) (g := (mkF m 47 #[rv a1, rv sa, rv r_395, iv 0, rv x, .unset] [(.ref x), (.int 8)])) rfl rfl (hb hby d50_47) _ (by rw [len_of S452 M452]; exact k)) ?_
    obtain ⟨T453, X453, e453, st453⟩ := getF X449 hx hZ0 hown0 (host := "") (Or.inl (w_174 hw)) Via.refl eh449 f436_2 (g := (mkF m 49 #[rv a1, rv sa, rv r_395, iv 0, rv x, .unset] [(.ref a1), (.int 64), (.int 8)])) rfl rfl (hb hby d50_49)
    obtain ⟨v454, _, ⟨T454, L454, k454, n454⟩, -, X454, ⟨Lc454, hQ454, l454, y454, z454⟩, st454⟩ := Jvm.LawKit.callS X453 hx (y := yM49) hown0 (mvT hZ0 (w_327 hw)) (mvT hZ0 (w_288 hw)) (mvT hZ0 (w_138 hw)) (mvT hZ0 (w_289 hw)) (by decide) (backOf (W := 0) (rmMin l Z a0 hw [] (8 : Int32) ((64 : Int32) - (u + (1 : Int32))) T436.heap (own_usM8 hu)) hZ0 (w_289 hw) (w_138 hw) (by decide) (by decide)) (g := (mkF m 53 #[rv a1, rv sa, rv r_395, iv 0, rv x, .unset] [(.int ((64 : Int32) - (u + (1 : Int32)))), (.int 8)])) rfl (by rw [hml]; rfl) (argsL := [(.int 8), (.int ((64 : Int32) - (u + (1 : Int32))))]) (rest := []) (lenOf pd_2 rfl) rfl (by show 2 * 0 + _ ≤ _; exact Nat.le_of_eq rfl) (hb hby d50_53) (fun _ _ => ⟨rfl, e453, (by decide : 2 + 0 ≤ _), (by decide : 22 + 0 ≤ _)⟩)
    dsimp only [Pt.U, Pt.locs, Pt.cells, Pt.slots] at X454 l454 y454 z454 st454 hQ454
    subst l454 y454 z454
    obtain ⟨rfl, Nq454, eh454⟩ := hQ454
    have N454 := Fr.app N449 Nq454
    obtain ⟨T455, X455, e455, st455⟩ := getF X454 hx hZ0 hown0 (host := "") (Or.inl (w_174 hw)) Via.refl eh454 f436_2 (g := (mkF m 63 #[rv a1, rv sa, rv r_395, iv 0, rv x, iv 8] [(.ref a1), (.ref x), (.int 0), (.ref r_395)])) rfl rfl (hb hby d50_63)
    obtain ⟨T456, h456, L456, X456, e456, N456, K456, V456, st456⟩ := own_cpBlk X455 hx hZ0 hown0 (w_328 hw) (w_246 hw) (w_244 hw) (w_245 hw) e455 F447 f436_8 (dp := (u + (1 : Int32))) (nn := (8 : Int32)) (own_us20' hu) (own_usC8 hu) N454 (by omega) (g := (mkF m 68 #[rv a1, rv sa, rv r_395, iv 0, rv x, iv 8] [(.int 8), (.int (u + (1 : Int32))), (.ref x), (.int 0), (.ref r_395)])) rfl (by rw [hml]; rfl) rfl (hb hby d50_68) (by decide) (W := 0) (by show 2 * 0 + _ ≤ _; exact Nat.le_of_eq rfl) (by decide)
    have z456 : T436.heap.size ≤ h456.size := K456.1
    have KP456 : Keep h0 h456 ([a1, x] : List Addr) := KP436.trans K456 (allS (P := fun zq => zq ∈ ([a1, x] : List Addr) ∨ h0.size ≤ zq) (Or.inl (List.mem_of_getElem? (i := 1) rfl)) all0)
    have F457 := (f436_2.keep K456 (ninS ne_a1_x nin0))
    obtain ⟨T458, X458, e458, st458⟩ := getF X456 hx hZ0 hown0 (host := "") (Or.inl (w_174 hw)) Via.refl e456 F457 (g := (mkF m 73 #[rv a1, rv sa, rv r_395, iv 0, rv x, iv 8] [(.ref a1), (.ref a1)])) rfl rfl (hb hby d50_73)
    have F459 := (f436_0.keep K456)
    obtain ⟨T460, h460, X460, e460, W460, st460⟩ := putF X458 hx hZ0 hown0 (host := "") (Or.inl (w_174 hw)) Via.refl e458 F457 F459 (Or.inl (w_175 hw)) (w_38 hw) (ty := .int) (by decide) rfl rfl (g := (mkF m 79 #[rv a1, rv sa, rv r_395, iv 0, rv x, iv 8] [(.int ((u + (1 : Int32)) + (8 : Int32))), (.ref a1)])) rfl rfl (hb hby d50_79)
    have z460 : h456.size ≤ h460.size := Nat.le_of_eq W460.size.symm
    have KP460 : Keep h0 h460 ([a1, x] : List Addr) := KP456.wr W460 (Or.inl (List.mem_of_getElem? (i := 0) rfl))
    have N460 := Fr.snoc X460 N456 (by omega)
    have Fw460 := F457.same W460
    refine Go.on (w := T460.setTop (mkF m 85 #[rv a1, rv sa, rv r_395, iv 0, rv x, iv 8] [(.int 8), (.int 0)])) (fun t k => XS.aloadN X449.here hx rfl (hb hby d50_48) rfl rfl (st453 _ (XS.isub X453.here hx rfl (hb hby d50_52) rfl (st454 _ (XS.istore X454.here hx rfl (hb hby d50_56) rfl (l' := #[rv a1, rv sa, rv r_395, iv 0, rv x, iv 8]) rfl (XS.aloadN X454.here hx rfl (hb hby d50_58) rfl rfl (XS.iloadN X454.here hx rfl (hb hby d50_59) rfl (XS.aload X454.here hx rfl (hb hby d50_60) rfl rfl (XS.aloadN X454.here hx rfl (hb hby d50_62) rfl rfl (st455 _ (XS.iload X455.here hx rfl (hb hby d50_66) rfl (st456 _ (XS.aloadN X456.here hx rfl (hb hby d50_71) rfl rfl (XS.dup X456.here hx rfl (hb hby d50_72) rfl rfl (st458 _ (XS.iload X458.here hx rfl (hb hby d50_76) rfl (XS.iadd X458.here hx rfl (hb hby d50_78) rfl (st460 _ (XS.iloadN X460.here hx rfl (hb hby d50_82) rfl (XS.iload X460.here hx rfl (hb hby d50_83) rfl k)))))))))))))))))))) ?_
    refine Go.on (w := T460.setTop (mkF m 86 #[rv a1, rv sa, rv r_395, iv 0, rv x, iv 8] [(.int 8)])) (fun t k => XS.iadd X460.here hx rfl (hb hby d50_85) rfl (by rw [(by decide : ((0 : Int32) + (8 : Int32)) = (8 : Int32))]; exact k)) ?_
    have F461 := ((F447.keep K456 (ninS (show @Ne Nat r_395 x by omega) nin0)).other W460 (show @Ne Nat r_395 a1 by omega))
    obtain ⟨cl462, Ar462, q462, S462, M462, H462, U462⟩ := id F461
    refine Go.on (w := T460.setTop (mkF m 31 #[rv a1, rv sa, rv r_395, iv 8, rv x, iv 8] [(.ref r_395), (.int 8)])) (fun t k => XS.istoreN X460.here hx rfl (hb hby d50_86) rfl (l' := #[rv a1, rv sa, rv r_395, iv 8, rv x, iv 8]) rfl (XS.goto X460.here hx rfl (pc0 := 87) (pc' := 29) rfl (hb hby d50_87) (by decide) (by decide) (XS.iloadN X460.here hx rfl (hb hby d50_29) rfl (XS.aloadN X460.here hx rfl (hb hby d50_30) rfl rfl k)))) ?_
    refine Go.on (w := T460.setTop (mkF m 32 #[rv a1, rv sa, rv r_395, iv 8, rv x, iv 8] [(.int 8), (.int 8)])) (fun t k => X460.arraylength hx (by rw [e460]; exact Ar462.1) (State.isArrayOf_alike hZ0.alike Ar462.2.1) (g := (mkF m 31 #[rv a1, rv sa, rv r_395, iv 8, rv x, iv 8] [(.ref r_395), (.int 8)])) rfl rfl (hb hby d50_31) _ (by rw [len_of S462 M462]; exact k)) ?_
    have F463 := (F459.wr W460)
    have F464 := ((f436_1.keep K456 (ninS ne_a1_x nin0)).other W460 (Or.inr (slot_ne (Or.inr (w_69 hw)) (Or.inl (w_175 hw)) (by decide) (t := (.object "java/util/List")) (t' := .int) (by decide) (by decide))))
    have F465 := ((f436_3.keep K456).wr W460)
    have F466 := ((f436_4.keep K456 (ninS ne_al_x nin0)).other W460 (Or.inl ne_al_a1))
    have F467 := ((f436_5.keep K456 (ninS ne_al_x nin0)).other W460 (Or.inl ne_al_a1))
    have F468 := ((f436_6.keep K456 (ninS ne_al_x nin0)).other W460 (Or.inl ne_al_a1))
    have F469 := ((f436_7.keep K456 (ninS ne_ee_x nin0)).other W460 ne_ee_a1)
    have F470 := (V456.other W460 (Ne.symm ne_a1_x))
    have F471 := ((f436_9.keep K456).wr W460)
    refine Go.on (w := T460.setTop (mkF m 90 #[rv a1, rv sa, rv r_395, iv 8, rv x, iv 8] [])) (fun t k => XS.icmpYes X460.here hx rfl (pc0 := 32) (pc' := 90) rfl (hb hby d50_32) rfl (flt (by decide : ¬ ((8 : Int32) < (8 : Int32)))).2.1 (by decide) (by decide) k) ?_
    refine Go.finH X460 hlk (v := none) (fun _ => rfl) (fun fs hr => ?_) (endH (Q := Q_rmWs1 Z a1 u al md ee ke x kb sa ta q G1 v0 cu h0) (by rw [e460]; exact ⟨((u + (1 : Int32)) + (8 : Int32)), rfl, N460, KP460, F463, F464, Fw460, F465, F466, F467, F468, F469, F470, F471, (own_usW8 hu)⟩) (by decide) (by decide))
    exact X460.returnOut hx Bd.returns (hb hby d50_90) hr
def Q_rmEgE0 (Z : State) (kr : Addr) (a1 : Addr) (al : Addr) (md : Int32) (dd : Addr) (qd : ClassId) (h0 : Heap) (vv : Option Value) (h : Heap) (L : List Loc) : Prop := ∃ (ee : Addr) (ke : ClassId) (x : Addr) (kb : ClassId), vv = none ∧ Fr Z.heap.size L ∧ Keep h0 h [a1, al] ∧ (h0.size ≤ ee) ∧ (h0.size ≤ x) ∧ (@Ne Nat ee x) ∧ Exa Z h a1 "com/example/realmwright/realmwright/ByteLog" ∧ Fld Z h a1 "com/example/realmwright/realmwright/ByteLog" "blocks" "Ljava/util/List;" (.ref al) ∧ Fld Z h a1 "com/example/realmwright/realmwright/ByteLog" "used" "I" (.int ((((1 : Int32) + (1 : Int32)) + (1 : Int32)) + (1 : Int32))) ∧ Exa Z h al "java/util/ArrayList" ∧ Fld Z h al "java/util/AbstractList" "modCount" "I" (.int (md + (1 : Int32))) ∧ Fld Z h al "java/util/ArrayList" "elementData" "[Ljava/lang/Object;" (.ref ee) ∧ Fld Z h al "java/util/ArrayList" "size" "I" (.int 1) ∧ Arv Z h ee ke (.object "java/lang/Object") (10 : Int32) [(.ref x), .null, .null, .null, .null, .null, .null, .null, .null, .null] .null ∧ own_blk Z h x kb ∧ Exa Z h x "[B"
theorem ef_rmEgE0 (m : MethodId) (x0 : Addr) (x1 : Int32) (x2 : Int32)   : entryFrame m #[(.ref x0), (.int x1), (.int x2), .null] 4 = mkF m 0 #[.val (.ref x0), .val (.int x1), .val (.int x2), .val .null] [] := rfl
theorem rmEgE0 (l : Launch) (Z : State) (a0 : Array Value) (hw : HW a0 Z) (ws : List Cond) (kr : Addr) (a1 : Addr) (al : Addr) (md : Int32) (dd : Addr) (qd : ClassId) (h0 : Heap) (Z0 : Z.heap.size ≤ h0.size) (OL : Old Z Z.heap.size h0) (OD : Sta Z Z.heap "java/util/ArrayList" "DEFAULTCAPACITY_EMPTY_ELEMENTDATA" "[Ljava/lang/Object;" (.ref dd)) (VD : Arv Z Z.heap dd qd (.object "java/lang/Object") (0 : Int32) [] .null) (lo_a1 : Z.heap.size ≤ a1) (lo_al : Z.heap.size ≤ al) (ne_al_a1 : al ≠ a1) (L0 : Exa Z h0 a1 "com/example/realmwright/realmwright/ByteLog") (L1 : Fld Z h0 a1 "com/example/realmwright/realmwright/ByteLog" "blocks" "Ljava/util/List;" (.ref al)) (L2 : Fld Z h0 a1 "com/example/realmwright/realmwright/ByteLog" "used" "I" (.int 0)) (L3 : Exa Z h0 al "java/util/ArrayList") (L4 : Fld Z h0 al "java/util/AbstractList" "modCount" "I" (.int md)) (L5 : Fld Z h0 al "java/util/ArrayList" "elementData" "[Ljava/lang/Object;" (.ref dd)) (L6 : Fld Z h0 al "java/util/ArrayList" "size" "I" (.int 0)) (ne_kr_a1 : kr ≠ a1) (ne_kr_al : kr ≠ al) (K0 : Exa Z h0 kr "com/example/realmwright/realmwright/KeycloakRoles") (K1 : Fld Z h0 kr "com/example/realmwright/realmwright/KeycloakRoles" "groups" "Lcom/example/realmwright/realmwright/ByteLog;" (.ref a1)) :
    MetFree l yM58 (head1 (Cond.code yM58 prog_22_method_6_code 4 none :: ws) (⟨8, 2, 74, 111⟩ : Room)) (fun a U => a = #[(.ref kr), (.int 0), (.int (-1)), .null] ∧ Z.Warmed39 U.vm ∧ U.heap = h0) (fun _ _ _ _ _ => True) (fun _ U o U' => ∃ v L, o = .returned v ∧ Q_rmEgE0 Z kr a1 al md dd qd h0 v U'.heap L ∧ FrameEnd U o U' L (⟨8, 2, 74, 111⟩ : Room).cells (⟨8, 2, 74, 111⟩ : Room).slots) := by
  refine MetFree.of_bodySF (plainFor_of_name (by first | (simp [plainName, overriddenIn]; done) | decide +kernel)) hisR ?_
  intro p e s m args below meth c s₁ Bd hml0 hP hK
  obtain ⟨rfl, hZ0', hh⟩ := hP
  have hx := Bd.exec
  have hby := Bd.bytes
  have hml : c.maxLocals = 4 := hml0
  have hZ0 : Z.Warmed39 s.vm := hZ0'
  have hown0 : s.vm.findClass "com/example/realmwright/realmwright/KeycloakRoles" = some m.cls := findClass_of_methodNamed Bd.named
  have hnm := (name_of_methodNamed Bd.named Bd.method).1
  have hlk : meth.locks = false := Bd.notSynchronized
  have X0 : Stand p l e (⟨8, 2, 74, 111⟩ : Room) s m #[(.ref kr), (.int 0), (.int (-1)), .null] below meth c s₁ [] 0 0 := Stand.of_body Bd
  have e0 : s₁.heap = h0 := by rw [← hh, Bd.state]; rfl
  have N0 := Fr.nil Z.heap.size
  have KP0 : Keep h0 h0 ([a1, al] : List Addr) := Keep.refl _ _
  show Go p e below (fun t o => ∃ v L, o = .returned v ∧ Q_rmEgE0 Z kr a1 al md dd qd h0 v t.heap L ∧ FrameEnd s o t L (⟨8, 2, 74, 111⟩ : Room).cells (⟨8, 2, 74, 111⟩ : Room).slots) (s₁.setTop (entryFrame m #[(.ref kr), (.int 0), (.int (-1)), .null] 4))
  refine Go.on (w := s₁.setTop (mkF m 0 #[rv kr, iv 0, iv (-1), .val .null] [])) (fun t k => castTop (ef_rmEgE0 m kr (0 : Int32) (-1 : Int32)) k) ?_
  have u_a1 : h0.size > a1 := L0.lt
  have u_al : h0.size > al := L3.lt
  have u_kr : h0.size > kr := K0.lt
  obtain ⟨T472, X472, e472, st472⟩ := getF X0 hx hZ0 hown0 (host := "") (Or.inl (w_72 hw)) Via.refl e0 K1 (g := (mkF m 1 #[rv kr, iv 0, iv (-1), .val .null] [(.ref kr)])) rfl rfl (hb hby d51_1)
  obtain ⟨cq473, kq473, q473a, q473b, q473c⟩ := isOf hZ0 e472 L0
  obtain ⟨v473, _, ⟨T473, L473, k473, n473⟩, -, X473, ⟨Lc473, hQ473, l473, y473, z473⟩, st473⟩ := X472.virtualBack hx (y := yM9) (z := yM9) hown0 (mvT hZ0 (w_86 hw)) (mvT hZ0 (w_87 hw)) (notFace_of_selects (args := #[]) (mvT hZ0 (w_89 hw))) (mvT hZ0 (w_89 hw)) (mvT hZ0 (w_88 hw)) (by decide) (backOf (W := 0) (rmWcE0 l Z a0 hw [] a1 al md dd qd h0 (by omega) OL OD VD (by omega) (by omega) ne_al_a1 L0 L1 L2 L3 L4 L5 L6) hZ0 (w_90 hw) (w_39 hw) (by decide) (by decide)) q473a q473c (g := (mkF m 5 #[rv kr, iv 0, iv (-1), .val .null] [(.long 0), (.ref a1)])) rfl (by rw [hml]; rfl) (Steps.refl _) (argsL := [(.long 0)]) (rest := []) (lenOf pd_30 rfl) rfl (by show 2 * 0 + _ ≤ _; exact Nat.le_of_eq rfl) (hb hby d51_5) (fun _ _ => ⟨rfl, e472, (by decide : 0 + 2 ≤ _), (by decide : 0 + 74 ≤ _)⟩)
  dsimp only [Pt.U, Pt.locs, Pt.cells, Pt.slots] at X473 l473 y473 z473 st473 hQ473
  subst l473 y473 z473
  obtain ⟨ee_473, ke_473, x_473, kb_473, rfl, Nq473, K473, f473_0, f473_1, f473_2, f473_3, f473_4, f473_5, f473_6, f473_7, f473_8, f473_9, f473_10, f473_11, f473_12⟩ := hQ473
  have N473 := Fr.app N0 Nq473
  have eK473 : T473.heap = T473.heap := rfl
  have z473 : h0.size ≤ T473.heap.size := K473.1
  have KP473 : Keep h0 T473.heap ([a1, al] : List Addr) := KP0.trans K473 (allS (P := fun zq => zq ∈ ([a1, al] : List Addr) ∨ h0.size ≤ zq) (Or.inl (List.mem_of_getElem? (i := 0) rfl)) (allS (P := fun zq => zq ∈ ([a1, al] : List Addr) ∨ h0.size ≤ zq) (Or.inl (List.mem_of_getElem? (i := 1) rfl)) all0))
  have u473_10 : T473.heap.size > ee_473 := f473_10.lt
  have u473_11 : T473.heap.size > x_473 := f473_11.lt
  have u473_12 : T473.heap.size > x_473 := f473_12.lt
  have F474 := (K1.keep K473 (ninS ne_kr_a1 (ninS ne_kr_al nin0)))
  obtain ⟨T475, X475, e475, st475⟩ := getF X473 hx hZ0 hown0 (host := "") (Or.inl (w_72 hw)) Via.refl eK473 F474 (g := (mkF m 9 #[rv kr, iv 0, iv (-1), .val .null] [(.ref kr)])) rfl rfl (hb hby d51_9)
  refine Go.on (w := T475.setTop (mkF m 13 #[rv kr, iv 0, iv (-1), .val .null] [(.int 0), (.ref a1)])) (fun t k => XS.aloadN X0.here hx rfl (hb hby d51_0) rfl rfl (st472 _ (XS.lconst X472.here hx rfl (hb hby d51_4) (st473.trans (XS.aloadN X473.here hx rfl (hb hby d51_8) rfl rfl (st475 _ (XS.iloadN X475.here hx rfl (hb hby d51_12) rfl k))))))) ?_
  refine Go.on (w := T475.setTop (mkF m 14 #[rv kr, iv 0, iv (-1), .val .null] [(.long 0), (.ref a1)])) (fun t k => XS.i2l X475.here hx rfl (hb hby d51_13) rfl (by rw [(by decide : ((0 : Int32).toInt64) = (0 : Int64))]; exact k)) ?_
  obtain ⟨cq476, kq476, q476a, q476b, q476c⟩ := isOf hZ0 e475 f473_3
  obtain ⟨v476, _, ⟨T476, L476, k476, n476⟩, -, X476, ⟨Lc476, hQ476, l476, y476, z476⟩, st476⟩ := X475.virtualBack hx (y := yM9) (z := yM9) hown0 (mvT hZ0 (w_86 hw)) (mvT hZ0 (w_87 hw)) (notFace_of_selects (args := #[]) (mvT hZ0 (w_89 hw))) (mvT hZ0 (w_89 hw)) (mvT hZ0 (w_88 hw)) (by decide) (backOf (W := 0) (rmWcN0 l Z a0 hw [] a1 (1 : Int32) al (md + (1 : Int32)) ee_473 ke_473 x_473 kb_473 T473.heap (by omega) (by omega) (by omega) ne_al_a1 (show @Ne Nat ee_473 a1 by omega) (show @Ne Nat al x_473 by omega) (show @Ne Nat ee_473 x_473 by omega) (show @Ne Nat a1 x_473 by omega) f473_3 f473_4 f473_5 f473_6 f473_7 f473_8 f473_9 f473_10 f473_11 f473_12 (by unfold own_us; decide)) hZ0 (w_90 hw) (w_39 hw) (by decide) (by decide)) q476a q476c (g := (mkF m 14 #[rv kr, iv 0, iv (-1), .val .null] [(.long 0), (.ref a1)])) rfl (by rw [hml]; rfl) (Steps.refl _) (argsL := [(.long 0)]) (rest := []) (lenOf pd_30 rfl) rfl (by show 2 * 0 + _ ≤ _; exact Nat.le_of_eq rfl) (hb hby d51_14) (fun _ _ => ⟨rfl, e475, (by decide : 2 + 0 ≤ _), (by decide : 74 + 0 ≤ _)⟩)
  dsimp only [Pt.U, Pt.locs, Pt.cells, Pt.slots] at X476 l476 y476 z476 st476 hQ476
  subst l476 y476 z476
  obtain ⟨rfl, Nq476, K476, f476_0, f476_1, f476_2, f476_3, f476_4, f476_5, f476_6, f476_7, f476_8, f476_9⟩ := hQ476
  have N476 := Fr.app N473 Nq476
  have eK476 : T476.heap = T476.heap := rfl
  have z476 : T473.heap.size ≤ T476.heap.size := K476.1
  have KP476 : Keep h0 T476.heap ([a1, al] : List Addr) := KP473.trans K476 (allS (P := fun zq => zq ∈ ([a1, al] : List Addr) ∨ h0.size ≤ zq) (Or.inl (List.mem_of_getElem? (i := 0) rfl)) (allS (P := fun zq => zq ∈ ([a1, al] : List Addr) ∨ h0.size ≤ zq) (Or.inr (by omega)) all0))
  have F477 := (F474.keep K476 (ninS ne_kr_a1 (ninS (show @Ne Nat kr x_473 by omega) nin0)))
  obtain ⟨T478, X478, e478, st478⟩ := getF X476 hx hZ0 hown0 (host := "") (Or.inl (w_72 hw)) Via.refl eK476 F477 (g := (mkF m 18 #[rv kr, iv 0, iv (-1), .val .null] [(.ref kr)])) rfl rfl (hb hby d51_18)
  refine Go.on (w := T478.setTop (mkF m 23 #[rv kr, iv 0, iv (-1), .val .null] [(.int 1), (.int (-1)), (.ref a1)])) (fun t k => st476.trans (XS.aloadN X476.here hx rfl (hb hby d51_17) rfl rfl (st478 _ (XS.iloadN X478.here hx rfl (hb hby d51_21) rfl (XS.iconst X478.here hx rfl (hb hby d51_22) k))))) ?_
  refine Go.on (w := T478.setTop (mkF m 24 #[rv kr, iv 0, iv (-1), .val .null] [(.int 0), (.ref a1)])) (fun t k => XS.iadd X478.here hx rfl (hb hby d51_23) rfl (by rw [(by decide : ((-1 : Int32) + (1 : Int32)) = (0 : Int32))]; exact k)) ?_
  refine Go.on (w := T478.setTop (mkF m 25 #[rv kr, iv 0, iv (-1), .val .null] [(.long 0), (.ref a1)])) (fun t k => XS.i2l X478.here hx rfl (hb hby d51_24) rfl (by rw [(by decide : ((0 : Int32).toInt64) = (0 : Int64))]; exact k)) ?_
  obtain ⟨cq479, kq479, q479a, q479b, q479c⟩ := isOf hZ0 e478 f476_0
  obtain ⟨v479, _, ⟨T479, L479, k479, n479⟩, -, X479, ⟨Lc479, hQ479, l479, y479, z479⟩, st479⟩ := X478.virtualBack hx (y := yM9) (z := yM9) hown0 (mvT hZ0 (w_86 hw)) (mvT hZ0 (w_87 hw)) (notFace_of_selects (args := #[]) (mvT hZ0 (w_89 hw))) (mvT hZ0 (w_89 hw)) (mvT hZ0 (w_88 hw)) (by decide) (backOf (W := 0) (rmWcN0 l Z a0 hw [] a1 ((1 : Int32) + (1 : Int32)) al (md + (1 : Int32)) ee_473 ke_473 x_473 kb_473 T476.heap (by omega) (by omega) (by omega) ne_al_a1 (show @Ne Nat ee_473 a1 by omega) (show @Ne Nat al x_473 by omega) (show @Ne Nat ee_473 x_473 by omega) (show @Ne Nat a1 x_473 by omega) f476_0 f476_1 f476_2 f476_3 f476_4 f476_5 f476_6 f476_7 f476_8 f476_9 (by unfold own_us; decide)) hZ0 (w_90 hw) (w_39 hw) (by decide) (by decide)) q479a q479c (g := (mkF m 25 #[rv kr, iv 0, iv (-1), .val .null] [(.long 0), (.ref a1)])) rfl (by rw [hml]; rfl) (Steps.refl _) (argsL := [(.long 0)]) (rest := []) (lenOf pd_30 rfl) rfl (by show 2 * 0 + _ ≤ _; exact Nat.le_of_eq rfl) (hb hby d51_25) (fun _ _ => ⟨rfl, e478, (by decide : 2 + 0 ≤ _), (by decide : 74 + 0 ≤ _)⟩)
  dsimp only [Pt.U, Pt.locs, Pt.cells, Pt.slots] at X479 l479 y479 z479 st479 hQ479
  subst l479 y479 z479
  obtain ⟨rfl, Nq479, K479, f479_0, f479_1, f479_2, f479_3, f479_4, f479_5, f479_6, f479_7, f479_8, f479_9⟩ := hQ479
  have N479 := Fr.app N476 Nq479
  have eK479 : T479.heap = T479.heap := rfl
  have z479 : T476.heap.size ≤ T479.heap.size := K479.1
  have KP479 : Keep h0 T479.heap ([a1, al] : List Addr) := KP476.trans K479 (allS (P := fun zq => zq ∈ ([a1, al] : List Addr) ∨ h0.size ≤ zq) (Or.inl (List.mem_of_getElem? (i := 0) rfl)) (allS (P := fun zq => zq ∈ ([a1, al] : List Addr) ∨ h0.size ≤ zq) (Or.inr (by omega)) all0))
  have F480 := (F477.keep K479 (ninS ne_kr_a1 (ninS (show @Ne Nat kr x_473 by omega) nin0)))
  obtain ⟨T481, X481, e481, st481⟩ := getF X479 hx hZ0 hown0 (host := "") (Or.inl (w_72 hw)) Via.refl eK479 F480 (g := (mkF m 29 #[rv kr, iv 0, iv (-1), .val .null] [(.ref kr)])) rfl rfl (hb hby d51_29)
  obtain ⟨cq482, kq482, q482a, q482b, q482c⟩ := isOf hZ0 e481 f479_0
  obtain ⟨v482, _, ⟨T482, L482, k482, n482⟩, -, X482, ⟨Lc482, hQ482, l482, y482, z482⟩, st482⟩ := X481.virtualBack hx (y := yM50) (z := yM50) hown0 (mvT hZ0 (w_291 hw)) (mvT hZ0 (w_292 hw)) (notFace_of_selects (args := #[]) (mvT hZ0 (w_294 hw))) (mvT hZ0 (w_294 hw)) (mvT hZ0 (w_293 hw)) (by decide) (backOf (W := 0) (rmWs0 l Z a0 hw [] a1 (((1 : Int32) + (1 : Int32)) + (1 : Int32)) al (md + (1 : Int32)) ee_473 ke_473 x_473 kb_473 T479.heap (by omega) (by omega) (by omega) ne_al_a1 (show @Ne Nat ee_473 a1 by omega) (show @Ne Nat al x_473 by omega) (show @Ne Nat ee_473 x_473 by omega) (show @Ne Nat a1 x_473 by omega) f479_0 f479_1 f479_2 f479_3 f479_4 f479_5 f479_6 f479_7 f479_8 f479_9 (by unfold own_us; decide)) hZ0 (w_295 hw) (w_39 hw) (by decide) (by decide)) q482a q482c (g := (mkF m 33 #[rv kr, iv 0, iv (-1), .val .null] [.null, (.ref a1)])) rfl (by rw [hml]; rfl) (Steps.refl _) (argsL := [.null]) (rest := []) (lenOf pd_13 rfl) rfl (by show 2 * 0 + _ ≤ _; exact Nat.le_of_eq rfl) (hb hby d51_33) (fun _ _ => ⟨rfl, e481, (by decide : 2 + 0 ≤ _), (by decide : 74 + 0 ≤ _)⟩)
  dsimp only [Pt.U, Pt.locs, Pt.cells, Pt.slots] at X482 l482 y482 z482 st482 hQ482
  subst l482 y482 z482
  obtain ⟨rfl, Nq482, K482, f482_0, f482_1, f482_2, f482_3, f482_4, f482_5, f482_6, f482_7, f482_8, f482_9⟩ := hQ482
  have N482 := Fr.app N479 Nq482
  have eK482 : T482.heap = T482.heap := rfl
  have z482 : T479.heap.size ≤ T482.heap.size := K482.1
  have KP482 : Keep h0 T482.heap ([a1, al] : List Addr) := KP479.trans K482 (allS (P := fun zq => zq ∈ ([a1, al] : List Addr) ∨ h0.size ≤ zq) (Or.inl (List.mem_of_getElem? (i := 0) rfl)) (allS (P := fun zq => zq ∈ ([a1, al] : List Addr) ∨ h0.size ≤ zq) (Or.inr (by omega)) all0))
  refine Go.on (w := T482.setTop (mkF m 36 #[rv kr, iv 0, iv (-1), .val .null] [])) (fun t k => st479.trans (XS.aloadN X479.here hx rfl (hb hby d51_28) rfl rfl (st481 _ (XS.aloadN X481.here hx rfl (hb hby d51_32) rfl rfl (st482.trans k))))) ?_
  refine Go.finH X482 hlk (v := none) (fun _ => rfl) (fun fs hr => ?_) (endH (Q := Q_rmEgE0 Z kr a1 al md dd qd h0) (by rw [eK482]; exact ⟨ee_473, ke_473, x_473, kb_473, rfl, N482, KP482, (by omega), (by omega), (by omega), f482_0, f482_1, f482_2, f482_3, f482_4, f482_5, f482_6, f482_7, f482_8, f482_9⟩) (by decide) (by decide))
  exact X482.returnOut hx Bd.returns (hb hby d51_36) hr
def Q_rmEgE2 (Z : State) (kr : Addr) (a1 : Addr) (al : Addr) (md : Int32) (dd : Addr) (qd : ClassId) (h0 : Heap) (vv : Option Value) (h : Heap) (L : List Loc) : Prop := ∃ (ee : Addr) (ke : ClassId) (x : Addr) (kb : ClassId), vv = none ∧ Fr Z.heap.size L ∧ Keep h0 h [a1, al] ∧ (h0.size ≤ ee) ∧ (h0.size ≤ x) ∧ (@Ne Nat ee x) ∧ Exa Z h a1 "com/example/realmwright/realmwright/ByteLog" ∧ Fld Z h a1 "com/example/realmwright/realmwright/ByteLog" "blocks" "Ljava/util/List;" (.ref al) ∧ Fld Z h a1 "com/example/realmwright/realmwright/ByteLog" "used" "I" (.int ((((1 : Int32) + (1 : Int32)) + (1 : Int32)) + (1 : Int32))) ∧ Exa Z h al "java/util/ArrayList" ∧ Fld Z h al "java/util/AbstractList" "modCount" "I" (.int (md + (1 : Int32))) ∧ Fld Z h al "java/util/ArrayList" "elementData" "[Ljava/lang/Object;" (.ref ee) ∧ Fld Z h al "java/util/ArrayList" "size" "I" (.int 1) ∧ Arv Z h ee ke (.object "java/lang/Object") (10 : Int32) [(.ref x), .null, .null, .null, .null, .null, .null, .null, .null, .null] .null ∧ own_blk Z h x kb ∧ Exa Z h x "[B"
theorem ef_rmEgE2 (m : MethodId) (x0 : Addr) (x1 : Int32) (x2 : Int32)   : entryFrame m #[(.ref x0), (.int x1), (.int x2), .null] 4 = mkF m 0 #[.val (.ref x0), .val (.int x1), .val (.int x2), .val .null] [] := rfl
theorem rmEgE2 (l : Launch) (Z : State) (a0 : Array Value) (hw : HW a0 Z) (ws : List Cond) (kr : Addr) (a1 : Addr) (al : Addr) (md : Int32) (dd : Addr) (qd : ClassId) (h0 : Heap) (Z0 : Z.heap.size ≤ h0.size) (OL : Old Z Z.heap.size h0) (OD : Sta Z Z.heap "java/util/ArrayList" "DEFAULTCAPACITY_EMPTY_ELEMENTDATA" "[Ljava/lang/Object;" (.ref dd)) (VD : Arv Z Z.heap dd qd (.object "java/lang/Object") (0 : Int32) [] .null) (lo_a1 : Z.heap.size ≤ a1) (lo_al : Z.heap.size ≤ al) (ne_al_a1 : al ≠ a1) (L0 : Exa Z h0 a1 "com/example/realmwright/realmwright/ByteLog") (L1 : Fld Z h0 a1 "com/example/realmwright/realmwright/ByteLog" "blocks" "Ljava/util/List;" (.ref al)) (L2 : Fld Z h0 a1 "com/example/realmwright/realmwright/ByteLog" "used" "I" (.int 0)) (L3 : Exa Z h0 al "java/util/ArrayList") (L4 : Fld Z h0 al "java/util/AbstractList" "modCount" "I" (.int md)) (L5 : Fld Z h0 al "java/util/ArrayList" "elementData" "[Ljava/lang/Object;" (.ref dd)) (L6 : Fld Z h0 al "java/util/ArrayList" "size" "I" (.int 0)) (ne_kr_a1 : kr ≠ a1) (ne_kr_al : kr ≠ al) (K0 : Exa Z h0 kr "com/example/realmwright/realmwright/KeycloakRoles") (K1 : Fld Z h0 kr "com/example/realmwright/realmwright/KeycloakRoles" "groups" "Lcom/example/realmwright/realmwright/ByteLog;" (.ref a1)) :
    MetFree l yM58 (head1 (Cond.code yM58 prog_22_method_6_code 4 none :: ws) (⟨8, 2, 74, 111⟩ : Room)) (fun a U => a = #[(.ref kr), (.int 2), (.int 1), .null] ∧ Z.Warmed39 U.vm ∧ U.heap = h0) (fun _ _ _ _ _ => True) (fun _ U o U' => ∃ v L, o = .returned v ∧ Q_rmEgE2 Z kr a1 al md dd qd h0 v U'.heap L ∧ FrameEnd U o U' L (⟨8, 2, 74, 111⟩ : Room).cells (⟨8, 2, 74, 111⟩ : Room).slots) := by
  refine MetFree.of_bodySF (plainFor_of_name (by first | (simp [plainName, overriddenIn]; done) | decide +kernel)) hisR ?_
  intro p e s m args below meth c s₁ Bd hml0 hP hK
  obtain ⟨rfl, hZ0', hh⟩ := hP
  have hx := Bd.exec
  have hby := Bd.bytes
  have hml : c.maxLocals = 4 := hml0
  have hZ0 : Z.Warmed39 s.vm := hZ0'
  have hown0 : s.vm.findClass "com/example/realmwright/realmwright/KeycloakRoles" = some m.cls := findClass_of_methodNamed Bd.named
  have hnm := (name_of_methodNamed Bd.named Bd.method).1
  have hlk : meth.locks = false := Bd.notSynchronized
  have X0 : Stand p l e (⟨8, 2, 74, 111⟩ : Room) s m #[(.ref kr), (.int 2), (.int 1), .null] below meth c s₁ [] 0 0 := Stand.of_body Bd
  have e0 : s₁.heap = h0 := by rw [← hh, Bd.state]; rfl
  have N0 := Fr.nil Z.heap.size
  have KP0 : Keep h0 h0 ([a1, al] : List Addr) := Keep.refl _ _
  show Go p e below (fun t o => ∃ v L, o = .returned v ∧ Q_rmEgE2 Z kr a1 al md dd qd h0 v t.heap L ∧ FrameEnd s o t L (⟨8, 2, 74, 111⟩ : Room).cells (⟨8, 2, 74, 111⟩ : Room).slots) (s₁.setTop (entryFrame m #[(.ref kr), (.int 2), (.int 1), .null] 4))
  refine Go.on (w := s₁.setTop (mkF m 0 #[rv kr, iv 2, iv 1, .val .null] [])) (fun t k => castTop (ef_rmEgE2 m kr (2 : Int32) (1 : Int32)) k) ?_
  have u_a1 : h0.size > a1 := L0.lt
  have u_al : h0.size > al := L3.lt
  have u_kr : h0.size > kr := K0.lt
  obtain ⟨T483, X483, e483, st483⟩ := getF X0 hx hZ0 hown0 (host := "") (Or.inl (w_72 hw)) Via.refl e0 K1 (g := (mkF m 1 #[rv kr, iv 2, iv 1, .val .null] [(.ref kr)])) rfl rfl (hb hby d51_1)
  obtain ⟨cq484, kq484, q484a, q484b, q484c⟩ := isOf hZ0 e483 L0
  obtain ⟨v484, _, ⟨T484, L484, k484, n484⟩, -, X484, ⟨Lc484, hQ484, l484, y484, z484⟩, st484⟩ := X483.virtualBack hx (y := yM9) (z := yM9) hown0 (mvT hZ0 (w_86 hw)) (mvT hZ0 (w_87 hw)) (notFace_of_selects (args := #[]) (mvT hZ0 (w_89 hw))) (mvT hZ0 (w_89 hw)) (mvT hZ0 (w_88 hw)) (by decide) (backOf (W := 0) (rmWcE0 l Z a0 hw [] a1 al md dd qd h0 (by omega) OL OD VD (by omega) (by omega) ne_al_a1 L0 L1 L2 L3 L4 L5 L6) hZ0 (w_90 hw) (w_39 hw) (by decide) (by decide)) q484a q484c (g := (mkF m 5 #[rv kr, iv 2, iv 1, .val .null] [(.long 0), (.ref a1)])) rfl (by rw [hml]; rfl) (Steps.refl _) (argsL := [(.long 0)]) (rest := []) (lenOf pd_30 rfl) rfl (by show 2 * 0 + _ ≤ _; exact Nat.le_of_eq rfl) (hb hby d51_5) (fun _ _ => ⟨rfl, e483, (by decide : 0 + 2 ≤ _), (by decide : 0 + 74 ≤ _)⟩)
  dsimp only [Pt.U, Pt.locs, Pt.cells, Pt.slots] at X484 l484 y484 z484 st484 hQ484
  subst l484 y484 z484
  obtain ⟨ee_484, ke_484, x_484, kb_484, rfl, Nq484, K484, f484_0, f484_1, f484_2, f484_3, f484_4, f484_5, f484_6, f484_7, f484_8, f484_9, f484_10, f484_11, f484_12⟩ := hQ484
  have N484 := Fr.app N0 Nq484
  have eK484 : T484.heap = T484.heap := rfl
  have z484 : h0.size ≤ T484.heap.size := K484.1
  have KP484 : Keep h0 T484.heap ([a1, al] : List Addr) := KP0.trans K484 (allS (P := fun zq => zq ∈ ([a1, al] : List Addr) ∨ h0.size ≤ zq) (Or.inl (List.mem_of_getElem? (i := 0) rfl)) (allS (P := fun zq => zq ∈ ([a1, al] : List Addr) ∨ h0.size ≤ zq) (Or.inl (List.mem_of_getElem? (i := 1) rfl)) all0))
  have u484_10 : T484.heap.size > ee_484 := f484_10.lt
  have u484_11 : T484.heap.size > x_484 := f484_11.lt
  have u484_12 : T484.heap.size > x_484 := f484_12.lt
  have F485 := (K1.keep K484 (ninS ne_kr_a1 (ninS ne_kr_al nin0)))
  obtain ⟨T486, X486, e486, st486⟩ := getF X484 hx hZ0 hown0 (host := "") (Or.inl (w_72 hw)) Via.refl eK484 F485 (g := (mkF m 9 #[rv kr, iv 2, iv 1, .val .null] [(.ref kr)])) rfl rfl (hb hby d51_9)
  refine Go.on (w := T486.setTop (mkF m 13 #[rv kr, iv 2, iv 1, .val .null] [(.int 2), (.ref a1)])) (fun t k => XS.aloadN X0.here hx rfl (hb hby d51_0) rfl rfl (st483 _ (XS.lconst X483.here hx rfl (hb hby d51_4) (st484.trans (XS.aloadN X484.here hx rfl (hb hby d51_8) rfl rfl (st486 _ (XS.iloadN X486.here hx rfl (hb hby d51_12) rfl k))))))) ?_
  refine Go.on (w := T486.setTop (mkF m 14 #[rv kr, iv 2, iv 1, .val .null] [(.long 2), (.ref a1)])) (fun t k => XS.i2l X486.here hx rfl (hb hby d51_13) rfl (by rw [(by decide : ((2 : Int32).toInt64) = (2 : Int64))]; exact k)) ?_
  obtain ⟨cq487, kq487, q487a, q487b, q487c⟩ := isOf hZ0 e486 f484_3
  obtain ⟨v487, _, ⟨T487, L487, k487, n487⟩, -, X487, ⟨Lc487, hQ487, l487, y487, z487⟩, st487⟩ := X486.virtualBack hx (y := yM9) (z := yM9) hown0 (mvT hZ0 (w_86 hw)) (mvT hZ0 (w_87 hw)) (notFace_of_selects (args := #[]) (mvT hZ0 (w_89 hw))) (mvT hZ0 (w_89 hw)) (mvT hZ0 (w_88 hw)) (by decide) (backOf (W := 0) (rmWcN2 l Z a0 hw [] a1 (1 : Int32) al (md + (1 : Int32)) ee_484 ke_484 x_484 kb_484 T484.heap (by omega) (by omega) (by omega) ne_al_a1 (show @Ne Nat ee_484 a1 by omega) (show @Ne Nat al x_484 by omega) (show @Ne Nat ee_484 x_484 by omega) (show @Ne Nat a1 x_484 by omega) f484_3 f484_4 f484_5 f484_6 f484_7 f484_8 f484_9 f484_10 f484_11 f484_12 (by unfold own_us; decide)) hZ0 (w_90 hw) (w_39 hw) (by decide) (by decide)) q487a q487c (g := (mkF m 14 #[rv kr, iv 2, iv 1, .val .null] [(.long 2), (.ref a1)])) rfl (by rw [hml]; rfl) (Steps.refl _) (argsL := [(.long 2)]) (rest := []) (lenOf pd_30 rfl) rfl (by show 2 * 0 + _ ≤ _; exact Nat.le_of_eq rfl) (hb hby d51_14) (fun _ _ => ⟨rfl, e486, (by decide : 2 + 0 ≤ _), (by decide : 74 + 0 ≤ _)⟩)
  dsimp only [Pt.U, Pt.locs, Pt.cells, Pt.slots] at X487 l487 y487 z487 st487 hQ487
  subst l487 y487 z487
  obtain ⟨rfl, Nq487, K487, f487_0, f487_1, f487_2, f487_3, f487_4, f487_5, f487_6, f487_7, f487_8, f487_9⟩ := hQ487
  have N487 := Fr.app N484 Nq487
  have eK487 : T487.heap = T487.heap := rfl
  have z487 : T484.heap.size ≤ T487.heap.size := K487.1
  have KP487 : Keep h0 T487.heap ([a1, al] : List Addr) := KP484.trans K487 (allS (P := fun zq => zq ∈ ([a1, al] : List Addr) ∨ h0.size ≤ zq) (Or.inl (List.mem_of_getElem? (i := 0) rfl)) (allS (P := fun zq => zq ∈ ([a1, al] : List Addr) ∨ h0.size ≤ zq) (Or.inr (by omega)) all0))
  have F488 := (F485.keep K487 (ninS ne_kr_a1 (ninS (show @Ne Nat kr x_484 by omega) nin0)))
  obtain ⟨T489, X489, e489, st489⟩ := getF X487 hx hZ0 hown0 (host := "") (Or.inl (w_72 hw)) Via.refl eK487 F488 (g := (mkF m 18 #[rv kr, iv 2, iv 1, .val .null] [(.ref kr)])) rfl rfl (hb hby d51_18)
  refine Go.on (w := T489.setTop (mkF m 23 #[rv kr, iv 2, iv 1, .val .null] [(.int 1), (.int 1), (.ref a1)])) (fun t k => st487.trans (XS.aloadN X487.here hx rfl (hb hby d51_17) rfl rfl (st489 _ (XS.iloadN X489.here hx rfl (hb hby d51_21) rfl (XS.iconst X489.here hx rfl (hb hby d51_22) k))))) ?_
  refine Go.on (w := T489.setTop (mkF m 24 #[rv kr, iv 2, iv 1, .val .null] [(.int 2), (.ref a1)])) (fun t k => XS.iadd X489.here hx rfl (hb hby d51_23) rfl (by rw [(by decide : ((1 : Int32) + (1 : Int32)) = (2 : Int32))]; exact k)) ?_
  refine Go.on (w := T489.setTop (mkF m 25 #[rv kr, iv 2, iv 1, .val .null] [(.long 2), (.ref a1)])) (fun t k => XS.i2l X489.here hx rfl (hb hby d51_24) rfl (by rw [(by decide : ((2 : Int32).toInt64) = (2 : Int64))]; exact k)) ?_
  obtain ⟨cq490, kq490, q490a, q490b, q490c⟩ := isOf hZ0 e489 f487_0
  obtain ⟨v490, _, ⟨T490, L490, k490, n490⟩, -, X490, ⟨Lc490, hQ490, l490, y490, z490⟩, st490⟩ := X489.virtualBack hx (y := yM9) (z := yM9) hown0 (mvT hZ0 (w_86 hw)) (mvT hZ0 (w_87 hw)) (notFace_of_selects (args := #[]) (mvT hZ0 (w_89 hw))) (mvT hZ0 (w_89 hw)) (mvT hZ0 (w_88 hw)) (by decide) (backOf (W := 0) (rmWcN2 l Z a0 hw [] a1 ((1 : Int32) + (1 : Int32)) al (md + (1 : Int32)) ee_484 ke_484 x_484 kb_484 T487.heap (by omega) (by omega) (by omega) ne_al_a1 (show @Ne Nat ee_484 a1 by omega) (show @Ne Nat al x_484 by omega) (show @Ne Nat ee_484 x_484 by omega) (show @Ne Nat a1 x_484 by omega) f487_0 f487_1 f487_2 f487_3 f487_4 f487_5 f487_6 f487_7 f487_8 f487_9 (by unfold own_us; decide)) hZ0 (w_90 hw) (w_39 hw) (by decide) (by decide)) q490a q490c (g := (mkF m 25 #[rv kr, iv 2, iv 1, .val .null] [(.long 2), (.ref a1)])) rfl (by rw [hml]; rfl) (Steps.refl _) (argsL := [(.long 2)]) (rest := []) (lenOf pd_30 rfl) rfl (by show 2 * 0 + _ ≤ _; exact Nat.le_of_eq rfl) (hb hby d51_25) (fun _ _ => ⟨rfl, e489, (by decide : 2 + 0 ≤ _), (by decide : 74 + 0 ≤ _)⟩)
  dsimp only [Pt.U, Pt.locs, Pt.cells, Pt.slots] at X490 l490 y490 z490 st490 hQ490
  subst l490 y490 z490
  obtain ⟨rfl, Nq490, K490, f490_0, f490_1, f490_2, f490_3, f490_4, f490_5, f490_6, f490_7, f490_8, f490_9⟩ := hQ490
  have N490 := Fr.app N487 Nq490
  have eK490 : T490.heap = T490.heap := rfl
  have z490 : T487.heap.size ≤ T490.heap.size := K490.1
  have KP490 : Keep h0 T490.heap ([a1, al] : List Addr) := KP487.trans K490 (allS (P := fun zq => zq ∈ ([a1, al] : List Addr) ∨ h0.size ≤ zq) (Or.inl (List.mem_of_getElem? (i := 0) rfl)) (allS (P := fun zq => zq ∈ ([a1, al] : List Addr) ∨ h0.size ≤ zq) (Or.inr (by omega)) all0))
  have F491 := (F488.keep K490 (ninS ne_kr_a1 (ninS (show @Ne Nat kr x_484 by omega) nin0)))
  obtain ⟨T492, X492, e492, st492⟩ := getF X490 hx hZ0 hown0 (host := "") (Or.inl (w_72 hw)) Via.refl eK490 F491 (g := (mkF m 29 #[rv kr, iv 2, iv 1, .val .null] [(.ref kr)])) rfl rfl (hb hby d51_29)
  obtain ⟨cq493, kq493, q493a, q493b, q493c⟩ := isOf hZ0 e492 f490_0
  obtain ⟨v493, _, ⟨T493, L493, k493, n493⟩, -, X493, ⟨Lc493, hQ493, l493, y493, z493⟩, st493⟩ := X492.virtualBack hx (y := yM50) (z := yM50) hown0 (mvT hZ0 (w_291 hw)) (mvT hZ0 (w_292 hw)) (notFace_of_selects (args := #[]) (mvT hZ0 (w_294 hw))) (mvT hZ0 (w_294 hw)) (mvT hZ0 (w_293 hw)) (by decide) (backOf (W := 0) (rmWs0 l Z a0 hw [] a1 (((1 : Int32) + (1 : Int32)) + (1 : Int32)) al (md + (1 : Int32)) ee_484 ke_484 x_484 kb_484 T490.heap (by omega) (by omega) (by omega) ne_al_a1 (show @Ne Nat ee_484 a1 by omega) (show @Ne Nat al x_484 by omega) (show @Ne Nat ee_484 x_484 by omega) (show @Ne Nat a1 x_484 by omega) f490_0 f490_1 f490_2 f490_3 f490_4 f490_5 f490_6 f490_7 f490_8 f490_9 (by unfold own_us; decide)) hZ0 (w_295 hw) (w_39 hw) (by decide) (by decide)) q493a q493c (g := (mkF m 33 #[rv kr, iv 2, iv 1, .val .null] [.null, (.ref a1)])) rfl (by rw [hml]; rfl) (Steps.refl _) (argsL := [.null]) (rest := []) (lenOf pd_13 rfl) rfl (by show 2 * 0 + _ ≤ _; exact Nat.le_of_eq rfl) (hb hby d51_33) (fun _ _ => ⟨rfl, e492, (by decide : 2 + 0 ≤ _), (by decide : 74 + 0 ≤ _)⟩)
  dsimp only [Pt.U, Pt.locs, Pt.cells, Pt.slots] at X493 l493 y493 z493 st493 hQ493
  subst l493 y493 z493
  obtain ⟨rfl, Nq493, K493, f493_0, f493_1, f493_2, f493_3, f493_4, f493_5, f493_6, f493_7, f493_8, f493_9⟩ := hQ493
  have N493 := Fr.app N490 Nq493
  have eK493 : T493.heap = T493.heap := rfl
  have z493 : T490.heap.size ≤ T493.heap.size := K493.1
  have KP493 : Keep h0 T493.heap ([a1, al] : List Addr) := KP490.trans K493 (allS (P := fun zq => zq ∈ ([a1, al] : List Addr) ∨ h0.size ≤ zq) (Or.inl (List.mem_of_getElem? (i := 0) rfl)) (allS (P := fun zq => zq ∈ ([a1, al] : List Addr) ∨ h0.size ≤ zq) (Or.inr (by omega)) all0))
  refine Go.on (w := T493.setTop (mkF m 36 #[rv kr, iv 2, iv 1, .val .null] [])) (fun t k => st490.trans (XS.aloadN X490.here hx rfl (hb hby d51_28) rfl rfl (st492 _ (XS.aloadN X492.here hx rfl (hb hby d51_32) rfl rfl (st493.trans k))))) ?_
  refine Go.finH X493 hlk (v := none) (fun _ => rfl) (fun fs hr => ?_) (endH (Q := Q_rmEgE2 Z kr a1 al md dd qd h0) (by rw [eK493]; exact ⟨ee_484, ke_484, x_484, kb_484, rfl, N493, KP493, (by omega), (by omega), (by omega), f493_0, f493_1, f493_2, f493_3, f493_4, f493_5, f493_6, f493_7, f493_8, f493_9⟩) (by decide) (by decide))
  exact X493.returnOut hx Bd.returns (hb hby d51_36) hr
def Q_rmEgN2 (Z : State) (kr : Addr) (a1 : Addr) (u : Int32) (al : Addr) (md : Int32) (ee : Addr) (ke : ClassId) (x : Addr) (kb : ClassId) (h0 : Heap) (vv : Option Value) (h : Heap) (L : List Loc) : Prop := vv = none ∧ Fr Z.heap.size L ∧ Keep h0 h [a1, x] ∧ Exa Z h a1 "com/example/realmwright/realmwright/ByteLog" ∧ Fld Z h a1 "com/example/realmwright/realmwright/ByteLog" "blocks" "Ljava/util/List;" (.ref al) ∧ Fld Z h a1 "com/example/realmwright/realmwright/ByteLog" "used" "I" (.int ((((u + (1 : Int32)) + (1 : Int32)) + (1 : Int32)) + (1 : Int32))) ∧ Exa Z h al "java/util/ArrayList" ∧ Fld Z h al "java/util/AbstractList" "modCount" "I" (.int md) ∧ Fld Z h al "java/util/ArrayList" "elementData" "[Ljava/lang/Object;" (.ref ee) ∧ Fld Z h al "java/util/ArrayList" "size" "I" (.int 1) ∧ Arv Z h ee ke (.object "java/lang/Object") (10 : Int32) [(.ref x), .null, .null, .null, .null, .null, .null, .null, .null, .null] .null ∧ own_blk Z h x kb ∧ Exa Z h x "[B"
theorem ef_rmEgN2 (m : MethodId) (x0 : Addr) (x1 : Int32) (x2 : Int32)   : entryFrame m #[(.ref x0), (.int x1), (.int x2), .null] 4 = mkF m 0 #[.val (.ref x0), .val (.int x1), .val (.int x2), .val .null] [] := rfl
theorem rmEgN2 (l : Launch) (Z : State) (a0 : Array Value) (hw : HW a0 Z) (ws : List Cond) (kr : Addr) (a1 : Addr) (u : Int32) (al : Addr) (md : Int32) (ee : Addr) (ke : ClassId) (x : Addr) (kb : ClassId) (h0 : Heap) (Z0 : Z.heap.size ≤ h0.size) (lo_a1 : Z.heap.size ≤ a1) (lo_x : Z.heap.size ≤ x) (ne_al_a1 : al ≠ a1) (ne_ee_a1 : ee ≠ a1) (ne_al_x : al ≠ x) (ne_ee_x : ee ≠ x) (ne_a1_x : a1 ≠ x) (L0 : Exa Z h0 a1 "com/example/realmwright/realmwright/ByteLog") (L1 : Fld Z h0 a1 "com/example/realmwright/realmwright/ByteLog" "blocks" "Ljava/util/List;" (.ref al)) (L2 : Fld Z h0 a1 "com/example/realmwright/realmwright/ByteLog" "used" "I" (.int u)) (L3 : Exa Z h0 al "java/util/ArrayList") (L4 : Fld Z h0 al "java/util/AbstractList" "modCount" "I" (.int md)) (L5 : Fld Z h0 al "java/util/ArrayList" "elementData" "[Ljava/lang/Object;" (.ref ee)) (L6 : Fld Z h0 al "java/util/ArrayList" "size" "I" (.int 1)) (L7 : Arv Z h0 ee ke (.object "java/lang/Object") (10 : Int32) [(.ref x), .null, .null, .null, .null, .null, .null, .null, .null, .null] .null) (L8 : own_blk Z h0 x kb) (L9 : Exa Z h0 x "[B") (ne_kr_a1 : kr ≠ a1) (ne_kr_x : kr ≠ x) (K0 : Exa Z h0 kr "com/example/realmwright/realmwright/KeycloakRoles") (K1 : Fld Z h0 kr "com/example/realmwright/realmwright/KeycloakRoles" "groups" "Lcom/example/realmwright/realmwright/ByteLog;" (.ref a1)) (hu : own_us (40 : Int32) u) :
    MetFree l yM58 (head1 (Cond.code yM58 prog_22_method_6_code 4 none :: ws) (⟨7, 0, 0, 99⟩ : Room)) (fun a U => a = #[(.ref kr), (.int 2), (.int 1), .null] ∧ Z.Warmed39 U.vm ∧ U.heap = h0) (fun _ _ _ _ _ => True) (fun _ U o U' => ∃ v L, o = .returned v ∧ Q_rmEgN2 Z kr a1 u al md ee ke x kb h0 v U'.heap L ∧ FrameEnd U o U' L (⟨7, 0, 0, 99⟩ : Room).cells (⟨7, 0, 0, 99⟩ : Room).slots) := by
  refine MetFree.of_bodySF (plainFor_of_name (by first | (simp [plainName, overriddenIn]; done) | decide +kernel)) hisR ?_
  intro p e s m args below meth c s₁ Bd hml0 hP hK
  obtain ⟨rfl, hZ0', hh⟩ := hP
  have hx := Bd.exec
  have hby := Bd.bytes
  have hml : c.maxLocals = 4 := hml0
  have hZ0 : Z.Warmed39 s.vm := hZ0'
  have hown0 : s.vm.findClass "com/example/realmwright/realmwright/KeycloakRoles" = some m.cls := findClass_of_methodNamed Bd.named
  have hnm := (name_of_methodNamed Bd.named Bd.method).1
  have hlk : meth.locks = false := Bd.notSynchronized
  have X0 : Stand p l e (⟨7, 0, 0, 99⟩ : Room) s m #[(.ref kr), (.int 2), (.int 1), .null] below meth c s₁ [] 0 0 := Stand.of_body Bd
  have e0 : s₁.heap = h0 := by rw [← hh, Bd.state]; rfl
  have N0 := Fr.nil Z.heap.size
  have KP0 : Keep h0 h0 ([a1, x] : List Addr) := Keep.refl _ _
  show Go p e below (fun t o => ∃ v L, o = .returned v ∧ Q_rmEgN2 Z kr a1 u al md ee ke x kb h0 v t.heap L ∧ FrameEnd s o t L (⟨7, 0, 0, 99⟩ : Room).cells (⟨7, 0, 0, 99⟩ : Room).slots) (s₁.setTop (entryFrame m #[(.ref kr), (.int 2), (.int 1), .null] 4))
  refine Go.on (w := s₁.setTop (mkF m 0 #[rv kr, iv 2, iv 1, .val .null] [])) (fun t k => castTop (ef_rmEgN2 m kr (2 : Int32) (1 : Int32)) k) ?_
  have u_a1 : h0.size > a1 := L0.lt
  have u_al : h0.size > al := L3.lt
  have u_e : h0.size > ee := L7.lt
  have u_x : h0.size > x := L8.lt
  have u_kr : h0.size > kr := K0.lt
  obtain ⟨T494, X494, e494, st494⟩ := getF X0 hx hZ0 hown0 (host := "") (Or.inl (w_72 hw)) Via.refl e0 K1 (g := (mkF m 1 #[rv kr, iv 2, iv 1, .val .null] [(.ref kr)])) rfl rfl (hb hby d51_1)
  obtain ⟨cq495, kq495, q495a, q495b, q495c⟩ := isOf hZ0 e494 L0
  obtain ⟨v495, _, ⟨T495, L495, k495, n495⟩, -, X495, ⟨Lc495, hQ495, l495, y495, z495⟩, st495⟩ := X494.virtualBack hx (y := yM9) (z := yM9) hown0 (mvT hZ0 (w_86 hw)) (mvT hZ0 (w_87 hw)) (notFace_of_selects (args := #[]) (mvT hZ0 (w_89 hw))) (mvT hZ0 (w_89 hw)) (mvT hZ0 (w_88 hw)) (by decide) (backOf (W := 0) (rmWcN0 l Z a0 hw [] a1 u al md ee ke x kb h0 (by omega) (by omega) (by omega) ne_al_a1 ne_ee_a1 ne_al_x ne_ee_x ne_a1_x L0 L1 L2 L3 L4 L5 L6 L7 L8 L9 (own_us40 hu)) hZ0 (w_90 hw) (w_39 hw) (by decide) (by decide)) q495a q495c (g := (mkF m 5 #[rv kr, iv 2, iv 1, .val .null] [(.long 0), (.ref a1)])) rfl (by rw [hml]; rfl) (Steps.refl _) (argsL := [(.long 0)]) (rest := []) (lenOf pd_30 rfl) rfl (by show 2 * 0 + _ ≤ _; exact Nat.le_of_eq rfl) (hb hby d51_5) (fun _ _ => ⟨rfl, e494, (by decide : 0 + 0 ≤ _), (by decide : 0 + 0 ≤ _)⟩)
  dsimp only [Pt.U, Pt.locs, Pt.cells, Pt.slots] at X495 l495 y495 z495 st495 hQ495
  subst l495 y495 z495
  obtain ⟨rfl, Nq495, K495, f495_0, f495_1, f495_2, f495_3, f495_4, f495_5, f495_6, f495_7, f495_8, f495_9⟩ := hQ495
  have N495 := Fr.app N0 Nq495
  have eK495 : T495.heap = T495.heap := rfl
  have z495 : h0.size ≤ T495.heap.size := K495.1
  have KP495 : Keep h0 T495.heap ([a1, x] : List Addr) := KP0.trans K495 (allS (P := fun zq => zq ∈ ([a1, x] : List Addr) ∨ h0.size ≤ zq) (Or.inl (List.mem_of_getElem? (i := 0) rfl)) (allS (P := fun zq => zq ∈ ([a1, x] : List Addr) ∨ h0.size ≤ zq) (Or.inl (List.mem_of_getElem? (i := 1) rfl)) all0))
  have F496 := (K1.keep K495 (ninS ne_kr_a1 (ninS ne_kr_x nin0)))
  obtain ⟨T497, X497, e497, st497⟩ := getF X495 hx hZ0 hown0 (host := "") (Or.inl (w_72 hw)) Via.refl eK495 F496 (g := (mkF m 9 #[rv kr, iv 2, iv 1, .val .null] [(.ref kr)])) rfl rfl (hb hby d51_9)
  refine Go.on (w := T497.setTop (mkF m 13 #[rv kr, iv 2, iv 1, .val .null] [(.int 2), (.ref a1)])) (fun t k => XS.aloadN X0.here hx rfl (hb hby d51_0) rfl rfl (st494 _ (XS.lconst X494.here hx rfl (hb hby d51_4) (st495.trans (XS.aloadN X495.here hx rfl (hb hby d51_8) rfl rfl (st497 _ (XS.iloadN X497.here hx rfl (hb hby d51_12) rfl k))))))) ?_
  refine Go.on (w := T497.setTop (mkF m 14 #[rv kr, iv 2, iv 1, .val .null] [(.long 2), (.ref a1)])) (fun t k => XS.i2l X497.here hx rfl (hb hby d51_13) rfl (by rw [(by decide : ((2 : Int32).toInt64) = (2 : Int64))]; exact k)) ?_
  obtain ⟨cq498, kq498, q498a, q498b, q498c⟩ := isOf hZ0 e497 f495_0
  obtain ⟨v498, _, ⟨T498, L498, k498, n498⟩, -, X498, ⟨Lc498, hQ498, l498, y498, z498⟩, st498⟩ := X497.virtualBack hx (y := yM9) (z := yM9) hown0 (mvT hZ0 (w_86 hw)) (mvT hZ0 (w_87 hw)) (notFace_of_selects (args := #[]) (mvT hZ0 (w_89 hw))) (mvT hZ0 (w_89 hw)) (mvT hZ0 (w_88 hw)) (by decide) (backOf (W := 0) (rmWcN2 l Z a0 hw [] a1 (u + (1 : Int32)) al md ee ke x kb T495.heap (by omega) (by omega) (by omega) ne_al_a1 ne_ee_a1 ne_al_x ne_ee_x ne_a1_x f495_0 f495_1 f495_2 f495_3 f495_4 f495_5 f495_6 f495_7 f495_8 f495_9 (own_us41 hu)) hZ0 (w_90 hw) (w_39 hw) (by decide) (by decide)) q498a q498c (g := (mkF m 14 #[rv kr, iv 2, iv 1, .val .null] [(.long 2), (.ref a1)])) rfl (by rw [hml]; rfl) (Steps.refl _) (argsL := [(.long 2)]) (rest := []) (lenOf pd_30 rfl) rfl (by show 2 * 0 + _ ≤ _; exact Nat.le_of_eq rfl) (hb hby d51_14) (fun _ _ => ⟨rfl, e497, (by decide : 0 + 0 ≤ _), (by decide : 0 + 0 ≤ _)⟩)
  dsimp only [Pt.U, Pt.locs, Pt.cells, Pt.slots] at X498 l498 y498 z498 st498 hQ498
  subst l498 y498 z498
  obtain ⟨rfl, Nq498, K498, f498_0, f498_1, f498_2, f498_3, f498_4, f498_5, f498_6, f498_7, f498_8, f498_9⟩ := hQ498
  have N498 := Fr.app N495 Nq498
  have eK498 : T498.heap = T498.heap := rfl
  have z498 : T495.heap.size ≤ T498.heap.size := K498.1
  have KP498 : Keep h0 T498.heap ([a1, x] : List Addr) := KP495.trans K498 (allS (P := fun zq => zq ∈ ([a1, x] : List Addr) ∨ h0.size ≤ zq) (Or.inl (List.mem_of_getElem? (i := 0) rfl)) (allS (P := fun zq => zq ∈ ([a1, x] : List Addr) ∨ h0.size ≤ zq) (Or.inl (List.mem_of_getElem? (i := 1) rfl)) all0))
  have F499 := (F496.keep K498 (ninS ne_kr_a1 (ninS ne_kr_x nin0)))
  obtain ⟨T500, X500, e500, st500⟩ := getF X498 hx hZ0 hown0 (host := "") (Or.inl (w_72 hw)) Via.refl eK498 F499 (g := (mkF m 18 #[rv kr, iv 2, iv 1, .val .null] [(.ref kr)])) rfl rfl (hb hby d51_18)
  refine Go.on (w := T500.setTop (mkF m 23 #[rv kr, iv 2, iv 1, .val .null] [(.int 1), (.int 1), (.ref a1)])) (fun t k => st498.trans (XS.aloadN X498.here hx rfl (hb hby d51_17) rfl rfl (st500 _ (XS.iloadN X500.here hx rfl (hb hby d51_21) rfl (XS.iconst X500.here hx rfl (hb hby d51_22) k))))) ?_
  refine Go.on (w := T500.setTop (mkF m 24 #[rv kr, iv 2, iv 1, .val .null] [(.int 2), (.ref a1)])) (fun t k => XS.iadd X500.here hx rfl (hb hby d51_23) rfl (by rw [(by decide : ((1 : Int32) + (1 : Int32)) = (2 : Int32))]; exact k)) ?_
  refine Go.on (w := T500.setTop (mkF m 25 #[rv kr, iv 2, iv 1, .val .null] [(.long 2), (.ref a1)])) (fun t k => XS.i2l X500.here hx rfl (hb hby d51_24) rfl (by rw [(by decide : ((2 : Int32).toInt64) = (2 : Int64))]; exact k)) ?_
  obtain ⟨cq501, kq501, q501a, q501b, q501c⟩ := isOf hZ0 e500 f498_0
  obtain ⟨v501, _, ⟨T501, L501, k501, n501⟩, -, X501, ⟨Lc501, hQ501, l501, y501, z501⟩, st501⟩ := X500.virtualBack hx (y := yM9) (z := yM9) hown0 (mvT hZ0 (w_86 hw)) (mvT hZ0 (w_87 hw)) (notFace_of_selects (args := #[]) (mvT hZ0 (w_89 hw))) (mvT hZ0 (w_89 hw)) (mvT hZ0 (w_88 hw)) (by decide) (backOf (W := 0) (rmWcN2 l Z a0 hw [] a1 ((u + (1 : Int32)) + (1 : Int32)) al md ee ke x kb T498.heap (by omega) (by omega) (by omega) ne_al_a1 ne_ee_a1 ne_al_x ne_ee_x ne_a1_x f498_0 f498_1 f498_2 f498_3 f498_4 f498_5 f498_6 f498_7 f498_8 f498_9 (own_us42 hu)) hZ0 (w_90 hw) (w_39 hw) (by decide) (by decide)) q501a q501c (g := (mkF m 25 #[rv kr, iv 2, iv 1, .val .null] [(.long 2), (.ref a1)])) rfl (by rw [hml]; rfl) (Steps.refl _) (argsL := [(.long 2)]) (rest := []) (lenOf pd_30 rfl) rfl (by show 2 * 0 + _ ≤ _; exact Nat.le_of_eq rfl) (hb hby d51_25) (fun _ _ => ⟨rfl, e500, (by decide : 0 + 0 ≤ _), (by decide : 0 + 0 ≤ _)⟩)
  dsimp only [Pt.U, Pt.locs, Pt.cells, Pt.slots] at X501 l501 y501 z501 st501 hQ501
  subst l501 y501 z501
  obtain ⟨rfl, Nq501, K501, f501_0, f501_1, f501_2, f501_3, f501_4, f501_5, f501_6, f501_7, f501_8, f501_9⟩ := hQ501
  have N501 := Fr.app N498 Nq501
  have eK501 : T501.heap = T501.heap := rfl
  have z501 : T498.heap.size ≤ T501.heap.size := K501.1
  have KP501 : Keep h0 T501.heap ([a1, x] : List Addr) := KP498.trans K501 (allS (P := fun zq => zq ∈ ([a1, x] : List Addr) ∨ h0.size ≤ zq) (Or.inl (List.mem_of_getElem? (i := 0) rfl)) (allS (P := fun zq => zq ∈ ([a1, x] : List Addr) ∨ h0.size ≤ zq) (Or.inl (List.mem_of_getElem? (i := 1) rfl)) all0))
  have F502 := (F499.keep K501 (ninS ne_kr_a1 (ninS ne_kr_x nin0)))
  obtain ⟨T503, X503, e503, st503⟩ := getF X501 hx hZ0 hown0 (host := "") (Or.inl (w_72 hw)) Via.refl eK501 F502 (g := (mkF m 29 #[rv kr, iv 2, iv 1, .val .null] [(.ref kr)])) rfl rfl (hb hby d51_29)
  obtain ⟨cq504, kq504, q504a, q504b, q504c⟩ := isOf hZ0 e503 f501_0
  obtain ⟨v504, _, ⟨T504, L504, k504, n504⟩, -, X504, ⟨Lc504, hQ504, l504, y504, z504⟩, st504⟩ := X503.virtualBack hx (y := yM50) (z := yM50) hown0 (mvT hZ0 (w_291 hw)) (mvT hZ0 (w_292 hw)) (notFace_of_selects (args := #[]) (mvT hZ0 (w_294 hw))) (mvT hZ0 (w_294 hw)) (mvT hZ0 (w_293 hw)) (by decide) (backOf (W := 0) (rmWs0 l Z a0 hw [] a1 (((u + (1 : Int32)) + (1 : Int32)) + (1 : Int32)) al md ee ke x kb T501.heap (by omega) (by omega) (by omega) ne_al_a1 ne_ee_a1 ne_al_x ne_ee_x ne_a1_x f501_0 f501_1 f501_2 f501_3 f501_4 f501_5 f501_6 f501_7 f501_8 f501_9 (own_us43 hu)) hZ0 (w_295 hw) (w_39 hw) (by decide) (by decide)) q504a q504c (g := (mkF m 33 #[rv kr, iv 2, iv 1, .val .null] [.null, (.ref a1)])) rfl (by rw [hml]; rfl) (Steps.refl _) (argsL := [.null]) (rest := []) (lenOf pd_13 rfl) rfl (by show 2 * 0 + _ ≤ _; exact Nat.le_of_eq rfl) (hb hby d51_33) (fun _ _ => ⟨rfl, e503, (by decide : 0 + 0 ≤ _), (by decide : 0 + 0 ≤ _)⟩)
  dsimp only [Pt.U, Pt.locs, Pt.cells, Pt.slots] at X504 l504 y504 z504 st504 hQ504
  subst l504 y504 z504
  obtain ⟨rfl, Nq504, K504, f504_0, f504_1, f504_2, f504_3, f504_4, f504_5, f504_6, f504_7, f504_8, f504_9⟩ := hQ504
  have N504 := Fr.app N501 Nq504
  have eK504 : T504.heap = T504.heap := rfl
  have z504 : T501.heap.size ≤ T504.heap.size := K504.1
  have KP504 : Keep h0 T504.heap ([a1, x] : List Addr) := KP501.trans K504 (allS (P := fun zq => zq ∈ ([a1, x] : List Addr) ∨ h0.size ≤ zq) (Or.inl (List.mem_of_getElem? (i := 0) rfl)) (allS (P := fun zq => zq ∈ ([a1, x] : List Addr) ∨ h0.size ≤ zq) (Or.inl (List.mem_of_getElem? (i := 1) rfl)) all0))
  refine Go.on (w := T504.setTop (mkF m 36 #[rv kr, iv 2, iv 1, .val .null] [])) (fun t k => st501.trans (XS.aloadN X501.here hx rfl (hb hby d51_28) rfl rfl (st503 _ (XS.aloadN X503.here hx rfl (hb hby d51_32) rfl rfl (st504.trans k))))) ?_
  refine Go.finH X504 hlk (v := none) (fun _ => rfl) (fun fs hr => ?_) (endH (Q := Q_rmEgN2 Z kr a1 u al md ee ke x kb h0) (by rw [eK504]; exact ⟨rfl, N504, KP504, f504_0, f504_1, f504_2, f504_3, f504_4, f504_5, f504_6, f504_7, f504_8, f504_9⟩) (by decide) (by decide))
  exact X504.returnOut hx Bd.returns (hb hby d51_36) hr
def Q_rmAm0 (Z : State) (kr : Addr) (a1 : Addr) (al : Addr) (md : Int32) (dd : Addr) (qd : ClassId) (sa : Addr) (ta : Addr) (q : ClassId) (G1 : Int32) (v0 : Int32) (cu : Addr) (h0 : Heap) (vv : Option Value) (h : Heap) (L : List Loc) : Prop := ∃ (ee : Addr) (ke : ClassId) (x : Addr) (kb : ClassId) (u' : Int32), vv = none ∧ Fr Z.heap.size L ∧ Keep h0 h [a1, al] ∧ (h0.size ≤ ee) ∧ (h0.size ≤ x) ∧ (@Ne Nat ee x) ∧ Exa Z h a1 "com/example/realmwright/realmwright/ByteLog" ∧ Fld Z h a1 "com/example/realmwright/realmwright/ByteLog" "blocks" "Ljava/util/List;" (.ref al) ∧ Fld Z h a1 "com/example/realmwright/realmwright/ByteLog" "used" "I" (.int u') ∧ Exa Z h al "java/util/ArrayList" ∧ Fld Z h al "java/util/AbstractList" "modCount" "I" (.int (md + (1 : Int32))) ∧ Fld Z h al "java/util/ArrayList" "elementData" "[Ljava/lang/Object;" (.ref ee) ∧ Fld Z h al "java/util/ArrayList" "size" "I" (.int 1) ∧ Arv Z h ee ke (.object "java/lang/Object") (10 : Int32) [(.ref x), .null, .null, .null, .null, .null, .null, .null, .null, .null] .null ∧ own_blk Z h x kb ∧ Exa Z h x "[B" ∧ (own_us (40 : Int32) u')
theorem ef_rmAm0 (m : MethodId) (x0 : Addr) (x1 : Int32) (x3 : Addr)   : entryFrame m #[(.ref x0), (.int x1), .null, (.ref x3)] 4 = mkF m 0 #[.val (.ref x0), .val (.int x1), .val .null, .val (.ref x3)] [] := rfl
theorem rmAm0 (l : Launch) (Z : State) (a0 : Array Value) (hw : HW a0 Z) (ws : List Cond) (kr : Addr) (a1 : Addr) (al : Addr) (md : Int32) (dd : Addr) (qd : ClassId) (sa : Addr) (ta : Addr) (q : ClassId) (G1 : Int32) (v0 : Int32) (cu : Addr) (h0 : Heap) (Z0 : Z.heap.size ≤ h0.size) (OL : Old Z Z.heap.size h0) (OD : Sta Z Z.heap "java/util/ArrayList" "DEFAULTCAPACITY_EMPTY_ELEMENTDATA" "[Ljava/lang/Object;" (.ref dd)) (VD : Arv Z Z.heap dd qd (.object "java/lang/Object") (0 : Int32) [] .null) (lo_a1 : Z.heap.size ≤ a1) (lo_al : Z.heap.size ≤ al) (ne_al_a1 : al ≠ a1) (L0 : Exa Z h0 a1 "com/example/realmwright/realmwright/ByteLog") (L1 : Fld Z h0 a1 "com/example/realmwright/realmwright/ByteLog" "blocks" "Ljava/util/List;" (.ref al)) (L2 : Fld Z h0 a1 "com/example/realmwright/realmwright/ByteLog" "used" "I" (.int 0)) (L3 : Exa Z h0 al "java/util/ArrayList") (L4 : Fld Z h0 al "java/util/AbstractList" "modCount" "I" (.int md)) (L5 : Fld Z h0 al "java/util/ArrayList" "elementData" "[Ljava/lang/Object;" (.ref dd)) (L6 : Fld Z h0 al "java/util/ArrayList" "size" "I" (.int 0)) (hEL : EW Z a0 EL) (O2 : Sta Z Z.heap "java/lang/String" "COMPACT_STRINGS" "Z" (.int G1)) (P5 : ¬ (G1 = (0 : Int32))) (OU : Sta Z Z.heap "java/nio/charset/StandardCharsets" "UTF_8" "Ljava/nio/charset/Charset;" (.ref cu)) (OI : Sta Z Z.heap "sun/nio/cs/UTF_8" "INSTANCE" "Lsun/nio/cs/UTF_8;" (.ref cu)) (ne_kr_a1 : kr ≠ a1) (ne_kr_al : kr ≠ al) (ne_sa_a1 : sa ≠ a1) (ne_sa_al : sa ≠ al) (ne_ta_a1 : ta ≠ a1) (ne_ta_al : ta ≠ al) (K0 : Exa Z h0 kr "com/example/realmwright/realmwright/KeycloakRoles") (K1 : Fld Z h0 kr "com/example/realmwright/realmwright/KeycloakRoles" "groups" "Lcom/example/realmwright/realmwright/ByteLog;" (.ref a1)) (S0 : Exa Z h0 sa "java/lang/String") (S1 : Fld Z h0 sa "java/lang/String" "coder" "B" (.int 0)) (S2 : Fld Z h0 sa "java/lang/String" "value" "[B" (.ref ta)) (S3 : Arv Z h0 ta q .byte (1 : Int32) [(.int v0)] (.int 0)) :
    MetFree l yM8 (head1 (Cond.code yM8 prog_22_method_5_code 4 none :: ws) (⟨8, 10, 155, 127⟩ : Room)) (fun a U => a = #[(.ref kr), (.int 1), .null, (.ref sa)] ∧ Z.Warmed39 U.vm ∧ U.heap = h0 ∧ CHv Z EL U.vm h0) (fun _ _ _ _ _ => True) (fun _ U o U' => ∃ v L, o = .returned v ∧ Q_rmAm0 Z kr a1 al md dd qd sa ta q G1 v0 cu h0 v U'.heap L ∧ CHr Z EL U.vm U.heap U'.vm U'.heap ∧ ReturnedEndW U o U' L (⟨8, 10, 155, 127⟩ : Room).cells (⟨8, 10, 155, 127⟩ : Room).slots) := by
  refine MetFree.of_bodySF (plainFor_of_name (by first | (simp [plainName, overriddenIn]; done) | decide +kernel)) hisR ?_
  intro p e s m args below meth c s₁ Bd hml0 hP hK
  obtain ⟨rfl, hZ0', hh, hC0⟩ := hP
  have hx := Bd.exec
  have hby := Bd.bytes
  have hml : c.maxLocals = 4 := hml0
  have hZ0 : Z.Warmed39 (s.setVm s.vm).vm := hZ0'
  have hown0 : (s.setVm s.vm).vm.findClass "com/example/realmwright/realmwright/KeycloakRoles" = some m.cls := findClass_of_methodNamed Bd.named
  have hnm := (name_of_methodNamed Bd.named Bd.method).1
  have hlk : meth.locks = false := Bd.notSynchronized
  have X0 : Stand p l e (⟨8, 10, 155, 127⟩ : Room) (s.setVm s.vm) m #[(.ref kr), (.int 1), .null, (.ref sa)] below meth c s₁ [] 0 0 := Stand.of_body Bd
  have e0 : s₁.heap = h0 := by rw [← hh, Bd.state]; rfl
  have hS0 : s.Since s.vm s.heap.size := (State.WarmedH.refl s).since _
  have hk0 : s.heap.size ≤ h0.size := by rw [hh]; exact Nat.le_refl _
  have CR0 : CHr Z EL s.vm s.heap s.vm h0 := by rw [hh]; exact CHr.refl hC0
  have N0 := Fr.nil Z.heap.size
  have KP0 : Keep h0 h0 ([a1, al] : List Addr) := Keep.refl _ _
  show Go p e below (fun t o => ∃ v L, o = .returned v ∧ Q_rmAm0 Z kr a1 al md dd qd sa ta q G1 v0 cu h0 v t.heap L ∧ CHr Z EL s.vm s.heap t.vm t.heap ∧ ReturnedEndW s o t L (⟨8, 10, 155, 127⟩ : Room).cells (⟨8, 10, 155, 127⟩ : Room).slots) (s₁.setTop (entryFrame m #[(.ref kr), (.int 1), .null, (.ref sa)] 4))
  refine Go.on (w := s₁.setTop (mkF m 0 #[rv kr, iv 1, .val .null, rv sa] [])) (fun t k => castTop (ef_rmAm0 m kr (1 : Int32) sa) k) ?_
  have u_a1 : h0.size > a1 := L0.lt
  have u_al : h0.size > al := L3.lt
  have u_kr : h0.size > kr := K0.lt
  have u_s : h0.size > sa := S0.lt
  have u_t : h0.size > ta := S3.lt
  obtain ⟨T505, X505, e505, st505⟩ := getF X0 hx hZ0 hown0 (host := "") (Or.inl (w_72 hw)) Via.refl e0 K1 (g := (mkF m 1 #[rv kr, iv 1, .val .null, rv sa] [(.ref kr)])) rfl rfl (hb hby d52_1)
  obtain ⟨cq506, kq506, q506a, q506b, q506c⟩ := isOf hZ0 e505 L0
  obtain ⟨v506, _, ⟨T506, L506, k506, n506⟩, -, X506, ⟨Lc506, hQ506, l506, y506, z506⟩, st506⟩ := X505.virtualBack hx (y := yM9) (z := yM9) hown0 (mvT hZ0 (w_86 hw)) (mvT hZ0 (w_87 hw)) (notFace_of_selects (args := #[]) (mvT hZ0 (w_89 hw))) (mvT hZ0 (w_89 hw)) (mvT hZ0 (w_88 hw)) (by decide) (backOf (W := 0) (rmWcE1 l Z a0 hw [] a1 al md dd qd h0 (by omega) OL OD VD (by omega) (by omega) ne_al_a1 L0 L1 L2 L3 L4 L5 L6) hZ0 (w_90 hw) (w_39 hw) (by decide) (by decide)) q506a q506c (g := (mkF m 5 #[rv kr, iv 1, .val .null, rv sa] [(.long 1), (.ref a1)])) rfl (by rw [hml]; rfl) (Steps.refl _) (argsL := [(.long 1)]) (rest := []) (lenOf pd_30 rfl) rfl (by show 2 * 0 + _ ≤ _; exact Nat.le_of_eq rfl) (hb hby d52_5) (fun _ _ => ⟨rfl, e505, (by decide : 0 + 2 ≤ _), (by decide : 0 + 74 ≤ _)⟩)
  dsimp only [Pt.U, Pt.locs, Pt.cells, Pt.slots] at X506 l506 y506 z506 st506 hQ506
  subst l506 y506 z506
  obtain ⟨ee_506, ke_506, x_506, kb_506, rfl, Nq506, K506, f506_0, f506_1, f506_2, f506_3, f506_4, f506_5, f506_6, f506_7, f506_8, f506_9, f506_10, f506_11, f506_12⟩ := hQ506
  have N506 := Fr.app N0 Nq506
  have eK506 : T506.heap = T506.heap := rfl
  have CR506 := CR0.trans (CHr.keep K506 (sfS (Safe.exa hZ0.alike L0 (by decide) (by decide)) (sfS (Safe.exa hZ0.alike L3 (by decide) (by decide)) sf0)) CR0.1)
  have z506 : h0.size ≤ T506.heap.size := K506.1
  have KP506 : Keep h0 T506.heap ([a1, al] : List Addr) := KP0.trans K506 (allS (P := fun zq => zq ∈ ([a1, al] : List Addr) ∨ h0.size ≤ zq) (Or.inl (List.mem_of_getElem? (i := 0) rfl)) (allS (P := fun zq => zq ∈ ([a1, al] : List Addr) ∨ h0.size ≤ zq) (Or.inl (List.mem_of_getElem? (i := 1) rfl)) all0))
  have u506_10 : T506.heap.size > ee_506 := f506_10.lt
  have u506_11 : T506.heap.size > x_506 := f506_11.lt
  have u506_12 : T506.heap.size > x_506 := f506_12.lt
  have F507 := (K1.keep K506 (ninS ne_kr_a1 (ninS ne_kr_al nin0)))
  obtain ⟨T508, X508, e508, st508⟩ := getF X506 hx hZ0 hown0 (host := "") (Or.inl (w_72 hw)) Via.refl eK506 F507 (g := (mkF m 9 #[rv kr, iv 1, .val .null, rv sa] [(.ref kr)])) rfl rfl (hb hby d52_9)
  refine Go.on (w := T508.setTop (mkF m 13 #[rv kr, iv 1, .val .null, rv sa] [(.int 1), (.ref a1)])) (fun t k => XS.aloadN X0.here hx rfl (hb hby d52_0) rfl rfl (st505 _ (XS.lconst X505.here hx rfl (hb hby d52_4) (st506.trans (XS.aloadN X506.here hx rfl (hb hby d52_8) rfl rfl (st508 _ (XS.iloadN X508.here hx rfl (hb hby d52_12) rfl k))))))) ?_
  refine Go.on (w := T508.setTop (mkF m 14 #[rv kr, iv 1, .val .null, rv sa] [(.long 1), (.ref a1)])) (fun t k => XS.i2l X508.here hx rfl (hb hby d52_13) rfl (by rw [(by decide : ((1 : Int32).toInt64) = (1 : Int64))]; exact k)) ?_
  obtain ⟨cq509, kq509, q509a, q509b, q509c⟩ := isOf hZ0 e508 f506_3
  obtain ⟨v509, _, ⟨T509, L509, k509, n509⟩, -, X509, ⟨Lc509, hQ509, l509, y509, z509⟩, st509⟩ := X508.virtualBack hx (y := yM9) (z := yM9) hown0 (mvT hZ0 (w_86 hw)) (mvT hZ0 (w_87 hw)) (notFace_of_selects (args := #[]) (mvT hZ0 (w_89 hw))) (mvT hZ0 (w_89 hw)) (mvT hZ0 (w_88 hw)) (by decide) (backOf (W := 0) (rmWcN1 l Z a0 hw [] a1 (1 : Int32) al (md + (1 : Int32)) ee_506 ke_506 x_506 kb_506 T506.heap (by omega) (by omega) (by omega) ne_al_a1 (show @Ne Nat ee_506 a1 by omega) (show @Ne Nat al x_506 by omega) (show @Ne Nat ee_506 x_506 by omega) (show @Ne Nat a1 x_506 by omega) f506_3 f506_4 f506_5 f506_6 f506_7 f506_8 f506_9 f506_10 f506_11 f506_12 (by unfold own_us; decide)) hZ0 (w_90 hw) (w_39 hw) (by decide) (by decide)) q509a q509c (g := (mkF m 14 #[rv kr, iv 1, .val .null, rv sa] [(.long 1), (.ref a1)])) rfl (by rw [hml]; rfl) (Steps.refl _) (argsL := [(.long 1)]) (rest := []) (lenOf pd_30 rfl) rfl (by show 2 * 0 + _ ≤ _; exact Nat.le_of_eq rfl) (hb hby d52_14) (fun _ _ => ⟨rfl, e508, (by decide : 2 + 0 ≤ _), (by decide : 74 + 0 ≤ _)⟩)
  dsimp only [Pt.U, Pt.locs, Pt.cells, Pt.slots] at X509 l509 y509 z509 st509 hQ509
  subst l509 y509 z509
  obtain ⟨rfl, Nq509, K509, f509_0, f509_1, f509_2, f509_3, f509_4, f509_5, f509_6, f509_7, f509_8, f509_9⟩ := hQ509
  have N509 := Fr.app N506 Nq509
  have eK509 : T509.heap = T509.heap := rfl
  have CR509 := CR506.trans (CHr.keep K509 (sfS (Safe.exa hZ0.alike f506_3 (by decide) (by decide)) (sfS (own_safeBlk hZ0 hw CR506.1 f506_12 f506_11) sf0)) CR506.1)
  have z509 : T506.heap.size ≤ T509.heap.size := K509.1
  have KP509 : Keep h0 T509.heap ([a1, al] : List Addr) := KP506.trans K509 (allS (P := fun zq => zq ∈ ([a1, al] : List Addr) ∨ h0.size ≤ zq) (Or.inl (List.mem_of_getElem? (i := 0) rfl)) (allS (P := fun zq => zq ∈ ([a1, al] : List Addr) ∨ h0.size ≤ zq) (Or.inr (by omega)) all0))
  have F510 := (F507.keep K509 (ninS ne_kr_a1 (ninS (show @Ne Nat kr x_506 by omega) nin0)))
  obtain ⟨T511, X511, e511, st511⟩ := getF X509 hx hZ0 hown0 (host := "") (Or.inl (w_72 hw)) Via.refl eK509 F510 (g := (mkF m 18 #[rv kr, iv 1, .val .null, rv sa] [(.ref kr)])) rfl rfl (hb hby d52_18)
  have F513 := ((OL.keep K506 (allS (by omega) (allS (by omega) all0))).keep K509 (allS (by omega) (allS (by omega) all0)))
  have F514 := ((S0.keep K506).keep K509)
  have F515 := ((S1.keep K506 (ninS ne_sa_a1 (ninS ne_sa_al nin0))).keep K509 (ninS ne_sa_a1 (ninS (show @Ne Nat sa x_506 by omega) nin0)))
  have F516 := ((S2.keep K506 (ninS ne_sa_a1 (ninS ne_sa_al nin0))).keep K509 (ninS ne_sa_a1 (ninS (show @Ne Nat sa x_506 by omega) nin0)))
  have F517 := ((S3.keep K506 (ninS ne_ta_a1 (ninS ne_ta_al nin0))).keep K509 (ninS ne_ta_a1 (ninS (show @Ne Nat ta x_506 by omega) nin0)))
  obtain ⟨v512, _, ⟨T512, L512, k512, n512⟩, -, X512', hs512, hg512, ⟨Lc512, hQ512, l512, y512, z512, C512⟩, st512⟩ := callSS X511 hx (y := yM27) hown0 (mvT hZ0 (w_176 hw)) (mvT hZ0 (w_177 hw)) (mvT hZ0 (w_32 hw)) (mvT hZ0 (w_178 hw)) (by decide) (backOfSH (s := s) (W := 1) (rmKey l Z a0 hw [] sa ta q G1 v0 T509.heap hEL (by omega) F513 O2 P5 F514 F515 F516 F517) hZ0 (w_178 hw) (w_32 hw) (by decide) (by decide) hEL CR509.1) (g := (mkF m 23 #[rv kr, iv 1, .val .null, rv sa] [(.ref sa), .null, (.ref a1)])) rfl (by rw [hml]; rfl) (argsL := [.null, (.ref sa)]) (rest := [(.ref a1)]) (lenOf pd_32 rfl) rfl (by show 2 * 0 + _ ≤ _; exact Nat.le_of_eq rfl) (hb hby d52_23) (fun _ _ => ⟨rfl, e511, (by decide : 2 + 6 ≤ _), (by decide : 74 + 59 ≤ _)⟩)
  dsimp only [Pt.U, Pt.locs, Pt.cells, Pt.slots] at X512' l512 y512 z512 st512 hQ512 hs512 hg512 C512
  subst l512 y512 z512
  obtain ⟨X512, hS512, hZ512, hown512⟩ := rebS hS0 (n1 := T511.heap.size) (by rw [e511]; omega) X512' hs512 hg512 hZ0 hown0
  have hj512 : T512.heap.size ≤ T512.heap.size := Nat.le_refl _
  obtain ⟨r_512, tr_512, kr_512, rfl, Nq512, K512, f512_0, f512_1, f512_2, f512_3, f512_4, f512_5, f512_6⟩ := hQ512
  have N512 := Fr.app N509 Nq512
  have eK512 : T512.heap = T512.heap := rfl
  have CR512 := CR509.trans C512
  have z512 : T509.heap.size ≤ T512.heap.size := K512.1
  have KP512 : Keep h0 T512.heap ([a1, al] : List Addr) := KP509.trans K512 all0
  have u512_2 : T512.heap.size > r_512 := f512_2.lt
  have u512_5 : T512.heap.size > tr_512 := f512_5.lt
  have u512_6 : T512.heap.size > tr_512 := f512_6.lt
  have F519 := (f509_0.keep K512)
  have F520 := (f509_1.keep K512 nin0)
  have F521 := (f509_2.keep K512 nin0)
  have F522 := (f509_3.keep K512)
  have F523 := (f509_4.keep K512 nin0)
  have F524 := (f509_5.keep K512 nin0)
  have F525 := (f509_6.keep K512 nin0)
  have F526 := (f509_7.keep K512 nin0)
  have F527 := (f509_8.keep K512 nin0)
  have F528 := (f509_9.keep K512)
  have F529 := (F513.keep K512 all0)
  obtain ⟨cq518, kq518, q518a, q518b, q518c⟩ := isOf hZ512 eK512 F519
  obtain ⟨v518, _, ⟨T518, L518, k518, n518⟩, -, X518, ⟨Lc518, hQ518, l518, y518, z518⟩, st518⟩ := X512.virtualBack hx (y := yM50) (z := yM50) hown512 (mvT hZ512 (w_291 hw)) (mvT hZ512 (w_292 hw)) (notFace_of_selects (args := #[]) (mvT hZ512 (w_294 hw))) (mvT hZ512 (w_294 hw)) (mvT hZ512 (w_293 hw)) (by decide) (backOf (W := 0) (rmWs1 l Z a0 hw [] a1 ((1 : Int32) + (1 : Int32)) al (md + (1 : Int32)) ee_506 ke_506 x_506 kb_506 r_512 tr_512 kr_512 G1 v0 cu T512.heap (by omega) (by omega) (by omega) ne_al_a1 (show @Ne Nat ee_506 a1 by omega) (show @Ne Nat al x_506 by omega) (show @Ne Nat ee_506 x_506 by omega) (show @Ne Nat a1 x_506 by omega) F519 F520 F521 F522 F523 F524 F525 F526 F527 F528 F529 O2 P5 OU OI (show @Ne Nat r_512 a1 by omega) (show @Ne Nat r_512 x_506 by omega) (show @Ne Nat tr_512 a1 by omega) (show @Ne Nat tr_512 x_506 by omega) (by unfold own_us; decide) f512_2 f512_3 f512_4 f512_5 f512_6) hZ512 (w_295 hw) (w_39 hw) (by decide) (by decide)) q518a q518c (g := (mkF m 26 #[rv kr, iv 1, .val .null, rv sa] [(.ref r_512), (.ref a1)])) rfl (by rw [hml]; rfl) (Steps.refl _) (argsL := [(.ref r_512)]) (rest := []) (lenOf pd_13 rfl) rfl (by show 2 * 0 + _ ≤ _; exact Nat.le_of_eq rfl) (hb hby d52_26) (fun _ _ => ⟨rfl, eK512, (by decide : 8 + 2 ≤ _), (by decide : 133 + 22 ≤ _)⟩)
  dsimp only [Pt.U, Pt.locs, Pt.cells, Pt.slots] at X518 l518 y518 z518 st518 hQ518
  subst l518 y518 z518
  obtain ⟨u'_518, rfl, Nq518, K518, f518_0, f518_1, f518_2, f518_3, f518_4, f518_5, f518_6, f518_7, f518_8, f518_9, f518_10⟩ := hQ518
  have N518 := Fr.app N512 Nq518
  have eK518 : T518.heap = T518.heap := rfl
  have CR518 := CR512.trans (CHr.keep K518 (sfS (Safe.exa hZ512.alike F519 (by decide) (by decide)) (sfS (own_safeBlk hZ512 hw CR512.1 F528 F527) sf0)) CR512.1)
  have z518 : T512.heap.size ≤ T518.heap.size := K518.1
  have KP518 : Keep h0 T518.heap ([a1, al] : List Addr) := KP512.trans K518 (allS (P := fun zq => zq ∈ ([a1, al] : List Addr) ∨ h0.size ≤ zq) (Or.inl (List.mem_of_getElem? (i := 0) rfl)) (allS (P := fun zq => zq ∈ ([a1, al] : List Addr) ∨ h0.size ≤ zq) (Or.inr (by omega)) all0))
  refine Go.on (w := T518.setTop (mkF m 29 #[rv kr, iv 1, .val .null, rv sa] [])) (fun t k => st509.trans (XS.aloadN X509.here hx rfl (hb hby d52_17) rfl rfl (st511 _ (XS.aloadN X511.here hx rfl (hb hby d52_21) rfl rfl (XS.aloadN X511.here hx rfl (hb hby d52_22) rfl rfl (st512.trans (st518.trans k))))))) ?_
  have CE530 := CR518.trans (CHv.at X518 hZ512 hEL CR518.1)
  refine Go.fin X518 hS512 (by rw [eK518]; omega) hlk (v := none) (fun _ => rfl) (fun fs hr => ?_) (endP (Q := Q_rmAm0 Z kr a1 al md dd qd sa ta q G1 v0 cu h0) (by rw [eK518]; exact ⟨ee_506, ke_506, x_506, kb_506, u'_518, rfl, N518, KP518, (by omega), (by omega), (by omega), f518_0, f518_1, f518_2, f518_3, f518_4, f518_5, f518_6, f518_7, f518_8, f518_9, f518_10⟩) (by rw [eK518]; exact CE530) (by decide) (by decide))
  exact X518.returnOut hx Bd.returns (hb hby d52_29) hr
def Q_rmAm1 (Z : State) (kr : Addr) (a1 : Addr) (u : Int32) (al : Addr) (md : Int32) (ee : Addr) (ke : ClassId) (x : Addr) (kb : ClassId) (sa : Addr) (ta : Addr) (q : ClassId) (G1 : Int32) (v0 : Int32) (cu : Addr) (h0 : Heap) (vv : Option Value) (h : Heap) (L : List Loc) : Prop := ∃ (u' : Int32), vv = none ∧ Fr Z.heap.size L ∧ Keep h0 h [a1, x] ∧ Exa Z h a1 "com/example/realmwright/realmwright/ByteLog" ∧ Fld Z h a1 "com/example/realmwright/realmwright/ByteLog" "blocks" "Ljava/util/List;" (.ref al) ∧ Fld Z h a1 "com/example/realmwright/realmwright/ByteLog" "used" "I" (.int u') ∧ Exa Z h al "java/util/ArrayList" ∧ Fld Z h al "java/util/AbstractList" "modCount" "I" (.int md) ∧ Fld Z h al "java/util/ArrayList" "elementData" "[Ljava/lang/Object;" (.ref ee) ∧ Fld Z h al "java/util/ArrayList" "size" "I" (.int 1) ∧ Arv Z h ee ke (.object "java/lang/Object") (10 : Int32) [(.ref x), .null, .null, .null, .null, .null, .null, .null, .null, .null] .null ∧ own_blk Z h x kb ∧ Exa Z h x "[B" ∧ (own_us (40 : Int32) u')
theorem ef_rmAm1 (m : MethodId) (x0 : Addr) (x1 : Int32) (x3 : Addr)   : entryFrame m #[(.ref x0), (.int x1), .null, (.ref x3)] 4 = mkF m 0 #[.val (.ref x0), .val (.int x1), .val .null, .val (.ref x3)] [] := rfl
theorem rmAm1 (l : Launch) (Z : State) (a0 : Array Value) (hw : HW a0 Z) (ws : List Cond) (kr : Addr) (a1 : Addr) (u : Int32) (al : Addr) (md : Int32) (ee : Addr) (ke : ClassId) (x : Addr) (kb : ClassId) (sa : Addr) (ta : Addr) (q : ClassId) (G1 : Int32) (v0 : Int32) (cu : Addr) (h0 : Heap) (Z0 : Z.heap.size ≤ h0.size) (lo_a1 : Z.heap.size ≤ a1) (lo_x : Z.heap.size ≤ x) (ne_al_a1 : al ≠ a1) (ne_ee_a1 : ee ≠ a1) (ne_al_x : al ≠ x) (ne_ee_x : ee ≠ x) (ne_a1_x : a1 ≠ x) (L0 : Exa Z h0 a1 "com/example/realmwright/realmwright/ByteLog") (L1 : Fld Z h0 a1 "com/example/realmwright/realmwright/ByteLog" "blocks" "Ljava/util/List;" (.ref al)) (L2 : Fld Z h0 a1 "com/example/realmwright/realmwright/ByteLog" "used" "I" (.int u)) (L3 : Exa Z h0 al "java/util/ArrayList") (L4 : Fld Z h0 al "java/util/AbstractList" "modCount" "I" (.int md)) (L5 : Fld Z h0 al "java/util/ArrayList" "elementData" "[Ljava/lang/Object;" (.ref ee)) (L6 : Fld Z h0 al "java/util/ArrayList" "size" "I" (.int 1)) (L7 : Arv Z h0 ee ke (.object "java/lang/Object") (10 : Int32) [(.ref x), .null, .null, .null, .null, .null, .null, .null, .null, .null] .null) (L8 : own_blk Z h0 x kb) (L9 : Exa Z h0 x "[B") (OL : Old Z Z.heap.size h0) (hEL : EW Z a0 EL) (O2 : Sta Z Z.heap "java/lang/String" "COMPACT_STRINGS" "Z" (.int G1)) (P5 : ¬ (G1 = (0 : Int32))) (OU : Sta Z Z.heap "java/nio/charset/StandardCharsets" "UTF_8" "Ljava/nio/charset/Charset;" (.ref cu)) (OI : Sta Z Z.heap "sun/nio/cs/UTF_8" "INSTANCE" "Lsun/nio/cs/UTF_8;" (.ref cu)) (ne_kr_a1 : kr ≠ a1) (ne_kr_x : kr ≠ x) (ne_sa_a1 : sa ≠ a1) (ne_sa_x : sa ≠ x) (ne_ta_a1 : ta ≠ a1) (ne_ta_x : ta ≠ x) (K0 : Exa Z h0 kr "com/example/realmwright/realmwright/KeycloakRoles") (K1 : Fld Z h0 kr "com/example/realmwright/realmwright/KeycloakRoles" "groups" "Lcom/example/realmwright/realmwright/ByteLog;" (.ref a1)) (S0 : Exa Z h0 sa "java/lang/String") (S1 : Fld Z h0 sa "java/lang/String" "coder" "B" (.int 0)) (S2 : Fld Z h0 sa "java/lang/String" "value" "[B" (.ref ta)) (S3 : Arv Z h0 ta q .byte (1 : Int32) [(.int v0)] (.int 0)) (hu : own_us (10 : Int32) u) :
    MetFree l yM8 (head1 (Cond.code yM8 prog_22_method_5_code 4 none :: ws) (⟨7, 8, 81, 127⟩ : Room)) (fun a U => a = #[(.ref kr), (.int 1), .null, (.ref sa)] ∧ Z.Warmed39 U.vm ∧ U.heap = h0 ∧ CHv Z EL U.vm h0) (fun _ _ _ _ _ => True) (fun _ U o U' => ∃ v L, o = .returned v ∧ Q_rmAm1 Z kr a1 u al md ee ke x kb sa ta q G1 v0 cu h0 v U'.heap L ∧ CHr Z EL U.vm U.heap U'.vm U'.heap ∧ ReturnedEndW U o U' L (⟨7, 8, 81, 127⟩ : Room).cells (⟨7, 8, 81, 127⟩ : Room).slots) := by
  refine MetFree.of_bodySF (plainFor_of_name (by first | (simp [plainName, overriddenIn]; done) | decide +kernel)) hisR ?_
  intro p e s m args below meth c s₁ Bd hml0 hP hK
  obtain ⟨rfl, hZ0', hh, hC0⟩ := hP
  have hx := Bd.exec
  have hby := Bd.bytes
  have hml : c.maxLocals = 4 := hml0
  have hZ0 : Z.Warmed39 (s.setVm s.vm).vm := hZ0'
  have hown0 : (s.setVm s.vm).vm.findClass "com/example/realmwright/realmwright/KeycloakRoles" = some m.cls := findClass_of_methodNamed Bd.named
  have hnm := (name_of_methodNamed Bd.named Bd.method).1
  have hlk : meth.locks = false := Bd.notSynchronized
  have X0 : Stand p l e (⟨7, 8, 81, 127⟩ : Room) (s.setVm s.vm) m #[(.ref kr), (.int 1), .null, (.ref sa)] below meth c s₁ [] 0 0 := Stand.of_body Bd
  have e0 : s₁.heap = h0 := by rw [← hh, Bd.state]; rfl
  have hS0 : s.Since s.vm s.heap.size := (State.WarmedH.refl s).since _
  have hk0 : s.heap.size ≤ h0.size := by rw [hh]; exact Nat.le_refl _
  have CR0 : CHr Z EL s.vm s.heap s.vm h0 := by rw [hh]; exact CHr.refl hC0
  have N0 := Fr.nil Z.heap.size
  have KP0 : Keep h0 h0 ([a1, x] : List Addr) := Keep.refl _ _
  show Go p e below (fun t o => ∃ v L, o = .returned v ∧ Q_rmAm1 Z kr a1 u al md ee ke x kb sa ta q G1 v0 cu h0 v t.heap L ∧ CHr Z EL s.vm s.heap t.vm t.heap ∧ ReturnedEndW s o t L (⟨7, 8, 81, 127⟩ : Room).cells (⟨7, 8, 81, 127⟩ : Room).slots) (s₁.setTop (entryFrame m #[(.ref kr), (.int 1), .null, (.ref sa)] 4))
  refine Go.on (w := s₁.setTop (mkF m 0 #[rv kr, iv 1, .val .null, rv sa] [])) (fun t k => castTop (ef_rmAm1 m kr (1 : Int32) sa) k) ?_
  have u_a1 : h0.size > a1 := L0.lt
  have u_al : h0.size > al := L3.lt
  have u_e : h0.size > ee := L7.lt
  have u_x : h0.size > x := L8.lt
  have u_kr : h0.size > kr := K0.lt
  have u_s : h0.size > sa := S0.lt
  have u_t : h0.size > ta := S3.lt
  obtain ⟨T531, X531, e531, st531⟩ := getF X0 hx hZ0 hown0 (host := "") (Or.inl (w_72 hw)) Via.refl e0 K1 (g := (mkF m 1 #[rv kr, iv 1, .val .null, rv sa] [(.ref kr)])) rfl rfl (hb hby d52_1)
  obtain ⟨cq532, kq532, q532a, q532b, q532c⟩ := isOf hZ0 e531 L0
  obtain ⟨v532, _, ⟨T532, L532, k532, n532⟩, -, X532, ⟨Lc532, hQ532, l532, y532, z532⟩, st532⟩ := X531.virtualBack hx (y := yM9) (z := yM9) hown0 (mvT hZ0 (w_86 hw)) (mvT hZ0 (w_87 hw)) (notFace_of_selects (args := #[]) (mvT hZ0 (w_89 hw))) (mvT hZ0 (w_89 hw)) (mvT hZ0 (w_88 hw)) (by decide) (backOf (W := 0) (rmWcN1 l Z a0 hw [] a1 u al md ee ke x kb h0 (by omega) (by omega) (by omega) ne_al_a1 ne_ee_a1 ne_al_x ne_ee_x ne_a1_x L0 L1 L2 L3 L4 L5 L6 L7 L8 L9 (own_us10 hu)) hZ0 (w_90 hw) (w_39 hw) (by decide) (by decide)) q532a q532c (g := (mkF m 5 #[rv kr, iv 1, .val .null, rv sa] [(.long 1), (.ref a1)])) rfl (by rw [hml]; rfl) (Steps.refl _) (argsL := [(.long 1)]) (rest := []) (lenOf pd_30 rfl) rfl (by show 2 * 0 + _ ≤ _; exact Nat.le_of_eq rfl) (hb hby d52_5) (fun _ _ => ⟨rfl, e531, (by decide : 0 + 0 ≤ _), (by decide : 0 + 0 ≤ _)⟩)
  dsimp only [Pt.U, Pt.locs, Pt.cells, Pt.slots] at X532 l532 y532 z532 st532 hQ532
  subst l532 y532 z532
  obtain ⟨rfl, Nq532, K532, f532_0, f532_1, f532_2, f532_3, f532_4, f532_5, f532_6, f532_7, f532_8, f532_9⟩ := hQ532
  have N532 := Fr.app N0 Nq532
  have eK532 : T532.heap = T532.heap := rfl
  have CR532 := CR0.trans (CHr.keep K532 (sfS (Safe.exa hZ0.alike L0 (by decide) (by decide)) (sfS (own_safeBlk hZ0 hw CR0.1 L9 L8) sf0)) CR0.1)
  have z532 : h0.size ≤ T532.heap.size := K532.1
  have KP532 : Keep h0 T532.heap ([a1, x] : List Addr) := KP0.trans K532 (allS (P := fun zq => zq ∈ ([a1, x] : List Addr) ∨ h0.size ≤ zq) (Or.inl (List.mem_of_getElem? (i := 0) rfl)) (allS (P := fun zq => zq ∈ ([a1, x] : List Addr) ∨ h0.size ≤ zq) (Or.inl (List.mem_of_getElem? (i := 1) rfl)) all0))
  have F533 := (K1.keep K532 (ninS ne_kr_a1 (ninS ne_kr_x nin0)))
  obtain ⟨T534, X534, e534, st534⟩ := getF X532 hx hZ0 hown0 (host := "") (Or.inl (w_72 hw)) Via.refl eK532 F533 (g := (mkF m 9 #[rv kr, iv 1, .val .null, rv sa] [(.ref kr)])) rfl rfl (hb hby d52_9)
  refine Go.on (w := T534.setTop (mkF m 13 #[rv kr, iv 1, .val .null, rv sa] [(.int 1), (.ref a1)])) (fun t k => XS.aloadN X0.here hx rfl (hb hby d52_0) rfl rfl (st531 _ (XS.lconst X531.here hx rfl (hb hby d52_4) (st532.trans (XS.aloadN X532.here hx rfl (hb hby d52_8) rfl rfl (st534 _ (XS.iloadN X534.here hx rfl (hb hby d52_12) rfl k))))))) ?_
  refine Go.on (w := T534.setTop (mkF m 14 #[rv kr, iv 1, .val .null, rv sa] [(.long 1), (.ref a1)])) (fun t k => XS.i2l X534.here hx rfl (hb hby d52_13) rfl (by rw [(by decide : ((1 : Int32).toInt64) = (1 : Int64))]; exact k)) ?_
  obtain ⟨cq535, kq535, q535a, q535b, q535c⟩ := isOf hZ0 e534 f532_0
  obtain ⟨v535, _, ⟨T535, L535, k535, n535⟩, -, X535, ⟨Lc535, hQ535, l535, y535, z535⟩, st535⟩ := X534.virtualBack hx (y := yM9) (z := yM9) hown0 (mvT hZ0 (w_86 hw)) (mvT hZ0 (w_87 hw)) (notFace_of_selects (args := #[]) (mvT hZ0 (w_89 hw))) (mvT hZ0 (w_89 hw)) (mvT hZ0 (w_88 hw)) (by decide) (backOf (W := 0) (rmWcN1 l Z a0 hw [] a1 (u + (1 : Int32)) al md ee ke x kb T532.heap (by omega) (by omega) (by omega) ne_al_a1 ne_ee_a1 ne_al_x ne_ee_x ne_a1_x f532_0 f532_1 f532_2 f532_3 f532_4 f532_5 f532_6 f532_7 f532_8 f532_9 (own_us11 hu)) hZ0 (w_90 hw) (w_39 hw) (by decide) (by decide)) q535a q535c (g := (mkF m 14 #[rv kr, iv 1, .val .null, rv sa] [(.long 1), (.ref a1)])) rfl (by rw [hml]; rfl) (Steps.refl _) (argsL := [(.long 1)]) (rest := []) (lenOf pd_30 rfl) rfl (by show 2 * 0 + _ ≤ _; exact Nat.le_of_eq rfl) (hb hby d52_14) (fun _ _ => ⟨rfl, e534, (by decide : 0 + 0 ≤ _), (by decide : 0 + 0 ≤ _)⟩)
  dsimp only [Pt.U, Pt.locs, Pt.cells, Pt.slots] at X535 l535 y535 z535 st535 hQ535
  subst l535 y535 z535
  obtain ⟨rfl, Nq535, K535, f535_0, f535_1, f535_2, f535_3, f535_4, f535_5, f535_6, f535_7, f535_8, f535_9⟩ := hQ535
  have N535 := Fr.app N532 Nq535
  have eK535 : T535.heap = T535.heap := rfl
  have CR535 := CR532.trans (CHr.keep K535 (sfS (Safe.exa hZ0.alike f532_0 (by decide) (by decide)) (sfS (own_safeBlk hZ0 hw CR532.1 f532_9 f532_8) sf0)) CR532.1)
  have z535 : T532.heap.size ≤ T535.heap.size := K535.1
  have KP535 : Keep h0 T535.heap ([a1, x] : List Addr) := KP532.trans K535 (allS (P := fun zq => zq ∈ ([a1, x] : List Addr) ∨ h0.size ≤ zq) (Or.inl (List.mem_of_getElem? (i := 0) rfl)) (allS (P := fun zq => zq ∈ ([a1, x] : List Addr) ∨ h0.size ≤ zq) (Or.inl (List.mem_of_getElem? (i := 1) rfl)) all0))
  have F536 := (F533.keep K535 (ninS ne_kr_a1 (ninS ne_kr_x nin0)))
  obtain ⟨T537, X537, e537, st537⟩ := getF X535 hx hZ0 hown0 (host := "") (Or.inl (w_72 hw)) Via.refl eK535 F536 (g := (mkF m 18 #[rv kr, iv 1, .val .null, rv sa] [(.ref kr)])) rfl rfl (hb hby d52_18)
  have F539 := ((OL.keep K532 (allS (by omega) (allS (by omega) all0))).keep K535 (allS (by omega) (allS (by omega) all0)))
  have F540 := ((S0.keep K532).keep K535)
  have F541 := ((S1.keep K532 (ninS ne_sa_a1 (ninS ne_sa_x nin0))).keep K535 (ninS ne_sa_a1 (ninS ne_sa_x nin0)))
  have F542 := ((S2.keep K532 (ninS ne_sa_a1 (ninS ne_sa_x nin0))).keep K535 (ninS ne_sa_a1 (ninS ne_sa_x nin0)))
  have F543 := ((S3.keep K532 (ninS ne_ta_a1 (ninS ne_ta_x nin0))).keep K535 (ninS ne_ta_a1 (ninS ne_ta_x nin0)))
  obtain ⟨v538, _, ⟨T538, L538, k538, n538⟩, -, X538', hs538, hg538, ⟨Lc538, hQ538, l538, y538, z538, C538⟩, st538⟩ := callSS X537 hx (y := yM27) hown0 (mvT hZ0 (w_176 hw)) (mvT hZ0 (w_177 hw)) (mvT hZ0 (w_32 hw)) (mvT hZ0 (w_178 hw)) (by decide) (backOfSH (s := s) (W := 1) (rmKey l Z a0 hw [] sa ta q G1 v0 T535.heap hEL (by omega) F539 O2 P5 F540 F541 F542 F543) hZ0 (w_178 hw) (w_32 hw) (by decide) (by decide) hEL CR535.1) (g := (mkF m 23 #[rv kr, iv 1, .val .null, rv sa] [(.ref sa), .null, (.ref a1)])) rfl (by rw [hml]; rfl) (argsL := [.null, (.ref sa)]) (rest := [(.ref a1)]) (lenOf pd_32 rfl) rfl (by show 2 * 0 + _ ≤ _; exact Nat.le_of_eq rfl) (hb hby d52_23) (fun _ _ => ⟨rfl, e537, (by decide : 0 + 6 ≤ _), (by decide : 0 + 59 ≤ _)⟩)
  dsimp only [Pt.U, Pt.locs, Pt.cells, Pt.slots] at X538' l538 y538 z538 st538 hQ538 hs538 hg538 C538
  subst l538 y538 z538
  obtain ⟨X538, hS538, hZ538, hown538⟩ := rebS hS0 (n1 := T537.heap.size) (by rw [e537]; omega) X538' hs538 hg538 hZ0 hown0
  have hj538 : T538.heap.size ≤ T538.heap.size := Nat.le_refl _
  obtain ⟨r_538, tr_538, kr_538, rfl, Nq538, K538, f538_0, f538_1, f538_2, f538_3, f538_4, f538_5, f538_6⟩ := hQ538
  have N538 := Fr.app N535 Nq538
  have eK538 : T538.heap = T538.heap := rfl
  have CR538 := CR535.trans C538
  have z538 : T535.heap.size ≤ T538.heap.size := K538.1
  have KP538 : Keep h0 T538.heap ([a1, x] : List Addr) := KP535.trans K538 all0
  have u538_2 : T538.heap.size > r_538 := f538_2.lt
  have u538_5 : T538.heap.size > tr_538 := f538_5.lt
  have u538_6 : T538.heap.size > tr_538 := f538_6.lt
  have F545 := (f535_0.keep K538)
  have F546 := (f535_1.keep K538 nin0)
  have F547 := (f535_2.keep K538 nin0)
  have F548 := (f535_3.keep K538)
  have F549 := (f535_4.keep K538 nin0)
  have F550 := (f535_5.keep K538 nin0)
  have F551 := (f535_6.keep K538 nin0)
  have F552 := (f535_7.keep K538 nin0)
  have F553 := (f535_8.keep K538 nin0)
  have F554 := (f535_9.keep K538)
  have F555 := (F539.keep K538 all0)
  obtain ⟨cq544, kq544, q544a, q544b, q544c⟩ := isOf hZ538 eK538 F545
  obtain ⟨v544, _, ⟨T544, L544, k544, n544⟩, -, X544, ⟨Lc544, hQ544, l544, y544, z544⟩, st544⟩ := X538.virtualBack hx (y := yM50) (z := yM50) hown538 (mvT hZ538 (w_291 hw)) (mvT hZ538 (w_292 hw)) (notFace_of_selects (args := #[]) (mvT hZ538 (w_294 hw))) (mvT hZ538 (w_294 hw)) (mvT hZ538 (w_293 hw)) (by decide) (backOf (W := 0) (rmWs1 l Z a0 hw [] a1 ((u + (1 : Int32)) + (1 : Int32)) al md ee ke x kb r_538 tr_538 kr_538 G1 v0 cu T538.heap (by omega) (by omega) (by omega) ne_al_a1 ne_ee_a1 ne_al_x ne_ee_x ne_a1_x F545 F546 F547 F548 F549 F550 F551 F552 F553 F554 F555 O2 P5 OU OI (show @Ne Nat r_538 a1 by omega) (show @Ne Nat r_538 x by omega) (show @Ne Nat tr_538 a1 by omega) (show @Ne Nat tr_538 x by omega) (own_us12 hu) f538_2 f538_3 f538_4 f538_5 f538_6) hZ538 (w_295 hw) (w_39 hw) (by decide) (by decide)) q544a q544c (g := (mkF m 26 #[rv kr, iv 1, .val .null, rv sa] [(.ref r_538), (.ref a1)])) rfl (by rw [hml]; rfl) (Steps.refl _) (argsL := [(.ref r_538)]) (rest := []) (lenOf pd_13 rfl) rfl (by show 2 * 0 + _ ≤ _; exact Nat.le_of_eq rfl) (hb hby d52_26) (fun _ _ => ⟨rfl, eK538, (by decide : 6 + 2 ≤ _), (by decide : 59 + 22 ≤ _)⟩)
  dsimp only [Pt.U, Pt.locs, Pt.cells, Pt.slots] at X544 l544 y544 z544 st544 hQ544
  subst l544 y544 z544
  obtain ⟨u'_544, rfl, Nq544, K544, f544_0, f544_1, f544_2, f544_3, f544_4, f544_5, f544_6, f544_7, f544_8, f544_9, f544_10⟩ := hQ544
  have N544 := Fr.app N538 Nq544
  have eK544 : T544.heap = T544.heap := rfl
  have CR544 := CR538.trans (CHr.keep K544 (sfS (Safe.exa hZ538.alike F545 (by decide) (by decide)) (sfS (own_safeBlk hZ538 hw CR538.1 F554 F553) sf0)) CR538.1)
  have z544 : T538.heap.size ≤ T544.heap.size := K544.1
  have KP544 : Keep h0 T544.heap ([a1, x] : List Addr) := KP538.trans K544 (allS (P := fun zq => zq ∈ ([a1, x] : List Addr) ∨ h0.size ≤ zq) (Or.inl (List.mem_of_getElem? (i := 0) rfl)) (allS (P := fun zq => zq ∈ ([a1, x] : List Addr) ∨ h0.size ≤ zq) (Or.inl (List.mem_of_getElem? (i := 1) rfl)) all0))
  refine Go.on (w := T544.setTop (mkF m 29 #[rv kr, iv 1, .val .null, rv sa] [])) (fun t k => st535.trans (XS.aloadN X535.here hx rfl (hb hby d52_17) rfl rfl (st537 _ (XS.aloadN X537.here hx rfl (hb hby d52_21) rfl rfl (XS.aloadN X537.here hx rfl (hb hby d52_22) rfl rfl (st538.trans (st544.trans k))))))) ?_
  have CE556 := CR544.trans (CHv.at X544 hZ538 hEL CR544.1)
  refine Go.fin X544 hS538 (by rw [eK544]; omega) hlk (v := none) (fun _ => rfl) (fun fs hr => ?_) (endP (Q := Q_rmAm1 Z kr a1 u al md ee ke x kb sa ta q G1 v0 cu h0) (by rw [eK544]; exact ⟨u'_544, rfl, N544, KP544, f544_0, f544_1, f544_2, f544_3, f544_4, f544_5, f544_6, f544_7, f544_8, f544_9, f544_10⟩) (by rw [eK544]; exact CE556) (by decide) (by decide))
  exact X544.returnOut hx Bd.returns (hb hby d52_29) hr
def Q_rm0 (Z : State) (p0 : Int32) (p1 : Int32) (G1 : Int32) (dd : Addr) (qd : ClassId) (cu : Addr) (h0 : Heap) (vv : Option Value) (h : Heap) (L : List Loc) : Prop := vv = some (.int 1) ∧ Fr Z.heap.size L ∧ Keep h0 h []
theorem ef_rm0 (m : MethodId) (x0 : Int32) (x1 : Int32)   : entryFrame m #[(.int x0), (.int x1)] maxLocals = mkF m 0 #[.val (.int x0), .val (.int x1), .unset, .unset, .unset, .unset, .unset, .unset, .unset] [] := by first | (simp [entryFrame, mkF, argsToLocals, Value.category, maxLocals]; done) | rfl
theorem rm0 (l : Launch) (Z : State) (a0 : Array Value) (hw : HW a0 Z) (ws : List Cond) (p0 : Int32) (p1 : Int32) (G1 : Int32) (dd : Addr) (qd : ClassId) (cu : Addr) (h0 : Heap) (hEL : EW Z a0 EL) (Z0 : Z.heap.size ≤ h0.size) (OL : Old Z Z.heap.size h0) (O2 : Sta Z Z.heap "java/lang/String" "COMPACT_STRINGS" "Z" (.int G1)) (P5 : ¬ (G1 = (0 : Int32))) (OD : Sta Z Z.heap "java/util/ArrayList" "DEFAULTCAPACITY_EMPTY_ELEMENTDATA" "[Ljava/lang/Object;" (.ref dd)) (VD : Arv Z Z.heap dd qd (.object "java/lang/Object") (0 : Int32) [] .null) (OU : Sta Z Z.heap "java/nio/charset/StandardCharsets" "UTF_8" "Ljava/nio/charset/Charset;" (.ref cu)) (OI : Sta Z Z.heap "sun/nio/cs/UTF_8" "INSTANCE" "Lsun/nio/cs/UTF_8;" (.ref cu)) :
    MetFree l x (head1 (Cond.code x code maxLocals ret :: ws) room_1) (fun a U => a = #[(.int p0), (.int p1)] ∧ Z.Warmed39 U.vm ∧ U.heap = h0 ∧ CHv Z EL U.vm h0) (fun _ _ _ _ _ => True) (fun _ U o U' => ∃ v L, o = .returned v ∧ Q_rm0 Z p0 p1 G1 dd qd cu h0 v U'.heap L ∧ CHr Z EL U.vm U.heap U'.vm U'.heap ∧ ReturnedEndW U o U' L room_1.cells room_1.slots) := by
  refine MetFree.of_bodySF (plainFor_of_name (by first | (simp [plainName, overriddenIn]; done) | decide +kernel)) hisR ?_
  intro p e s m args below meth c s₁ Bd hml0 hP hK
  obtain ⟨rfl, hZ0', hh, hC0⟩ := hP
  have hx := Bd.exec
  have hby := Bd.bytes
  have hml : c.maxLocals = 9 := hml0
  have hZ0 : Z.Warmed39 (s.setVm s.vm).vm := hZ0'
  have hown0 : (s.setVm s.vm).vm.findClass "com/example/realmwright/realmwright/KeycloakRolesBeginGroupPinLaw" = some m.cls := findClass_of_methodNamed Bd.named
  have hnm := (name_of_methodNamed Bd.named Bd.method).1
  have hlk : meth.locks = false := Bd.notSynchronized
  have X0 : Stand p l e room_1 (s.setVm s.vm) m #[(.int p0), (.int p1)] below meth c s₁ [] 0 0 := Stand.of_body Bd
  have e0 : s₁.heap = h0 := by rw [← hh, Bd.state]; rfl
  have hS0 : s.Since s.vm s.heap.size := (State.WarmedH.refl s).since _
  have hk0 : s.heap.size ≤ h0.size := by rw [hh]; exact Nat.le_refl _
  have CR0 : CHr Z EL s.vm s.heap s.vm h0 := by rw [hh]; exact CHr.refl hC0
  have N0 := Fr.nil Z.heap.size
  have KP0 : Keep h0 h0 ([] : List Addr) := Keep.refl _ _
  show Go p e below (fun t o => ∃ v L, o = .returned v ∧ Q_rm0 Z p0 p1 G1 dd qd cu h0 v t.heap L ∧ CHr Z EL s.vm s.heap t.vm t.heap ∧ ReturnedEndW s o t L room_1.cells room_1.slots) (s₁.setTop (entryFrame m #[(.int p0), (.int p1)] maxLocals))
  refine Go.on (w := s₁.setTop (mkF m 0 #[iv p0, iv p1, .unset, .unset, .unset, .unset, .unset, .unset, .unset] [])) (fun t k => castTop (ef_rm0 m p0 p1) k) ?_
  obtain ⟨c1, hc1, l1, r1⟩ := own_chr p1
  obtain ⟨T557, h557, k557, X557, e557, E557, A557, st557⟩ := newP (aty := .char) X0 hx hZ0 (w_0 hw) e0 (g := (mkF m 1 #[iv p0, iv p1, .unset, .unset, .unset, .unset, .unset, .unset, .unset] [(.int 1)])) rfl (hb hby at_1) rfl (by decide : ¬ ((1 : Int32) < (0 : Int32))) (cap := 1) (by decide) (by decide) (by decide) (by decide)
  obtain ⟨b557, g557⟩ : ∃ z, z = h0.size := ⟨_, rfl⟩
  rw [← g557] at A557 st557
  have V557 : Arv Z h557 b557 k557 .char (1 : Int32) [(.int 0)] (.int 0) := (Arv.new A557 (by decide : ¬ ((1 : Int32) < (0 : Int32)))).pad (pad_rep [] (.int 0) 1)
  have u557 : h557.size > b557 := V557.lt
  have z557 : h0.size ≤ h557.size := E557.1
  have CR557 := CR0.trans (CHr.ext E557 CR0.1)
  have KP557 : Keep h0 h557 ([] : List Addr) := KP0.ext E557
  refine Go.on (w := T557.setTop (mkF m 11 #[iv p0, iv p1, rv b557, .unset, .unset, .unset, .unset, .unset, .unset] [(.int (p1 &&& (255 : Int32))), (.int 0), (.ref b557)])) (fun t k => XS.iconst X0.here hx rfl (hb hby at_0) (st557 _ (XS.astoreN X557.here hx rfl (hb hby at_3) rfl rfl (l' := #[iv p0, iv p1, rv b557, .unset, .unset, .unset, .unset, .unset, .unset]) rfl (XS.aloadN X557.here hx rfl (hb hby at_4) rfl rfl (XS.iconst X557.here hx rfl (hb hby at_5) (XS.iloadN X557.here hx rfl (hb hby at_6) rfl (XS.sipush X557.here hx rfl (hb hby at_7) (XS.iand X557.here hx rfl (hb hby at_10) rfl k)))))))) ?_
  refine Go.on (w := T557.setTop (mkF m 12 #[iv p0, iv p1, rv b557, .unset, .unset, .unset, .unset, .unset, .unset] [(.int c1), (.int 0), (.ref b557)])) (fun t k => XS.i2c X557.here hx rfl (hb hby at_11) rfl (by rw [(hc1 : ((p1 &&& (255 : Int32)).toUInt32.toUInt16.toUInt32.toInt32) = c1)]; exact k)) ?_
  obtain ⟨cl558, Ar558, q558, S558, M558, H558, U558⟩ := id V557
  obtain ⟨T558, h558, X558, e558, W558, st558⟩ := stC X557 hx hZ0 e557 Ar558 (j := (0 : Int32)) (inb_of S558 ⟨(by decide), (by decide)⟩) (g := (mkF m 12 #[iv p0, iv p1, rv b557, .unset, .unset, .unset, .unset, .unset, .unset] [(.int c1), (.int 0), (.ref b557)])) rfl rfl (hb hby at_12)
  have V558 : Arv Z h558 b557 k557 .char (1 : Int32) [(.int c1)] (.int 0) := by rw [← (own_nar l1 r1 : nar .char c1 = c1)]; exact (Arv.set Ar558 q558 S558 M558 H558 U558 (fits_nar_char _) W558 0 rfl (Nat.le_of_ble_eq_true rfl))
  have CR558 := CR557.trans (CHr.wr W558 (Safe.arv hZ0.alike V557 (by decide)) CR557.1)
  have z558 : h557.size ≤ h558.size := Nat.le_of_eq W558.size.symm
  have KP558 : Keep h0 h558 ([] : List Addr) := KP557.wr W558 (Or.inr (by omega))
  have N558 := Fr.snoc X558 N0 (by omega)
  obtain ⟨T559, h559, X559, e559, E559, A559, D559, -, st559⟩ := newO X558 hx hZ0 hown0 (w_1 hw) (w_2 hw) (w_3 hw) e558 (g := (mkF m 13 #[iv p0, iv p1, rv b557, .unset, .unset, .unset, .unset, .unset, .unset] [])) rfl (hb hby at_13) (by decide) (by decide)
  obtain ⟨b559, g559⟩ : ∃ z, z = h558.size := ⟨_, rfl⟩
  rw [← g559] at A559 D559 st559
  have u559 : h559.size > b559 := A559.lt
  have z559 : h558.size ≤ h559.size := E559.1
  have CR559 := CR558.trans (CHr.ext E559 CR558.1)
  have KP559 : Keep h0 h559 ([] : List Addr) := KP558.ext E559
  have Fn559_27 : Fld Z h559 b559 "java/lang/String" "coder" "B" (.int 0) := D559 (Or.inr (w_27 hw)) (ty := .byte) (by decide)
  have Fn559_29 : Fld Z h559 b559 "java/lang/String" "value" "[B" .null := D559 (Or.inr (w_29 hw)) (ty := (.array .byte)) (by decide)
  have F560 := (V558.ext E559)
  have F561 := (((OL.ext E557).wr W558 (by omega)).ext E559)
  refine Go.on (w := T559.setTop (mkF m 18 #[iv p0, iv p1, rv b557, .unset, .unset, .unset, .unset, .unset, .unset] [(.ref b557), (.ref b559), (.ref b559)])) (fun t k => st558 _ (st559 _ (XS.dup X559.here hx rfl (hb hby at_16) rfl rfl (XS.aloadN X559.here hx rfl (hb hby at_17) rfl rfl k)))) ?_
  have hp562 : ∀ c ∈ ([c1] : List Int32), ¬ c < 0 ∧ ¬ (255 : Int32) < c := by
    intro c hc
    simp only [List.mem_cons, List.not_mem_nil, or_false] at hc
    rcases hc with rfl
    · exact ⟨l1, r1⟩
  obtain ⟨v563, _, ⟨T563, L563, k563, n563⟩, -, X563, ⟨Lc563, hQ563, l563, y563, z563⟩, st563⟩ := X559.specialBack hx (y := yM0) rfl hown0 (mvT hZ0 (w_4 hw)) (mvT hZ0 (w_5 hw)) (mvT hZ0 (w_6 hw)) (by decide) (StrChars.Road.backV (W := 1) hZ0 (hStrW hw) (kI := 4) (w_2 hw) (cs := ([c1] : List Int32)) (bs := ([c1] : List Int32).map (fun c => c.toInt8.toInt32)) (n := 1) (n0 := Z.heap.size) (by omega) (by omega) A559 Fn559_29 Fn559_27 F560 (O2.ext F561.2) P5 rfl rfl (by decide) (by decide) hp562 rfl (by decide) (by decide)) (g := (mkF m 18 #[iv p0, iv p1, rv b557, .unset, .unset, .unset, .unset, .unset, .unset] [(.ref b557), (.ref b559), (.ref b559)])) rfl (by rw [hml]; rfl) (Steps.refl _) (a := b559) (argsL := [(.ref b557)]) (rest := [(.ref b559)]) (lenOf pd_33 rfl) rfl (by show 2 * 0 + _ ≤ _; exact Nat.le_of_eq rfl) (hb hby at_18) (fun _ _ => ⟨rfl, e559, (by decide : 2 + 1 ≤ _), (by decide : 5 + 1 ≤ _)⟩)
  dsimp only [Pt.U, Pt.locs, Pt.cells, Pt.slots] at X563 l563 y563 z563 st563 hQ563
  subst l563 y563 z563
  obtain ⟨rfl, Nq563, K563, Ex563, Fc563, t563, kb563, -, ht563, hne563, Fv563, Av563⟩ := hQ563
  have N563 := Fr.app N558 Nq563
  have eK563 : T563.heap = T563.heap := rfl
  have CR563 := CR559.trans (CHr.keep K563 (sfS (own_safeNull hZ0.alike A559 Fn559_29) sf0) CR559.1)
  have z563 : h559.size ≤ T563.heap.size := K563.1
  have KP563 : Keep h0 T563.heap ([] : List Addr) := KP559.trans K563 (allS (P := fun zq => zq ∈ ([] : List Addr) ∨ h0.size ≤ zq) (Or.inr (by omega)) all0)
  have ut563 : T563.heap.size > t563 := Av563.lt
  have V564 : Arv Z T563.heap t563 kb563 .byte (1 : Int32) [(.int (c1.toInt8.toInt32))] (.int 0) := Av563
  obtain ⟨T565, h565, X565, e565, E565, A565, D565, -, st565⟩ := newO X563 hx hZ0 hown0 (w_30 hw) (w_31 hw) (w_32 hw) eK563 (g := (mkF m 22 #[iv p0, iv p1, rv b557, rv b559, .unset, .unset, .unset, .unset, .unset] [])) rfl (hb hby at_22) (by decide) (by decide)
  obtain ⟨b565, g565⟩ : ∃ z, z = T563.heap.size := ⟨_, rfl⟩
  rw [← g565] at A565 D565 st565
  have u565 : h565.size > b565 := A565.lt
  have z565 : T563.heap.size ≤ h565.size := E565.1
  have CR565 := CR563.trans (CHr.ext E565 CR563.1)
  have KP565 : Keep h0 h565 ([] : List Addr) := KP563.ext E565
  have Fn565_71 : Fld Z h565 b565 "com/example/realmwright/realmwright/KeycloakRoles" "composites" "Lcom/example/realmwright/realmwright/ByteLog;" .null := D565 (Or.inr (w_71 hw)) (ty := (.object "com/example/realmwright/realmwright/ByteLog")) (by decide)
  have Fn565_73 : Fld Z h565 b565 "com/example/realmwright/realmwright/KeycloakRoles" "groups" "Lcom/example/realmwright/realmwright/ByteLog;" .null := D565 (Or.inr (w_73 hw)) (ty := (.object "com/example/realmwright/realmwright/ByteLog")) (by decide)
  have Fn565_80 : Fld Z h565 b565 "com/example/realmwright/realmwright/KeycloakRoles" "groupCount" "I" (.int 0) := D565 (Or.inl (w_80 hw)) (ty := .int) (by decide)
  have F567 := ((F561.keep K563 (allS (by omega) all0)).ext E565)
  obtain ⟨v566, _, ⟨T566, L566, k566, n566⟩, -, X566, ⟨Lc566, hQ566, l566, y566, z566⟩, st566⟩ := X565.specialBack hx (y := yM2) rfl hown0 (mvT hZ0 (w_33 hw)) (mvT hZ0 (w_34 hw)) (mvT hZ0 (w_35 hw)) (by decide) (backOf (W := 1) (rmKR l Z a0 hw [] b565 dd h565 (by omega) F567 OD (by omega) A565 Fn565_71 Fn565_73 Fn565_80) hZ0 (w_35 hw) (w_32 hw) (by decide) (by decide)) (g := (mkF m 26 #[iv p0, iv p1, rv b557, rv b559, .unset, .unset, .unset, .unset, .unset] [(.ref b565), (.ref b565)])) rfl (by rw [hml]; rfl) (Steps.refl _) (a := b565) (argsL := []) (rest := [(.ref b565)]) (lenOf pd_0 rfl) rfl (by show 2 * 0 + _ ≤ _; exact Nat.le_of_eq rfl) (hb hby at_26) (fun _ _ => ⟨rfl, e565, (by decide : 4 + 4 ≤ _), (by decide : 11 + 10 ≤ _)⟩)
  dsimp only [Pt.U, Pt.locs, Pt.cells, Pt.slots] at X566 l566 y566 z566 st566 hQ566
  subst l566 y566 z566
  obtain ⟨bl_566, al_566, rfl, Nq566, K566, f566_0, f566_1, f566_2, f566_3, f566_4, f566_5, f566_6, f566_7, f566_8, f566_9, f566_10, f566_11, f566_12⟩ := hQ566
  have N566 := Fr.app N563 Nq566
  have eK566 : T566.heap = T566.heap := rfl
  have CR566 := CR565.trans (CHr.keep K566 (sfS (Safe.exa hZ0.alike A565 (by decide) (by decide)) sf0) CR565.1)
  have z566 : h565.size ≤ T566.heap.size := K566.1
  have KP566 : Keep h0 T566.heap ([] : List Addr) := KP565.trans K566 (allS (P := fun zq => zq ∈ ([] : List Addr) ∨ h0.size ≤ zq) (Or.inr (by omega)) all0)
  have u566_6 : T566.heap.size > bl_566 := f566_6.lt
  have u566_9 : T566.heap.size > al_566 := f566_9.lt
  obtain ⟨cq568, kq568, q568a, q568b, q568c⟩ := isOf hZ0 eK566 f566_3
  obtain ⟨v568, _, ⟨T568, L568, k568, n568⟩, -, X568, ⟨Lc568, hQ568, l568, y568, z568⟩, st568⟩ := X566.virtualBack hx (y := yM7) (z := yM7) hown0 (mvT hZ0 (w_74 hw)) (mvT hZ0 (w_75 hw)) (notFace_of_selects (args := #[]) (mvT hZ0 (w_77 hw))) (mvT hZ0 (w_77 hw)) (mvT hZ0 (w_76 hw)) (by decide) (backOf (W := 0) (rmBg0 l Z a0 hw [] b565 bl_566 T566.heap (by omega) (by omega) f566_3 f566_5 f566_4) hZ0 (w_78 hw) (w_32 hw) (by decide) (by decide)) q568a q568c (g := (mkF m 33 #[iv p0, iv p1, rv b557, rv b559, rv b565, .unset, .unset, .unset, .unset] [(.ref b565)])) rfl (by rw [hml]; rfl) (Steps.refl _) (argsL := []) (rest := []) (lenOf pd_8 rfl) rfl (by show 2 * 0 + _ ≤ _; exact Nat.le_of_eq rfl) (hb hby at_33) (fun _ _ => ⟨rfl, eK566, (by decide : 8 + 0 ≤ _), (by decide : 21 + 0 ≤ _)⟩)
  dsimp only [Pt.U, Pt.locs, Pt.cells, Pt.slots] at X568 l568 y568 z568 st568 hQ568
  subst l568 y568 z568
  obtain ⟨rfl, Nq568, K568, f568_0, f568_1, f568_2⟩ := hQ568
  have N568 := Fr.app N566 Nq568
  have eK568 : T568.heap = T568.heap := rfl
  have CR568 := CR566.trans (CHr.keep K568 (sfS (Safe.exa hZ0.alike f566_3 (by decide) (by decide)) sf0) CR566.1)
  have z568 : T566.heap.size ≤ T568.heap.size := K568.1
  have KP568 : Keep h0 T568.heap ([] : List Addr) := KP566.trans K568 (allS (P := fun zq => zq ∈ ([] : List Addr) ∨ h0.size ≤ zq) (Or.inr (by omega)) all0)
  refine Go.on (w := T568.setTop (mkF m 41 #[iv p0, iv p1, rv b557, rv b559, rv b565, iv 0, .unset, .unset, .unset] [(.int (p0 &&& (1 : Int32)))])) (fun t k => st563.trans (XS.astoreN X563.here hx rfl (hb hby at_21) rfl rfl (l' := #[iv p0, iv p1, rv b557, rv b559, .unset, .unset, .unset, .unset, .unset]) rfl (st565 _ (XS.dup X565.here hx rfl (hb hby at_25) rfl rfl (st566.trans (XS.astore X566.here hx rfl (hb hby at_29) rfl rfl (l' := #[iv p0, iv p1, rv b557, rv b559, rv b565, .unset, .unset, .unset, .unset]) rfl (XS.aload X566.here hx rfl (hb hby at_31) rfl rfl (st568.trans (XS.istore X568.here hx rfl (hb hby at_36) rfl (l' := #[iv p0, iv p1, rv b557, rv b559, rv b565, iv 0, .unset, .unset, .unset]) rfl (XS.iloadN X568.here hx rfl (hb hby at_38) rfl (XS.iconst X568.here hx rfl (hb hby at_39) (XS.iand X568.here hx rfl (hb hby at_40) rfl k)))))))))))) ?_
  by_cases hc569 : (p0 &&& (1 : Int32)) = (0 : Int32)
  ·
    obtain ⟨cq570, kq570, q570a, q570b, q570c⟩ := isOf hZ0 eK568 f568_0
    obtain ⟨v570, _, ⟨T570, L570, k570, n570⟩, -, X570, ⟨Lc570, hQ570, l570, y570, z570⟩, st570⟩ := X568.virtualBack hx (y := yM7) (z := yM7) hown0 (mvT hZ0 (w_74 hw)) (mvT hZ0 (w_75 hw)) (notFace_of_selects (args := #[]) (mvT hZ0 (w_77 hw))) (mvT hZ0 (w_77 hw)) (mvT hZ0 (w_76 hw)) (by decide) (backOf (W := 0) (rmBg1 l Z a0 hw [] b565 bl_566 T568.heap (by omega) (by omega) f568_0 f568_1 f568_2) hZ0 (w_78 hw) (w_32 hw) (by decide) (by decide)) q570a q570c (g := (mkF m 55 #[iv p0, iv p1, rv b557, rv b559, rv b565, iv 0, .unset, .unset, .unset] [(.ref b565)])) rfl (by rw [hml]; rfl) (Steps.refl _) (argsL := []) (rest := []) (lenOf pd_8 rfl) rfl (by show 2 * 0 + _ ≤ _; exact Nat.le_of_eq rfl) (hb hby at_55) (fun _ _ => ⟨rfl, eK568, (by decide : 8 + 0 ≤ _), (by decide : 21 + 0 ≤ _)⟩)
    dsimp only [Pt.U, Pt.locs, Pt.cells, Pt.slots] at X570 l570 y570 z570 st570 hQ570
    subst l570 y570 z570
    obtain ⟨rfl, Nq570, K570, f570_0, f570_1, f570_2⟩ := hQ570
    have N570 := Fr.app N568 Nq570
    have eK570 : T570.heap = T570.heap := rfl
    have CR570 := CR568.trans (CHr.keep K570 (sfS (Safe.exa hZ0.alike f568_0 (by decide) (by decide)) sf0) CR568.1)
    have z570 : T568.heap.size ≤ T570.heap.size := K570.1
    have KP570 : Keep h0 T570.heap ([] : List Addr) := KP568.trans K570 (allS (P := fun zq => zq ∈ ([] : List Addr) ∨ h0.size ≤ zq) (Or.inr (by omega)) all0)
    refine Go.on (w := T570.setTop (mkF m 63 #[iv p0, iv p1, rv b557, rv b559, rv b565, iv 0, iv 1, .unset, .unset] [(.int (p0 &&& (2 : Int32)))])) (fun t k => XS.ifYes X568.here hx rfl (pc0 := 41) (pc' := 53) rfl (hb hby at_41) rfl ((if0 _ _).trans (teq hc569).1) (by decide) (by decide) (XS.aload X568.here hx rfl (hb hby at_53) rfl rfl (st570.trans (XS.istore X570.here hx rfl (hb hby at_58) rfl (l' := #[iv p0, iv p1, rv b557, rv b559, rv b565, iv 0, iv 1, .unset, .unset]) rfl (XS.iloadN X570.here hx rfl (hb hby at_60) rfl (XS.iconst X570.here hx rfl (hb hby at_61) (XS.iand X570.here hx rfl (hb hby at_62) rfl k))))))) ?_
    by_cases hc571 : (p0 &&& (2 : Int32)) = (0 : Int32)
    ·
      obtain ⟨cq572, kq572, q572a, q572b, q572c⟩ := isOf hZ0 eK570 f570_0
      obtain ⟨v572, _, ⟨T572, L572, k572, n572⟩, -, X572, ⟨Lc572, hQ572, l572, y572, z572⟩, st572⟩ := X570.virtualBack hx (y := yM7) (z := yM7) hown0 (mvT hZ0 (w_74 hw)) (mvT hZ0 (w_75 hw)) (notFace_of_selects (args := #[]) (mvT hZ0 (w_77 hw))) (mvT hZ0 (w_77 hw)) (mvT hZ0 (w_76 hw)) (by decide) (backOf (W := 0) (rmBg2 l Z a0 hw [] b565 bl_566 T570.heap (by omega) (by omega) f570_0 f570_1 f570_2) hZ0 (w_78 hw) (w_32 hw) (by decide) (by decide)) q572a q572c (g := (mkF m 77 #[iv p0, iv p1, rv b557, rv b559, rv b565, iv 0, iv 1, .unset, .unset] [(.ref b565)])) rfl (by rw [hml]; rfl) (Steps.refl _) (argsL := []) (rest := []) (lenOf pd_8 rfl) rfl (by show 2 * 0 + _ ≤ _; exact Nat.le_of_eq rfl) (hb hby at_77) (fun _ _ => ⟨rfl, eK570, (by decide : 8 + 0 ≤ _), (by decide : 21 + 0 ≤ _)⟩)
      dsimp only [Pt.U, Pt.locs, Pt.cells, Pt.slots] at X572 l572 y572 z572 st572 hQ572
      subst l572 y572 z572
      obtain ⟨rfl, Nq572, K572, f572_0, f572_1, f572_2⟩ := hQ572
      have N572 := Fr.app N570 Nq572
      have eK572 : T572.heap = T572.heap := rfl
      have CR572 := CR570.trans (CHr.keep K572 (sfS (Safe.exa hZ0.alike f570_0 (by decide) (by decide)) sf0) CR570.1)
      have z572 : T570.heap.size ≤ T572.heap.size := K572.1
      have KP572 : Keep h0 T572.heap ([] : List Addr) := KP570.trans K572 (allS (P := fun zq => zq ∈ ([] : List Addr) ∨ h0.size ≤ zq) (Or.inr (by omega)) all0)
      refine Go.on (w := T572.setTop (mkF m 85 #[iv p0, iv p1, rv b557, rv b559, rv b565, iv 0, iv 1, iv 2, .unset] [(.int (p0 &&& (4 : Int32)))])) (fun t k => XS.ifYes X570.here hx rfl (pc0 := 63) (pc' := 75) rfl (hb hby at_63) rfl ((if0 _ _).trans (teq hc571).1) (by decide) (by decide) (XS.aload X570.here hx rfl (hb hby at_75) rfl rfl (st572.trans (XS.istore X572.here hx rfl (hb hby at_80) rfl (l' := #[iv p0, iv p1, rv b557, rv b559, rv b565, iv 0, iv 1, iv 2, .unset]) rfl (XS.iloadN X572.here hx rfl (hb hby at_82) rfl (XS.iconst X572.here hx rfl (hb hby at_83) (XS.iand X572.here hx rfl (hb hby at_84) rfl k))))))) ?_
      by_cases hc573 : (p0 &&& (4 : Int32)) = (0 : Int32)
      ·
        obtain ⟨cq574, kq574, q574a, q574b, q574c⟩ := isOf hZ0 eK572 f572_0
        obtain ⟨v574, _, ⟨T574, L574, k574, n574⟩, -, X574, ⟨Lc574, hQ574, l574, y574, z574⟩, st574⟩ := X572.virtualBack hx (y := yM7) (z := yM7) hown0 (mvT hZ0 (w_74 hw)) (mvT hZ0 (w_75 hw)) (notFace_of_selects (args := #[]) (mvT hZ0 (w_77 hw))) (mvT hZ0 (w_77 hw)) (mvT hZ0 (w_76 hw)) (by decide) (backOf (W := 0) (rmBg3 l Z a0 hw [] b565 bl_566 T572.heap (by omega) (by omega) f572_0 f572_1 f572_2) hZ0 (w_78 hw) (w_32 hw) (by decide) (by decide)) q574a q574c (g := (mkF m 100 #[iv p0, iv p1, rv b557, rv b559, rv b565, iv 0, iv 1, iv 2, .unset] [(.ref b565)])) rfl (by rw [hml]; rfl) (Steps.refl _) (argsL := []) (rest := []) (lenOf pd_8 rfl) rfl (by show 2 * 0 + _ ≤ _; exact Nat.le_of_eq rfl) (hb hby at_100) (fun _ _ => ⟨rfl, eK572, (by decide : 8 + 0 ≤ _), (by decide : 21 + 0 ≤ _)⟩)
        dsimp only [Pt.U, Pt.locs, Pt.cells, Pt.slots] at X574 l574 y574 z574 st574 hQ574
        subst l574 y574 z574
        obtain ⟨rfl, Nq574, K574, f574_0, f574_1, f574_2⟩ := hQ574
        have N574 := Fr.app N572 Nq574
        have eK574 : T574.heap = T574.heap := rfl
        have CR574 := CR572.trans (CHr.keep K574 (sfS (Safe.exa hZ0.alike f572_0 (by decide) (by decide)) sf0) CR572.1)
        have z574 : T572.heap.size ≤ T574.heap.size := K574.1
        have KP574 : Keep h0 T574.heap ([] : List Addr) := KP572.trans K574 (allS (P := fun zq => zq ∈ ([] : List Addr) ∨ h0.size ≤ zq) (Or.inr (by omega)) all0)
        refine Go.on (w := T574.setTop (mkF m 133 #[iv p0, iv p1, rv b557, rv b559, rv b565, iv 0, iv 1, iv 2, iv 3] [(.int 1)])) (fun t k => XS.ifYes X572.here hx rfl (pc0 := 85) (pc' := 98) rfl (hb hby at_85) rfl ((if0 _ _).trans (teq hc573).1) (by decide) (by decide) (XS.aload X572.here hx rfl (hb hby at_98) rfl rfl (st574.trans (XS.istore X574.here hx rfl (hb hby at_103) rfl (l' := #[iv p0, iv p1, rv b557, rv b559, rv b565, iv 0, iv 1, iv 2, iv 3]) rfl (XS.iload X574.here hx rfl (hb hby at_105) rfl (XS.ifNo X574.here hx rfl (hb hby at_107) rfl ((if0 _ _).trans (teq (by decide : (0 : Int32) = (0 : Int32))).2) (XS.iload X574.here hx rfl (hb hby at_110) rfl (XS.iconst X574.here hx rfl (hb hby at_112) (XS.icmpNo X574.here hx rfl (hb hby at_113) rfl (teq (by decide : (1 : Int32) = (1 : Int32))).2 (XS.iload X574.here hx rfl (hb hby at_116) rfl (XS.iconst X574.here hx rfl (hb hby at_118) (XS.icmpNo X574.here hx rfl (hb hby at_119) rfl (teq (by decide : (2 : Int32) = (2 : Int32))).2 (XS.iload X574.here hx rfl (hb hby at_122) rfl (XS.iconst X574.here hx rfl (hb hby at_124) (XS.icmpNo X574.here hx rfl (hb hby at_125) rfl (teq (by decide : (3 : Int32) = (3 : Int32))).2 (XS.iconst X574.here hx rfl (hb hby at_128) (XS.goto X574.here hx rfl (pc0 := 129) (pc' := 133) rfl (hb hby at_129) (by decide) (by decide) k))))))))))))))))) ?_
        have CE575 := CR574.trans (CHv.at X574 hZ0 hEL CR574.1)
        refine Go.fin X574 hS0 (by rw [eK574]; omega) hlk (v := some (.int 1)) (fun h => by rw [Bd.returns] at h; cases h) (fun fs hr => ?_) (endP (Q := Q_rm0 Z p0 p1 G1 dd qd cu h0) (by rw [eK574]; exact ⟨rfl, N574, KP574⟩) (by rw [eK574]; exact CE575) (by decide) (by decide))
        exact retN X574 hx (t := .boolean) Bd.returns (by simp) (hb hby at_133) hr
      ·
        have F577 := ((((F567.keep K566 (allS (by omega) all0)).keep K568 (allS (by omega) all0)).keep K570 (allS (by omega) all0)).keep K572 (allS (by omega) all0))
        have F578 := (((f566_6.keep K568).keep K570).keep K572)
        have F579 := (((f566_7.keep K568 (ninS (show @Ne Nat bl_566 b565 by omega) nin0)).keep K570 (ninS (show @Ne Nat bl_566 b565 by omega) nin0)).keep K572 (ninS (show @Ne Nat bl_566 b565 by omega) nin0))
        have F580 := (((f566_8.keep K568 (ninS (show @Ne Nat bl_566 b565 by omega) nin0)).keep K570 (ninS (show @Ne Nat bl_566 b565 by omega) nin0)).keep K572 (ninS (show @Ne Nat bl_566 b565 by omega) nin0))
        have F581 := (((f566_9.keep K568).keep K570).keep K572)
        have F582 := (((f566_10.keep K568 (ninS (show @Ne Nat al_566 b565 by omega) nin0)).keep K570 (ninS (show @Ne Nat al_566 b565 by omega) nin0)).keep K572 (ninS (show @Ne Nat al_566 b565 by omega) nin0))
        have F583 := (((f566_11.keep K568 (ninS (show @Ne Nat al_566 b565 by omega) nin0)).keep K570 (ninS (show @Ne Nat al_566 b565 by omega) nin0)).keep K572 (ninS (show @Ne Nat al_566 b565 by omega) nin0))
        have F584 := (((f566_12.keep K568 (ninS (show @Ne Nat al_566 b565 by omega) nin0)).keep K570 (ninS (show @Ne Nat al_566 b565 by omega) nin0)).keep K572 (ninS (show @Ne Nat al_566 b565 by omega) nin0))
        obtain ⟨cq576, kq576, q576a, q576b, q576c⟩ := isOf hZ0 eK572 f572_0
        obtain ⟨v576, _, ⟨T576, L576, k576, n576⟩, -, X576, ⟨Lc576, hQ576, l576, y576, z576⟩, st576⟩ := X572.virtualBack hx (y := yM58) (z := yM58) hown0 (mvT hZ0 (w_329 hw)) (mvT hZ0 (w_330 hw)) (notFace_of_selects (args := #[]) (mvT hZ0 (w_332 hw))) (mvT hZ0 (w_332 hw)) (mvT hZ0 (w_331 hw)) (by decide) (backOf (W := 0) (rmEgE2 l Z a0 hw [] b565 bl_566 al_566 (0 : Int32) dd qd T572.heap (by omega) F577 OD VD (by omega) (by omega) (show @Ne Nat al_566 bl_566 by omega) F578 F579 F580 F581 F582 F583 F584 (show @Ne Nat b565 bl_566 by omega) (show @Ne Nat b565 al_566 by omega) f572_0 f572_2) hZ0 (w_333 hw) (w_32 hw) (by decide) (by decide)) q576a q576c (g := (mkF m 95 #[iv p0, iv p1, rv b557, rv b559, rv b565, iv 0, iv 1, iv 2, .unset] [.null, (.int 1), (.int 2), (.ref b565)])) rfl (by rw [hml]; rfl) (Steps.refl _) (argsL := [(.int 2), (.int 1), .null]) (rest := []) (lenOf pd_34 rfl) rfl (by show 2 * 0 + _ ≤ _; exact Nat.le_of_eq rfl) (hb hby at_95) (fun _ _ => ⟨rfl, eK572, (by decide : 8 + 2 ≤ _), (by decide : 21 + 74 ≤ _)⟩)
        dsimp only [Pt.U, Pt.locs, Pt.cells, Pt.slots] at X576 l576 y576 z576 st576 hQ576
        subst l576 y576 z576
        obtain ⟨ee_576, ke_576, x_576, kb_576, rfl, Nq576, K576, f576_0, f576_1, f576_2, f576_3, f576_4, f576_5, f576_6, f576_7, f576_8, f576_9, f576_10, f576_11, f576_12⟩ := hQ576
        have N576 := Fr.app N572 Nq576
        have eK576 : T576.heap = T576.heap := rfl
        have CR576 := CR572.trans (CHr.keep K576 (sfS (Safe.exa hZ0.alike F578 (by decide) (by decide)) (sfS (Safe.exa hZ0.alike F581 (by decide) (by decide)) sf0)) CR572.1)
        have z576 : T572.heap.size ≤ T576.heap.size := K576.1
        have KP576 : Keep h0 T576.heap ([] : List Addr) := KP572.trans K576 (allS (P := fun zq => zq ∈ ([] : List Addr) ∨ h0.size ≤ zq) (Or.inr (by omega)) (allS (P := fun zq => zq ∈ ([] : List Addr) ∨ h0.size ≤ zq) (Or.inr (by omega)) all0))
        have u576_10 : T576.heap.size > ee_576 := f576_10.lt
        have u576_11 : T576.heap.size > x_576 := f576_11.lt
        have u576_12 : T576.heap.size > x_576 := f576_12.lt
        have F586 := (f572_0.keep K576)
        have F587 := (f572_1.keep K576 (ninS (show @Ne Nat b565 bl_566 by omega) (ninS (show @Ne Nat b565 al_566 by omega) nin0)))
        have F588 := (f572_2.keep K576 (ninS (show @Ne Nat b565 bl_566 by omega) (ninS (show @Ne Nat b565 al_566 by omega) nin0)))
        obtain ⟨cq585, kq585, q585a, q585b, q585c⟩ := isOf hZ0 eK576 F586
        obtain ⟨v585, _, ⟨T585, L585, k585, n585⟩, -, X585, ⟨Lc585, hQ585, l585, y585, z585⟩, st585⟩ := X576.virtualBack hx (y := yM7) (z := yM7) hown0 (mvT hZ0 (w_74 hw)) (mvT hZ0 (w_75 hw)) (notFace_of_selects (args := #[]) (mvT hZ0 (w_77 hw))) (mvT hZ0 (w_77 hw)) (mvT hZ0 (w_76 hw)) (by decide) (backOf (W := 0) (rmBg3 l Z a0 hw [] b565 bl_566 T576.heap (by omega) (by omega) F586 F587 F588) hZ0 (w_78 hw) (w_32 hw) (by decide) (by decide)) q585a q585c (g := (mkF m 100 #[iv p0, iv p1, rv b557, rv b559, rv b565, iv 0, iv 1, iv 2, .unset] [(.ref b565)])) rfl (by rw [hml]; rfl) (Steps.refl _) (argsL := []) (rest := []) (lenOf pd_8 rfl) rfl (by show 2 * 0 + _ ≤ _; exact Nat.le_of_eq rfl) (hb hby at_100) (fun _ _ => ⟨rfl, eK576, (by decide : 10 + 0 ≤ _), (by decide : 95 + 0 ≤ _)⟩)
        dsimp only [Pt.U, Pt.locs, Pt.cells, Pt.slots] at X585 l585 y585 z585 st585 hQ585
        subst l585 y585 z585
        obtain ⟨rfl, Nq585, K585, f585_0, f585_1, f585_2⟩ := hQ585
        have N585 := Fr.app N576 Nq585
        have eK585 : T585.heap = T585.heap := rfl
        have CR585 := CR576.trans (CHr.keep K585 (sfS (Safe.exa hZ0.alike F586 (by decide) (by decide)) sf0) CR576.1)
        have z585 : T576.heap.size ≤ T585.heap.size := K585.1
        have KP585 : Keep h0 T585.heap ([] : List Addr) := KP576.trans K585 (allS (P := fun zq => zq ∈ ([] : List Addr) ∨ h0.size ≤ zq) (Or.inr (by omega)) all0)
        refine Go.on (w := T585.setTop (mkF m 133 #[iv p0, iv p1, rv b557, rv b559, rv b565, iv 0, iv 1, iv 2, iv 3] [(.int 1)])) (fun t k => XS.ifNo X572.here hx rfl (hb hby at_85) rfl ((if0 _ _).trans (feq hc573).1) (XS.aload X572.here hx rfl (hb hby at_88) rfl rfl (XS.iload X572.here hx rfl (hb hby at_90) rfl (XS.iload X572.here hx rfl (hb hby at_92) rfl (XS.aconstNull X572.here hx rfl (hb hby at_94) (st576.trans (XS.aload X576.here hx rfl (hb hby at_98) rfl rfl (st585.trans (XS.istore X585.here hx rfl (hb hby at_103) rfl (l' := #[iv p0, iv p1, rv b557, rv b559, rv b565, iv 0, iv 1, iv 2, iv 3]) rfl (XS.iload X585.here hx rfl (hb hby at_105) rfl (XS.ifNo X585.here hx rfl (hb hby at_107) rfl ((if0 _ _).trans (teq (by decide : (0 : Int32) = (0 : Int32))).2) (XS.iload X585.here hx rfl (hb hby at_110) rfl (XS.iconst X585.here hx rfl (hb hby at_112) (XS.icmpNo X585.here hx rfl (hb hby at_113) rfl (teq (by decide : (1 : Int32) = (1 : Int32))).2 (XS.iload X585.here hx rfl (hb hby at_116) rfl (XS.iconst X585.here hx rfl (hb hby at_118) (XS.icmpNo X585.here hx rfl (hb hby at_119) rfl (teq (by decide : (2 : Int32) = (2 : Int32))).2 (XS.iload X585.here hx rfl (hb hby at_122) rfl (XS.iconst X585.here hx rfl (hb hby at_124) (XS.icmpNo X585.here hx rfl (hb hby at_125) rfl (teq (by decide : (3 : Int32) = (3 : Int32))).2 (XS.iconst X585.here hx rfl (hb hby at_128) (XS.goto X585.here hx rfl (pc0 := 129) (pc' := 133) rfl (hb hby at_129) (by decide) (by decide) k)))))))))))))))))))))) ?_
        have CE589 := CR585.trans (CHv.at X585 hZ0 hEL CR585.1)
        refine Go.fin X585 hS0 (by rw [eK585]; omega) hlk (v := some (.int 1)) (fun h => by rw [Bd.returns] at h; cases h) (fun fs hr => ?_) (endP (Q := Q_rm0 Z p0 p1 G1 dd qd cu h0) (by rw [eK585]; exact ⟨rfl, N585, KP585⟩) (by rw [eK585]; exact CE589) (by decide) (by decide))
        exact retN X585 hx (t := .boolean) Bd.returns (by simp) (hb hby at_133) hr
    ·
      have F591 := (((F567.keep K566 (allS (by omega) all0)).keep K568 (allS (by omega) all0)).keep K570 (allS (by omega) all0))
      have F592 := ((f566_6.keep K568).keep K570)
      have F593 := ((f566_7.keep K568 (ninS (show @Ne Nat bl_566 b565 by omega) nin0)).keep K570 (ninS (show @Ne Nat bl_566 b565 by omega) nin0))
      have F594 := ((f566_8.keep K568 (ninS (show @Ne Nat bl_566 b565 by omega) nin0)).keep K570 (ninS (show @Ne Nat bl_566 b565 by omega) nin0))
      have F595 := ((f566_9.keep K568).keep K570)
      have F596 := ((f566_10.keep K568 (ninS (show @Ne Nat al_566 b565 by omega) nin0)).keep K570 (ninS (show @Ne Nat al_566 b565 by omega) nin0))
      have F597 := ((f566_11.keep K568 (ninS (show @Ne Nat al_566 b565 by omega) nin0)).keep K570 (ninS (show @Ne Nat al_566 b565 by omega) nin0))
      have F598 := ((f566_12.keep K568 (ninS (show @Ne Nat al_566 b565 by omega) nin0)).keep K570 (ninS (show @Ne Nat al_566 b565 by omega) nin0))
      have F599 := ((((Ex563.ext E565).keep K566).keep K568).keep K570)
      have F600 := ((((Fc563.ext E565).keep K566 (ninS (show @Ne Nat b559 b565 by omega) nin0)).keep K568 (ninS (show @Ne Nat b559 b565 by omega) nin0)).keep K570 (ninS (show @Ne Nat b559 b565 by omega) nin0))
      have F601 := ((((Fv563.ext E565).keep K566 (ninS (show @Ne Nat b559 b565 by omega) nin0)).keep K568 (ninS (show @Ne Nat b559 b565 by omega) nin0)).keep K570 (ninS (show @Ne Nat b559 b565 by omega) nin0))
      have F602 := ((((V564.ext E565).keep K566 (ninS (show @Ne Nat t563 b565 by omega) nin0)).keep K568 (ninS (show @Ne Nat t563 b565 by omega) nin0)).keep K570 (ninS (show @Ne Nat t563 b565 by omega) nin0))
      obtain ⟨cq590, kq590, q590a, q590b, q590c⟩ := isOf hZ0 eK570 f570_0
      obtain ⟨v590, _, ⟨T590, L590, k590, n590⟩, -, X590', hs590, hg590, ⟨Lc590, hQ590, l590, y590, z590, C590⟩, st590⟩ := X570.virtualBackS hx (y := yM8) (z := yM8) hown0 (mvT hZ0 (w_81 hw)) (mvT hZ0 (w_82 hw)) (notFace_of_selects (args := #[]) (mvT hZ0 (w_84 hw))) (mvT hZ0 (w_84 hw)) (mvT hZ0 (w_83 hw)) (by decide) (backOfSH (s := s) (W := 0) (rmAm0 l Z a0 hw [] b565 bl_566 al_566 (0 : Int32) dd qd b559 t563 kb563 G1 (c1.toInt8.toInt32) cu T570.heap (by omega) F591 OD VD (by omega) (by omega) (show @Ne Nat al_566 bl_566 by omega) F592 F593 F594 F595 F596 F597 F598 hEL O2 P5 OU OI (show @Ne Nat b565 bl_566 by omega) (show @Ne Nat b565 al_566 by omega) (show @Ne Nat b559 bl_566 by omega) (show @Ne Nat b559 al_566 by omega) (show @Ne Nat t563 bl_566 by omega) (show @Ne Nat t563 al_566 by omega) f570_0 f570_2 F599 F600 F601 F602) hZ0 (w_85 hw) (w_32 hw) (by decide) (by decide) hEL CR570.1) q590a q590c (g := (mkF m 72 #[iv p0, iv p1, rv b557, rv b559, rv b565, iv 0, iv 1, .unset, .unset] [(.ref b559), .null, (.int 1), (.ref b565)])) rfl (by rw [hml]; rfl) (Steps.refl _) (argsL := [(.int 1), .null, (.ref b559)]) (rest := []) (lenOf pd_35 rfl) rfl (by show 2 * 0 + _ ≤ _; exact Nat.le_of_eq rfl) (hb hby at_72) (fun _ _ => ⟨rfl, eK570, (by decide : 8 + 10 ≤ _), (by decide : 21 + 155 ≤ _)⟩)
      dsimp only [Pt.U, Pt.locs, Pt.cells, Pt.slots] at X590' l590 y590 z590 st590 hQ590 hs590 hg590 C590
      subst l590 y590 z590
      obtain ⟨X590, hS590, hZ590, hown590⟩ := rebS hS0 (n1 := T570.heap.size) (by rw [eK570]; omega) X590' hs590 hg590 hZ0 hown0
      have hj590 : T590.heap.size ≤ T590.heap.size := Nat.le_refl _
      obtain ⟨ee_590, ke_590, x_590, kb_590, u'_590, rfl, Nq590, K590, f590_0, f590_1, f590_2, f590_3, f590_4, f590_5, f590_6, f590_7, f590_8, f590_9, f590_10, f590_11, f590_12, f590_13⟩ := hQ590
      have N590 := Fr.app N570 Nq590
      have eK590 : T590.heap = T590.heap := rfl
      have CR590 := CR570.trans C590
      have z590 : T570.heap.size ≤ T590.heap.size := K590.1
      have KP590 : Keep h0 T590.heap ([] : List Addr) := KP570.trans K590 (allS (P := fun zq => zq ∈ ([] : List Addr) ∨ h0.size ≤ zq) (Or.inr (by omega)) (allS (P := fun zq => zq ∈ ([] : List Addr) ∨ h0.size ≤ zq) (Or.inr (by omega)) all0))
      have u590_10 : T590.heap.size > ee_590 := f590_10.lt
      have u590_11 : T590.heap.size > x_590 := f590_11.lt
      have u590_12 : T590.heap.size > x_590 := f590_12.lt
      have F604 := (f570_0.keep K590)
      have F605 := (f570_1.keep K590 (ninS (show @Ne Nat b565 bl_566 by omega) (ninS (show @Ne Nat b565 al_566 by omega) nin0)))
      have F606 := (f570_2.keep K590 (ninS (show @Ne Nat b565 bl_566 by omega) (ninS (show @Ne Nat b565 al_566 by omega) nin0)))
      obtain ⟨cq603, kq603, q603a, q603b, q603c⟩ := isOf hZ590 eK590 F604
      obtain ⟨v603, _, ⟨T603, L603, k603, n603⟩, -, X603, ⟨Lc603, hQ603, l603, y603, z603⟩, st603⟩ := X590.virtualBack hx (y := yM7) (z := yM7) hown590 (mvT hZ590 (w_74 hw)) (mvT hZ590 (w_75 hw)) (notFace_of_selects (args := #[]) (mvT hZ590 (w_77 hw))) (mvT hZ590 (w_77 hw)) (mvT hZ590 (w_76 hw)) (by decide) (backOf (W := 0) (rmBg2 l Z a0 hw [] b565 bl_566 T590.heap (by omega) (by omega) F604 F605 F606) hZ590 (w_78 hw) (w_32 hw) (by decide) (by decide)) q603a q603c (g := (mkF m 77 #[iv p0, iv p1, rv b557, rv b559, rv b565, iv 0, iv 1, .unset, .unset] [(.ref b565)])) rfl (by rw [hml]; rfl) (Steps.refl _) (argsL := []) (rest := []) (lenOf pd_8 rfl) rfl (by show 2 * 0 + _ ≤ _; exact Nat.le_of_eq rfl) (hb hby at_77) (fun _ _ => ⟨rfl, eK590, (by decide : 18 + 0 ≤ _), (by decide : 176 + 0 ≤ _)⟩)
      dsimp only [Pt.U, Pt.locs, Pt.cells, Pt.slots] at X603 l603 y603 z603 st603 hQ603
      subst l603 y603 z603
      obtain ⟨rfl, Nq603, K603, f603_0, f603_1, f603_2⟩ := hQ603
      have N603 := Fr.app N590 Nq603
      have eK603 : T603.heap = T603.heap := rfl
      have CR603 := CR590.trans (CHr.keep K603 (sfS (Safe.exa hZ590.alike F604 (by decide) (by decide)) sf0) CR590.1)
      have z603 : T590.heap.size ≤ T603.heap.size := K603.1
      have KP603 : Keep h0 T603.heap ([] : List Addr) := KP590.trans K603 (allS (P := fun zq => zq ∈ ([] : List Addr) ∨ h0.size ≤ zq) (Or.inr (by omega)) all0)
      refine Go.on (w := T603.setTop (mkF m 85 #[iv p0, iv p1, rv b557, rv b559, rv b565, iv 0, iv 1, iv 2, .unset] [(.int (p0 &&& (4 : Int32)))])) (fun t k => XS.ifNo X570.here hx rfl (hb hby at_63) rfl ((if0 _ _).trans (feq hc571).1) (XS.aload X570.here hx rfl (hb hby at_66) rfl rfl (XS.iload X570.here hx rfl (hb hby at_68) rfl (XS.aconstNull X570.here hx rfl (hb hby at_70) (XS.aloadN X570.here hx rfl (hb hby at_71) rfl rfl (st590.trans (XS.aload X590.here hx rfl (hb hby at_75) rfl rfl (st603.trans (XS.istore X603.here hx rfl (hb hby at_80) rfl (l' := #[iv p0, iv p1, rv b557, rv b559, rv b565, iv 0, iv 1, iv 2, .unset]) rfl (XS.iloadN X603.here hx rfl (hb hby at_82) rfl (XS.iconst X603.here hx rfl (hb hby at_83) (XS.iand X603.here hx rfl (hb hby at_84) rfl k)))))))))))) ?_
      by_cases hc607 : (p0 &&& (4 : Int32)) = (0 : Int32)
      ·
        obtain ⟨cq608, kq608, q608a, q608b, q608c⟩ := isOf hZ590 eK603 f603_0
        obtain ⟨v608, _, ⟨T608, L608, k608, n608⟩, -, X608, ⟨Lc608, hQ608, l608, y608, z608⟩, st608⟩ := X603.virtualBack hx (y := yM7) (z := yM7) hown590 (mvT hZ590 (w_74 hw)) (mvT hZ590 (w_75 hw)) (notFace_of_selects (args := #[]) (mvT hZ590 (w_77 hw))) (mvT hZ590 (w_77 hw)) (mvT hZ590 (w_76 hw)) (by decide) (backOf (W := 0) (rmBg3 l Z a0 hw [] b565 bl_566 T603.heap (by omega) (by omega) f603_0 f603_1 f603_2) hZ590 (w_78 hw) (w_32 hw) (by decide) (by decide)) q608a q608c (g := (mkF m 100 #[iv p0, iv p1, rv b557, rv b559, rv b565, iv 0, iv 1, iv 2, .unset] [(.ref b565)])) rfl (by rw [hml]; rfl) (Steps.refl _) (argsL := []) (rest := []) (lenOf pd_8 rfl) rfl (by show 2 * 0 + _ ≤ _; exact Nat.le_of_eq rfl) (hb hby at_100) (fun _ _ => ⟨rfl, eK603, (by decide : 18 + 0 ≤ _), (by decide : 176 + 0 ≤ _)⟩)
        dsimp only [Pt.U, Pt.locs, Pt.cells, Pt.slots] at X608 l608 y608 z608 st608 hQ608
        subst l608 y608 z608
        obtain ⟨rfl, Nq608, K608, f608_0, f608_1, f608_2⟩ := hQ608
        have N608 := Fr.app N603 Nq608
        have eK608 : T608.heap = T608.heap := rfl
        have CR608 := CR603.trans (CHr.keep K608 (sfS (Safe.exa hZ590.alike f603_0 (by decide) (by decide)) sf0) CR603.1)
        have z608 : T603.heap.size ≤ T608.heap.size := K608.1
        have KP608 : Keep h0 T608.heap ([] : List Addr) := KP603.trans K608 (allS (P := fun zq => zq ∈ ([] : List Addr) ∨ h0.size ≤ zq) (Or.inr (by omega)) all0)
        refine Go.on (w := T608.setTop (mkF m 133 #[iv p0, iv p1, rv b557, rv b559, rv b565, iv 0, iv 1, iv 2, iv 3] [(.int 1)])) (fun t k => XS.ifYes X603.here hx rfl (pc0 := 85) (pc' := 98) rfl (hb hby at_85) rfl ((if0 _ _).trans (teq hc607).1) (by decide) (by decide) (XS.aload X603.here hx rfl (hb hby at_98) rfl rfl (st608.trans (XS.istore X608.here hx rfl (hb hby at_103) rfl (l' := #[iv p0, iv p1, rv b557, rv b559, rv b565, iv 0, iv 1, iv 2, iv 3]) rfl (XS.iload X608.here hx rfl (hb hby at_105) rfl (XS.ifNo X608.here hx rfl (hb hby at_107) rfl ((if0 _ _).trans (teq (by decide : (0 : Int32) = (0 : Int32))).2) (XS.iload X608.here hx rfl (hb hby at_110) rfl (XS.iconst X608.here hx rfl (hb hby at_112) (XS.icmpNo X608.here hx rfl (hb hby at_113) rfl (teq (by decide : (1 : Int32) = (1 : Int32))).2 (XS.iload X608.here hx rfl (hb hby at_116) rfl (XS.iconst X608.here hx rfl (hb hby at_118) (XS.icmpNo X608.here hx rfl (hb hby at_119) rfl (teq (by decide : (2 : Int32) = (2 : Int32))).2 (XS.iload X608.here hx rfl (hb hby at_122) rfl (XS.iconst X608.here hx rfl (hb hby at_124) (XS.icmpNo X608.here hx rfl (hb hby at_125) rfl (teq (by decide : (3 : Int32) = (3 : Int32))).2 (XS.iconst X608.here hx rfl (hb hby at_128) (XS.goto X608.here hx rfl (pc0 := 129) (pc' := 133) rfl (hb hby at_129) (by decide) (by decide) k))))))))))))))))) ?_
        have CE609 := CR608.trans (CHv.at X608 hZ590 hEL CR608.1)
        refine Go.fin X608 hS590 (by rw [eK608]; omega) hlk (v := some (.int 1)) (fun h => by rw [Bd.returns] at h; cases h) (fun fs hr => ?_) (endP (Q := Q_rm0 Z p0 p1 G1 dd qd cu h0) (by rw [eK608]; exact ⟨rfl, N608, KP608⟩) (by rw [eK608]; exact CE609) (by decide) (by decide))
        exact retN X608 hx (t := .boolean) Bd.returns (by simp) (hb hby at_133) hr
      ·
        have F611 := (f590_3.keep K603)
        have F612 := (f590_4.keep K603 (ninS (show @Ne Nat bl_566 b565 by omega) nin0))
        have F613 := (f590_5.keep K603 (ninS (show @Ne Nat bl_566 b565 by omega) nin0))
        have F614 := (f590_6.keep K603)
        have F615 := (f590_7.keep K603 (ninS (show @Ne Nat al_566 b565 by omega) nin0))
        have F616 := (f590_8.keep K603 (ninS (show @Ne Nat al_566 b565 by omega) nin0))
        have F617 := (f590_9.keep K603 (ninS (show @Ne Nat al_566 b565 by omega) nin0))
        have F618 := (f590_10.keep K603 (ninS (show @Ne Nat ee_590 b565 by omega) nin0))
        have F619 := (f590_11.keep K603 (ninS (show @Ne Nat x_590 b565 by omega) nin0))
        have F620 := (f590_12.keep K603)
        obtain ⟨cq610, kq610, q610a, q610b, q610c⟩ := isOf hZ590 eK603 f603_0
        obtain ⟨v610, _, ⟨T610, L610, k610, n610⟩, -, X610, ⟨Lc610, hQ610, l610, y610, z610⟩, st610⟩ := X603.virtualBack hx (y := yM58) (z := yM58) hown590 (mvT hZ590 (w_329 hw)) (mvT hZ590 (w_330 hw)) (notFace_of_selects (args := #[]) (mvT hZ590 (w_332 hw))) (mvT hZ590 (w_332 hw)) (mvT hZ590 (w_331 hw)) (by decide) (backOf (W := 0) (rmEgN2 l Z a0 hw [] b565 bl_566 u'_590 al_566 ((0 : Int32) + (1 : Int32)) ee_590 ke_590 x_590 kb_590 T603.heap (by omega) (by omega) (by omega) (show @Ne Nat al_566 bl_566 by omega) (show @Ne Nat ee_590 bl_566 by omega) (show @Ne Nat al_566 x_590 by omega) (show @Ne Nat ee_590 x_590 by omega) (show @Ne Nat bl_566 x_590 by omega) F611 F612 F613 F614 F615 F616 F617 F618 F619 F620 (show @Ne Nat b565 bl_566 by omega) (show @Ne Nat b565 x_590 by omega) f603_0 f603_2 f590_13) hZ590 (w_333 hw) (w_32 hw) (by decide) (by decide)) q610a q610c (g := (mkF m 95 #[iv p0, iv p1, rv b557, rv b559, rv b565, iv 0, iv 1, iv 2, .unset] [.null, (.int 1), (.int 2), (.ref b565)])) rfl (by rw [hml]; rfl) (Steps.refl _) (argsL := [(.int 2), (.int 1), .null]) (rest := []) (lenOf pd_34 rfl) rfl (by show 2 * 0 + _ ≤ _; exact Nat.le_of_eq rfl) (hb hby at_95) (fun _ _ => ⟨rfl, eK603, (by decide : 18 + 0 ≤ _), (by decide : 176 + 0 ≤ _)⟩)
        dsimp only [Pt.U, Pt.locs, Pt.cells, Pt.slots] at X610 l610 y610 z610 st610 hQ610
        subst l610 y610 z610
        obtain ⟨rfl, Nq610, K610, f610_0, f610_1, f610_2, f610_3, f610_4, f610_5, f610_6, f610_7, f610_8, f610_9⟩ := hQ610
        have N610 := Fr.app N603 Nq610
        have eK610 : T610.heap = T610.heap := rfl
        have CR610 := CR603.trans (CHr.keep K610 (sfS (Safe.exa hZ590.alike F611 (by decide) (by decide)) (sfS (own_safeBlk hZ590 hw CR603.1 F620 F619) sf0)) CR603.1)
        have z610 : T603.heap.size ≤ T610.heap.size := K610.1
        have KP610 : Keep h0 T610.heap ([] : List Addr) := KP603.trans K610 (allS (P := fun zq => zq ∈ ([] : List Addr) ∨ h0.size ≤ zq) (Or.inr (by omega)) (allS (P := fun zq => zq ∈ ([] : List Addr) ∨ h0.size ≤ zq) (Or.inr (by omega)) all0))
        have F622 := (f603_0.keep K610)
        have F623 := (f603_1.keep K610 (ninS (show @Ne Nat b565 bl_566 by omega) (ninS (show @Ne Nat b565 x_590 by omega) nin0)))
        have F624 := (f603_2.keep K610 (ninS (show @Ne Nat b565 bl_566 by omega) (ninS (show @Ne Nat b565 x_590 by omega) nin0)))
        obtain ⟨cq621, kq621, q621a, q621b, q621c⟩ := isOf hZ590 eK610 F622
        obtain ⟨v621, _, ⟨T621, L621, k621, n621⟩, -, X621, ⟨Lc621, hQ621, l621, y621, z621⟩, st621⟩ := X610.virtualBack hx (y := yM7) (z := yM7) hown590 (mvT hZ590 (w_74 hw)) (mvT hZ590 (w_75 hw)) (notFace_of_selects (args := #[]) (mvT hZ590 (w_77 hw))) (mvT hZ590 (w_77 hw)) (mvT hZ590 (w_76 hw)) (by decide) (backOf (W := 0) (rmBg3 l Z a0 hw [] b565 bl_566 T610.heap (by omega) (by omega) F622 F623 F624) hZ590 (w_78 hw) (w_32 hw) (by decide) (by decide)) q621a q621c (g := (mkF m 100 #[iv p0, iv p1, rv b557, rv b559, rv b565, iv 0, iv 1, iv 2, .unset] [(.ref b565)])) rfl (by rw [hml]; rfl) (Steps.refl _) (argsL := []) (rest := []) (lenOf pd_8 rfl) rfl (by show 2 * 0 + _ ≤ _; exact Nat.le_of_eq rfl) (hb hby at_100) (fun _ _ => ⟨rfl, eK610, (by decide : 18 + 0 ≤ _), (by decide : 176 + 0 ≤ _)⟩)
        dsimp only [Pt.U, Pt.locs, Pt.cells, Pt.slots] at X621 l621 y621 z621 st621 hQ621
        subst l621 y621 z621
        obtain ⟨rfl, Nq621, K621, f621_0, f621_1, f621_2⟩ := hQ621
        have N621 := Fr.app N610 Nq621
        have eK621 : T621.heap = T621.heap := rfl
        have CR621 := CR610.trans (CHr.keep K621 (sfS (Safe.exa hZ590.alike F622 (by decide) (by decide)) sf0) CR610.1)
        have z621 : T610.heap.size ≤ T621.heap.size := K621.1
        have KP621 : Keep h0 T621.heap ([] : List Addr) := KP610.trans K621 (allS (P := fun zq => zq ∈ ([] : List Addr) ∨ h0.size ≤ zq) (Or.inr (by omega)) all0)
        refine Go.on (w := T621.setTop (mkF m 133 #[iv p0, iv p1, rv b557, rv b559, rv b565, iv 0, iv 1, iv 2, iv 3] [(.int 1)])) (fun t k => XS.ifNo X603.here hx rfl (hb hby at_85) rfl ((if0 _ _).trans (feq hc607).1) (XS.aload X603.here hx rfl (hb hby at_88) rfl rfl (XS.iload X603.here hx rfl (hb hby at_90) rfl (XS.iload X603.here hx rfl (hb hby at_92) rfl (XS.aconstNull X603.here hx rfl (hb hby at_94) (st610.trans (XS.aload X610.here hx rfl (hb hby at_98) rfl rfl (st621.trans (XS.istore X621.here hx rfl (hb hby at_103) rfl (l' := #[iv p0, iv p1, rv b557, rv b559, rv b565, iv 0, iv 1, iv 2, iv 3]) rfl (XS.iload X621.here hx rfl (hb hby at_105) rfl (XS.ifNo X621.here hx rfl (hb hby at_107) rfl ((if0 _ _).trans (teq (by decide : (0 : Int32) = (0 : Int32))).2) (XS.iload X621.here hx rfl (hb hby at_110) rfl (XS.iconst X621.here hx rfl (hb hby at_112) (XS.icmpNo X621.here hx rfl (hb hby at_113) rfl (teq (by decide : (1 : Int32) = (1 : Int32))).2 (XS.iload X621.here hx rfl (hb hby at_116) rfl (XS.iconst X621.here hx rfl (hb hby at_118) (XS.icmpNo X621.here hx rfl (hb hby at_119) rfl (teq (by decide : (2 : Int32) = (2 : Int32))).2 (XS.iload X621.here hx rfl (hb hby at_122) rfl (XS.iconst X621.here hx rfl (hb hby at_124) (XS.icmpNo X621.here hx rfl (hb hby at_125) rfl (teq (by decide : (3 : Int32) = (3 : Int32))).2 (XS.iconst X621.here hx rfl (hb hby at_128) (XS.goto X621.here hx rfl (pc0 := 129) (pc' := 133) rfl (hb hby at_129) (by decide) (by decide) k)))))))))))))))))))))) ?_
        have CE625 := CR621.trans (CHv.at X621 hZ590 hEL CR621.1)
        refine Go.fin X621 hS590 (by rw [eK621]; omega) hlk (v := some (.int 1)) (fun h => by rw [Bd.returns] at h; cases h) (fun fs hr => ?_) (endP (Q := Q_rm0 Z p0 p1 G1 dd qd cu h0) (by rw [eK621]; exact ⟨rfl, N621, KP621⟩) (by rw [eK621]; exact CE625) (by decide) (by decide))
        exact retN X621 hx (t := .boolean) Bd.returns (by simp) (hb hby at_133) hr
  ·
    have F627 := ((F567.keep K566 (allS (by omega) all0)).keep K568 (allS (by omega) all0))
    have F628 := (f566_6.keep K568)
    have F629 := (f566_7.keep K568 (ninS (show @Ne Nat bl_566 b565 by omega) nin0))
    have F630 := (f566_8.keep K568 (ninS (show @Ne Nat bl_566 b565 by omega) nin0))
    have F631 := (f566_9.keep K568)
    have F632 := (f566_10.keep K568 (ninS (show @Ne Nat al_566 b565 by omega) nin0))
    have F633 := (f566_11.keep K568 (ninS (show @Ne Nat al_566 b565 by omega) nin0))
    have F634 := (f566_12.keep K568 (ninS (show @Ne Nat al_566 b565 by omega) nin0))
    obtain ⟨cq626, kq626, q626a, q626b, q626c⟩ := isOf hZ0 eK568 f568_0
    obtain ⟨v626, _, ⟨T626, L626, k626, n626⟩, -, X626, ⟨Lc626, hQ626, l626, y626, z626⟩, st626⟩ := X568.virtualBack hx (y := yM58) (z := yM58) hown0 (mvT hZ0 (w_329 hw)) (mvT hZ0 (w_330 hw)) (notFace_of_selects (args := #[]) (mvT hZ0 (w_332 hw))) (mvT hZ0 (w_332 hw)) (mvT hZ0 (w_331 hw)) (by decide) (backOf (W := 0) (rmEgE0 l Z a0 hw [] b565 bl_566 al_566 (0 : Int32) dd qd T568.heap (by omega) F627 OD VD (by omega) (by omega) (show @Ne Nat al_566 bl_566 by omega) F628 F629 F630 F631 F632 F633 F634 (show @Ne Nat b565 bl_566 by omega) (show @Ne Nat b565 al_566 by omega) f568_0 f568_2) hZ0 (w_333 hw) (w_32 hw) (by decide) (by decide)) q626a q626c (g := (mkF m 50 #[iv p0, iv p1, rv b557, rv b559, rv b565, iv 0, .unset, .unset, .unset] [.null, (.int (-1)), (.int 0), (.ref b565)])) rfl (by rw [hml]; rfl) (Steps.refl _) (argsL := [(.int 0), (.int (-1)), .null]) (rest := []) (lenOf pd_34 rfl) rfl (by show 2 * 0 + _ ≤ _; exact Nat.le_of_eq rfl) (hb hby at_50) (fun _ _ => ⟨rfl, eK568, (by decide : 8 + 2 ≤ _), (by decide : 21 + 74 ≤ _)⟩)
    dsimp only [Pt.U, Pt.locs, Pt.cells, Pt.slots] at X626 l626 y626 z626 st626 hQ626
    subst l626 y626 z626
    obtain ⟨ee_626, ke_626, x_626, kb_626, rfl, Nq626, K626, f626_0, f626_1, f626_2, f626_3, f626_4, f626_5, f626_6, f626_7, f626_8, f626_9, f626_10, f626_11, f626_12⟩ := hQ626
    have N626 := Fr.app N568 Nq626
    have eK626 : T626.heap = T626.heap := rfl
    have CR626 := CR568.trans (CHr.keep K626 (sfS (Safe.exa hZ0.alike F628 (by decide) (by decide)) (sfS (Safe.exa hZ0.alike F631 (by decide) (by decide)) sf0)) CR568.1)
    have z626 : T568.heap.size ≤ T626.heap.size := K626.1
    have KP626 : Keep h0 T626.heap ([] : List Addr) := KP568.trans K626 (allS (P := fun zq => zq ∈ ([] : List Addr) ∨ h0.size ≤ zq) (Or.inr (by omega)) (allS (P := fun zq => zq ∈ ([] : List Addr) ∨ h0.size ≤ zq) (Or.inr (by omega)) all0))
    have u626_10 : T626.heap.size > ee_626 := f626_10.lt
    have u626_11 : T626.heap.size > x_626 := f626_11.lt
    have u626_12 : T626.heap.size > x_626 := f626_12.lt
    have F636 := (f568_0.keep K626)
    have F637 := (f568_1.keep K626 (ninS (show @Ne Nat b565 bl_566 by omega) (ninS (show @Ne Nat b565 al_566 by omega) nin0)))
    have F638 := (f568_2.keep K626 (ninS (show @Ne Nat b565 bl_566 by omega) (ninS (show @Ne Nat b565 al_566 by omega) nin0)))
    obtain ⟨cq635, kq635, q635a, q635b, q635c⟩ := isOf hZ0 eK626 F636
    obtain ⟨v635, _, ⟨T635, L635, k635, n635⟩, -, X635, ⟨Lc635, hQ635, l635, y635, z635⟩, st635⟩ := X626.virtualBack hx (y := yM7) (z := yM7) hown0 (mvT hZ0 (w_74 hw)) (mvT hZ0 (w_75 hw)) (notFace_of_selects (args := #[]) (mvT hZ0 (w_77 hw))) (mvT hZ0 (w_77 hw)) (mvT hZ0 (w_76 hw)) (by decide) (backOf (W := 0) (rmBg1 l Z a0 hw [] b565 bl_566 T626.heap (by omega) (by omega) F636 F637 F638) hZ0 (w_78 hw) (w_32 hw) (by decide) (by decide)) q635a q635c (g := (mkF m 55 #[iv p0, iv p1, rv b557, rv b559, rv b565, iv 0, .unset, .unset, .unset] [(.ref b565)])) rfl (by rw [hml]; rfl) (Steps.refl _) (argsL := []) (rest := []) (lenOf pd_8 rfl) rfl (by show 2 * 0 + _ ≤ _; exact Nat.le_of_eq rfl) (hb hby at_55) (fun _ _ => ⟨rfl, eK626, (by decide : 10 + 0 ≤ _), (by decide : 95 + 0 ≤ _)⟩)
    dsimp only [Pt.U, Pt.locs, Pt.cells, Pt.slots] at X635 l635 y635 z635 st635 hQ635
    subst l635 y635 z635
    obtain ⟨rfl, Nq635, K635, f635_0, f635_1, f635_2⟩ := hQ635
    have N635 := Fr.app N626 Nq635
    have eK635 : T635.heap = T635.heap := rfl
    have CR635 := CR626.trans (CHr.keep K635 (sfS (Safe.exa hZ0.alike F636 (by decide) (by decide)) sf0) CR626.1)
    have z635 : T626.heap.size ≤ T635.heap.size := K635.1
    have KP635 : Keep h0 T635.heap ([] : List Addr) := KP626.trans K635 (allS (P := fun zq => zq ∈ ([] : List Addr) ∨ h0.size ≤ zq) (Or.inr (by omega)) all0)
    refine Go.on (w := T635.setTop (mkF m 63 #[iv p0, iv p1, rv b557, rv b559, rv b565, iv 0, iv 1, .unset, .unset] [(.int (p0 &&& (2 : Int32)))])) (fun t k => XS.ifNo X568.here hx rfl (hb hby at_41) rfl ((if0 _ _).trans (feq hc569).1) (XS.aload X568.here hx rfl (hb hby at_44) rfl rfl (XS.iload X568.here hx rfl (hb hby at_46) rfl (XS.iconst X568.here hx rfl (hb hby at_48) (XS.aconstNull X568.here hx rfl (hb hby at_49) (st626.trans (XS.aload X626.here hx rfl (hb hby at_53) rfl rfl (st635.trans (XS.istore X635.here hx rfl (hb hby at_58) rfl (l' := #[iv p0, iv p1, rv b557, rv b559, rv b565, iv 0, iv 1, .unset, .unset]) rfl (XS.iloadN X635.here hx rfl (hb hby at_60) rfl (XS.iconst X635.here hx rfl (hb hby at_61) (XS.iand X635.here hx rfl (hb hby at_62) rfl k)))))))))))) ?_
    by_cases hc639 : (p0 &&& (2 : Int32)) = (0 : Int32)
    ·
      obtain ⟨cq640, kq640, q640a, q640b, q640c⟩ := isOf hZ0 eK635 f635_0
      obtain ⟨v640, _, ⟨T640, L640, k640, n640⟩, -, X640, ⟨Lc640, hQ640, l640, y640, z640⟩, st640⟩ := X635.virtualBack hx (y := yM7) (z := yM7) hown0 (mvT hZ0 (w_74 hw)) (mvT hZ0 (w_75 hw)) (notFace_of_selects (args := #[]) (mvT hZ0 (w_77 hw))) (mvT hZ0 (w_77 hw)) (mvT hZ0 (w_76 hw)) (by decide) (backOf (W := 0) (rmBg2 l Z a0 hw [] b565 bl_566 T635.heap (by omega) (by omega) f635_0 f635_1 f635_2) hZ0 (w_78 hw) (w_32 hw) (by decide) (by decide)) q640a q640c (g := (mkF m 77 #[iv p0, iv p1, rv b557, rv b559, rv b565, iv 0, iv 1, .unset, .unset] [(.ref b565)])) rfl (by rw [hml]; rfl) (Steps.refl _) (argsL := []) (rest := []) (lenOf pd_8 rfl) rfl (by show 2 * 0 + _ ≤ _; exact Nat.le_of_eq rfl) (hb hby at_77) (fun _ _ => ⟨rfl, eK635, (by decide : 10 + 0 ≤ _), (by decide : 95 + 0 ≤ _)⟩)
      dsimp only [Pt.U, Pt.locs, Pt.cells, Pt.slots] at X640 l640 y640 z640 st640 hQ640
      subst l640 y640 z640
      obtain ⟨rfl, Nq640, K640, f640_0, f640_1, f640_2⟩ := hQ640
      have N640 := Fr.app N635 Nq640
      have eK640 : T640.heap = T640.heap := rfl
      have CR640 := CR635.trans (CHr.keep K640 (sfS (Safe.exa hZ0.alike f635_0 (by decide) (by decide)) sf0) CR635.1)
      have z640 : T635.heap.size ≤ T640.heap.size := K640.1
      have KP640 : Keep h0 T640.heap ([] : List Addr) := KP635.trans K640 (allS (P := fun zq => zq ∈ ([] : List Addr) ∨ h0.size ≤ zq) (Or.inr (by omega)) all0)
      refine Go.on (w := T640.setTop (mkF m 85 #[iv p0, iv p1, rv b557, rv b559, rv b565, iv 0, iv 1, iv 2, .unset] [(.int (p0 &&& (4 : Int32)))])) (fun t k => XS.ifYes X635.here hx rfl (pc0 := 63) (pc' := 75) rfl (hb hby at_63) rfl ((if0 _ _).trans (teq hc639).1) (by decide) (by decide) (XS.aload X635.here hx rfl (hb hby at_75) rfl rfl (st640.trans (XS.istore X640.here hx rfl (hb hby at_80) rfl (l' := #[iv p0, iv p1, rv b557, rv b559, rv b565, iv 0, iv 1, iv 2, .unset]) rfl (XS.iloadN X640.here hx rfl (hb hby at_82) rfl (XS.iconst X640.here hx rfl (hb hby at_83) (XS.iand X640.here hx rfl (hb hby at_84) rfl k))))))) ?_
      by_cases hc641 : (p0 &&& (4 : Int32)) = (0 : Int32)
      ·
        obtain ⟨cq642, kq642, q642a, q642b, q642c⟩ := isOf hZ0 eK640 f640_0
        obtain ⟨v642, _, ⟨T642, L642, k642, n642⟩, -, X642, ⟨Lc642, hQ642, l642, y642, z642⟩, st642⟩ := X640.virtualBack hx (y := yM7) (z := yM7) hown0 (mvT hZ0 (w_74 hw)) (mvT hZ0 (w_75 hw)) (notFace_of_selects (args := #[]) (mvT hZ0 (w_77 hw))) (mvT hZ0 (w_77 hw)) (mvT hZ0 (w_76 hw)) (by decide) (backOf (W := 0) (rmBg3 l Z a0 hw [] b565 bl_566 T640.heap (by omega) (by omega) f640_0 f640_1 f640_2) hZ0 (w_78 hw) (w_32 hw) (by decide) (by decide)) q642a q642c (g := (mkF m 100 #[iv p0, iv p1, rv b557, rv b559, rv b565, iv 0, iv 1, iv 2, .unset] [(.ref b565)])) rfl (by rw [hml]; rfl) (Steps.refl _) (argsL := []) (rest := []) (lenOf pd_8 rfl) rfl (by show 2 * 0 + _ ≤ _; exact Nat.le_of_eq rfl) (hb hby at_100) (fun _ _ => ⟨rfl, eK640, (by decide : 10 + 0 ≤ _), (by decide : 95 + 0 ≤ _)⟩)
        dsimp only [Pt.U, Pt.locs, Pt.cells, Pt.slots] at X642 l642 y642 z642 st642 hQ642
        subst l642 y642 z642
        obtain ⟨rfl, Nq642, K642, f642_0, f642_1, f642_2⟩ := hQ642
        have N642 := Fr.app N640 Nq642
        have eK642 : T642.heap = T642.heap := rfl
        have CR642 := CR640.trans (CHr.keep K642 (sfS (Safe.exa hZ0.alike f640_0 (by decide) (by decide)) sf0) CR640.1)
        have z642 : T640.heap.size ≤ T642.heap.size := K642.1
        have KP642 : Keep h0 T642.heap ([] : List Addr) := KP640.trans K642 (allS (P := fun zq => zq ∈ ([] : List Addr) ∨ h0.size ≤ zq) (Or.inr (by omega)) all0)
        refine Go.on (w := T642.setTop (mkF m 133 #[iv p0, iv p1, rv b557, rv b559, rv b565, iv 0, iv 1, iv 2, iv 3] [(.int 1)])) (fun t k => XS.ifYes X640.here hx rfl (pc0 := 85) (pc' := 98) rfl (hb hby at_85) rfl ((if0 _ _).trans (teq hc641).1) (by decide) (by decide) (XS.aload X640.here hx rfl (hb hby at_98) rfl rfl (st642.trans (XS.istore X642.here hx rfl (hb hby at_103) rfl (l' := #[iv p0, iv p1, rv b557, rv b559, rv b565, iv 0, iv 1, iv 2, iv 3]) rfl (XS.iload X642.here hx rfl (hb hby at_105) rfl (XS.ifNo X642.here hx rfl (hb hby at_107) rfl ((if0 _ _).trans (teq (by decide : (0 : Int32) = (0 : Int32))).2) (XS.iload X642.here hx rfl (hb hby at_110) rfl (XS.iconst X642.here hx rfl (hb hby at_112) (XS.icmpNo X642.here hx rfl (hb hby at_113) rfl (teq (by decide : (1 : Int32) = (1 : Int32))).2 (XS.iload X642.here hx rfl (hb hby at_116) rfl (XS.iconst X642.here hx rfl (hb hby at_118) (XS.icmpNo X642.here hx rfl (hb hby at_119) rfl (teq (by decide : (2 : Int32) = (2 : Int32))).2 (XS.iload X642.here hx rfl (hb hby at_122) rfl (XS.iconst X642.here hx rfl (hb hby at_124) (XS.icmpNo X642.here hx rfl (hb hby at_125) rfl (teq (by decide : (3 : Int32) = (3 : Int32))).2 (XS.iconst X642.here hx rfl (hb hby at_128) (XS.goto X642.here hx rfl (pc0 := 129) (pc' := 133) rfl (hb hby at_129) (by decide) (by decide) k))))))))))))))))) ?_
        have CE643 := CR642.trans (CHv.at X642 hZ0 hEL CR642.1)
        refine Go.fin X642 hS0 (by rw [eK642]; omega) hlk (v := some (.int 1)) (fun h => by rw [Bd.returns] at h; cases h) (fun fs hr => ?_) (endP (Q := Q_rm0 Z p0 p1 G1 dd qd cu h0) (by rw [eK642]; exact ⟨rfl, N642, KP642⟩) (by rw [eK642]; exact CE643) (by decide) (by decide))
        exact retN X642 hx (t := .boolean) Bd.returns (by simp) (hb hby at_133) hr
      ·
        have F645 := ((f626_3.keep K635).keep K640)
        have F646 := ((f626_4.keep K635 (ninS (show @Ne Nat bl_566 b565 by omega) nin0)).keep K640 (ninS (show @Ne Nat bl_566 b565 by omega) nin0))
        have F647 := ((f626_5.keep K635 (ninS (show @Ne Nat bl_566 b565 by omega) nin0)).keep K640 (ninS (show @Ne Nat bl_566 b565 by omega) nin0))
        have F648 := ((f626_6.keep K635).keep K640)
        have F649 := ((f626_7.keep K635 (ninS (show @Ne Nat al_566 b565 by omega) nin0)).keep K640 (ninS (show @Ne Nat al_566 b565 by omega) nin0))
        have F650 := ((f626_8.keep K635 (ninS (show @Ne Nat al_566 b565 by omega) nin0)).keep K640 (ninS (show @Ne Nat al_566 b565 by omega) nin0))
        have F651 := ((f626_9.keep K635 (ninS (show @Ne Nat al_566 b565 by omega) nin0)).keep K640 (ninS (show @Ne Nat al_566 b565 by omega) nin0))
        have F652 := ((f626_10.keep K635 (ninS (show @Ne Nat ee_626 b565 by omega) nin0)).keep K640 (ninS (show @Ne Nat ee_626 b565 by omega) nin0))
        have F653 := ((f626_11.keep K635 (ninS (show @Ne Nat x_626 b565 by omega) nin0)).keep K640 (ninS (show @Ne Nat x_626 b565 by omega) nin0))
        have F654 := ((f626_12.keep K635).keep K640)
        obtain ⟨cq644, kq644, q644a, q644b, q644c⟩ := isOf hZ0 eK640 f640_0
        obtain ⟨v644, _, ⟨T644, L644, k644, n644⟩, -, X644, ⟨Lc644, hQ644, l644, y644, z644⟩, st644⟩ := X640.virtualBack hx (y := yM58) (z := yM58) hown0 (mvT hZ0 (w_329 hw)) (mvT hZ0 (w_330 hw)) (notFace_of_selects (args := #[]) (mvT hZ0 (w_332 hw))) (mvT hZ0 (w_332 hw)) (mvT hZ0 (w_331 hw)) (by decide) (backOf (W := 0) (rmEgN2 l Z a0 hw [] b565 bl_566 ((((1 : Int32) + (1 : Int32)) + (1 : Int32)) + (1 : Int32)) al_566 ((0 : Int32) + (1 : Int32)) ee_626 ke_626 x_626 kb_626 T640.heap (by omega) (by omega) (by omega) (show @Ne Nat al_566 bl_566 by omega) (show @Ne Nat ee_626 bl_566 by omega) (show @Ne Nat al_566 x_626 by omega) (show @Ne Nat ee_626 x_626 by omega) (show @Ne Nat bl_566 x_626 by omega) F645 F646 F647 F648 F649 F650 F651 F652 F653 F654 (show @Ne Nat b565 bl_566 by omega) (show @Ne Nat b565 x_626 by omega) f640_0 f640_2 (by unfold own_us; decide)) hZ0 (w_333 hw) (w_32 hw) (by decide) (by decide)) q644a q644c (g := (mkF m 95 #[iv p0, iv p1, rv b557, rv b559, rv b565, iv 0, iv 1, iv 2, .unset] [.null, (.int 1), (.int 2), (.ref b565)])) rfl (by rw [hml]; rfl) (Steps.refl _) (argsL := [(.int 2), (.int 1), .null]) (rest := []) (lenOf pd_34 rfl) rfl (by show 2 * 0 + _ ≤ _; exact Nat.le_of_eq rfl) (hb hby at_95) (fun _ _ => ⟨rfl, eK640, (by decide : 10 + 0 ≤ _), (by decide : 95 + 0 ≤ _)⟩)
        dsimp only [Pt.U, Pt.locs, Pt.cells, Pt.slots] at X644 l644 y644 z644 st644 hQ644
        subst l644 y644 z644
        obtain ⟨rfl, Nq644, K644, f644_0, f644_1, f644_2, f644_3, f644_4, f644_5, f644_6, f644_7, f644_8, f644_9⟩ := hQ644
        have N644 := Fr.app N640 Nq644
        have eK644 : T644.heap = T644.heap := rfl
        have CR644 := CR640.trans (CHr.keep K644 (sfS (Safe.exa hZ0.alike F645 (by decide) (by decide)) (sfS (own_safeBlk hZ0 hw CR640.1 F654 F653) sf0)) CR640.1)
        have z644 : T640.heap.size ≤ T644.heap.size := K644.1
        have KP644 : Keep h0 T644.heap ([] : List Addr) := KP640.trans K644 (allS (P := fun zq => zq ∈ ([] : List Addr) ∨ h0.size ≤ zq) (Or.inr (by omega)) (allS (P := fun zq => zq ∈ ([] : List Addr) ∨ h0.size ≤ zq) (Or.inr (by omega)) all0))
        have F656 := (f640_0.keep K644)
        have F657 := (f640_1.keep K644 (ninS (show @Ne Nat b565 bl_566 by omega) (ninS (show @Ne Nat b565 x_626 by omega) nin0)))
        have F658 := (f640_2.keep K644 (ninS (show @Ne Nat b565 bl_566 by omega) (ninS (show @Ne Nat b565 x_626 by omega) nin0)))
        obtain ⟨cq655, kq655, q655a, q655b, q655c⟩ := isOf hZ0 eK644 F656
        obtain ⟨v655, _, ⟨T655, L655, k655, n655⟩, -, X655, ⟨Lc655, hQ655, l655, y655, z655⟩, st655⟩ := X644.virtualBack hx (y := yM7) (z := yM7) hown0 (mvT hZ0 (w_74 hw)) (mvT hZ0 (w_75 hw)) (notFace_of_selects (args := #[]) (mvT hZ0 (w_77 hw))) (mvT hZ0 (w_77 hw)) (mvT hZ0 (w_76 hw)) (by decide) (backOf (W := 0) (rmBg3 l Z a0 hw [] b565 bl_566 T644.heap (by omega) (by omega) F656 F657 F658) hZ0 (w_78 hw) (w_32 hw) (by decide) (by decide)) q655a q655c (g := (mkF m 100 #[iv p0, iv p1, rv b557, rv b559, rv b565, iv 0, iv 1, iv 2, .unset] [(.ref b565)])) rfl (by rw [hml]; rfl) (Steps.refl _) (argsL := []) (rest := []) (lenOf pd_8 rfl) rfl (by show 2 * 0 + _ ≤ _; exact Nat.le_of_eq rfl) (hb hby at_100) (fun _ _ => ⟨rfl, eK644, (by decide : 10 + 0 ≤ _), (by decide : 95 + 0 ≤ _)⟩)
        dsimp only [Pt.U, Pt.locs, Pt.cells, Pt.slots] at X655 l655 y655 z655 st655 hQ655
        subst l655 y655 z655
        obtain ⟨rfl, Nq655, K655, f655_0, f655_1, f655_2⟩ := hQ655
        have N655 := Fr.app N644 Nq655
        have eK655 : T655.heap = T655.heap := rfl
        have CR655 := CR644.trans (CHr.keep K655 (sfS (Safe.exa hZ0.alike F656 (by decide) (by decide)) sf0) CR644.1)
        have z655 : T644.heap.size ≤ T655.heap.size := K655.1
        have KP655 : Keep h0 T655.heap ([] : List Addr) := KP644.trans K655 (allS (P := fun zq => zq ∈ ([] : List Addr) ∨ h0.size ≤ zq) (Or.inr (by omega)) all0)
        refine Go.on (w := T655.setTop (mkF m 133 #[iv p0, iv p1, rv b557, rv b559, rv b565, iv 0, iv 1, iv 2, iv 3] [(.int 1)])) (fun t k => XS.ifNo X640.here hx rfl (hb hby at_85) rfl ((if0 _ _).trans (feq hc641).1) (XS.aload X640.here hx rfl (hb hby at_88) rfl rfl (XS.iload X640.here hx rfl (hb hby at_90) rfl (XS.iload X640.here hx rfl (hb hby at_92) rfl (XS.aconstNull X640.here hx rfl (hb hby at_94) (st644.trans (XS.aload X644.here hx rfl (hb hby at_98) rfl rfl (st655.trans (XS.istore X655.here hx rfl (hb hby at_103) rfl (l' := #[iv p0, iv p1, rv b557, rv b559, rv b565, iv 0, iv 1, iv 2, iv 3]) rfl (XS.iload X655.here hx rfl (hb hby at_105) rfl (XS.ifNo X655.here hx rfl (hb hby at_107) rfl ((if0 _ _).trans (teq (by decide : (0 : Int32) = (0 : Int32))).2) (XS.iload X655.here hx rfl (hb hby at_110) rfl (XS.iconst X655.here hx rfl (hb hby at_112) (XS.icmpNo X655.here hx rfl (hb hby at_113) rfl (teq (by decide : (1 : Int32) = (1 : Int32))).2 (XS.iload X655.here hx rfl (hb hby at_116) rfl (XS.iconst X655.here hx rfl (hb hby at_118) (XS.icmpNo X655.here hx rfl (hb hby at_119) rfl (teq (by decide : (2 : Int32) = (2 : Int32))).2 (XS.iload X655.here hx rfl (hb hby at_122) rfl (XS.iconst X655.here hx rfl (hb hby at_124) (XS.icmpNo X655.here hx rfl (hb hby at_125) rfl (teq (by decide : (3 : Int32) = (3 : Int32))).2 (XS.iconst X655.here hx rfl (hb hby at_128) (XS.goto X655.here hx rfl (pc0 := 129) (pc' := 133) rfl (hb hby at_129) (by decide) (by decide) k)))))))))))))))))))))) ?_
        have CE659 := CR655.trans (CHv.at X655 hZ0 hEL CR655.1)
        refine Go.fin X655 hS0 (by rw [eK655]; omega) hlk (v := some (.int 1)) (fun h => by rw [Bd.returns] at h; cases h) (fun fs hr => ?_) (endP (Q := Q_rm0 Z p0 p1 G1 dd qd cu h0) (by rw [eK655]; exact ⟨rfl, N655, KP655⟩) (by rw [eK655]; exact CE659) (by decide) (by decide))
        exact retN X655 hx (t := .boolean) Bd.returns (by simp) (hb hby at_133) hr
    ·
      have F661 := (f626_3.keep K635)
      have F662 := (f626_4.keep K635 (ninS (show @Ne Nat bl_566 b565 by omega) nin0))
      have F663 := (f626_5.keep K635 (ninS (show @Ne Nat bl_566 b565 by omega) nin0))
      have F664 := (f626_6.keep K635)
      have F665 := (f626_7.keep K635 (ninS (show @Ne Nat al_566 b565 by omega) nin0))
      have F666 := (f626_8.keep K635 (ninS (show @Ne Nat al_566 b565 by omega) nin0))
      have F667 := (f626_9.keep K635 (ninS (show @Ne Nat al_566 b565 by omega) nin0))
      have F668 := (f626_10.keep K635 (ninS (show @Ne Nat ee_626 b565 by omega) nin0))
      have F669 := (f626_11.keep K635 (ninS (show @Ne Nat x_626 b565 by omega) nin0))
      have F670 := (f626_12.keep K635)
      have F671 := ((F627.keep K626 (allS (by omega) (allS (by omega) all0))).keep K635 (allS (by omega) all0))
      have F672 := (((((Ex563.ext E565).keep K566).keep K568).keep K626).keep K635)
      have F673 := (((((Fc563.ext E565).keep K566 (ninS (show @Ne Nat b559 b565 by omega) nin0)).keep K568 (ninS (show @Ne Nat b559 b565 by omega) nin0)).keep K626 (ninS (show @Ne Nat b559 bl_566 by omega) (ninS (show @Ne Nat b559 al_566 by omega) nin0))).keep K635 (ninS (show @Ne Nat b559 b565 by omega) nin0))
      have F674 := (((((Fv563.ext E565).keep K566 (ninS (show @Ne Nat b559 b565 by omega) nin0)).keep K568 (ninS (show @Ne Nat b559 b565 by omega) nin0)).keep K626 (ninS (show @Ne Nat b559 bl_566 by omega) (ninS (show @Ne Nat b559 al_566 by omega) nin0))).keep K635 (ninS (show @Ne Nat b559 b565 by omega) nin0))
      have F675 := (((((V564.ext E565).keep K566 (ninS (show @Ne Nat t563 b565 by omega) nin0)).keep K568 (ninS (show @Ne Nat t563 b565 by omega) nin0)).keep K626 (ninS (show @Ne Nat t563 bl_566 by omega) (ninS (show @Ne Nat t563 al_566 by omega) nin0))).keep K635 (ninS (show @Ne Nat t563 b565 by omega) nin0))
      obtain ⟨cq660, kq660, q660a, q660b, q660c⟩ := isOf hZ0 eK635 f635_0
      obtain ⟨v660, _, ⟨T660, L660, k660, n660⟩, -, X660', hs660, hg660, ⟨Lc660, hQ660, l660, y660, z660, C660⟩, st660⟩ := X635.virtualBackS hx (y := yM8) (z := yM8) hown0 (mvT hZ0 (w_81 hw)) (mvT hZ0 (w_82 hw)) (notFace_of_selects (args := #[]) (mvT hZ0 (w_84 hw))) (mvT hZ0 (w_84 hw)) (mvT hZ0 (w_83 hw)) (by decide) (backOfSH (s := s) (W := 0) (rmAm1 l Z a0 hw [] b565 bl_566 ((((1 : Int32) + (1 : Int32)) + (1 : Int32)) + (1 : Int32)) al_566 ((0 : Int32) + (1 : Int32)) ee_626 ke_626 x_626 kb_626 b559 t563 kb563 G1 (c1.toInt8.toInt32) cu T635.heap (by omega) (by omega) (by omega) (show @Ne Nat al_566 bl_566 by omega) (show @Ne Nat ee_626 bl_566 by omega) (show @Ne Nat al_566 x_626 by omega) (show @Ne Nat ee_626 x_626 by omega) (show @Ne Nat bl_566 x_626 by omega) F661 F662 F663 F664 F665 F666 F667 F668 F669 F670 F671 hEL O2 P5 OU OI (show @Ne Nat b565 bl_566 by omega) (show @Ne Nat b565 x_626 by omega) (show @Ne Nat b559 bl_566 by omega) (show @Ne Nat b559 x_626 by omega) (show @Ne Nat t563 bl_566 by omega) (show @Ne Nat t563 x_626 by omega) f635_0 f635_2 F672 F673 F674 F675 (by unfold own_us; decide)) hZ0 (w_85 hw) (w_32 hw) (by decide) (by decide) hEL CR635.1) q660a q660c (g := (mkF m 72 #[iv p0, iv p1, rv b557, rv b559, rv b565, iv 0, iv 1, .unset, .unset] [(.ref b559), .null, (.int 1), (.ref b565)])) rfl (by rw [hml]; rfl) (Steps.refl _) (argsL := [(.int 1), .null, (.ref b559)]) (rest := []) (lenOf pd_35 rfl) rfl (by show 2 * 0 + _ ≤ _; exact Nat.le_of_eq rfl) (hb hby at_72) (fun _ _ => ⟨rfl, eK635, (by decide : 10 + 8 ≤ _), (by decide : 95 + 81 ≤ _)⟩)
      dsimp only [Pt.U, Pt.locs, Pt.cells, Pt.slots] at X660' l660 y660 z660 st660 hQ660 hs660 hg660 C660
      subst l660 y660 z660
      obtain ⟨X660, hS660, hZ660, hown660⟩ := rebS hS0 (n1 := T635.heap.size) (by rw [eK635]; omega) X660' hs660 hg660 hZ0 hown0
      have hj660 : T660.heap.size ≤ T660.heap.size := Nat.le_refl _
      obtain ⟨u'_660, rfl, Nq660, K660, f660_0, f660_1, f660_2, f660_3, f660_4, f660_5, f660_6, f660_7, f660_8, f660_9, f660_10⟩ := hQ660
      have N660 := Fr.app N635 Nq660
      have eK660 : T660.heap = T660.heap := rfl
      have CR660 := CR635.trans C660
      have z660 : T635.heap.size ≤ T660.heap.size := K660.1
      have KP660 : Keep h0 T660.heap ([] : List Addr) := KP635.trans K660 (allS (P := fun zq => zq ∈ ([] : List Addr) ∨ h0.size ≤ zq) (Or.inr (by omega)) (allS (P := fun zq => zq ∈ ([] : List Addr) ∨ h0.size ≤ zq) (Or.inr (by omega)) all0))
      have F677 := (f635_0.keep K660)
      have F678 := (f635_1.keep K660 (ninS (show @Ne Nat b565 bl_566 by omega) (ninS (show @Ne Nat b565 x_626 by omega) nin0)))
      have F679 := (f635_2.keep K660 (ninS (show @Ne Nat b565 bl_566 by omega) (ninS (show @Ne Nat b565 x_626 by omega) nin0)))
      obtain ⟨cq676, kq676, q676a, q676b, q676c⟩ := isOf hZ660 eK660 F677
      obtain ⟨v676, _, ⟨T676, L676, k676, n676⟩, -, X676, ⟨Lc676, hQ676, l676, y676, z676⟩, st676⟩ := X660.virtualBack hx (y := yM7) (z := yM7) hown660 (mvT hZ660 (w_74 hw)) (mvT hZ660 (w_75 hw)) (notFace_of_selects (args := #[]) (mvT hZ660 (w_77 hw))) (mvT hZ660 (w_77 hw)) (mvT hZ660 (w_76 hw)) (by decide) (backOf (W := 0) (rmBg2 l Z a0 hw [] b565 bl_566 T660.heap (by omega) (by omega) F677 F678 F679) hZ660 (w_78 hw) (w_32 hw) (by decide) (by decide)) q676a q676c (g := (mkF m 77 #[iv p0, iv p1, rv b557, rv b559, rv b565, iv 0, iv 1, .unset, .unset] [(.ref b565)])) rfl (by rw [hml]; rfl) (Steps.refl _) (argsL := []) (rest := []) (lenOf pd_8 rfl) rfl (by show 2 * 0 + _ ≤ _; exact Nat.le_of_eq rfl) (hb hby at_77) (fun _ _ => ⟨rfl, eK660, (by decide : 18 + 0 ≤ _), (by decide : 176 + 0 ≤ _)⟩)
      dsimp only [Pt.U, Pt.locs, Pt.cells, Pt.slots] at X676 l676 y676 z676 st676 hQ676
      subst l676 y676 z676
      obtain ⟨rfl, Nq676, K676, f676_0, f676_1, f676_2⟩ := hQ676
      have N676 := Fr.app N660 Nq676
      have eK676 : T676.heap = T676.heap := rfl
      have CR676 := CR660.trans (CHr.keep K676 (sfS (Safe.exa hZ660.alike F677 (by decide) (by decide)) sf0) CR660.1)
      have z676 : T660.heap.size ≤ T676.heap.size := K676.1
      have KP676 : Keep h0 T676.heap ([] : List Addr) := KP660.trans K676 (allS (P := fun zq => zq ∈ ([] : List Addr) ∨ h0.size ≤ zq) (Or.inr (by omega)) all0)
      refine Go.on (w := T676.setTop (mkF m 85 #[iv p0, iv p1, rv b557, rv b559, rv b565, iv 0, iv 1, iv 2, .unset] [(.int (p0 &&& (4 : Int32)))])) (fun t k => XS.ifNo X635.here hx rfl (hb hby at_63) rfl ((if0 _ _).trans (feq hc639).1) (XS.aload X635.here hx rfl (hb hby at_66) rfl rfl (XS.iload X635.here hx rfl (hb hby at_68) rfl (XS.aconstNull X635.here hx rfl (hb hby at_70) (XS.aloadN X635.here hx rfl (hb hby at_71) rfl rfl (st660.trans (XS.aload X660.here hx rfl (hb hby at_75) rfl rfl (st676.trans (XS.istore X676.here hx rfl (hb hby at_80) rfl (l' := #[iv p0, iv p1, rv b557, rv b559, rv b565, iv 0, iv 1, iv 2, .unset]) rfl (XS.iloadN X676.here hx rfl (hb hby at_82) rfl (XS.iconst X676.here hx rfl (hb hby at_83) (XS.iand X676.here hx rfl (hb hby at_84) rfl k)))))))))))) ?_
      by_cases hc680 : (p0 &&& (4 : Int32)) = (0 : Int32)
      ·
        obtain ⟨cq681, kq681, q681a, q681b, q681c⟩ := isOf hZ660 eK676 f676_0
        obtain ⟨v681, _, ⟨T681, L681, k681, n681⟩, -, X681, ⟨Lc681, hQ681, l681, y681, z681⟩, st681⟩ := X676.virtualBack hx (y := yM7) (z := yM7) hown660 (mvT hZ660 (w_74 hw)) (mvT hZ660 (w_75 hw)) (notFace_of_selects (args := #[]) (mvT hZ660 (w_77 hw))) (mvT hZ660 (w_77 hw)) (mvT hZ660 (w_76 hw)) (by decide) (backOf (W := 0) (rmBg3 l Z a0 hw [] b565 bl_566 T676.heap (by omega) (by omega) f676_0 f676_1 f676_2) hZ660 (w_78 hw) (w_32 hw) (by decide) (by decide)) q681a q681c (g := (mkF m 100 #[iv p0, iv p1, rv b557, rv b559, rv b565, iv 0, iv 1, iv 2, .unset] [(.ref b565)])) rfl (by rw [hml]; rfl) (Steps.refl _) (argsL := []) (rest := []) (lenOf pd_8 rfl) rfl (by show 2 * 0 + _ ≤ _; exact Nat.le_of_eq rfl) (hb hby at_100) (fun _ _ => ⟨rfl, eK676, (by decide : 18 + 0 ≤ _), (by decide : 176 + 0 ≤ _)⟩)
        dsimp only [Pt.U, Pt.locs, Pt.cells, Pt.slots] at X681 l681 y681 z681 st681 hQ681
        subst l681 y681 z681
        obtain ⟨rfl, Nq681, K681, f681_0, f681_1, f681_2⟩ := hQ681
        have N681 := Fr.app N676 Nq681
        have eK681 : T681.heap = T681.heap := rfl
        have CR681 := CR676.trans (CHr.keep K681 (sfS (Safe.exa hZ660.alike f676_0 (by decide) (by decide)) sf0) CR676.1)
        have z681 : T676.heap.size ≤ T681.heap.size := K681.1
        have KP681 : Keep h0 T681.heap ([] : List Addr) := KP676.trans K681 (allS (P := fun zq => zq ∈ ([] : List Addr) ∨ h0.size ≤ zq) (Or.inr (by omega)) all0)
        refine Go.on (w := T681.setTop (mkF m 133 #[iv p0, iv p1, rv b557, rv b559, rv b565, iv 0, iv 1, iv 2, iv 3] [(.int 1)])) (fun t k => XS.ifYes X676.here hx rfl (pc0 := 85) (pc' := 98) rfl (hb hby at_85) rfl ((if0 _ _).trans (teq hc680).1) (by decide) (by decide) (XS.aload X676.here hx rfl (hb hby at_98) rfl rfl (st681.trans (XS.istore X681.here hx rfl (hb hby at_103) rfl (l' := #[iv p0, iv p1, rv b557, rv b559, rv b565, iv 0, iv 1, iv 2, iv 3]) rfl (XS.iload X681.here hx rfl (hb hby at_105) rfl (XS.ifNo X681.here hx rfl (hb hby at_107) rfl ((if0 _ _).trans (teq (by decide : (0 : Int32) = (0 : Int32))).2) (XS.iload X681.here hx rfl (hb hby at_110) rfl (XS.iconst X681.here hx rfl (hb hby at_112) (XS.icmpNo X681.here hx rfl (hb hby at_113) rfl (teq (by decide : (1 : Int32) = (1 : Int32))).2 (XS.iload X681.here hx rfl (hb hby at_116) rfl (XS.iconst X681.here hx rfl (hb hby at_118) (XS.icmpNo X681.here hx rfl (hb hby at_119) rfl (teq (by decide : (2 : Int32) = (2 : Int32))).2 (XS.iload X681.here hx rfl (hb hby at_122) rfl (XS.iconst X681.here hx rfl (hb hby at_124) (XS.icmpNo X681.here hx rfl (hb hby at_125) rfl (teq (by decide : (3 : Int32) = (3 : Int32))).2 (XS.iconst X681.here hx rfl (hb hby at_128) (XS.goto X681.here hx rfl (pc0 := 129) (pc' := 133) rfl (hb hby at_129) (by decide) (by decide) k))))))))))))))))) ?_
        have CE682 := CR681.trans (CHv.at X681 hZ660 hEL CR681.1)
        refine Go.fin X681 hS660 (by rw [eK681]; omega) hlk (v := some (.int 1)) (fun h => by rw [Bd.returns] at h; cases h) (fun fs hr => ?_) (endP (Q := Q_rm0 Z p0 p1 G1 dd qd cu h0) (by rw [eK681]; exact ⟨rfl, N681, KP681⟩) (by rw [eK681]; exact CE682) (by decide) (by decide))
        exact retN X681 hx (t := .boolean) Bd.returns (by simp) (hb hby at_133) hr
      ·
        have F684 := (f660_0.keep K676)
        have F685 := (f660_1.keep K676 (ninS (show @Ne Nat bl_566 b565 by omega) nin0))
        have F686 := (f660_2.keep K676 (ninS (show @Ne Nat bl_566 b565 by omega) nin0))
        have F687 := (f660_3.keep K676)
        have F688 := (f660_4.keep K676 (ninS (show @Ne Nat al_566 b565 by omega) nin0))
        have F689 := (f660_5.keep K676 (ninS (show @Ne Nat al_566 b565 by omega) nin0))
        have F690 := (f660_6.keep K676 (ninS (show @Ne Nat al_566 b565 by omega) nin0))
        have F691 := (f660_7.keep K676 (ninS (show @Ne Nat ee_626 b565 by omega) nin0))
        have F692 := (f660_8.keep K676 (ninS (show @Ne Nat x_626 b565 by omega) nin0))
        have F693 := (f660_9.keep K676)
        obtain ⟨cq683, kq683, q683a, q683b, q683c⟩ := isOf hZ660 eK676 f676_0
        obtain ⟨v683, _, ⟨T683, L683, k683, n683⟩, -, X683, ⟨Lc683, hQ683, l683, y683, z683⟩, st683⟩ := X676.virtualBack hx (y := yM58) (z := yM58) hown660 (mvT hZ660 (w_329 hw)) (mvT hZ660 (w_330 hw)) (notFace_of_selects (args := #[]) (mvT hZ660 (w_332 hw))) (mvT hZ660 (w_332 hw)) (mvT hZ660 (w_331 hw)) (by decide) (backOf (W := 0) (rmEgN2 l Z a0 hw [] b565 bl_566 u'_660 al_566 ((0 : Int32) + (1 : Int32)) ee_626 ke_626 x_626 kb_626 T676.heap (by omega) (by omega) (by omega) (show @Ne Nat al_566 bl_566 by omega) (show @Ne Nat ee_626 bl_566 by omega) (show @Ne Nat al_566 x_626 by omega) (show @Ne Nat ee_626 x_626 by omega) (show @Ne Nat bl_566 x_626 by omega) F684 F685 F686 F687 F688 F689 F690 F691 F692 F693 (show @Ne Nat b565 bl_566 by omega) (show @Ne Nat b565 x_626 by omega) f676_0 f676_2 f660_10) hZ660 (w_333 hw) (w_32 hw) (by decide) (by decide)) q683a q683c (g := (mkF m 95 #[iv p0, iv p1, rv b557, rv b559, rv b565, iv 0, iv 1, iv 2, .unset] [.null, (.int 1), (.int 2), (.ref b565)])) rfl (by rw [hml]; rfl) (Steps.refl _) (argsL := [(.int 2), (.int 1), .null]) (rest := []) (lenOf pd_34 rfl) rfl (by show 2 * 0 + _ ≤ _; exact Nat.le_of_eq rfl) (hb hby at_95) (fun _ _ => ⟨rfl, eK676, (by decide : 18 + 0 ≤ _), (by decide : 176 + 0 ≤ _)⟩)
        dsimp only [Pt.U, Pt.locs, Pt.cells, Pt.slots] at X683 l683 y683 z683 st683 hQ683
        subst l683 y683 z683
        obtain ⟨rfl, Nq683, K683, f683_0, f683_1, f683_2, f683_3, f683_4, f683_5, f683_6, f683_7, f683_8, f683_9⟩ := hQ683
        have N683 := Fr.app N676 Nq683
        have eK683 : T683.heap = T683.heap := rfl
        have CR683 := CR676.trans (CHr.keep K683 (sfS (Safe.exa hZ660.alike F684 (by decide) (by decide)) (sfS (own_safeBlk hZ660 hw CR676.1 F693 F692) sf0)) CR676.1)
        have z683 : T676.heap.size ≤ T683.heap.size := K683.1
        have KP683 : Keep h0 T683.heap ([] : List Addr) := KP676.trans K683 (allS (P := fun zq => zq ∈ ([] : List Addr) ∨ h0.size ≤ zq) (Or.inr (by omega)) (allS (P := fun zq => zq ∈ ([] : List Addr) ∨ h0.size ≤ zq) (Or.inr (by omega)) all0))
        have F695 := (f676_0.keep K683)
        have F696 := (f676_1.keep K683 (ninS (show @Ne Nat b565 bl_566 by omega) (ninS (show @Ne Nat b565 x_626 by omega) nin0)))
        have F697 := (f676_2.keep K683 (ninS (show @Ne Nat b565 bl_566 by omega) (ninS (show @Ne Nat b565 x_626 by omega) nin0)))
        obtain ⟨cq694, kq694, q694a, q694b, q694c⟩ := isOf hZ660 eK683 F695
        obtain ⟨v694, _, ⟨T694, L694, k694, n694⟩, -, X694, ⟨Lc694, hQ694, l694, y694, z694⟩, st694⟩ := X683.virtualBack hx (y := yM7) (z := yM7) hown660 (mvT hZ660 (w_74 hw)) (mvT hZ660 (w_75 hw)) (notFace_of_selects (args := #[]) (mvT hZ660 (w_77 hw))) (mvT hZ660 (w_77 hw)) (mvT hZ660 (w_76 hw)) (by decide) (backOf (W := 0) (rmBg3 l Z a0 hw [] b565 bl_566 T683.heap (by omega) (by omega) F695 F696 F697) hZ660 (w_78 hw) (w_32 hw) (by decide) (by decide)) q694a q694c (g := (mkF m 100 #[iv p0, iv p1, rv b557, rv b559, rv b565, iv 0, iv 1, iv 2, .unset] [(.ref b565)])) rfl (by rw [hml]; rfl) (Steps.refl _) (argsL := []) (rest := []) (lenOf pd_8 rfl) rfl (by show 2 * 0 + _ ≤ _; exact Nat.le_of_eq rfl) (hb hby at_100) (fun _ _ => ⟨rfl, eK683, (by decide : 18 + 0 ≤ _), (by decide : 176 + 0 ≤ _)⟩)
        dsimp only [Pt.U, Pt.locs, Pt.cells, Pt.slots] at X694 l694 y694 z694 st694 hQ694
        subst l694 y694 z694
        obtain ⟨rfl, Nq694, K694, f694_0, f694_1, f694_2⟩ := hQ694
        have N694 := Fr.app N683 Nq694
        have eK694 : T694.heap = T694.heap := rfl
        have CR694 := CR683.trans (CHr.keep K694 (sfS (Safe.exa hZ660.alike F695 (by decide) (by decide)) sf0) CR683.1)
        have z694 : T683.heap.size ≤ T694.heap.size := K694.1
        have KP694 : Keep h0 T694.heap ([] : List Addr) := KP683.trans K694 (allS (P := fun zq => zq ∈ ([] : List Addr) ∨ h0.size ≤ zq) (Or.inr (by omega)) all0)
        refine Go.on (w := T694.setTop (mkF m 133 #[iv p0, iv p1, rv b557, rv b559, rv b565, iv 0, iv 1, iv 2, iv 3] [(.int 1)])) (fun t k => XS.ifNo X676.here hx rfl (hb hby at_85) rfl ((if0 _ _).trans (feq hc680).1) (XS.aload X676.here hx rfl (hb hby at_88) rfl rfl (XS.iload X676.here hx rfl (hb hby at_90) rfl (XS.iload X676.here hx rfl (hb hby at_92) rfl (XS.aconstNull X676.here hx rfl (hb hby at_94) (st683.trans (XS.aload X683.here hx rfl (hb hby at_98) rfl rfl (st694.trans (XS.istore X694.here hx rfl (hb hby at_103) rfl (l' := #[iv p0, iv p1, rv b557, rv b559, rv b565, iv 0, iv 1, iv 2, iv 3]) rfl (XS.iload X694.here hx rfl (hb hby at_105) rfl (XS.ifNo X694.here hx rfl (hb hby at_107) rfl ((if0 _ _).trans (teq (by decide : (0 : Int32) = (0 : Int32))).2) (XS.iload X694.here hx rfl (hb hby at_110) rfl (XS.iconst X694.here hx rfl (hb hby at_112) (XS.icmpNo X694.here hx rfl (hb hby at_113) rfl (teq (by decide : (1 : Int32) = (1 : Int32))).2 (XS.iload X694.here hx rfl (hb hby at_116) rfl (XS.iconst X694.here hx rfl (hb hby at_118) (XS.icmpNo X694.here hx rfl (hb hby at_119) rfl (teq (by decide : (2 : Int32) = (2 : Int32))).2 (XS.iload X694.here hx rfl (hb hby at_122) rfl (XS.iconst X694.here hx rfl (hb hby at_124) (XS.icmpNo X694.here hx rfl (hb hby at_125) rfl (teq (by decide : (3 : Int32) = (3 : Int32))).2 (XS.iconst X694.here hx rfl (hb hby at_128) (XS.goto X694.here hx rfl (pc0 := 129) (pc' := 133) rfl (hb hby at_129) (by decide) (by decide) k)))))))))))))))))))))) ?_
        have CE698 := CR694.trans (CHv.at X694 hZ660 hEL CR694.1)
        refine Go.fin X694 hS660 (by rw [eK694]; omega) hlk (v := some (.int 1)) (fun h => by rw [Bd.returns] at h; cases h) (fun fs hr => ?_) (endP (Q := Q_rm0 Z p0 p1 G1 dd qd cu h0) (by rw [eK694]; exact ⟨rfl, N694, KP694⟩) (by rw [eK694]; exact CE698) (by decide) (by decide))
        exact retN X694 hx (t := .boolean) Bd.returns (by simp) (hb hby at_133) hr
theorem comes_1 {Post : Tables → Env → Array Value → State → Outcome → State → Prop} (hpost : ∀ tb e args s v u, (limb_1_1.after args s (.returned v) u = true ∧ limb_1_2.after args s (.returned v) u = true ∧ True) → ReturnedEndW s (.returned v) u (Jvm.fieldLocs frame_1_writes args s ++ Jvm.arrayLocs frame_1_arrays args s ++ Jvm.staticLocs frame_1_statics s) 48 1408 → Post tb e args s (.returned v) u) :
    ArmFor flags0 classFile x code maxLocals ret World_1 tables_1 room_1 Calls_1 rest_1 Pre_1 Post := by
  intro l hfl _ _ p e ha hc hk s m args below hf hA hF happ hP
  obtain ⟨hcalls, hrest, hpre⟩ := hP
  obtain ⟨-, -, -, hnamed, -, -, -, hat⟩ := (Spec.applies_iff hf).mp happ
  obtain ⟨hg, hn⟩ := and_e (Cond.before_iff.mp (show (Cond.and given_1 narrow_1).before args s = true from hpre))
  obtain ⟨gh0, gt0⟩ := and_e hg
  obtain ⟨gh1, gt1⟩ := and_e gt0
  obtain ⟨v0, v1, rfl⟩ : ∃ v0 v1 : Value, args = #[v0, v1] := by
    have hs : args.size = 2 := by simpa [Cond.value, given_1] using gh0
    obtain ⟨L⟩ := args
    match L, hs with
    | [v0, v1], _ => exact ⟨v0, v1, rfl⟩
  have hw := fun d (hd : d ∈ tables_1) => atoms_spec (ws := Cond.code x code maxLocals ret :: tables_1) hat d (List.mem_cons_of_mem _ hd)
  have hfit : Fit s := fun {y c} hc i hi => by
    obtain ⟨ha, rfl⟩ := Array.getElem?_eq_some_iff.mp hc
    have q := List.all_eq_true.mp ((Array.all_eq_true_iff_forall_mem.mp hF) _ (Array.getElem_mem ha)) i (List.mem_range.mpr hi)
    simpa [Array.getElem?_eq_getElem hi] using q
  obtain ⟨i0, ei0⟩ := is_v gh1
  obtain rfl : v0 = (.int i0) := Option.some.inj ei0
  obtain ⟨i1, ei1⟩ := is_v gt1
  obtain rfl : v1 = (.int i1) := Option.some.inj ei1
  obtain ⟨hsets, hown0⟩ := atoms_of _ (rest_1_c_eq ▸ (show rest_1_c.before _ s = true from hrest))
  have n5 := not_v (Cond.before_iff.mp (hsets _ (List.mem_of_getElem? (i := 2) rfl)))
  obtain ⟨G1, e10⟩ := is_v (Cond.before_iff.mp (hsets _ (List.mem_of_getElem? (i := 1) rfl)))
  have O2 : Sta s s.heap "java/lang/String" "COMPACT_STRINGS" "Z" (.int G1) := Sta.start e10 (Or.inl (hsets _ (List.mem_of_getElem? (i := 0) rfl)))
  have P5 : ¬ (G1 = (0 : Int32)) := gotF (Cond.eq_ints e10 (Term.int_eval (0))) n5
  have hEL : EW s _ EL := (EW.cons (w_197 hw) (by decide) EW.nil)
  have hC : CHv s EL s.vm s.heap := CHv.start hEL (fun p hp => hcalls.1 p ((by decide : ∀ p ∈ EL, p ∈ consts_1) p hp)) (hsets _ (List.mem_of_getElem? (i := 2) rfl)) (w_19 hw) (w_2 hw)
  obtain ⟨dd, ed⟩ := exa_v (Cond.before_iff.mp (hsets _ (List.mem_of_getElem? (i := 16) rfl)))
  have OD : Sta s s.heap "java/util/ArrayList" "DEFAULTCAPACITY_EMPTY_ELEMENTDATA" "[Ljava/lang/Object;" (.ref dd) := Sta.start ed (Or.inr ⟨(w_46 hw), (hsets _ (List.mem_of_getElem? (i := 11) rfl))⟩)
  obtain ⟨qd, VD⟩ := own_arvS hfit ed (Cond.before_iff.mp (hsets _ (List.mem_of_getElem? (i := 15) rfl))) (Cond.before_iff.mp (hsets _ (List.mem_of_getElem? (i := 17) rfl))) (vs := []) (dv := .null) (by decide) (by decide) (fun cl hcl => trivial)
  obtain ⟨cu, eu⟩ := exa_v (Cond.before_iff.mp (hsets _ (List.mem_of_getElem? (i := 23) rfl)))
  have OU : Sta s s.heap "java/nio/charset/StandardCharsets" "UTF_8" "Ljava/nio/charset/Charset;" (.ref cu) := Sta.start eu (Or.inl (hsets _ (List.mem_of_getElem? (i := 19) rfl)))
  have ei := own_eqStat eu (Cond.before_iff.mp (hsets _ (List.mem_of_getElem? (i := 22) rfl)))
  have OI : Sta s s.heap "sun/nio/cs/UTF_8" "INSTANCE" "Lsun/nio/cs/UTF_8;" (.ref cu) := Sta.start ei (Or.inl (hsets _ (List.mem_of_getElem? (i := 21) rfl)))
  obtain ⟨n, o, h1, h2, h3, _, L, rfl, ⟨rfl, N, -⟩, -, hq⟩ := rm0 l s _ hw tables_1 i0 i1 G1 dd qd cu s.heap hEL (Nat.le_refl _) (Old.start s) O2 P5 OD VD OU OI p e ha hc hk s m _ below hf ((Spec.applies_iff_loose hf).mp happ).1 ⟨rfl, State.Warmed39.refl s, rfl, hC⟩ trivial
  refine ⟨n, _, h1, h2, h3, hpost _ _ _ _ _ _ ⟨Cond.after_iff.mpr rfl, Cond.after_iff.mpr (eq_i res_at (Term.int_eval (1)) rfl), trivial⟩ ⟨hq.1, hq.2.1, hq.2.2.1, (hq.2.2.2.sift fun y hy => Or.inr (N y hy)).mono (by decide) (by decide)⟩⟩
theorem main_1_1 : Claimed_1_1 := comes_1 fun _ _ _ _ _ _ h hF => ⟨h.1, hF⟩
theorem main_1_2 : Claimed_1_2 := comes_1 fun _ _ _ _ _ _ h hF => ⟨h.2.1, hF⟩
end Jvm.Pilot.@@N@@
namespace Jvm.Pilot.@@N@@
open Jvm Jvm.ClassFile Sem Op Lib Jvm.Free Jvm.Stand Jvm.Pilot.@@N@@.Jvm.D
/-! MADE BY PROGRAM (witnessworld.py) out of the Statement's table words and the real class files: 43 classes; the members and pool entries that the words name. The judged class is class 1, her method 1. -/
namespace start1
open Jvm.ClassFile
def u (s : String) : CpInfo := .utf8 (stringToUtf16 s)
/-- a pool by its gaps: so many unusable entries, then the entry; so many at the end -/
def gap : Nat → List CpInfo → List CpInfo
  | 0, r => r
  | n + 1, r => .unusable :: gap n r
def poolList (es : List (Nat × CpInfo)) (last : Nat) : List CpInfo := es.foldr (fun e r => gap e.1 (e.2 :: r)) (gap last [])
def pool (es : List (Nat × CpInfo)) (last : Nat) : Array CpInfo := ⟨poolList es last⟩
def fileOf (pool : Array CpInfo) (this : Nat) (attrs : Array Attribute := #[]) (ms : Array MethodInfo := #[]) (fl : Nat := 33) (sup : Nat := 0) (ifs : Array Nat := #[]) (fds : Array FieldInfo := #[]) : ClassFile where
  minorVersion := 0
  majorVersion := 65
  constantPool := pool
  accessFlags := fl
  thisClass := this
  superClass := sup
  interfaces := ifs
  fields := fds
  methods := ms
  attributes := attrs
def plain (name : String) (sup : Option ClassId) : Class where
  name := name
  kind := .ordinary
  loader := none
  accessFlags := 33
  super := sup
  interfaces := #[]
  cf := none
  fields := #[]
  methods := #[]
  instanceTypes := #[]
  staticTypes := #[]
  resolved := #[]
  callSites := []
  init := .initialized
  statics := none
  mirror := none

def pool0 : Array CpInfo := pool [(5, u "<init>"), (0, u "()V"), (1, .class_ 10), (1, u "java/lang/Object"), (85, u "clone"), (0, u "()Ljava/lang/Object;")] 26

def k0c0 : Code := { maxStack := 0, maxLocals := 1, code := object_method_1_code, exceptionTable := #[], attributes := #[] }
def k0m0 : Method := { name := "<init>", desc := "()V", sig := { parameters := [], returnType := none }, accessFlags := 1, code := some k0c0 }
def k0m1 : Method := { name := "clone", desc := "()Ljava/lang/Object;", sig := { parameters := [], returnType := some (.object "java/lang/Object") }, accessFlags := 260, code := none }
/-- java/lang/Object -/
def k0 : Class := { plain "java/lang/Object" none with
  accessFlags := 33
  interfaces := #[]
  cf := some (fileOf pool0 8 #[] #[{ accessFlags := 1, nameIndex := 5, descriptorIndex := 6, attributes := #[] }, { accessFlags := 260, nameIndex := 96, descriptorIndex := 97, attributes := #[] }] 33 0 #[] #[])
  fields := #[]
  methods := #[k0m0, k0m1]
  instanceTypes := #[]
  staticTypes := #[]
  resolved := Array.replicate 124 none
  statics := none }

def pool1 : Array CpInfo := pool [(2, .class_ 4), (0, .nameAndType 5 6), (0, u "java/lang/Object"), (0, u "<init>"), (0, u "()V"), (0, .class_ 8), (0, u "java/lang/String"), (0, .methodref 7 10), (0, .nameAndType 5 11), (0, u "([C)V"), (0, .class_ 13), (0, u "com/example/realmwright/realmwright/KeycloakRoles"), (0, .methodref 12 3), (0, .methodref 12 16), (0, .nameAndType 17 18), (0, u "beginGroup"), (0, u "()I"), (0, .methodref 12 20), (0, .nameAndType 21 22), (0, u "endGroup"), (0, u "(IILjava/lang/String;)V"), (0, .methodref 12 24), (0, .nameAndType 25 26), (0, u "addMapped"), (0, u "(ILjava/lang/String;Ljava/lang/String;)V"), (0, .class_ 28), (0, u "com/example/realmwright/realmwright/KeycloakRolesBeginGroupPinLaw"), (2, u "law"), (0, u "(II)Z")] 5

def k1m0 : Method := { name := "<init>", desc := "()V", sig := { parameters := [], returnType := none }, accessFlags := 1, code := none }
def k1c1 : Code := { maxStack := 4, maxLocals := 9, code := code, exceptionTable := #[], attributes := #[] }
def k1m1 : Method := { name := "law", desc := "(II)Z", sig := { parameters := [.int, .int], returnType := some .boolean }, accessFlags := 9, code := some k1c1 }
/-- com/example/realmwright/realmwright/KeycloakRolesBeginGroupPinLaw -/
def k1 : Class := { plain "com/example/realmwright/realmwright/KeycloakRolesBeginGroupPinLaw" (some 0) with
  accessFlags := 49
  interfaces := #[]
  cf := some (fileOf pool1 27 #[] #[{ accessFlags := 1, nameIndex := 5, descriptorIndex := 6, attributes := #[] }, { accessFlags := 9, nameIndex := 31, descriptorIndex := 32, attributes := #[] }] 49 2 #[] #[])
  fields := #[]
  methods := #[k1m0, k1m1]
  instanceTypes := #[]
  staticTypes := #[]
  resolved := Array.replicate 38 none
  statics := none }

def pool2 : Array CpInfo := pool [(1, .class_ 2), (0, u "java/io/Serializable"), (0, .class_ 4), (0, u "java/lang/Object")] 2

/-- java/io/Serializable -/
def k2 : Class := { plain "java/io/Serializable" (some 0) with
  accessFlags := 1537
  interfaces := #[]
  cf := some (fileOf pool2 1 #[] #[] 1537 3 #[] #[])
  fields := #[]
  methods := #[]
  instanceTypes := #[]
  staticTypes := #[]
  resolved := Array.replicate 7 none
  statics := none }

def pool3 : Array CpInfo := pool [(1, .class_ 2), (0, u "java/lang/Comparable"), (0, .class_ 4), (0, u "java/lang/Object")] 7

/-- java/lang/Comparable -/
def k3 : Class := { plain "java/lang/Comparable" (some 0) with
  accessFlags := 1537
  interfaces := #[]
  cf := some (fileOf pool3 1 #[] #[] 1537 3 #[] #[])
  fields := #[]
  methods := #[]
  instanceTypes := #[]
  staticTypes := #[]
  resolved := Array.replicate 12 none
  statics := none }

def pool4 : Array CpInfo := pool [(2, .class_ 4), (1, u "java/lang/CharSequence"), (42, .class_ 48), (0, u "java/lang/CharSequence$1CodePointIterator"), (10, .class_ 60), (0, u "java/lang/CharSequence$1CharIterator"), (5, .class_ 67), (0, u "java/lang/Object")] 63

/-- java/lang/CharSequence -/
def k4 : Class := { plain "java/lang/CharSequence" (some 0) with
  accessFlags := 1537
  interfaces := #[]
  cf := some (fileOf pool4 2 #[.nestMembers #[47, 59]] #[] 1537 66 #[] #[])
  fields := #[]
  methods := #[]
  instanceTypes := #[]
  staticTypes := #[]
  resolved := Array.replicate 131 none
  statics := none }

def pool5 : Array CpInfo := pool [(1, .class_ 2), (0, u "java/lang/constant/Constable"), (0, .class_ 4), (0, u "java/lang/Object")] 6

/-- java/lang/constant/Constable -/
def k5 : Class := { plain "java/lang/constant/Constable" (some 0) with
  accessFlags := 1537
  interfaces := #[]
  cf := some (fileOf pool5 1 #[] #[] 1537 3 #[] #[])
  fields := #[]
  methods := #[]
  instanceTypes := #[]
  staticTypes := #[]
  resolved := Array.replicate 11 none
  statics := none }

def pool6 : Array CpInfo := pool [(1, .class_ 2), (0, u "java/lang/constant/ConstantDesc"), (0, .class_ 4), (0, u "java/lang/Object")] 32

/-- java/lang/constant/ConstantDesc -/
def k6 : Class := { plain "java/lang/constant/ConstantDesc" (some 0) with
  accessFlags := 1537
  interfaces := #[]
  cf := some (fileOf pool6 1 #[] #[] 1537 3 #[] #[])
  fields := #[]
  methods := #[]
  instanceTypes := #[]
  staticTypes := #[]
  resolved := Array.replicate 37 none
  statics := none }

def pool7 : Array CpInfo := pool [(1, .methodref 2 3), (0, .class_ 4), (0, .nameAndType 5 6), (0, u "java/lang/Object"), (0, u "<init>"), (0, u "()V"), (2, .fieldref 10 11), (0, .class_ 12), (0, .nameAndType 13 14), (0, u "java/lang/String"), (0, u "value"), (0, u "[B"), (0, .fieldref 10 16), (0, .nameAndType 17 18), (0, u "coder"), (0, u "B"), (2, u "hash"), (0, u "I"), (2, u "hashIsZero"), (0, u "Z"), (0, .methodref 10 28), (0, .nameAndType 5 29), (0, u "([CIILjava/lang/Void;)V"), (8, .fieldref 10 39), (0, .nameAndType 40 26), (0, u "COMPACT_STRINGS"), (1, .class_ 44), (1, u "java/lang/StringUTF16"), (0, u "compress"), (1, .methodref 42 48), (0, .nameAndType 49 50), (0, u "coderFromArrayLen"), (0, u "([BI)B"), (3, .methodref 55 56), (0, .class_ 57), (0, .nameAndType 58 59), (0, u "java/util/Arrays"), (0, u "copyOfRange"), (0, u "([BII)[B"), (0, .methodref 42 61), (0, .nameAndType 62 63), (0, u "newBytesFor"), (0, u "(I)[B"), (22, .fieldref 87 88), (0, .class_ 89), (0, .nameAndType 90 91), (0, u "sun/nio/cs/UTF_8"), (0, u "INSTANCE"), (0, u "Lsun/nio/cs/UTF_8;"), (1, .class_ 95), (1, u "java/lang/StringCoding"), (6, .methodref 55 103), (0, .nameAndType 104 105), (0, u "copyOf"), (0, u "([BI)[B"), (22, .methodref 93 129), (0, .nameAndType 130 131), (0, u "hasNegatives"), (0, u "([BII)Z"), (10, u "()Z"), (34, .methodref 42 178), (0, .nameAndType 45 179), (0, u "([CII)[B"), (13, .class_ 195), (1, u "java/lang/System"), (16, .methodref 193 213), (0, .nameAndType 214 215), (0, u "arraycopy"), (0, u "(Ljava/lang/Object;ILjava/lang/Object;II)V"), (36, .methodref 10 253), (0, .nameAndType 254 255), (0, u "encodeUTF8"), (0, u "(B[BZ)[B"), (23, .methodref 280 281), (0, .class_ 14), (0, .nameAndType 282 283), (0, u "clone"), (0, u "()Ljava/lang/Object;"), (33, u "encode"), (16, u "()I"), (0, .methodref 10 336), (0, .nameAndType 17 337), (0, u "()B"), (2, u "()[B"), (148, .methodref 10 490), (0, .nameAndType 5 491), (0, u "(Ljava/lang/AbstractStringBuilder;Ljava/lang/Void;)V"), (1, .nameAndType 494 142), (0, u "isLatin1"), (11, .nameAndType 507 334), (0, u "length"), (24, u "getBytes"), (2, .methodref 10 536), (0, .nameAndType 317 537), (0, u "(Ljava/nio/charset/Charset;B[B)[B"), (11, .methodref 550 506), (0, .class_ 551), (0, u "java/lang/AbstractStringBuilder"), (0, .methodref 550 553), (0, .nameAndType 554 340), (0, u "getValue"), (20, .class_ 576), (0, u "java/lang/CharSequence"), (22, u "CASE_INSENSITIVE_ORDER"), (0, u "Ljava/util/Comparator;"), (220, u "([BIB)V"), (188, u "([C)V"), (36, .methodref 550 493), (53, u "serialPersistentFields"), (0, u "[Ljava/io/ObjectStreamField;"), (0, .class_ 1104), (0, u "java/lang/String$CaseInsensitiveComparator"), (1, .class_ 1107), (0, u "java/io/Serializable"), (0, .class_ 1109), (0, u "java/lang/Comparable"), (0, .class_ 1111), (0, u "java/lang/constant/Constable"), (0, .class_ 1113), (0, u "java/lang/constant/ConstantDesc"), (2, u "serialVersionUID"), (0, u "J"), (3, u "REPL"), (0, u "C"), (2, u "LATIN1"), (1, u "UTF16"), (105, u "(Ljava/lang/StringBuilder;)V"), (11, u "(Ljava/nio/charset/Charset;)[B")] 205

def k7m0 : Method := { name := "<init>", desc := "()V", sig := { parameters := [], returnType := none }, accessFlags := 1, code := none }
def k7c1 : Code := { maxStack := 5, maxLocals := 2, code := jdk_42_method_3_code, exceptionTable := #[], attributes := #[] }
def k7m1 : Method := { name := "<init>", desc := "([C)V", sig := { parameters := [(.array .char)], returnType := none }, accessFlags := 1, code := some k7c1 }
def k7c2 : Code := { maxStack := 4, maxLocals := 3, code := jdk_42_method_18_code, exceptionTable := #[], attributes := #[] }
def k7m2 : Method := { name := "encode", desc := "(Ljava/nio/charset/Charset;B[B)[B", sig := { parameters := [(.object "java/nio/charset/Charset"), .byte, (.array .byte)], returnType := some (.array .byte) }, accessFlags := 10, code := some k7c2 }
def k7c3 : Code := { maxStack := 5, maxLocals := 9, code := jdk_42_method_46_code, exceptionTable := #[], attributes := #[] }
def k7m3 : Method := { name := "encodeUTF8", desc := "(B[BZ)[B", sig := { parameters := [.byte, (.array .byte), .boolean], returnType := some (.array .byte) }, accessFlags := 10, code := some k7c3 }
def k7c4 : Code := { maxStack := 3, maxLocals := 2, code := jdk_42_method_53_code, exceptionTable := #[], attributes := #[] }
def k7m4 : Method := { name := "<init>", desc := "(Ljava/lang/StringBuilder;)V", sig := { parameters := [(.object "java/lang/StringBuilder")], returnType := none }, accessFlags := 1, code := some k7c4 }
def k7c5 : Code := { maxStack := 2, maxLocals := 1, code := jdk_42_method_54_code, exceptionTable := #[], attributes := #[] }
def k7m5 : Method := { name := "length", desc := "()I", sig := { parameters := [], returnType := some .int }, accessFlags := 1, code := some k7c5 }
def k7c6 : Code := { maxStack := 3, maxLocals := 2, code := jdk_42_method_64_code, exceptionTable := #[], attributes := #[] }
def k7m6 : Method := { name := "getBytes", desc := "(Ljava/nio/charset/Charset;)[B", sig := { parameters := [(.object "java/nio/charset/Charset")], returnType := some (.array .byte) }, accessFlags := 1, code := some k7c6 }
def k7c7 : Code := { maxStack := 5, maxLocals := 4, code := jdk_42_method_147_code, exceptionTable := #[], attributes := #[] }
def k7m7 : Method := { name := "getBytes", desc := "([BIB)V", sig := { parameters := [(.array .byte), .int, .byte], returnType := none }, accessFlags := 0, code := some k7c7 }
def k7c8 : Code := { maxStack := 4, maxLocals := 6, code := jdk_42_method_149_code, exceptionTable := #[], attributes := #[] }
def k7m8 : Method := { name := "<init>", desc := "([CIILjava/lang/Void;)V", sig := { parameters := [(.array .char), .int, .int, (.object "java/lang/Void")], returnType := none }, accessFlags := 2, code := some k7c8 }
def k7c9 : Code := { maxStack := 5, maxLocals := 5, code := jdk_42_method_150_code, exceptionTable := #[], attributes := #[] }
def k7m9 : Method := { name := "<init>", desc := "(Ljava/lang/AbstractStringBuilder;Ljava/lang/Void;)V", sig := { parameters := [(.object "java/lang/AbstractStringBuilder"), (.object "java/lang/Void")], returnType := none }, accessFlags := 0, code := some k7c9 }
def k7c10 : Code := { maxStack := 1, maxLocals := 1, code := jdk_42_method_152_code, exceptionTable := #[], attributes := #[] }
def k7m10 : Method := { name := "coder", desc := "()B", sig := { parameters := [], returnType := some .byte }, accessFlags := 0, code := some k7c10 }
/-- java/lang/String -/
def k7 : Class := { plain "java/lang/String" (some 0) with
  accessFlags := 49
  interfaces := #[2, 3, 4, 5, 6]
  cf := some (fileOf pool7 10 #[.nestMembers #[1103]] #[{ accessFlags := 1, nameIndex := 5, descriptorIndex := 6, attributes := #[] }, { accessFlags := 1, nameIndex := 5, descriptorIndex := 1010, attributes := #[] }, { accessFlags := 10, nameIndex := 317, descriptorIndex := 537, attributes := #[] }, { accessFlags := 10, nameIndex := 254, descriptorIndex := 255, attributes := #[] }, { accessFlags := 1, nameIndex := 5, descriptorIndex := 1233, attributes := #[] }, { accessFlags := 1, nameIndex := 507, descriptorIndex := 334, attributes := #[] }, { accessFlags := 1, nameIndex := 532, descriptorIndex := 1245, attributes := #[] }, { accessFlags := 0, nameIndex := 532, descriptorIndex := 821, attributes := #[] }, { accessFlags := 2, nameIndex := 5, descriptorIndex := 29, attributes := #[] }, { accessFlags := 0, nameIndex := 5, descriptorIndex := 491, attributes := #[] }, { accessFlags := 0, nameIndex := 17, descriptorIndex := 337, attributes := #[] }] 49 2 #[1106, 1108, 575, 1110, 1112] #[{ accessFlags := 18, nameIndex := 13, descriptorIndex := 14, attributes := #[] }, { accessFlags := 18, nameIndex := 17, descriptorIndex := 18, attributes := #[] }, { accessFlags := 2, nameIndex := 21, descriptorIndex := 22, attributes := #[] }, { accessFlags := 2, nameIndex := 25, descriptorIndex := 26, attributes := #[] }, { accessFlags := 26, nameIndex := 1116, descriptorIndex := 1117, attributes := #[] }, { accessFlags := 24, nameIndex := 40, descriptorIndex := 26, attributes := #[] }, { accessFlags := 26, nameIndex := 1101, descriptorIndex := 1102, attributes := #[] }, { accessFlags := 26, nameIndex := 1121, descriptorIndex := 1122, attributes := #[] }, { accessFlags := 25, nameIndex := 599, descriptorIndex := 600, attributes := #[] }, { accessFlags := 24, nameIndex := 1125, descriptorIndex := 18, attributes := #[] }, { accessFlags := 24, nameIndex := 1127, descriptorIndex := 18, attributes := #[] }])
  fields := #[{ name := "value", type := (.array .byte), accessFlags := 18, slot := 0, constantValue := 0 }, { name := "coder", type := .byte, accessFlags := 18, slot := 1, constantValue := 0 }, { name := "hash", type := .int, accessFlags := 2, slot := 2, constantValue := 0 }, { name := "hashIsZero", type := .boolean, accessFlags := 2, slot := 3, constantValue := 0 }, { name := "serialVersionUID", type := .long, accessFlags := 26, slot := 0, constantValue := 0 }, { name := "COMPACT_STRINGS", type := .boolean, accessFlags := 24, slot := 1, constantValue := 0 }, { name := "serialPersistentFields", type := (.array (.object "java/io/ObjectStreamField")), accessFlags := 26, slot := 2, constantValue := 0 }, { name := "REPL", type := .char, accessFlags := 26, slot := 3, constantValue := 0 }, { name := "CASE_INSENSITIVE_ORDER", type := (.object "java/util/Comparator"), accessFlags := 25, slot := 4, constantValue := 0 }, { name := "LATIN1", type := .byte, accessFlags := 24, slot := 5, constantValue := 0 }, { name := "UTF16", type := .byte, accessFlags := 24, slot := 6, constantValue := 0 }]
  methods := #[k7m0, k7m1, k7m2, k7m3, k7m4, k7m5, k7m6, k7m7, k7m8, k7m9, k7m10]
  instanceTypes := #[(.array .byte), .byte, .int, .boolean]
  staticTypes := #[.long, .boolean, (.array (.object "java/io/ObjectStreamField")), .char, (.object "java/util/Comparator"), .byte, .byte]
  resolved := Array.replicate 1451 none
  statics := some 0 }

def pool8 : Array CpInfo := pool [(6, .class_ 8), (1, u "java/lang/Object"), (0, u "<init>"), (0, u "()V"), (0, .methodref 12 13), (0, .class_ 14), (0, .nameAndType 15 16), (0, u "java/lang/StringUTF16"), (0, u "newBytesLength"), (0, u "(I)I"), (3, .integer 1073741823), (25, u "$assertionsDisabled"), (0, u "Z"), (13, u "HI_BYTE_SHIFT"), (0, u "I"), (2, u "LO_BYTE_SHIFT"), (43, u "newBytesFor"), (0, u "(I)[B"), (4, .methodref 12 116), (0, .nameAndType 117 118), (0, u "compress"), (0, u "([CI[BII)I"), (3, u "([CII)[B"), (138, u "coderFromArrayLen"), (0, u "([BI)B"), (106, .class_ 371), (1, u "java/lang/StringUTF16$LinesSpliterator"), (58, u "MAX_LENGTH"), (196, .class_ 628), (0, u "java/lang/StringUTF16$CodePointsSpliterator"), (0, .class_ 630), (0, u "java/lang/StringUTF16$CharsSpliterator")] 4

def k8m0 : Method := { name := "<init>", desc := "()V", sig := { parameters := [], returnType := none }, accessFlags := 0, code := none }
def k8c1 : Code := { maxStack := 1, maxLocals := 1, code := jdk_52_method_2_code, exceptionTable := #[], attributes := #[] }
def k8m1 : Method := { name := "newBytesFor", desc := "(I)[B", sig := { parameters := [.int], returnType := some (.array .byte) }, accessFlags := 9, code := some k8c1 }
def k8c2 : Code := { maxStack := 4, maxLocals := 1, code := jdk_52_method_3_code, exceptionTable := #[], attributes := #[] }
def k8m2 : Method := { name := "newBytesLength", desc := "(I)I", sig := { parameters := [.int], returnType := some .int }, accessFlags := 9, code := some k8c2 }
def k8c3 : Code := { maxStack := 2, maxLocals := 2, code := jdk_52_method_15_code, exceptionTable := #[], attributes := #[] }
def k8m3 : Method := { name := "coderFromArrayLen", desc := "([BI)B", sig := { parameters := [(.array .byte), .int], returnType := some .byte }, accessFlags := 8, code := some k8c3 }
def k8c4 : Code := { maxStack := 5, maxLocals := 6, code := jdk_52_method_16_code, exceptionTable := #[], attributes := #[] }
def k8m4 : Method := { name := "compress", desc := "([CII)[B", sig := { parameters := [(.array .char), .int, .int], returnType := some (.array .byte) }, accessFlags := 9, code := some k8c4 }
def k8c5 : Code := { maxStack := 3, maxLocals := 7, code := jdk_52_method_21_code, exceptionTable := #[], attributes := #[] }
def k8m5 : Method := { name := "compress", desc := "([CI[BII)I", sig := { parameters := [(.array .char), .int, (.array .byte), .int, .int], returnType := some .int }, accessFlags := 9, code := some k8c5 }
/-- java/lang/StringUTF16 -/
def k8 : Class := { plain "java/lang/StringUTF16" (some 0) with
  accessFlags := 48
  interfaces := #[]
  cf := some (fileOf pool8 12 #[.nestMembers #[627, 629, 369]] #[{ accessFlags := 0, nameIndex := 9, descriptorIndex := 10, attributes := #[] }, { accessFlags := 9, nameIndex := 109, descriptorIndex := 110, attributes := #[] }, { accessFlags := 9, nameIndex := 15, descriptorIndex := 16, attributes := #[] }, { accessFlags := 8, nameIndex := 261, descriptorIndex := 262, attributes := #[] }, { accessFlags := 9, nameIndex := 117, descriptorIndex := 122, attributes := #[] }, { accessFlags := 9, nameIndex := 117, descriptorIndex := 118, attributes := #[] }] 48 6 #[] #[{ accessFlags := 26, nameIndex := 61, descriptorIndex := 62, attributes := #[] }, { accessFlags := 26, nameIndex := 65, descriptorIndex := 62, attributes := #[] }, { accessFlags := 24, nameIndex := 430, descriptorIndex := 62, attributes := #[] }, { accessFlags := 4120, nameIndex := 46, descriptorIndex := 47, attributes := #[] }])
  fields := #[{ name := "HI_BYTE_SHIFT", type := .int, accessFlags := 26, slot := 0, constantValue := 0 }, { name := "LO_BYTE_SHIFT", type := .int, accessFlags := 26, slot := 1, constantValue := 0 }, { name := "MAX_LENGTH", type := .int, accessFlags := 24, slot := 2, constantValue := 0 }, { name := "$assertionsDisabled", type := .boolean, accessFlags := 4120, slot := 3, constantValue := 0 }]
  methods := #[k8m0, k8m1, k8m2, k8m3, k8m4, k8m5]
  instanceTypes := #[]
  staticTypes := #[.int, .int, .int, .boolean]
  resolved := Array.replicate 635 none
  statics := none }

def pool9 : Array CpInfo := pool [(1, .methodref 2 3), (0, .class_ 4), (0, .nameAndType 5 6), (0, u "java/lang/Object"), (0, u "<init>"), (0, u "()V"), (0, .class_ 8), (0, u "com/example/realmwright/realmwright/ByteLog"), (0, .methodref 7 3), (0, .fieldref 11 12), (0, .class_ 13), (0, .nameAndType 14 15), (0, u "com/example/realmwright/realmwright/KeycloakRoles"), (0, u "composites"), (0, u "Lcom/example/realmwright/realmwright/ByteLog;"), (0, .fieldref 11 17), (0, .nameAndType 18 15), (0, u "groups"), (0, .methodref 11 20), (0, .nameAndType 21 22), (0, u "key"), (0, u "(Ljava/lang/String;Ljava/lang/String;)Ljava/lang/String;"), (0, .methodref 7 24), (0, .nameAndType 25 26), (0, u "writeString"), (0, u "(Ljava/lang/String;)V"), (2, u "readingComposite"), (0, u "Z"), (4, u "compositeCount"), (0, u "I"), (0, .fieldref 11 38), (0, .nameAndType 39 36), (0, u "groupCount"), (0, .methodref 7 41), (0, .nameAndType 42 43), (0, u "writeCount"), (0, u "(J)V"), (0, .class_ 45), (0, u "com/example/realmwright/realmwright/KeycloakRoles$OnClient"), (3, .class_ 50), (0, u "java/lang/StringBuilder"), (0, .methodref 49 3), (0, .string 53), (0, u "realm "), (0, .methodref 49 55), (0, .nameAndType 56 57), (0, u "append"), (0, u "(Ljava/lang/String;)Ljava/lang/StringBuilder;"), (0, .methodref 49 59), (0, .nameAndType 60 61), (0, u "toString"), (0, u "()Ljava/lang/String;"), (2, .methodref 65 66), (0, .class_ 67), (0, .nameAndType 68 69), (0, u "java/lang/String"), (0, u "length"), (0, u "()I"), (5, u "TOP"), (2, u "GROUP"), (1, u "MAPPED"), (7, u "beginGroup"), (0, u "addMapped"), (0, u "(ILjava/lang/String;Ljava/lang/String;)V"), (0, u "endGroup"), (0, u "(IILjava/lang/String;)V"), (5, .class_ 99), (0, u "com/example/realmwright/realmwright/KeycloakRoles$ClientRole")] 3

def k9c0 : Code := { maxStack := 3, maxLocals := 1, code := prog_22_method_1_code, exceptionTable := #[], attributes := #[] }
def k9m0 : Method := { name := "<init>", desc := "()V", sig := { parameters := [], returnType := none }, accessFlags := 0, code := some k9c0 }
def k9c1 : Code := { maxStack := 4, maxLocals := 1, code := prog_22_method_4_code, exceptionTable := #[], attributes := #[] }
def k9m1 : Method := { name := "beginGroup", desc := "()I", sig := { parameters := [], returnType := some .int }, accessFlags := 0, code := some k9c1 }
def k9c2 : Code := { maxStack := 3, maxLocals := 4, code := prog_22_method_5_code, exceptionTable := #[], attributes := #[] }
def k9m2 : Method := { name := "addMapped", desc := "(ILjava/lang/String;Ljava/lang/String;)V", sig := { parameters := [.int, (.object "java/lang/String"), (.object "java/lang/String")], returnType := none }, accessFlags := 0, code := some k9c2 }
def k9c3 : Code := { maxStack := 3, maxLocals := 4, code := prog_22_method_6_code, exceptionTable := #[], attributes := #[] }
def k9m3 : Method := { name := "endGroup", desc := "(IILjava/lang/String;)V", sig := { parameters := [.int, .int, (.object "java/lang/String")], returnType := none }, accessFlags := 0, code := some k9c3 }
def k9c4 : Code := { maxStack := 2, maxLocals := 2, code := prog_22_method_8_code, exceptionTable := #[], attributes := #[] }
def k9m4 : Method := { name := "key", desc := "(Ljava/lang/String;Ljava/lang/String;)Ljava/lang/String;", sig := { parameters := [(.object "java/lang/String"), (.object "java/lang/String")], returnType := some (.object "java/lang/String") }, accessFlags := 10, code := some k9c4 }
/-- com/example/realmwright/realmwright/KeycloakRoles -/
def k9 : Class := { plain "com/example/realmwright/realmwright/KeycloakRoles" (some 0) with
  accessFlags := 48
  interfaces := #[]
  cf := some (fileOf pool9 11 #[.nestMembers #[44, 98]] #[{ accessFlags := 0, nameIndex := 5, descriptorIndex := 6, attributes := #[] }, { accessFlags := 0, nameIndex := 88, descriptorIndex := 69, attributes := #[] }, { accessFlags := 0, nameIndex := 89, descriptorIndex := 90, attributes := #[] }, { accessFlags := 0, nameIndex := 91, descriptorIndex := 92, attributes := #[] }, { accessFlags := 10, nameIndex := 21, descriptorIndex := 22, attributes := #[] }] 48 2 #[] #[{ accessFlags := 24, nameIndex := 75, descriptorIndex := 36, attributes := #[] }, { accessFlags := 26, nameIndex := 78, descriptorIndex := 36, attributes := #[] }, { accessFlags := 26, nameIndex := 80, descriptorIndex := 36, attributes := #[] }, { accessFlags := 18, nameIndex := 14, descriptorIndex := 15, attributes := #[] }, { accessFlags := 2, nameIndex := 35, descriptorIndex := 36, attributes := #[] }, { accessFlags := 2, nameIndex := 29, descriptorIndex := 30, attributes := #[] }, { accessFlags := 18, nameIndex := 18, descriptorIndex := 15, attributes := #[] }, { accessFlags := 2, nameIndex := 39, descriptorIndex := 36, attributes := #[] }])
  fields := #[{ name := "TOP", type := .int, accessFlags := 24, slot := 0, constantValue := 0 }, { name := "GROUP", type := .int, accessFlags := 26, slot := 1, constantValue := 0 }, { name := "MAPPED", type := .int, accessFlags := 26, slot := 2, constantValue := 0 }, { name := "composites", type := (.object "com/example/realmwright/realmwright/ByteLog"), accessFlags := 18, slot := 0, constantValue := 0 }, { name := "compositeCount", type := .int, accessFlags := 2, slot := 1, constantValue := 0 }, { name := "readingComposite", type := .boolean, accessFlags := 2, slot := 2, constantValue := 0 }, { name := "groups", type := (.object "com/example/realmwright/realmwright/ByteLog"), accessFlags := 18, slot := 3, constantValue := 0 }, { name := "groupCount", type := .int, accessFlags := 2, slot := 4, constantValue := 0 }]
  methods := #[k9m0, k9m1, k9m2, k9m3, k9m4]
  instanceTypes := #[(.object "com/example/realmwright/realmwright/ByteLog"), .int, .boolean, (.object "com/example/realmwright/realmwright/ByteLog"), .int]
  staticTypes := #[.int, .int, .int]
  resolved := Array.replicate 103 none
  statics := none }

def pool10 : Array CpInfo := pool [(1, .methodref 2 3), (0, .class_ 4), (0, .nameAndType 5 6), (0, u "java/lang/Object"), (0, u "<init>"), (0, u "()V"), (0, .class_ 8), (0, u "java/util/ArrayList"), (0, .methodref 7 3), (0, .fieldref 11 12), (0, .class_ 13), (0, .nameAndType 14 15), (0, u "com/example/realmwright/realmwright/ByteLog"), (0, u "blocks"), (0, u "Ljava/util/List;"), (20, u "(Ljava/lang/String;)V"), (0, .long 128), (1, .long 127), (1, .methodref 11 42), (0, .nameAndType 43 44), (0, u "writeByte"), (0, u "(I)V"), (0, .methodref 11 46), (0, .nameAndType 47 48), (0, u "writeCount"), (0, u "(J)V"), (0, .fieldref 50 51), (0, .class_ 52), (0, .nameAndType 53 54), (0, u "java/nio/charset/StandardCharsets"), (0, u "UTF_8"), (0, u "Ljava/nio/charset/Charset;"), (0, .methodref 56 57), (0, .class_ 58), (0, .nameAndType 59 60), (0, u "java/lang/String"), (0, u "getBytes"), (0, u "(Ljava/nio/charset/Charset;)[B"), (0, .methodref 11 62), (0, .nameAndType 63 64), (0, u "lastBlock"), (0, u "()[B"), (0, .fieldref 11 66), (0, .nameAndType 67 68), (0, u "used"), (0, u "I"), (0, .methodref 70 71), (0, .class_ 72), (0, .nameAndType 73 74), (0, u "java/lang/Math"), (0, u "min"), (0, u "(II)I"), (0, .methodref 76 77), (0, .class_ 78), (0, .nameAndType 79 80), (0, u "java/lang/System"), (0, u "arraycopy"), (0, u "(Ljava/lang/Object;ILjava/lang/Object;II)V"), (0, .class_ 82), (0, u "com/example/realmwright/realmwright/ByteLog$Reader"), (3, .interfaceMethodref 87 88), (0, .class_ 89), (0, .nameAndType 90 91), (0, u "java/util/List"), (0, u "isEmpty"), (0, u "()Z"), (0, .interfaceMethodref 87 93), (0, .nameAndType 94 95), (0, u "size"), (0, u "()I"), (23, .class_ 120), (0, u "com/example/realmwright/realmwright/ByteLog$Index"), (3, .interfaceMethodref 87 125), (0, .nameAndType 126 127), (0, u "add"), (0, u "(Ljava/lang/Object;)Z"), (0, .interfaceMethodref 87 129), (0, .nameAndType 130 131), (0, u "get"), (0, u "(I)Ljava/lang/Object;"), (0, .class_ 133), (0, u "[B"), (0, .integer 65536), (0, .methodref 136 137), (0, .class_ 138), (0, .nameAndType 139 140), (0, u "java/util/Arrays"), (0, u "copyOf"), (0, u "([BI)[B"), (4, u "BLOCK"), (1, u "FIRST_BLOCK"), (6, u "writeString")] 16

def k10c0 : Code := { maxStack := 3, maxLocals := 1, code := prog_1_method_1_code, exceptionTable := #[], attributes := #[] }
def k10m0 : Method := { name := "<init>", desc := "()V", sig := { parameters := [], returnType := none }, accessFlags := 0, code := some k10c0 }
def k10c1 : Code := { maxStack := 5, maxLocals := 5, code := prog_1_method_2_code, exceptionTable := #[], attributes := #[] }
def k10m1 : Method := { name := "writeCount", desc := "(J)V", sig := { parameters := [.long], returnType := none }, accessFlags := 0, code := some k10c1 }
def k10c2 : Code := { maxStack := 5, maxLocals := 6, code := prog_1_method_3_code, exceptionTable := #[], attributes := #[] }
def k10m2 : Method := { name := "writeString", desc := "(Ljava/lang/String;)V", sig := { parameters := [(.object "java/lang/String")], returnType := none }, accessFlags := 0, code := some k10c2 }
def k10c3 : Code := { maxStack := 5, maxLocals := 2, code := prog_1_method_10_code, exceptionTable := #[], attributes := #[] }
def k10m3 : Method := { name := "writeByte", desc := "(I)V", sig := { parameters := [.int], returnType := none }, accessFlags := 2, code := some k10c3 }
def k10c4 : Code := { maxStack := 3, maxLocals := 2, code := prog_1_method_11_code, exceptionTable := #[], attributes := #[] }
def k10m4 : Method := { name := "lastBlock", desc := "()[B", sig := { parameters := [], returnType := some (.array .byte) }, accessFlags := 2, code := some k10c4 }
/-- com/example/realmwright/realmwright/ByteLog -/
def k10 : Class := { plain "com/example/realmwright/realmwright/ByteLog" (some 0) with
  accessFlags := 48
  interfaces := #[]
  cf := some (fileOf pool10 11 #[.nestMembers #[81, 119]] #[{ accessFlags := 0, nameIndex := 5, descriptorIndex := 6, attributes := #[] }, { accessFlags := 0, nameIndex := 47, descriptorIndex := 48, attributes := #[] }, { accessFlags := 0, nameIndex := 154, descriptorIndex := 36, attributes := #[] }, { accessFlags := 2, nameIndex := 43, descriptorIndex := 44, attributes := #[] }, { accessFlags := 2, nameIndex := 63, descriptorIndex := 64, attributes := #[] }] 48 2 #[] #[{ accessFlags := 26, nameIndex := 145, descriptorIndex := 68, attributes := #[] }, { accessFlags := 26, nameIndex := 147, descriptorIndex := 68, attributes := #[] }, { accessFlags := 18, nameIndex := 14, descriptorIndex := 15, attributes := #[] }, { accessFlags := 2, nameIndex := 67, descriptorIndex := 68, attributes := #[] }])
  fields := #[{ name := "BLOCK", type := .int, accessFlags := 26, slot := 0, constantValue := 0 }, { name := "FIRST_BLOCK", type := .int, accessFlags := 26, slot := 1, constantValue := 0 }, { name := "blocks", type := (.object "java/util/List"), accessFlags := 18, slot := 0, constantValue := 0 }, { name := "used", type := .int, accessFlags := 2, slot := 1, constantValue := 0 }]
  methods := #[k10m0, k10m1, k10m2, k10m3, k10m4]
  instanceTypes := #[(.object "java/util/List"), .int]
  staticTypes := #[.int, .int]
  resolved := Array.replicate 171 none
  statics := none }

def pool11 : Array CpInfo := pool [(8, .class_ 10), (1, u "java/lang/Iterable"), (24, .class_ 36), (0, u "java/lang/Object")] 25

/-- java/lang/Iterable -/
def k11 : Class := { plain "java/lang/Iterable" (some 0) with
  accessFlags := 1537
  interfaces := #[]
  cf := some (fileOf pool11 8 #[] #[] 1537 35 #[] #[])
  fields := #[]
  methods := #[]
  instanceTypes := #[]
  staticTypes := #[]
  resolved := Array.replicate 62 none
  statics := none }

def pool12 : Array CpInfo := pool [(10, .class_ 12), (1, u "java/util/Collection"), (47, .class_ 61), (0, u "java/lang/Object"), (0, .class_ 63), (0, u "java/lang/Iterable")] 51

/-- java/util/Collection -/
def k12 : Class := { plain "java/util/Collection" (some 0) with
  accessFlags := 1537
  interfaces := #[11]
  cf := some (fileOf pool12 10 #[] #[] 1537 60 #[62] #[])
  fields := #[]
  methods := #[]
  instanceTypes := #[]
  staticTypes := #[]
  resolved := Array.replicate 115 none
  statics := none }

def pool13 : Array CpInfo := pool [(1, .methodref 2 3), (0, .class_ 4), (0, .nameAndType 5 6), (0, u "java/lang/Object"), (0, u "<init>"), (0, u "()V"), (1, .class_ 10), (1, u "java/util/AbstractCollection"), (66, .class_ 78), (0, u "java/util/Collection")] 81

def k13c0 : Code := { maxStack := 1, maxLocals := 1, code := jdk_22_method_1_code, exceptionTable := #[], attributes := #[] }
def k13m0 : Method := { name := "<init>", desc := "()V", sig := { parameters := [], returnType := none }, accessFlags := 4, code := some k13c0 }
/-- java/util/AbstractCollection -/
def k13 : Class := { plain "java/util/AbstractCollection" (some 0) with
  accessFlags := 1057
  interfaces := #[12]
  cf := some (fileOf pool13 8 #[] #[{ accessFlags := 4, nameIndex := 5, descriptorIndex := 6, attributes := #[] }] 1057 2 #[77] #[])
  fields := #[]
  methods := #[k13m0]
  instanceTypes := #[]
  staticTypes := #[]
  resolved := Array.replicate 160 none
  statics := none }

def pool14 : Array CpInfo := pool [(8, .class_ 10), (1, u "java/util/SequencedCollection"), (15, .class_ 27), (0, u "java/lang/Object"), (0, .class_ 29), (0, u "java/util/Collection")] 27

/-- java/util/SequencedCollection -/
def k14 : Class := { plain "java/util/SequencedCollection" (some 0) with
  accessFlags := 1537
  interfaces := #[12]
  cf := some (fileOf pool14 8 #[] #[] 1537 26 #[28] #[])
  fields := #[]
  methods := #[]
  instanceTypes := #[]
  staticTypes := #[]
  resolved := Array.replicate 57 none
  statics := none }

def pool15 : Array CpInfo := pool [(8, .class_ 10), (1, u "java/util/List"), (7, u "()Z"), (41, u "add"), (3, u "(Ljava/lang/Object;)Z"), (2, u "isEmpty"), (7, u "get"), (0, u "(I)Ljava/lang/Object;"), (2, u "size"), (0, u "()I"), (22, .class_ 104), (0, u "java/lang/Object"), (15, .class_ 121), (0, u "java/util/SequencedCollection")] 129

def k15m0 : Method := { name := "size", desc := "()I", sig := { parameters := [], returnType := some .int }, accessFlags := 1025, code := none }
def k15m1 : Method := { name := "isEmpty", desc := "()Z", sig := { parameters := [], returnType := some .boolean }, accessFlags := 1025, code := none }
def k15m2 : Method := { name := "add", desc := "(Ljava/lang/Object;)Z", sig := { parameters := [(.object "java/lang/Object")], returnType := some .boolean }, accessFlags := 1025, code := none }
def k15m3 : Method := { name := "get", desc := "(I)Ljava/lang/Object;", sig := { parameters := [.int], returnType := some (.object "java/lang/Object") }, accessFlags := 1025, code := none }
/-- java/util/List -/
def k15 : Class := { plain "java/util/List" (some 0) with
  accessFlags := 1537
  interfaces := #[14]
  cf := some (fileOf pool15 8 #[] #[{ accessFlags := 1025, nameIndex := 79, descriptorIndex := 80, attributes := #[] }, { accessFlags := 1025, nameIndex := 67, descriptorIndex := 18, attributes := #[] }, { accessFlags := 1025, nameIndex := 60, descriptorIndex := 64, attributes := #[] }, { accessFlags := 1025, nameIndex := 75, descriptorIndex := 76, attributes := #[] }] 1537 103 #[120] #[])
  fields := #[]
  methods := #[k15m0, k15m1, k15m2, k15m3]
  instanceTypes := #[]
  staticTypes := #[]
  resolved := Array.replicate 251 none
  statics := none }

def pool16 : Array CpInfo := pool [(1, .methodref 2 3), (0, .class_ 4), (0, .nameAndType 5 6), (0, u "java/util/AbstractCollection"), (0, u "<init>"), (0, u "()V"), (0, .fieldref 8 9), (0, .class_ 10), (0, .nameAndType 11 12), (0, u "java/util/AbstractList"), (0, u "modCount"), (0, u "I"), (64, .class_ 78), (0, u "java/util/AbstractList$Itr"), (3, .class_ 83), (0, u "java/util/AbstractList$ListItr"), (9, .class_ 94), (0, u "java/util/AbstractList$RandomAccessSubList"), (3, .class_ 99), (0, u "java/util/AbstractList$SubList"), (33, .class_ 134), (0, u "java/util/List"), (73, .class_ 209), (0, u "java/util/AbstractList$SubList$1"), (0, .class_ 211), (0, u "java/util/AbstractList$RandomAccessSpliterator")] 6

def k16c0 : Code := { maxStack := 2, maxLocals := 1, code := jdk_39_method_1_code, exceptionTable := #[], attributes := #[] }
def k16m0 : Method := { name := "<init>", desc := "()V", sig := { parameters := [], returnType := none }, accessFlags := 4, code := some k16c0 }
/-- java/util/AbstractList -/
def k16 : Class := { plain "java/util/AbstractList" (some 13) with
  accessFlags := 1057
  interfaces := #[15]
  cf := some (fileOf pool16 8 #[.nestMembers #[93, 98, 208, 210, 82, 77]] #[{ accessFlags := 4, nameIndex := 5, descriptorIndex := 6, attributes := #[] }] 1057 2 #[133] #[{ accessFlags := 132, nameIndex := 11, descriptorIndex := 12, attributes := #[] }])
  fields := #[{ name := "modCount", type := .int, accessFlags := 132, slot := 0, constantValue := 0 }]
  methods := #[k16m0]
  instanceTypes := #[.int]
  staticTypes := #[]
  resolved := Array.replicate 218 none
  statics := none }

def pool17 : Array CpInfo := pool [(1, .class_ 2), (0, u "java/util/RandomAccess"), (0, .class_ 4), (0, u "java/lang/Object")] 2

/-- java/util/RandomAccess -/
def k17 : Class := { plain "java/util/RandomAccess" (some 0) with
  accessFlags := 1537
  interfaces := #[]
  cf := some (fileOf pool17 1 #[] #[] 1537 3 #[] #[])
  fields := #[]
  methods := #[]
  instanceTypes := #[]
  staticTypes := #[]
  resolved := Array.replicate 7 none
  statics := none }

def pool18 : Array CpInfo := pool [(1, .class_ 2), (0, u "java/lang/Cloneable"), (0, .class_ 4), (0, u "java/lang/Object")] 2

/-- java/lang/Cloneable -/
def k18 : Class := { plain "java/lang/Cloneable" (some 0) with
  accessFlags := 1537
  interfaces := #[]
  cf := some (fileOf pool18 1 #[] #[] 1537 3 #[] #[])
  fields := #[]
  methods := #[]
  instanceTypes := #[]
  staticTypes := #[]
  resolved := Array.replicate 7 none
  statics := none }

def pool19 : Array CpInfo := pool [(1, .methodref 2 3), (0, .class_ 4), (0, .nameAndType 5 6), (0, u "java/util/AbstractList"), (0, u "<init>"), (0, u "()V"), (0, .class_ 8), (0, u "java/lang/Object"), (0, .fieldref 10 11), (0, .class_ 12), (0, .nameAndType 13 14), (0, u "java/util/ArrayList"), (0, u "elementData"), (0, u "[Ljava/lang/Object;"), (2, u "EMPTY_ELEMENTDATA"), (21, .fieldref 10 40), (0, .nameAndType 41 14), (0, u "DEFAULTCAPACITY_EMPTY_ELEMENTDATA"), (5, u "()[Ljava/lang/Object;"), (0, .fieldref 10 49), (0, .nameAndType 50 51), (0, u "size"), (0, u "I"), (11, .fieldref 10 64), (0, .nameAndType 65 51), (0, u "modCount"), (3, .methodref 10 70), (0, .nameAndType 71 72), (0, u "grow"), (0, u "(I)[Ljava/lang/Object;"), (6, .methodref 80 81), (0, .class_ 82), (0, .nameAndType 83 84), (0, u "java/lang/Math"), (0, u "max"), (0, u "(II)I"), (11, u "(Ljava/lang/Object;)Z"), (21, .methodref 119 120), (0, .class_ 121), (0, .nameAndType 122 84), (0, u "java/util/Objects"), (0, u "checkIndex"), (0, .methodref 10 124), (0, .nameAndType 13 125), (0, u "(I)Ljava/lang/Object;"), (3, .methodref 10 130), (0, .nameAndType 71 47), (0, .methodref 10 132), (0, .nameAndType 133 134), (0, u "add"), (0, u "(Ljava/lang/Object;[Ljava/lang/Object;I)V"), (13, .class_ 149), (0, u "java/util/List"), (23, u "()Z"), (12, u "()I"), (75, .class_ 263), (0, u "java/util/ArrayList$ListItr"), (3, .class_ 268), (0, u "java/util/ArrayList$Itr"), (7, .class_ 277), (0, u "java/util/ArrayList$SubList"), (12, .class_ 291), (0, u "java/util/ArrayList$ArrayListSpliterator"), (37, .class_ 330), (0, u "java/util/RandomAccess"), (0, .class_ 332), (0, u "java/lang/Cloneable"), (0, .class_ 334), (0, u "java/io/Serializable"), (0, u "serialVersionUID"), (0, u "J"), (3, u "DEFAULT_CAPACITY"), (22, u "isEmpty"), (17, u "get"), (118, .class_ 501), (0, u "java/util/ArrayList$SubList$2"), (0, .class_ 503), (0, u "java/util/ArrayList$SubList$1")] 5

def k19c0 : Code := { maxStack := 2, maxLocals := 1, code := jdk_38_method_2_code, exceptionTable := #[], attributes := #[] }
def k19m0 : Method := { name := "<init>", desc := "()V", sig := { parameters := [], returnType := none }, accessFlags := 1, code := some k19c0 }
def k19c1 : Code := { maxStack := 4, maxLocals := 4, code := jdk_38_method_6_code, exceptionTable := #[], attributes := #[] }
def k19m1 : Method := { name := "grow", desc := "(I)[Ljava/lang/Object;", sig := { parameters := [.int], returnType := some (.array (.object "java/lang/Object")) }, accessFlags := 2, code := some k19c1 }
def k19c2 : Code := { maxStack := 3, maxLocals := 1, code := jdk_38_method_7_code, exceptionTable := #[], attributes := #[] }
def k19m2 : Method := { name := "grow", desc := "()[Ljava/lang/Object;", sig := { parameters := [], returnType := some (.array (.object "java/lang/Object")) }, accessFlags := 2, code := some k19c2 }
def k19c3 : Code := { maxStack := 1, maxLocals := 1, code := jdk_38_method_8_code, exceptionTable := #[], attributes := #[] }
def k19m3 : Method := { name := "size", desc := "()I", sig := { parameters := [], returnType := some .int }, accessFlags := 1, code := some k19c3 }
def k19c4 : Code := { maxStack := 1, maxLocals := 1, code := jdk_38_method_9_code, exceptionTable := #[], attributes := #[] }
def k19m4 : Method := { name := "isEmpty", desc := "()Z", sig := { parameters := [], returnType := some .boolean }, accessFlags := 1, code := some k19c4 }
def k19c5 : Code := { maxStack := 2, maxLocals := 2, code := jdk_38_method_18_code, exceptionTable := #[], attributes := #[] }
def k19m5 : Method := { name := "elementData", desc := "(I)Ljava/lang/Object;", sig := { parameters := [.int], returnType := some (.object "java/lang/Object") }, accessFlags := 0, code := some k19c5 }
def k19c6 : Code := { maxStack := 2, maxLocals := 2, code := jdk_38_method_20_code, exceptionTable := #[], attributes := #[] }
def k19m6 : Method := { name := "get", desc := "(I)Ljava/lang/Object;", sig := { parameters := [.int], returnType := some (.object "java/lang/Object") }, accessFlags := 1, code := some k19c6 }
def k19c7 : Code := { maxStack := 3, maxLocals := 4, code := jdk_38_method_24_code, exceptionTable := #[], attributes := #[] }
def k19m7 : Method := { name := "add", desc := "(Ljava/lang/Object;[Ljava/lang/Object;I)V", sig := { parameters := [(.object "java/lang/Object"), (.array (.object "java/lang/Object")), .int], returnType := none }, accessFlags := 2, code := some k19c7 }
def k19c8 : Code := { maxStack := 4, maxLocals := 2, code := jdk_38_method_25_code, exceptionTable := #[], attributes := #[] }
def k19m8 : Method := { name := "add", desc := "(Ljava/lang/Object;)Z", sig := { parameters := [(.object "java/lang/Object")], returnType := some .boolean }, accessFlags := 1, code := some k19c8 }
/-- java/util/ArrayList -/
def k19 : Class := { plain "java/util/ArrayList" (some 16) with
  accessFlags := 33
  interfaces := #[15, 17, 18, 2]
  cf := some (fileOf pool19 10 #[.nestMembers #[290, 276, 500, 502, 262, 267]] #[{ accessFlags := 1, nameIndex := 5, descriptorIndex := 6, attributes := #[] }, { accessFlags := 2, nameIndex := 71, descriptorIndex := 72, attributes := #[] }, { accessFlags := 2, nameIndex := 71, descriptorIndex := 47, attributes := #[] }, { accessFlags := 1, nameIndex := 50, descriptorIndex := 186, attributes := #[] }, { accessFlags := 1, nameIndex := 363, descriptorIndex := 173, attributes := #[] }, { accessFlags := 0, nameIndex := 13, descriptorIndex := 125, attributes := #[] }, { accessFlags := 1, nameIndex := 381, descriptorIndex := 125, attributes := #[] }, { accessFlags := 2, nameIndex := 133, descriptorIndex := 134, attributes := #[] }, { accessFlags := 1, nameIndex := 133, descriptorIndex := 96, attributes := #[] }] 33 2 #[148, 329, 331, 333] #[{ accessFlags := 26, nameIndex := 335, descriptorIndex := 336, attributes := #[] }, { accessFlags := 26, nameIndex := 340, descriptorIndex := 51, attributes := #[] }, { accessFlags := 26, nameIndex := 17, descriptorIndex := 14, attributes := #[] }, { accessFlags := 26, nameIndex := 41, descriptorIndex := 14, attributes := #[] }, { accessFlags := 128, nameIndex := 13, descriptorIndex := 14, attributes := #[] }, { accessFlags := 2, nameIndex := 50, descriptorIndex := 51, attributes := #[] }])
  fields := #[{ name := "serialVersionUID", type := .long, accessFlags := 26, slot := 0, constantValue := 0 }, { name := "DEFAULT_CAPACITY", type := .int, accessFlags := 26, slot := 1, constantValue := 0 }, { name := "EMPTY_ELEMENTDATA", type := (.array (.object "java/lang/Object")), accessFlags := 26, slot := 2, constantValue := 0 }, { name := "DEFAULTCAPACITY_EMPTY_ELEMENTDATA", type := (.array (.object "java/lang/Object")), accessFlags := 26, slot := 3, constantValue := 0 }, { name := "elementData", type := (.array (.object "java/lang/Object")), accessFlags := 128, slot := 1, constantValue := 0 }, { name := "size", type := .int, accessFlags := 2, slot := 2, constantValue := 0 }]
  methods := #[k19m0, k19m1, k19m2, k19m3, k19m4, k19m5, k19m6, k19m7, k19m8]
  instanceTypes := #[.int, (.array (.object "java/lang/Object")), .int]
  staticTypes := #[.long, .int, (.array (.object "java/lang/Object")), (.array (.object "java/lang/Object"))]
  resolved := Array.replicate 509 none
  statics := some 1 }

def pool20 : Array CpInfo := pool [(1, .class_ 2), (0, u "java/lang/Math"), (1, .class_ 6), (1, u "java/lang/Object"), (0, u "<init>"), (0, u "()V"), (89, .class_ 100), (1, u "java/lang/Math$RandomNumberGeneratorHolder"), (71, u "negativeZeroFloatBits"), (0, u "J"), (2, u "negativeZeroDoubleBits"), (21, u "max"), (2, u "min"), (43, u "$assertionsDisabled"), (0, u "Z"), (88, u "(II)I"), (2, u "twoToTheDoubleScaleDown"), (0, u "D"), (4, u "twoToTheDoubleScaleUp"), (9, u "E"), (3, u "PI"), (2, u "TAU"), (2, u "DEGREES_TO_RADIANS"), (0, u "RADIANS_TO_DEGREES")] 94

def k20m0 : Method := { name := "<init>", desc := "()V", sig := { parameters := [], returnType := none }, accessFlags := 2, code := none }
def k20c1 : Code := { maxStack := 2, maxLocals := 2, code := jdk_29_method_65_code, exceptionTable := #[], attributes := #[] }
def k20m1 : Method := { name := "max", desc := "(II)I", sig := { parameters := [.int, .int], returnType := some .int }, accessFlags := 9, code := some k20c1 }
def k20c2 : Code := { maxStack := 2, maxLocals := 2, code := jdk_29_method_69_code, exceptionTable := #[], attributes := #[] }
def k20m2 : Method := { name := "min", desc := "(II)I", sig := { parameters := [.int, .int], returnType := some .int }, accessFlags := 9, code := some k20c2 }
/-- java/lang/Math -/
def k20 : Class := { plain "java/lang/Math" (some 0) with
  accessFlags := 49
  interfaces := #[]
  cf := some (fileOf pool20 1 #[.nestMembers #[98]] #[{ accessFlags := 2, nameIndex := 7, descriptorIndex := 8, attributes := #[] }, { accessFlags := 9, nameIndex := 198, descriptorIndex := 335, attributes := #[] }, { accessFlags := 9, nameIndex := 201, descriptorIndex := 335, attributes := #[] }] 49 4 #[] #[{ accessFlags := 25, nameIndex := 354, descriptorIndex := 339, attributes := #[] }, { accessFlags := 25, nameIndex := 358, descriptorIndex := 339, attributes := #[] }, { accessFlags := 25, nameIndex := 361, descriptorIndex := 339, attributes := #[] }, { accessFlags := 26, nameIndex := 364, descriptorIndex := 339, attributes := #[] }, { accessFlags := 26, nameIndex := 365, descriptorIndex := 339, attributes := #[] }, { accessFlags := 26, nameIndex := 172, descriptorIndex := 173, attributes := #[] }, { accessFlags := 26, nameIndex := 176, descriptorIndex := 173, attributes := #[] }, { accessFlags := 8, nameIndex := 344, descriptorIndex := 339, attributes := #[] }, { accessFlags := 8, nameIndex := 338, descriptorIndex := 339, attributes := #[] }, { accessFlags := 4120, nameIndex := 245, descriptorIndex := 246, attributes := #[] }])
  fields := #[{ name := "E", type := .double, accessFlags := 25, slot := 0, constantValue := 0 }, { name := "PI", type := .double, accessFlags := 25, slot := 1, constantValue := 0 }, { name := "TAU", type := .double, accessFlags := 25, slot := 2, constantValue := 0 }, { name := "DEGREES_TO_RADIANS", type := .double, accessFlags := 26, slot := 3, constantValue := 0 }, { name := "RADIANS_TO_DEGREES", type := .double, accessFlags := 26, slot := 4, constantValue := 0 }, { name := "negativeZeroFloatBits", type := .long, accessFlags := 26, slot := 5, constantValue := 0 }, { name := "negativeZeroDoubleBits", type := .long, accessFlags := 26, slot := 6, constantValue := 0 }, { name := "twoToTheDoubleScaleUp", type := .double, accessFlags := 8, slot := 7, constantValue := 0 }, { name := "twoToTheDoubleScaleDown", type := .double, accessFlags := 8, slot := 8, constantValue := 0 }, { name := "$assertionsDisabled", type := .boolean, accessFlags := 4120, slot := 9, constantValue := 0 }]
  methods := #[k20m0, k20m1, k20m2]
  instanceTypes := #[]
  staticTypes := #[.double, .double, .double, .double, .double, .long, .long, .double, .double, .boolean]
  resolved := Array.replicate 460 none
  statics := none }

def pool21 : Array CpInfo := pool [(2, .class_ 4), (1, u "java/lang/Object"), (0, u "<init>"), (0, u "()V"), (35, .class_ 44), (1, u "java/util/Objects"), (60, .methodref 106 107), (0, .class_ 108), (0, .nameAndType 109 110), (0, u "jdk/internal/util/Preconditions"), (0, u "checkIndex"), (0, u "(IILjava/util/function/BiFunction;)I"), (60, u "(II)I")] 12

def k21m0 : Method := { name := "<init>", desc := "()V", sig := { parameters := [], returnType := none }, accessFlags := 2, code := none }
def k21c1 : Code := { maxStack := 3, maxLocals := 2, code := jdk_31_method_17_code, exceptionTable := #[], attributes := #[] }
def k21m1 : Method := { name := "checkIndex", desc := "(II)I", sig := { parameters := [.int, .int], returnType := some .int }, accessFlags := 9, code := some k21c1 }
/-- java/util/Objects -/
def k21 : Class := { plain "java/util/Objects" (some 0) with
  accessFlags := 49
  interfaces := #[]
  cf := some (fileOf pool21 42 #[] #[{ accessFlags := 2, nameIndex := 5, descriptorIndex := 6, attributes := #[] }, { accessFlags := 9, nameIndex := 109, descriptorIndex := 171, attributes := #[] }] 49 2 #[] #[])
  fields := #[]
  methods := #[k21m0, k21m1]
  instanceTypes := #[]
  staticTypes := #[]
  resolved := Array.replicate 184 none
  statics := none }

def pool22 : Array CpInfo := pool [(2, .class_ 4), (1, u "java/lang/Object"), (0, u "<init>"), (0, u "()V"), (17, .class_ 26), (1, u "jdk/internal/util/Preconditions"), (6, u "checkIndex"), (21, .class_ 56), (0, u "jdk/internal/util/Preconditions$4"), (57, .class_ 115), (0, u "jdk/internal/util/Preconditions$1"), (7, u "SIOOBE_FORMATTER"), (0, u "Ljava/util/function/BiFunction;"), (0, .class_ 126), (0, u "jdk/internal/util/Preconditions$2"), (3, u "AIOOBE_FORMATTER"), (0, .class_ 132), (0, u "jdk/internal/util/Preconditions$3"), (3, u "IOOBE_FORMATTER"), (41, u "(IILjava/util/function/BiFunction;)I")] 15

def k22m0 : Method := { name := "<init>", desc := "()V", sig := { parameters := [], returnType := none }, accessFlags := 1, code := none }
def k22c1 : Code := { maxStack := 3, maxLocals := 3, code := jdk_41_method_11_code, exceptionTable := #[], attributes := #[] }
def k22m1 : Method := { name := "checkIndex", desc := "(IILjava/util/function/BiFunction;)I", sig := { parameters := [.int, .int, (.object "java/util/function/BiFunction")], returnType := some .int }, accessFlags := 9, code := some k22c1 }
/-- jdk/internal/util/Preconditions -/
def k22 : Class := { plain "jdk/internal/util/Preconditions" (some 0) with
  accessFlags := 33
  interfaces := #[]
  cf := some (fileOf pool22 24 #[.nestMembers #[55, 131, 125, 114]] #[{ accessFlags := 1, nameIndex := 5, descriptorIndex := 6, attributes := #[] }, { accessFlags := 9, nameIndex := 33, descriptorIndex := 178, attributes := #[] }] 33 2 #[] #[{ accessFlags := 25, nameIndex := 123, descriptorIndex := 124, attributes := #[] }, { accessFlags := 25, nameIndex := 130, descriptorIndex := 124, attributes := #[] }, { accessFlags := 25, nameIndex := 136, descriptorIndex := 124, attributes := #[] }])
  fields := #[{ name := "SIOOBE_FORMATTER", type := (.object "java/util/function/BiFunction"), accessFlags := 25, slot := 0, constantValue := 0 }, { name := "AIOOBE_FORMATTER", type := (.object "java/util/function/BiFunction"), accessFlags := 25, slot := 1, constantValue := 0 }, { name := "IOOBE_FORMATTER", type := (.object "java/util/function/BiFunction"), accessFlags := 25, slot := 2, constantValue := 0 }]
  methods := #[k22m0, k22m1]
  instanceTypes := #[]
  staticTypes := #[(.object "java/util/function/BiFunction"), (.object "java/util/function/BiFunction"), (.object "java/util/function/BiFunction")]
  resolved := Array.replicate 194 none
  statics := some 2 }

def pool23 : Array CpInfo := pool [(1, .class_ 2), (0, u "java/lang/Appendable"), (0, .class_ 4), (0, u "java/lang/Object")] 9

/-- java/lang/Appendable -/
def k23 : Class := { plain "java/lang/Appendable" (some 0) with
  accessFlags := 1537
  interfaces := #[]
  cf := some (fileOf pool23 1 #[] #[] 1537 3 #[] #[])
  fields := #[]
  methods := #[]
  instanceTypes := #[]
  staticTypes := #[]
  resolved := Array.replicate 14 none
  statics := none }

def pool24 : Array CpInfo := pool [(1, .class_ 2), (0, u "java/lang/String"), (0, .methodref 4 5), (0, .class_ 6), (0, .nameAndType 7 8), (0, u "java/lang/Object"), (0, u "<init>"), (0, u "()V"), (1, .class_ 12), (1, u "java/lang/AbstractStringBuilder"), (0, u "EMPTYVALUE"), (0, u "[B"), (0, .fieldref 10 16), (0, .nameAndType 17 14), (0, u "value"), (0, .fieldref 1 19), (0, .nameAndType 20 21), (0, u "COMPACT_STRINGS"), (0, u "Z"), (0, .fieldref 10 23), (0, .nameAndType 24 25), (0, u "coder"), (0, u "B"), (6, .methodref 1 33), (0, .nameAndType 34 35), (0, u "length"), (0, u "()I"), (4, .methodref 1 41), (0, .nameAndType 24 42), (0, u "()B"), (2, u "append"), (0, u "(Ljava/lang/String;)Ljava/lang/AbstractStringBuilder;"), (1, .class_ 49), (0, u "java/lang/CharSequence"), (19, u "(Ljava/lang/String;)V"), (5, u "maybeLatin1"), (3, .fieldref 10 80), (0, .nameAndType 81 82), (0, u "count"), (0, u "I"), (2, u "isLatin1"), (0, u "()Z"), (13, .methodref 10 101), (0, .nameAndType 102 103), (0, u "ensureCapacityInternal"), (0, u "(I)V"), (104, .methodref 10 209), (0, .nameAndType 210 211), (0, u "putStringAt"), (0, u "(ILjava/lang/String;)V"), (5, u "inflateIfNeededFor"), (2, .nameAndType 221 222), (0, u "getBytes"), (0, u "([BIB)V"), (174, .methodref 10 398), (0, .nameAndType 217 69), (0, .methodref 1 220), (3, u "()[B"), (40, .class_ 445), (0, u "java/lang/Appendable"), (106, u "getValue")] 56

def k24m0 : Method := { name := "<init>", desc := "()V", sig := { parameters := [], returnType := none }, accessFlags := 0, code := none }
def k24c1 : Code := { maxStack := 2, maxLocals := 2, code := jdk_68_method_2_code, exceptionTable := #[], attributes := #[] }
def k24m1 : Method := { name := "<init>", desc := "(I)V", sig := { parameters := [.int], returnType := none }, accessFlags := 0, code := some k24c1 }
def k24c2 : Code := { maxStack := 1, maxLocals := 1, code := jdk_68_method_6_code, exceptionTable := #[], attributes := #[] }
def k24m2 : Method := { name := "length", desc := "()I", sig := { parameters := [], returnType := some .int }, accessFlags := 1, code := some k24c2 }
def k24c3 : Code := { maxStack := 4, maxLocals := 3, code := jdk_68_method_9_code, exceptionTable := #[], attributes := #[] }
def k24m3 : Method := { name := "ensureCapacityInternal", desc := "(I)V", sig := { parameters := [.int], returnType := none }, accessFlags := 2, code := some k24c3 }
def k24c4 : Code := { maxStack := 3, maxLocals := 3, code := jdk_68_method_22_code, exceptionTable := #[], attributes := #[] }
def k24m4 : Method := { name := "append", desc := "(Ljava/lang/String;)Ljava/lang/AbstractStringBuilder;", sig := { parameters := [(.object "java/lang/String")], returnType := some (.object "java/lang/AbstractStringBuilder") }, accessFlags := 1, code := some k24c4 }
def k24c5 : Code := { maxStack := 1, maxLocals := 1, code := jdk_68_method_64_code, exceptionTable := #[], attributes := #[] }
def k24m5 : Method := { name := "getValue", desc := "()[B", sig := { parameters := [], returnType := some (.array .byte) }, accessFlags := 16, code := some k24c5 }
def k24c6 : Code := { maxStack := 1, maxLocals := 1, code := jdk_68_method_68_code, exceptionTable := #[], attributes := #[] }
def k24m6 : Method := { name := "isLatin1", desc := "()Z", sig := { parameters := [], returnType := some .boolean }, accessFlags := 16, code := some k24c6 }
def k24c7 : Code := { maxStack := 2, maxLocals := 2, code := jdk_68_method_71_code, exceptionTable := #[], attributes := #[] }
def k24m7 : Method := { name := "inflateIfNeededFor", desc := "(Ljava/lang/String;)V", sig := { parameters := [(.object "java/lang/String")], returnType := none }, accessFlags := 2, code := some k24c7 }
def k24c8 : Code := { maxStack := 4, maxLocals := 3, code := jdk_68_method_73_code, exceptionTable := #[], attributes := #[] }
def k24m8 : Method := { name := "putStringAt", desc := "(ILjava/lang/String;)V", sig := { parameters := [.int, (.object "java/lang/String")], returnType := none }, accessFlags := 2, code := some k24c8 }
/-- java/lang/AbstractStringBuilder -/
def k24 : Class := { plain "java/lang/AbstractStringBuilder" (some 0) with
  accessFlags := 1056
  interfaces := #[23, 4]
  cf := some (fileOf pool24 10 #[] #[{ accessFlags := 0, nameIndex := 7, descriptorIndex := 8, attributes := #[] }, { accessFlags := 0, nameIndex := 7, descriptorIndex := 103, attributes := #[] }, { accessFlags := 1, nameIndex := 34, descriptorIndex := 35, attributes := #[] }, { accessFlags := 2, nameIndex := 102, descriptorIndex := 103, attributes := #[] }, { accessFlags := 1, nameIndex := 45, descriptorIndex := 46, attributes := #[] }, { accessFlags := 16, nameIndex := 552, descriptorIndex := 403, attributes := #[] }, { accessFlags := 16, nameIndex := 85, descriptorIndex := 86, attributes := #[] }, { accessFlags := 2, nameIndex := 217, descriptorIndex := 69, attributes := #[] }, { accessFlags := 2, nameIndex := 210, descriptorIndex := 211, attributes := #[] }] 1056 4 #[444, 48] #[{ accessFlags := 0, nameIndex := 17, descriptorIndex := 14, attributes := #[] }, { accessFlags := 0, nameIndex := 24, descriptorIndex := 25, attributes := #[] }, { accessFlags := 0, nameIndex := 75, descriptorIndex := 21, attributes := #[] }, { accessFlags := 0, nameIndex := 81, descriptorIndex := 82, attributes := #[] }, { accessFlags := 26, nameIndex := 13, descriptorIndex := 14, attributes := #[] }])
  fields := #[{ name := "value", type := (.array .byte), accessFlags := 0, slot := 0, constantValue := 0 }, { name := "coder", type := .byte, accessFlags := 0, slot := 1, constantValue := 0 }, { name := "maybeLatin1", type := .boolean, accessFlags := 0, slot := 2, constantValue := 0 }, { name := "count", type := .int, accessFlags := 0, slot := 3, constantValue := 0 }, { name := "EMPTYVALUE", type := (.array .byte), accessFlags := 26, slot := 0, constantValue := 0 }]
  methods := #[k24m0, k24m1, k24m2, k24m3, k24m4, k24m5, k24m6, k24m7, k24m8]
  instanceTypes := #[(.array .byte), .byte, .boolean, .int]
  staticTypes := #[(.array .byte)]
  resolved := Array.replicate 609 none
  statics := none }

def pool25 : Array CpInfo := pool [(1, .methodref 2 3), (0, .class_ 4), (0, .nameAndType 5 6), (0, u "java/lang/AbstractStringBuilder"), (0, u "<init>"), (0, u "(I)V"), (11, .class_ 20), (1, u "java/lang/String"), (3, .class_ 26), (1, u "java/lang/StringBuilder"), (0, u "append"), (0, u "(Ljava/lang/String;)Ljava/lang/StringBuilder;"), (0, .methodref 2 30), (0, .nameAndType 27 31), (0, u "(Ljava/lang/String;)Ljava/lang/AbstractStringBuilder;"), (105, .methodref 18 138), (0, .nameAndType 5 139), (0, u "(Ljava/lang/StringBuilder;)V"), (5, u "()V"), (10, u "()I"), (186, .methodref 2 344), (0, .nameAndType 345 156), (0, u "length"), (3, .class_ 350), (0, u "java/lang/Appendable"), (0, .class_ 352), (0, u "java/io/Serializable"), (0, .class_ 354), (0, u "java/lang/Comparable"), (0, .class_ 356), (0, u "java/lang/CharSequence"), (0, u "serialVersionUID"), (0, u "J"), (40, u "toString"), (0, u "()Ljava/lang/String;")] 21

def k25c0 : Code := { maxStack := 2, maxLocals := 1, code := jdk_67_method_1_code, exceptionTable := #[], attributes := #[] }
def k25m0 : Method := { name := "<init>", desc := "()V", sig := { parameters := [], returnType := none }, accessFlags := 1, code := some k25c0 }
def k25c1 : Code := { maxStack := 2, maxLocals := 2, code := jdk_67_method_7_code, exceptionTable := #[], attributes := #[] }
def k25m1 : Method := { name := "append", desc := "(Ljava/lang/String;)Ljava/lang/StringBuilder;", sig := { parameters := [(.object "java/lang/String")], returnType := some (.object "java/lang/StringBuilder") }, accessFlags := 1, code := some k25c1 }
def k25c2 : Code := { maxStack := 3, maxLocals := 1, code := jdk_67_method_42_code, exceptionTable := #[], attributes := #[] }
def k25m2 : Method := { name := "toString", desc := "()Ljava/lang/String;", sig := { parameters := [], returnType := some (.object "java/lang/String") }, accessFlags := 1, code := some k25c2 }
def k25c3 : Code := { maxStack := 1, maxLocals := 1, code := jdk_67_method_93_code, exceptionTable := #[], attributes := #[] }
def k25m3 : Method := { name := "length", desc := "()I", sig := { parameters := [], returnType := some .int }, accessFlags := 4161, code := some k25c3 }
/-- java/lang/StringBuilder -/
def k25 : Class := { plain "java/lang/StringBuilder" (some 24) with
  accessFlags := 49
  interfaces := #[23, 2, 3, 4]
  cf := some (fileOf pool25 24 #[] #[{ accessFlags := 1, nameIndex := 5, descriptorIndex := 145, attributes := #[] }, { accessFlags := 1, nameIndex := 27, descriptorIndex := 28, attributes := #[] }, { accessFlags := 1, nameIndex := 399, descriptorIndex := 400, attributes := #[] }, { accessFlags := 4161, nameIndex := 345, descriptorIndex := 156, attributes := #[] }] 49 2 #[349, 351, 353, 355] #[{ accessFlags := 24, nameIndex := 357, descriptorIndex := 358, attributes := #[] }])
  fields := #[{ name := "serialVersionUID", type := .long, accessFlags := 24, slot := 0, constantValue := 0 }]
  methods := #[k25m0, k25m1, k25m2, k25m3]
  instanceTypes := #[(.array .byte), .byte, .boolean, .int]
  staticTypes := #[.long]
  resolved := Array.replicate 422 none
  statics := none }

def pool26 : Array CpInfo := pool [(2, .class_ 4), (1, u "java/lang/Object"), (0, u "<init>"), (0, u "()V"), (1, .class_ 10), (1, u "java/lang/System"), (0, u "allowSecurityManager"), (0, u "I"), (16, u "cons"), (0, u "Ljava/io/Console;"), (77, .class_ 110), (1, u "java/lang/System$CallersHolder"), (43, u "initialErrStream"), (0, u "Ljava/io/PrintStream;"), (19, u "security"), (0, u "Ljava/lang/SecurityManager;"), (31, .class_ 209), (0, u "java/lang/System$1"), (7, u "props"), (0, u "Ljava/util/Properties;"), (2, u "lineSeparator"), (0, u "Ljava/lang/String;"), (96, .class_ 321), (1, u "java/lang/System$LoggerFinder"), (5, .class_ 328), (0, u "java/lang/System$Logger"), (67, u "err"), (2, u "out"), (91, u "notSupportedJnuEncoding"), (15, u "in"), (17, u "initialIn"), (0, u "Ljava/io/InputStream;"), (35, u "bootLayer"), (0, u "Ljava/lang/ModuleLayer;"), (99, .class_ 664), (0, u "java/lang/System$2"), (9, u "NEVER"), (2, u "MAYBE"), (49, u "arraycopy"), (0, u "(Ljava/lang/Object;ILjava/lang/Object;II)V"), (72, .class_ 802), (0, u "java/lang/System$Logger$Level")] 31

def k26m0 : Method := { name := "<init>", desc := "()V", sig := { parameters := [], returnType := none }, accessFlags := 2, code := none }
def k26m1 : Method := { name := "arraycopy", desc := "(Ljava/lang/Object;ILjava/lang/Object;II)V", sig := { parameters := [(.object "java/lang/Object"), .int, (.object "java/lang/Object"), .int, .int], returnType := none }, accessFlags := 265, code := none }
/-- java/lang/System -/
def k26 : Class := { plain "java/lang/System" (some 0) with
  accessFlags := 49
  interfaces := #[]
  cf := some (fileOf pool26 8 #[.nestMembers #[319, 327, 801, 108, 663, 208]] #[{ accessFlags := 2, nameIndex := 5, descriptorIndex := 6, attributes := #[] }, { accessFlags := 265, nameIndex := 727, descriptorIndex := 728, attributes := #[] }] 49 2 #[] #[{ accessFlags := 25, nameIndex := 507, descriptorIndex := 526, attributes := #[] }, { accessFlags := 25, nameIndex := 399, descriptorIndex := 155, attributes := #[] }, { accessFlags := 25, nameIndex := 396, descriptorIndex := 155, attributes := #[] }, { accessFlags := 10, nameIndex := 525, descriptorIndex := 526, attributes := #[] }, { accessFlags := 26, nameIndex := 674, descriptorIndex := 12, attributes := #[] }, { accessFlags := 26, nameIndex := 677, descriptorIndex := 12, attributes := #[] }, { accessFlags := 10, nameIndex := 11, descriptorIndex := 12, attributes := #[] }, { accessFlags := 74, nameIndex := 175, descriptorIndex := 176, attributes := #[] }, { accessFlags := 10, nameIndex := 491, descriptorIndex := 222, attributes := #[] }, { accessFlags := 74, nameIndex := 29, descriptorIndex := 30, attributes := #[] }, { accessFlags := 74, nameIndex := 154, descriptorIndex := 155, attributes := #[] }, { accessFlags := 10, nameIndex := 217, descriptorIndex := 218, attributes := #[] }, { accessFlags := 10, nameIndex := 221, descriptorIndex := 222, attributes := #[] }, { accessFlags := 8, nameIndex := 562, descriptorIndex := 563, attributes := #[] }])
  fields := #[{ name := "in", type := (.object "java/io/InputStream"), accessFlags := 25, slot := 0, constantValue := 0 }, { name := "out", type := (.object "java/io/PrintStream"), accessFlags := 25, slot := 1, constantValue := 0 }, { name := "err", type := (.object "java/io/PrintStream"), accessFlags := 25, slot := 2, constantValue := 0 }, { name := "initialIn", type := (.object "java/io/InputStream"), accessFlags := 10, slot := 3, constantValue := 0 }, { name := "NEVER", type := .int, accessFlags := 26, slot := 4, constantValue := 0 }, { name := "MAYBE", type := .int, accessFlags := 26, slot := 5, constantValue := 0 }, { name := "allowSecurityManager", type := .int, accessFlags := 10, slot := 6, constantValue := 0 }, { name := "security", type := (.object "java/lang/SecurityManager"), accessFlags := 74, slot := 7, constantValue := 0 }, { name := "notSupportedJnuEncoding", type := (.object "java/lang/String"), accessFlags := 10, slot := 8, constantValue := 0 }, { name := "cons", type := (.object "java/io/Console"), accessFlags := 74, slot := 9, constantValue := 0 }, { name := "initialErrStream", type := (.object "java/io/PrintStream"), accessFlags := 74, slot := 10, constantValue := 0 }, { name := "props", type := (.object "java/util/Properties"), accessFlags := 10, slot := 11, constantValue := 0 }, { name := "lineSeparator", type := (.object "java/lang/String"), accessFlags := 10, slot := 12, constantValue := 0 }, { name := "bootLayer", type := (.object "java/lang/ModuleLayer"), accessFlags := 8, slot := 13, constantValue := 0 }]
  methods := #[k26m0, k26m1]
  instanceTypes := #[]
  staticTypes := #[(.object "java/io/InputStream"), (.object "java/io/PrintStream"), (.object "java/io/PrintStream"), (.object "java/io/InputStream"), .int, .int, .int, (.object "java/lang/SecurityManager"), (.object "java/lang/String"), (.object "java/io/Console"), (.object "java/io/PrintStream"), (.object "java/util/Properties"), (.object "java/lang/String"), (.object "java/lang/ModuleLayer")]
  resolved := Array.replicate 834 none
  statics := none }

def pool27 : Array CpInfo := pool [(2, .class_ 4), (1, u "java/lang/Object"), (0, u "<init>"), (0, u "()V"), (7, .class_ 16), (1, u "java/util/Arrays"), (57, .class_ 76), (1, u "java/util/Arrays$NaturalOrder"), (36, .class_ 115), (1, u "java/util/Arrays$LegacyMergeSort"), (1, u "Z"), (21, u "copyOfRange"), (10, .methodref 151 152), (0, .class_ 153), (0, .nameAndType 154 155), (0, u "java/lang/System"), (0, u "arraycopy"), (0, u "(Ljava/lang/Object;ILjava/lang/Object;II)V"), (146, u "copyOf"), (1, .methodref 305 306), (0, .class_ 307), (0, .nameAndType 308 309), (0, u "java/lang/Math"), (0, u "min"), (0, u "(II)I"), (29, .methodref 14 340), (0, .nameAndType 341 342), (0, u "copyOfRangeByte"), (0, u "([BII)[B"), (0, .methodref 14 344), (0, .nameAndType 345 346), (0, u "checkLength"), (0, u "(II)V"), (28, .class_ 376), (0, u "java/util/Arrays$ArrayList"), (68, u "$assertionsDisabled"), (269, u "MIN_ARRAY_SORT_GRAN"), (0, u "I"), (2, u "INSERTIONSORT_THRESHOLD"), (149, u "([BI)[B"), (105, .class_ 976), (0, u "java/util/Arrays$ArrayItr")] 52

def k27m0 : Method := { name := "<init>", desc := "()V", sig := { parameters := [], returnType := none }, accessFlags := 2, code := none }
def k27c1 : Code := { maxStack := 6, maxLocals := 3, code := jdk_65_method_121_code, exceptionTable := #[], attributes := #[] }
def k27m1 : Method := { name := "copyOf", desc := "([BI)[B", sig := { parameters := [(.array .byte), .int], returnType := some (.array .byte) }, accessFlags := 9, code := some k27c1 }
def k27c2 : Code := { maxStack := 4, maxLocals := 2, code := jdk_65_method_131_code, exceptionTable := #[], attributes := #[] }
def k27m2 : Method := { name := "checkLength", desc := "(II)V", sig := { parameters := [.int, .int], returnType := none }, accessFlags := 10, code := some k27c2 }
def k27c3 : Code := { maxStack := 3, maxLocals := 3, code := jdk_65_method_132_code, exceptionTable := #[], attributes := #[] }
def k27m3 : Method := { name := "copyOfRange", desc := "([BII)[B", sig := { parameters := [(.array .byte), .int, .int], returnType := some (.array .byte) }, accessFlags := 9, code := some k27c3 }
def k27c4 : Code := { maxStack := 6, maxLocals := 5, code := jdk_65_method_133_code, exceptionTable := #[], attributes := #[] }
def k27m4 : Method := { name := "copyOfRangeByte", desc := "([BII)[B", sig := { parameters := [(.array .byte), .int, .int], returnType := some (.array .byte) }, accessFlags := 10, code := some k27c4 }
/-- java/util/Arrays -/
def k27 : Class := { plain "java/util/Arrays" (some 0) with
  accessFlags := 49
  interfaces := #[]
  cf := some (fileOf pool27 14 #[.nestMembers #[975, 375, 113, 74]] #[{ accessFlags := 2, nameIndex := 5, descriptorIndex := 6, attributes := #[] }, { accessFlags := 9, nameIndex := 302, descriptorIndex := 869, attributes := #[] }, { accessFlags := 10, nameIndex := 345, descriptorIndex := 346, attributes := #[] }, { accessFlags := 9, nameIndex := 139, descriptorIndex := 342, attributes := #[] }, { accessFlags := 10, nameIndex := 341, descriptorIndex := 342, attributes := #[] }] 49 2 #[] #[{ accessFlags := 26, nameIndex := 715, descriptorIndex := 716, attributes := #[] }, { accessFlags := 26, nameIndex := 719, descriptorIndex := 716, attributes := #[] }, { accessFlags := 4120, nameIndex := 445, descriptorIndex := 117, attributes := #[] }])
  fields := #[{ name := "MIN_ARRAY_SORT_GRAN", type := .int, accessFlags := 26, slot := 0, constantValue := 0 }, { name := "INSERTIONSORT_THRESHOLD", type := .int, accessFlags := 26, slot := 1, constantValue := 0 }, { name := "$assertionsDisabled", type := .boolean, accessFlags := 4120, slot := 2, constantValue := 0 }]
  methods := #[k27m0, k27m1, k27m2, k27m3, k27m4]
  instanceTypes := #[]
  staticTypes := #[.int, .int, .boolean]
  resolved := Array.replicate 1029 none
  statics := none }

def pool28 : Array CpInfo := pool [(2, .class_ 4), (1, u "java/lang/Object"), (0, u "<init>"), (0, u "()V"), (14, .class_ 23), (1, u "java/nio/charset/StandardCharsets"), (0, u "US_ASCII"), (0, u "Ljava/nio/charset/Charset;"), (7, u "ISO_8859_1"), (7, u "UTF_8"), (5, u "UTF_16BE"), (5, u "UTF_16LE"), (5, u "UTF_16")] 8

def k28m0 : Method := { name := "<init>", desc := "()V", sig := { parameters := [], returnType := none }, accessFlags := 2, code := none }
/-- java/nio/charset/StandardCharsets -/
def k28 : Class := { plain "java/nio/charset/StandardCharsets" (some 0) with
  accessFlags := 49
  interfaces := #[]
  cf := some (fileOf pool28 21 #[] #[{ accessFlags := 2, nameIndex := 5, descriptorIndex := 6, attributes := #[] }] 49 2 #[] #[{ accessFlags := 25, nameIndex := 24, descriptorIndex := 25, attributes := #[] }, { accessFlags := 25, nameIndex := 33, descriptorIndex := 25, attributes := #[] }, { accessFlags := 25, nameIndex := 41, descriptorIndex := 25, attributes := #[] }, { accessFlags := 25, nameIndex := 47, descriptorIndex := 25, attributes := #[] }, { accessFlags := 25, nameIndex := 53, descriptorIndex := 25, attributes := #[] }, { accessFlags := 25, nameIndex := 59, descriptorIndex := 25, attributes := #[] }])
  fields := #[{ name := "US_ASCII", type := (.object "java/nio/charset/Charset"), accessFlags := 25, slot := 0, constantValue := 0 }, { name := "ISO_8859_1", type := (.object "java/nio/charset/Charset"), accessFlags := 25, slot := 1, constantValue := 0 }, { name := "UTF_8", type := (.object "java/nio/charset/Charset"), accessFlags := 25, slot := 2, constantValue := 0 }, { name := "UTF_16BE", type := (.object "java/nio/charset/Charset"), accessFlags := 25, slot := 3, constantValue := 0 }, { name := "UTF_16LE", type := (.object "java/nio/charset/Charset"), accessFlags := 25, slot := 4, constantValue := 0 }, { name := "UTF_16", type := (.object "java/nio/charset/Charset"), accessFlags := 25, slot := 5, constantValue := 0 }]
  methods := #[k28m0]
  instanceTypes := #[]
  staticTypes := #[(.object "java/nio/charset/Charset"), (.object "java/nio/charset/Charset"), (.object "java/nio/charset/Charset"), (.object "java/nio/charset/Charset"), (.object "java/nio/charset/Charset"), (.object "java/nio/charset/Charset")]
  resolved := Array.replicate 68 none
  statics := some 3 }

def pool29 : Array CpInfo := pool [(18, .class_ 20), (1, u "java/nio/charset/Charset"), (0, u "cache1"), (0, u "[Ljava/lang/Object;"), (2, u "cache2"), (0, .class_ 27), (0, u "java/lang/Object"), (0, .class_ 29), (0, u "java/nio/charset/Charset$1"), (4, .class_ 36), (1, u "java/nio/charset/Charset$ThreadTrackHolder"), (21, .class_ 59), (0, u "java/nio/charset/Charset$2"), (11, .class_ 73), (1, u "java/nio/charset/Charset$ExtendedProviderHolder"), (22, u "standardProvider"), (0, u "Ljava/nio/charset/spi/CharsetProvider;"), (29, u "name"), (7, .class_ 136), (0, u "java/nio/charset/Charset$3"), (5, u "defaultCharset"), (0, u "Ljava/nio/charset/Charset;"), (14, u "zeroAliases"), (0, u "[Ljava/lang/String;"), (29, u "Ljava/lang/String;"), (2, u "aliases"), (2, u "aliasSet"), (0, u "Ljava/util/Set;"), (82, .class_ 280), (0, u "java/lang/Comparable"), (84, .class_ 366), (0, u "java/nio/charset/Charset$ExtendedProviderHolder$1")] 3

/-- java/nio/charset/Charset -/
def k29 : Class := { plain "java/nio/charset/Charset" (some 0) with
  accessFlags := 1057
  interfaces := #[3]
  cf := some (fileOf pool29 18 #[.nestMembers #[71, 365, 34, 135, 58, 28]] #[] 1057 26 #[279] #[{ accessFlags := 26, nameIndex := 96, descriptorIndex := 97, attributes := #[] }, { accessFlags := 26, nameIndex := 158, descriptorIndex := 159, attributes := #[] }, { accessFlags := 74, nameIndex := 21, descriptorIndex := 22, attributes := #[] }, { accessFlags := 74, nameIndex := 25, descriptorIndex := 22, attributes := #[] }, { accessFlags := 10, nameIndex := 142, descriptorIndex := 143, attributes := #[] }, { accessFlags := 18, nameIndex := 127, descriptorIndex := 189, attributes := #[] }, { accessFlags := 18, nameIndex := 192, descriptorIndex := 159, attributes := #[] }, { accessFlags := 2, nameIndex := 195, descriptorIndex := 196, attributes := #[] }])
  fields := #[{ name := "standardProvider", type := (.object "java/nio/charset/spi/CharsetProvider"), accessFlags := 26, slot := 0, constantValue := 0 }, { name := "zeroAliases", type := (.array (.object "java/lang/String")), accessFlags := 26, slot := 1, constantValue := 0 }, { name := "cache1", type := (.array (.object "java/lang/Object")), accessFlags := 74, slot := 2, constantValue := 0 }, { name := "cache2", type := (.array (.object "java/lang/Object")), accessFlags := 74, slot := 3, constantValue := 0 }, { name := "defaultCharset", type := (.object "java/nio/charset/Charset"), accessFlags := 10, slot := 4, constantValue := 0 }, { name := "name", type := (.object "java/lang/String"), accessFlags := 18, slot := 0, constantValue := 0 }, { name := "aliases", type := (.array (.object "java/lang/String")), accessFlags := 18, slot := 1, constantValue := 0 }, { name := "aliasSet", type := (.object "java/util/Set"), accessFlags := 2, slot := 2, constantValue := 0 }]
  methods := #[]
  instanceTypes := #[(.object "java/lang/String"), (.array (.object "java/lang/String")), (.object "java/util/Set")]
  staticTypes := #[(.object "java/nio/charset/spi/CharsetProvider"), (.array (.object "java/lang/String")), (.array (.object "java/lang/Object")), (.array (.object "java/lang/Object")), (.object "java/nio/charset/Charset")]
  resolved := Array.replicate 370 none
  statics := none }

def pool30 : Array CpInfo := pool [(1, .class_ 2), (0, u "sun/nio/cs/HistoricallyNamedCharset"), (0, .class_ 4), (0, u "java/lang/Object")] 4

/-- sun/nio/cs/HistoricallyNamedCharset -/
def k30 : Class := { plain "sun/nio/cs/HistoricallyNamedCharset" (some 0) with
  accessFlags := 1537
  interfaces := #[]
  cf := some (fileOf pool30 1 #[] #[] 1537 3 #[] #[])
  fields := #[]
  methods := #[]
  instanceTypes := #[]
  staticTypes := #[]
  resolved := Array.replicate 9 none
  statics := none }

def pool31 : Array CpInfo := pool [(2, .class_ 4), (1, u "java/nio/charset/Charset"), (130, .class_ 136), (0, u "sun/nio/cs/Unicode"), (0, .class_ 138), (0, u "sun/nio/cs/HistoricallyNamedCharset")] 15

/-- sun/nio/cs/Unicode -/
def k31 : Class := { plain "sun/nio/cs/Unicode" (some 29) with
  accessFlags := 1056
  interfaces := #[30]
  cf := some (fileOf pool31 135 #[] #[] 1056 2 #[137] #[])
  fields := #[]
  methods := #[]
  instanceTypes := #[(.object "java/lang/String"), (.array (.object "java/lang/String")), (.object "java/util/Set")]
  staticTypes := #[]
  resolved := Array.replicate 154 none
  statics := none }

def pool32 : Array CpInfo := pool [(10, .class_ 12), (1, u "sun/nio/cs/Unicode"), (0, u "<init>"), (3, .class_ 18), (0, u "sun/nio/cs/UTF_8$Decoder"), (3, .class_ 23), (0, u "sun/nio/cs/UTF_8$Encoder"), (15, .class_ 40), (0, u "sun/nio/cs/UTF_8"), (2, u "()V"), (2, u "INSTANCE"), (0, u "Lsun/nio/cs/UTF_8;"), (8, u "JLA"), (0, u "Ljdk/internal/access/JavaLangAccess;")] 26

def k32m0 : Method := { name := "<init>", desc := "()V", sig := { parameters := [], returnType := none }, accessFlags := 1, code := none }
/-- sun/nio/cs/UTF_8 -/
def k32 : Class := { plain "sun/nio/cs/UTF_8" (some 31) with
  accessFlags := 49
  interfaces := #[]
  cf := some (fileOf pool32 39 #[.nestMembers #[22, 17]] #[{ accessFlags := 1, nameIndex := 13, descriptorIndex := 43, attributes := #[] }] 49 10 #[] #[{ accessFlags := 25, nameIndex := 46, descriptorIndex := 47, attributes := #[] }, { accessFlags := 26, nameIndex := 56, descriptorIndex := 57, attributes := #[] }])
  fields := #[{ name := "INSTANCE", type := (.object "sun/nio/cs/UTF_8"), accessFlags := 25, slot := 0, constantValue := 0 }, { name := "JLA", type := (.object "jdk/internal/access/JavaLangAccess"), accessFlags := 26, slot := 1, constantValue := 0 }]
  methods := #[k32m0]
  instanceTypes := #[(.object "java/lang/String"), (.array (.object "java/lang/String")), (.object "java/util/Set")]
  staticTypes := #[(.object "sun/nio/cs/UTF_8"), (.object "jdk/internal/access/JavaLangAccess")]
  resolved := Array.replicate 84 none
  statics := some 4 }

def pool33 : Array CpInfo := pool [(2, .class_ 4), (1, u "java/lang/Object"), (0, u "<init>"), (0, u "()V"), (0, .methodref 8 9), (0, .class_ 10), (0, .nameAndType 11 12), (0, u "java/lang/StringCoding"), (0, u "countPositives"), (0, u "([BII)I"), (11, u "hasNegatives"), (0, u "([BII)Z")] 23

def k33m0 : Method := { name := "<init>", desc := "()V", sig := { parameters := [], returnType := none }, accessFlags := 2, code := none }
def k33c1 : Code := { maxStack := 3, maxLocals := 3, code := jdk_123_method_2_code, exceptionTable := #[], attributes := #[] }
def k33m1 : Method := { name := "hasNegatives", desc := "([BII)Z", sig := { parameters := [(.array .byte), .int, .int], returnType := some .boolean }, accessFlags := 9, code := some k33c1 }
def k33c2 : Code := { maxStack := 2, maxLocals := 5, code := jdk_123_method_3_code, exceptionTable := #[], attributes := #[] }
def k33m2 : Method := { name := "countPositives", desc := "([BII)I", sig := { parameters := [(.array .byte), .int, .int], returnType := some .int }, accessFlags := 9, code := some k33c2 }
/-- java/lang/StringCoding -/
def k33 : Class := { plain "java/lang/StringCoding" (some 0) with
  accessFlags := 32
  interfaces := #[]
  cf := some (fileOf pool33 8 #[] #[{ accessFlags := 2, nameIndex := 5, descriptorIndex := 6, attributes := #[] }, { accessFlags := 9, nameIndex := 24, descriptorIndex := 25, attributes := #[] }, { accessFlags := 9, nameIndex := 11, descriptorIndex := 12, attributes := #[] }] 32 2 #[] #[])
  fields := #[]
  methods := #[k33m0, k33m1, k33m2]
  instanceTypes := #[]
  staticTypes := #[]
  resolved := Array.replicate 49 none
  statics := none }

def pool34 : Array CpInfo := pool [(4, .class_ 6), (1, u "java/lang/Object"), (0, u "<init>"), (0, u "()V"), (5, .class_ 16), (1, u "java/lang/StringLatin1"), (104, u "$assertionsDisabled"), (0, u "Z"), (98, .class_ 223), (1, u "java/lang/StringLatin1$LinesSpliterator"), (166, .class_ 391), (0, u "java/lang/StringLatin1$CharsSpliterator")] 3

def k34m0 : Method := { name := "<init>", desc := "()V", sig := { parameters := [], returnType := none }, accessFlags := 0, code := none }
/-- java/lang/StringLatin1 -/
def k34 : Class := { plain "java/lang/StringLatin1" (some 0) with
  accessFlags := 48
  interfaces := #[]
  cf := some (fileOf pool34 14 #[.nestMembers #[390, 221]] #[{ accessFlags := 0, nameIndex := 7, descriptorIndex := 8, attributes := #[] }] 48 4 #[] #[{ accessFlags := 4120, nameIndex := 121, descriptorIndex := 122, attributes := #[] }])
  fields := #[{ name := "$assertionsDisabled", type := .boolean, accessFlags := 4120, slot := 0, constantValue := 0 }]
  methods := #[k34m0]
  instanceTypes := #[]
  staticTypes := #[.boolean]
  resolved := Array.replicate 395 none
  statics := none }

def pool35 : Array CpInfo := pool [(9, u "<init>"), (6, .class_ 18), (1, u "java/lang/Object"), (0, u "()V"), (1, .class_ 23), (1, u "jdk/internal/util/ArraysSupport"), (0, u "LOG2_ARRAY_LONG_INDEX_SCALE"), (0, u "I"), (2, u "U"), (0, u "Ljdk/internal/misc/Unsafe;"), (8, u "BIG_ENDIAN"), (0, u "Z"), (8, u "LOG2_BYTE_BIT_SIZE"), (4, u "LOG2_ARRAY_INT_INDEX_SCALE"), (54, u "JLA"), (0, u "Ljdk/internal/access/JavaLangAccess;"), (11, u "LOG2_ARRAY_BOOLEAN_INDEX_SCALE"), (9, u "LOG2_ARRAY_BYTE_INDEX_SCALE"), (5, u "LOG2_ARRAY_CHAR_INDEX_SCALE"), (5, u "LOG2_ARRAY_SHORT_INDEX_SCALE"), (18, u "LOG2_ARRAY_FLOAT_INDEX_SCALE"), (24, u "LOG2_ARRAY_DOUBLE_INDEX_SCALE"), (89, u "T_BOOLEAN"), (2, u "T_CHAR"), (1, u "T_FLOAT"), (1, u "T_DOUBLE"), (1, u "T_BYTE"), (1, u "T_SHORT"), (1, u "T_INT"), (1, u "T_LONG"), (1, u "SOFT_MAX_ARRAY_LENGTH")] 83

def k35m0 : Method := { name := "<init>", desc := "()V", sig := { parameters := [], returnType := none }, accessFlags := 2, code := none }
/-- jdk/internal/util/ArraysSupport -/
def k35 : Class := { plain "jdk/internal/util/ArraysSupport" (some 0) with
  accessFlags := 33
  interfaces := #[]
  cf := some (fileOf pool35 21 #[] #[{ accessFlags := 2, nameIndex := 9, descriptorIndex := 19, attributes := #[] }] 33 16 #[] #[{ accessFlags := 24, nameIndex := 28, descriptorIndex := 29, attributes := #[] }, { accessFlags := 26, nameIndex := 38, descriptorIndex := 39, attributes := #[] }, { accessFlags := 25, nameIndex := 121, descriptorIndex := 25, attributes := #[] }, { accessFlags := 25, nameIndex := 131, descriptorIndex := 25, attributes := #[] }, { accessFlags := 25, nameIndex := 137, descriptorIndex := 25, attributes := #[] }, { accessFlags := 25, nameIndex := 143, descriptorIndex := 25, attributes := #[] }, { accessFlags := 25, nameIndex := 53, descriptorIndex := 25, attributes := #[] }, { accessFlags := 25, nameIndex := 24, descriptorIndex := 25, attributes := #[] }, { accessFlags := 25, nameIndex := 162, descriptorIndex := 25, attributes := #[] }, { accessFlags := 25, nameIndex := 187, descriptorIndex := 25, attributes := #[] }, { accessFlags := 26, nameIndex := 48, descriptorIndex := 25, attributes := #[] }, { accessFlags := 25, nameIndex := 277, descriptorIndex := 25, attributes := #[] }, { accessFlags := 25, nameIndex := 280, descriptorIndex := 25, attributes := #[] }, { accessFlags := 25, nameIndex := 282, descriptorIndex := 25, attributes := #[] }, { accessFlags := 25, nameIndex := 284, descriptorIndex := 25, attributes := #[] }, { accessFlags := 25, nameIndex := 286, descriptorIndex := 25, attributes := #[] }, { accessFlags := 25, nameIndex := 288, descriptorIndex := 25, attributes := #[] }, { accessFlags := 25, nameIndex := 290, descriptorIndex := 25, attributes := #[] }, { accessFlags := 25, nameIndex := 292, descriptorIndex := 25, attributes := #[] }, { accessFlags := 26, nameIndex := 108, descriptorIndex := 109, attributes := #[] }, { accessFlags := 25, nameIndex := 294, descriptorIndex := 25, attributes := #[] }])
  fields := #[{ name := "U", type := (.object "jdk/internal/misc/Unsafe"), accessFlags := 24, slot := 0, constantValue := 0 }, { name := "BIG_ENDIAN", type := .boolean, accessFlags := 26, slot := 1, constantValue := 0 }, { name := "LOG2_ARRAY_BOOLEAN_INDEX_SCALE", type := .int, accessFlags := 25, slot := 2, constantValue := 0 }, { name := "LOG2_ARRAY_BYTE_INDEX_SCALE", type := .int, accessFlags := 25, slot := 3, constantValue := 0 }, { name := "LOG2_ARRAY_CHAR_INDEX_SCALE", type := .int, accessFlags := 25, slot := 4, constantValue := 0 }, { name := "LOG2_ARRAY_SHORT_INDEX_SCALE", type := .int, accessFlags := 25, slot := 5, constantValue := 0 }, { name := "LOG2_ARRAY_INT_INDEX_SCALE", type := .int, accessFlags := 25, slot := 6, constantValue := 0 }, { name := "LOG2_ARRAY_LONG_INDEX_SCALE", type := .int, accessFlags := 25, slot := 7, constantValue := 0 }, { name := "LOG2_ARRAY_FLOAT_INDEX_SCALE", type := .int, accessFlags := 25, slot := 8, constantValue := 0 }, { name := "LOG2_ARRAY_DOUBLE_INDEX_SCALE", type := .int, accessFlags := 25, slot := 9, constantValue := 0 }, { name := "LOG2_BYTE_BIT_SIZE", type := .int, accessFlags := 26, slot := 10, constantValue := 0 }, { name := "T_BOOLEAN", type := .int, accessFlags := 25, slot := 11, constantValue := 0 }, { name := "T_CHAR", type := .int, accessFlags := 25, slot := 12, constantValue := 0 }, { name := "T_FLOAT", type := .int, accessFlags := 25, slot := 13, constantValue := 0 }, { name := "T_DOUBLE", type := .int, accessFlags := 25, slot := 14, constantValue := 0 }, { name := "T_BYTE", type := .int, accessFlags := 25, slot := 15, constantValue := 0 }, { name := "T_SHORT", type := .int, accessFlags := 25, slot := 16, constantValue := 0 }, { name := "T_INT", type := .int, accessFlags := 25, slot := 17, constantValue := 0 }, { name := "T_LONG", type := .int, accessFlags := 25, slot := 18, constantValue := 0 }, { name := "JLA", type := (.object "jdk/internal/access/JavaLangAccess"), accessFlags := 26, slot := 19, constantValue := 0 }, { name := "SOFT_MAX_ARRAY_LENGTH", type := .int, accessFlags := 25, slot := 20, constantValue := 0 }]
  methods := #[k35m0]
  instanceTypes := #[]
  staticTypes := #[(.object "jdk/internal/misc/Unsafe"), .boolean, .int, .int, .int, .int, .int, .int, .int, .int, .int, .int, .int, .int, .int, .int, .int, .int, .int, (.object "jdk/internal/access/JavaLangAccess"), .int]
  resolved := Array.replicate 378 none
  statics := none }

/-- the primitive byte -/
def k36 : Class := { plain "byte" none with kind := .primitive 'B', accessFlags := 0x411 }
/-- [B -/
def k37 : Class := { plain "[B" (some 0) with kind := .array 36 .byte, interfaces := #[18, 2], accessFlags := 1041 }

/-- the primitive char -/
def k38 : Class := { plain "char" none with kind := .primitive 'C', accessFlags := 0x411 }
/-- [C -/
def k39 : Class := { plain "[C" (some 0) with kind := .array 38 .char, interfaces := #[18, 2], accessFlags := 1041 }

/-- the primitive int -/
def k40 : Class := { plain "int" none with kind := .primitive 'I', accessFlags := 0x411 }
/-- [I -/
def k41 : Class := { plain "[I" (some 0) with kind := .array 40 .int, interfaces := #[18, 2], accessFlags := 1041 }

/-- [Ljava/lang/Object; -/
def k42 : Class := { plain "[Ljava/lang/Object;" (some 0) with kind := .array 0 (.object "java/lang/Object"), interfaces := #[18, 2], accessFlags := 1041 }

def heap : Heap := #[{ cls := 7, slots := #[.long 0, .int 1, .null, .int 0, .null, .int 0, .int 0], vm := .statics 7 },
  { cls := 19, slots := #[.long 0, .int 0, .ref 5, .ref 6], vm := .statics 19 },
  { cls := 22, slots := #[.null, .null, .null], vm := .statics 22 },
  { cls := 28, slots := #[.null, .null, .ref 7, .null, .null, .null], vm := .statics 28 },
  { cls := 32, slots := #[.ref 7, .null], vm := .statics 32 },
  { cls := 42, slots := #[], vm := .none },
  { cls := 42, slots := #[], vm := .none },
  { cls := 32, slots := #[.null, .null, .null], vm := .none }]
def classes : Array Class := #[k0, k1, k2, k3, k4, k5, k6, k7, k8, k9, k10, k11, k12, k13, k14, k15, k16, k17, k18, k19, k20, k21, k22, k23, k24, k25, k26, k27, k28, k29, k30, k31, k32, k33, k34, k35, k36, k37, k38, k39, k40, k41, k42]
def interned : List (Array UInt16 × Addr) := []
def slotsUsed : Nat := 25
def theMethod : MethodId := ⟨1, 1⟩
def args0 : Array Value := #[.int 5, .int 65]
def aboutOver (below : List Frame) : State where
  vm := { classes := classes, interned := interned.toArray }
  heap := heap
  slotsUsed := slotsUsed
  threads := #[{ frames := .invoking theMethod args0 :: below }]
def below0 : List Frame := [.native { method := ⟨0, 0⟩, args := #[] }]
def about1 : State := aboutOver below0
def p0 : Program := .bare "" "" ""
def e0 : Env := launch0.env 0 0 0
theorem w_frames : about1.frames = Frame.invoking theMethod args0 :: below0 := rfl
set_option maxRecDepth 65536 in
theorem w_args : argsFit about1.vm theMethod args0 = true := by decide +kernel
set_option maxRecDepth 65536 in
theorem w_heap : heapFits about1 = true := by decide +kernel
set_option maxRecDepth 65536 in
theorem w_runnable : about1.curStatus? = some .runnable := by decide +kernel
set_option maxRecDepth 65536 in
theorem w_alone : about1.alone = true := by decide +kernel
set_option maxRecDepth 65536 in
theorem w_named : about1.methodNamed? x = some theMethod := by decide +kernel
set_option maxRecDepth 65536 in
theorem w_hears : about1.hears theMethod below0 = true := by decide +kernel
set_option maxRecDepth 65536 in
theorem w_ripe : about1.ripe theMethod args0 below0 = true := by decide +kernel
theorem w_running : about1.status = .running := rfl
set_option maxRecDepth 65536 in
theorem w_room : about1.hasRoom e0.platform room_1 = true :=
  launch0.hasRoom_least _ room_1 (by decide +kernel) (by decide +kernel) (by decide +kernel) (by decide +kernel) (by decide +kernel) (by decide +kernel)
theorem allAtoms_all (ts : List Jvm.Cond) (a : Array Jvm.Value) (st : Jvm.State) : (allAtoms ts).before a st = ts.all (fun c => c.before a st) := by
  induction ts with
  | nil => rfl
  | cons c t ih =>
    show (Jvm.Cond.and c (allAtoms t)).before a st = _
    rw [Jvm.Cond.before_and, ih, List.all_cons]
def words1 : List Jvm.Cond := Jvm.Cond.code x code maxLocals ret :: tables_1
/-- a 'code' word, met by the world's own term for the bytes: nothing is compared byte by byte -/
theorem code_word {y : MethodName} {bytes : ByteArray} {mx : Nat} {rt : Option FieldType} {a : Array Value} {s : State} {m : MethodId} {meth : Method} {c : Code} (h1 : s.methodNamed? y = some m) (h2 : s.vm.method? m = some meth) (h3 : meth.code = some c) (h4 : c.code = bytes)
    (h5 : (c.maxLocals == mx && c.exceptionTable.isEmpty && decide (c.maxStack ≤ mostOperands) && decide (meth.sig.returnType = rt) && !meth.locks && decide (parseMethodDescriptor y.desc = some meth.sig)) = true) : (Jvm.Cond.code y bytes mx rt).before a s = true := by
  simp only [Bool.and_eq_true, beq_iff_eq, Bool.not_eq_true', decide_eq_true_eq] at h5
  obtain ⟨⟨⟨⟨⟨g1, g2⟩, g3⟩, g4⟩, g5⟩, g6⟩ := h5
  simp [Cond.before, Cond.holds, Cond.value, h1, h2, h3, h4, g1, g2, g3, g4, g5, g6]
def isCode : Jvm.Cond → Bool
  | .code _ _ _ _ => true
  | _ => false
theorem all_split {L : List Jvm.Cond} {P : Jvm.Cond → Bool} (h1 : L.all (fun c => isCode c || P c) = true) (h2 : ∀ c ∈ L.filter isCode, P c = true) : L.all P = true := by
  refine List.all_eq_true.mpr fun c hc => ?_
  have h := List.all_eq_true.mp h1 c hc
  rcases Bool.eq_false_or_eq_true (isCode c) with hi | hi
  · exact h2 c (List.mem_filter.mpr ⟨hc, hi⟩)
  · simpa [hi] using h
set_option maxRecDepth 65536 in
theorem w_c0 : (Jvm.Cond.code x code maxLocals ret).before args0 about1 = true := code_word (m := ⟨1, 1⟩) (meth := k1m1) (c := k1c1) (by decide +kernel) rfl rfl rfl (by decide +kernel)
set_option maxRecDepth 65536 in
theorem w_c1 : (Jvm.Cond.code ({ cls := "java/lang/String", name := "<init>", desc := "([C)V" } : Jvm.MethodName) jdk_42_method_3_code (2 : Nat) (Option.none : Option Jvm.ClassFile.FieldType)).before args0 about1 = true := code_word (m := ⟨7, 1⟩) (meth := k7m1) (c := k7c1) (by decide +kernel) rfl rfl rfl (by decide +kernel)
set_option maxRecDepth 65536 in
theorem w_c2 : (Jvm.Cond.code ({ cls := "java/lang/String", name := "<init>", desc := "([CIILjava/lang/Void;)V" } : Jvm.MethodName) jdk_42_method_149_code (6 : Nat) (Option.none : Option Jvm.ClassFile.FieldType)).before args0 about1 = true := code_word (m := ⟨7, 8⟩) (meth := k7m8) (c := k7c8) (by decide +kernel) rfl rfl rfl (by decide +kernel)
set_option maxRecDepth 65536 in
theorem w_c3 : (Jvm.Cond.code ({ cls := "java/lang/Object", name := "<init>", desc := "()V" } : Jvm.MethodName) object_method_1_code (1 : Nat) (Option.none : Option Jvm.ClassFile.FieldType)).before args0 about1 = true := code_word (m := ⟨0, 0⟩) (meth := k0m0) (c := k0c0) (by decide +kernel) rfl rfl rfl (by decide +kernel)
set_option maxRecDepth 65536 in
theorem w_c4 : (Jvm.Cond.code ({ cls := "java/lang/StringUTF16", name := "compress", desc := "([CII)[B" } : Jvm.MethodName) jdk_52_method_16_code (6 : Nat) (Option.some (Jvm.ClassFile.FieldType.array Jvm.ClassFile.FieldType.byte))).before args0 about1 = true := code_word (m := ⟨8, 4⟩) (meth := k8m4) (c := k8c4) (by decide +kernel) rfl rfl rfl (by decide +kernel)
set_option maxRecDepth 65536 in
theorem w_c5 : (Jvm.Cond.code ({ cls := "java/lang/StringUTF16", name := "compress", desc := "([CI[BII)I" } : Jvm.MethodName) jdk_52_method_21_code (7 : Nat) (Option.some Jvm.ClassFile.FieldType.int)).before args0 about1 = true := code_word (m := ⟨8, 5⟩) (meth := k8m5) (c := k8c5) (by decide +kernel) rfl rfl rfl (by decide +kernel)
set_option maxRecDepth 65536 in
theorem w_c6 : (Jvm.Cond.code ({ cls := "java/lang/StringUTF16", name := "coderFromArrayLen", desc := "([BI)B" } : Jvm.MethodName) jdk_52_method_15_code (2 : Nat) (Option.some Jvm.ClassFile.FieldType.byte)).before args0 about1 = true := code_word (m := ⟨8, 3⟩) (meth := k8m3) (c := k8c3) (by decide +kernel) rfl rfl rfl (by decide +kernel)
set_option maxRecDepth 65536 in
theorem w_c7 : (Jvm.Cond.code ({ cls := "com/example/realmwright/realmwright/KeycloakRoles", name := "<init>", desc := "()V" } : Jvm.MethodName) prog_22_method_1_code (1 : Nat) (Option.none : Option Jvm.ClassFile.FieldType)).before args0 about1 = true := code_word (m := ⟨9, 0⟩) (meth := k9m0) (c := k9c0) (by decide +kernel) rfl rfl rfl (by decide +kernel)
set_option maxRecDepth 65536 in
theorem w_c8 : (Jvm.Cond.code ({ cls := "com/example/realmwright/realmwright/ByteLog", name := "<init>", desc := "()V" } : Jvm.MethodName) prog_1_method_1_code (1 : Nat) (Option.none : Option Jvm.ClassFile.FieldType)).before args0 about1 = true := code_word (m := ⟨10, 0⟩) (meth := k10m0) (c := k10c0) (by decide +kernel) rfl rfl rfl (by decide +kernel)
set_option maxRecDepth 65536 in
theorem w_c9 : (Jvm.Cond.code ({ cls := "java/util/ArrayList", name := "<init>", desc := "()V" } : Jvm.MethodName) jdk_38_method_2_code (1 : Nat) (Option.none : Option Jvm.ClassFile.FieldType)).before args0 about1 = true := code_word (m := ⟨19, 0⟩) (meth := k19m0) (c := k19c0) (by decide +kernel) rfl rfl rfl (by decide +kernel)
set_option maxRecDepth 65536 in
theorem w_c10 : (Jvm.Cond.code ({ cls := "java/util/AbstractList", name := "<init>", desc := "()V" } : Jvm.MethodName) jdk_39_method_1_code (1 : Nat) (Option.none : Option Jvm.ClassFile.FieldType)).before args0 about1 = true := code_word (m := ⟨16, 0⟩) (meth := k16m0) (c := k16c0) (by decide +kernel) rfl rfl rfl (by decide +kernel)
set_option maxRecDepth 65536 in
theorem w_c11 : (Jvm.Cond.code ({ cls := "java/util/AbstractCollection", name := "<init>", desc := "()V" } : Jvm.MethodName) jdk_22_method_1_code (1 : Nat) (Option.none : Option Jvm.ClassFile.FieldType)).before args0 about1 = true := code_word (m := ⟨13, 0⟩) (meth := k13m0) (c := k13c0) (by decide +kernel) rfl rfl rfl (by decide +kernel)
set_option maxRecDepth 65536 in
theorem w_c12 : (Jvm.Cond.code ({ cls := "com/example/realmwright/realmwright/KeycloakRoles", name := "beginGroup", desc := "()I" } : Jvm.MethodName) prog_22_method_4_code (1 : Nat) (Option.some Jvm.ClassFile.FieldType.int)).before args0 about1 = true := code_word (m := ⟨9, 1⟩) (meth := k9m1) (c := k9c1) (by decide +kernel) rfl rfl rfl (by decide +kernel)
set_option maxRecDepth 65536 in
theorem w_c13 : (Jvm.Cond.code ({ cls := "com/example/realmwright/realmwright/KeycloakRoles", name := "addMapped", desc := "(ILjava/lang/String;Ljava/lang/String;)V" } : Jvm.MethodName) prog_22_method_5_code (4 : Nat) (Option.none : Option Jvm.ClassFile.FieldType)).before args0 about1 = true := code_word (m := ⟨9, 2⟩) (meth := k9m2) (c := k9c2) (by decide +kernel) rfl rfl rfl (by decide +kernel)
set_option maxRecDepth 65536 in
theorem w_c14 : (Jvm.Cond.code ({ cls := "com/example/realmwright/realmwright/ByteLog", name := "writeCount", desc := "(J)V" } : Jvm.MethodName) prog_1_method_2_code (5 : Nat) (Option.none : Option Jvm.ClassFile.FieldType)).before args0 about1 = true := code_word (m := ⟨10, 1⟩) (meth := k10m1) (c := k10c1) (by decide +kernel) rfl rfl rfl (by decide +kernel)
set_option maxRecDepth 65536 in
theorem w_c15 : (Jvm.Cond.code ({ cls := "com/example/realmwright/realmwright/ByteLog", name := "writeByte", desc := "(I)V" } : Jvm.MethodName) prog_1_method_10_code (2 : Nat) (Option.none : Option Jvm.ClassFile.FieldType)).before args0 about1 = true := code_word (m := ⟨10, 3⟩) (meth := k10m3) (c := k10c3) (by decide +kernel) rfl rfl rfl (by decide +kernel)
set_option maxRecDepth 65536 in
theorem w_c16 : (Jvm.Cond.code ({ cls := "com/example/realmwright/realmwright/ByteLog", name := "lastBlock", desc := "()[B" } : Jvm.MethodName) prog_1_method_11_code (2 : Nat) (Option.some (Jvm.ClassFile.FieldType.array Jvm.ClassFile.FieldType.byte))).before args0 about1 = true := code_word (m := ⟨10, 4⟩) (meth := k10m4) (c := k10c4) (by decide +kernel) rfl rfl rfl (by decide +kernel)
set_option maxRecDepth 65536 in
theorem w_c17 : (Jvm.Cond.code ({ cls := "java/util/ArrayList", name := "isEmpty", desc := "()Z" } : Jvm.MethodName) jdk_38_method_9_code (1 : Nat) (Option.some Jvm.ClassFile.FieldType.boolean)).before args0 about1 = true := code_word (m := ⟨19, 4⟩) (meth := k19m4) (c := k19c4) (by decide +kernel) rfl rfl rfl (by decide +kernel)
set_option maxRecDepth 65536 in
theorem w_c18 : (Jvm.Cond.code ({ cls := "java/util/ArrayList", name := "add", desc := "(Ljava/lang/Object;)Z" } : Jvm.MethodName) jdk_38_method_25_code (2 : Nat) (Option.some Jvm.ClassFile.FieldType.boolean)).before args0 about1 = true := code_word (m := ⟨19, 8⟩) (meth := k19m8) (c := k19c8) (by decide +kernel) rfl rfl rfl (by decide +kernel)
set_option maxRecDepth 65536 in
theorem w_c19 : (Jvm.Cond.code ({ cls := "java/util/ArrayList", name := "add", desc := "(Ljava/lang/Object;[Ljava/lang/Object;I)V" } : Jvm.MethodName) jdk_38_method_24_code (4 : Nat) (Option.none : Option Jvm.ClassFile.FieldType)).before args0 about1 = true := code_word (m := ⟨19, 7⟩) (meth := k19m7) (c := k19c7) (by decide +kernel) rfl rfl rfl (by decide +kernel)
set_option maxRecDepth 65536 in
theorem w_c20 : (Jvm.Cond.code ({ cls := "java/util/ArrayList", name := "grow", desc := "()[Ljava/lang/Object;" } : Jvm.MethodName) jdk_38_method_7_code (1 : Nat) (Option.some (Jvm.ClassFile.FieldType.array (Jvm.ClassFile.FieldType.object "java/lang/Object")))).before args0 about1 = true := code_word (m := ⟨19, 2⟩) (meth := k19m2) (c := k19c2) (by decide +kernel) rfl rfl rfl (by decide +kernel)
set_option maxRecDepth 65536 in
theorem w_c21 : (Jvm.Cond.code ({ cls := "java/util/ArrayList", name := "grow", desc := "(I)[Ljava/lang/Object;" } : Jvm.MethodName) jdk_38_method_6_code (4 : Nat) (Option.some (Jvm.ClassFile.FieldType.array (Jvm.ClassFile.FieldType.object "java/lang/Object")))).before args0 about1 = true := code_word (m := ⟨19, 1⟩) (meth := k19m1) (c := k19c1) (by decide +kernel) rfl rfl rfl (by decide +kernel)
set_option maxRecDepth 65536 in
theorem w_c22 : (Jvm.Cond.code ({ cls := "java/lang/Math", name := "max", desc := "(II)I" } : Jvm.MethodName) jdk_29_method_65_code (2 : Nat) (Option.some Jvm.ClassFile.FieldType.int)).before args0 about1 = true := code_word (m := ⟨20, 1⟩) (meth := k20m1) (c := k20c1) (by decide +kernel) rfl rfl rfl (by decide +kernel)
set_option maxRecDepth 65536 in
theorem w_c23 : (Jvm.Cond.code ({ cls := "java/util/ArrayList", name := "size", desc := "()I" } : Jvm.MethodName) jdk_38_method_8_code (1 : Nat) (Option.some Jvm.ClassFile.FieldType.int)).before args0 about1 = true := code_word (m := ⟨19, 3⟩) (meth := k19m3) (c := k19c3) (by decide +kernel) rfl rfl rfl (by decide +kernel)
set_option maxRecDepth 65536 in
theorem w_c24 : (Jvm.Cond.code ({ cls := "java/util/ArrayList", name := "get", desc := "(I)Ljava/lang/Object;" } : Jvm.MethodName) jdk_38_method_20_code (2 : Nat) (Option.some (Jvm.ClassFile.FieldType.object "java/lang/Object"))).before args0 about1 = true := code_word (m := ⟨19, 6⟩) (meth := k19m6) (c := k19c6) (by decide +kernel) rfl rfl rfl (by decide +kernel)
set_option maxRecDepth 65536 in
theorem w_c25 : (Jvm.Cond.code ({ cls := "java/util/Objects", name := "checkIndex", desc := "(II)I" } : Jvm.MethodName) jdk_31_method_17_code (2 : Nat) (Option.some Jvm.ClassFile.FieldType.int)).before args0 about1 = true := code_word (m := ⟨21, 1⟩) (meth := k21m1) (c := k21c1) (by decide +kernel) rfl rfl rfl (by decide +kernel)
set_option maxRecDepth 65536 in
theorem w_c26 : (Jvm.Cond.code ({ cls := "jdk/internal/util/Preconditions", name := "checkIndex", desc := "(IILjava/util/function/BiFunction;)I" } : Jvm.MethodName) jdk_41_method_11_code (3 : Nat) (Option.some Jvm.ClassFile.FieldType.int)).before args0 about1 = true := code_word (m := ⟨22, 1⟩) (meth := k22m1) (c := k22c1) (by decide +kernel) rfl rfl rfl (by decide +kernel)
set_option maxRecDepth 65536 in
theorem w_c27 : (Jvm.Cond.code ({ cls := "java/util/ArrayList", name := "elementData", desc := "(I)Ljava/lang/Object;" } : Jvm.MethodName) jdk_38_method_18_code (2 : Nat) (Option.some (Jvm.ClassFile.FieldType.object "java/lang/Object"))).before args0 about1 = true := code_word (m := ⟨19, 5⟩) (meth := k19m5) (c := k19c5) (by decide +kernel) rfl rfl rfl (by decide +kernel)
set_option maxRecDepth 65536 in
theorem w_c28 : (Jvm.Cond.code ({ cls := "com/example/realmwright/realmwright/KeycloakRoles", name := "key", desc := "(Ljava/lang/String;Ljava/lang/String;)Ljava/lang/String;" } : Jvm.MethodName) prog_22_method_8_code (2 : Nat) (Option.some (Jvm.ClassFile.FieldType.object "java/lang/String"))).before args0 about1 = true := code_word (m := ⟨9, 4⟩) (meth := k9m4) (c := k9c4) (by decide +kernel) rfl rfl rfl (by decide +kernel)
set_option maxRecDepth 65536 in
theorem w_c29 : (Jvm.Cond.code ({ cls := "java/lang/StringBuilder", name := "<init>", desc := "()V" } : Jvm.MethodName) jdk_67_method_1_code (1 : Nat) (Option.none : Option Jvm.ClassFile.FieldType)).before args0 about1 = true := code_word (m := ⟨25, 0⟩) (meth := k25m0) (c := k25c0) (by decide +kernel) rfl rfl rfl (by decide +kernel)
set_option maxRecDepth 65536 in
theorem w_c30 : (Jvm.Cond.code ({ cls := "java/lang/AbstractStringBuilder", name := "<init>", desc := "(I)V" } : Jvm.MethodName) jdk_68_method_2_code (2 : Nat) (Option.none : Option Jvm.ClassFile.FieldType)).before args0 about1 = true := code_word (m := ⟨24, 1⟩) (meth := k24m1) (c := k24c1) (by decide +kernel) rfl rfl rfl (by decide +kernel)
set_option maxRecDepth 65536 in
theorem w_c31 : (Jvm.Cond.code ({ cls := "java/lang/StringBuilder", name := "append", desc := "(Ljava/lang/String;)Ljava/lang/StringBuilder;" } : Jvm.MethodName) jdk_67_method_7_code (2 : Nat) (Option.some (Jvm.ClassFile.FieldType.object "java/lang/StringBuilder"))).before args0 about1 = true := code_word (m := ⟨25, 1⟩) (meth := k25m1) (c := k25c1) (by decide +kernel) rfl rfl rfl (by decide +kernel)
set_option maxRecDepth 65536 in
theorem w_c32 : (Jvm.Cond.code ({ cls := "java/lang/AbstractStringBuilder", name := "append", desc := "(Ljava/lang/String;)Ljava/lang/AbstractStringBuilder;" } : Jvm.MethodName) jdk_68_method_22_code (3 : Nat) (Option.some (Jvm.ClassFile.FieldType.object "java/lang/AbstractStringBuilder"))).before args0 about1 = true := code_word (m := ⟨24, 4⟩) (meth := k24m4) (c := k24c4) (by decide +kernel) rfl rfl rfl (by decide +kernel)
set_option maxRecDepth 65536 in
theorem w_c33 : (Jvm.Cond.code ({ cls := "java/lang/String", name := "length", desc := "()I" } : Jvm.MethodName) jdk_42_method_54_code (1 : Nat) (Option.some Jvm.ClassFile.FieldType.int)).before args0 about1 = true := code_word (m := ⟨7, 5⟩) (meth := k7m5) (c := k7c5) (by decide +kernel) rfl rfl rfl (by decide +kernel)
set_option maxRecDepth 65536 in
theorem w_c34 : (Jvm.Cond.code ({ cls := "java/lang/String", name := "coder", desc := "()B" } : Jvm.MethodName) jdk_42_method_152_code (1 : Nat) (Option.some Jvm.ClassFile.FieldType.byte)).before args0 about1 = true := code_word (m := ⟨7, 10⟩) (meth := k7m10) (c := k7c10) (by decide +kernel) rfl rfl rfl (by decide +kernel)
set_option maxRecDepth 65536 in
theorem w_c35 : (Jvm.Cond.code ({ cls := "java/lang/AbstractStringBuilder", name := "ensureCapacityInternal", desc := "(I)V" } : Jvm.MethodName) jdk_68_method_9_code (3 : Nat) (Option.none : Option Jvm.ClassFile.FieldType)).before args0 about1 = true := code_word (m := ⟨24, 3⟩) (meth := k24m3) (c := k24c3) (by decide +kernel) rfl rfl rfl (by decide +kernel)
set_option maxRecDepth 65536 in
theorem w_c36 : (Jvm.Cond.code ({ cls := "java/lang/AbstractStringBuilder", name := "putStringAt", desc := "(ILjava/lang/String;)V" } : Jvm.MethodName) jdk_68_method_73_code (3 : Nat) (Option.none : Option Jvm.ClassFile.FieldType)).before args0 about1 = true := code_word (m := ⟨24, 8⟩) (meth := k24m8) (c := k24c8) (by decide +kernel) rfl rfl rfl (by decide +kernel)
set_option maxRecDepth 65536 in
theorem w_c37 : (Jvm.Cond.code ({ cls := "java/lang/AbstractStringBuilder", name := "inflateIfNeededFor", desc := "(Ljava/lang/String;)V" } : Jvm.MethodName) jdk_68_method_71_code (2 : Nat) (Option.none : Option Jvm.ClassFile.FieldType)).before args0 about1 = true := code_word (m := ⟨24, 7⟩) (meth := k24m7) (c := k24c7) (by decide +kernel) rfl rfl rfl (by decide +kernel)
set_option maxRecDepth 65536 in
theorem w_c38 : (Jvm.Cond.code ({ cls := "java/lang/String", name := "getBytes", desc := "([BIB)V" } : Jvm.MethodName) jdk_42_method_147_code (4 : Nat) (Option.none : Option Jvm.ClassFile.FieldType)).before args0 about1 = true := code_word (m := ⟨7, 7⟩) (meth := k7m7) (c := k7c7) (by decide +kernel) rfl rfl rfl (by decide +kernel)
set_option maxRecDepth 65536 in
theorem w_c39 : (Jvm.Cond.code ({ cls := "java/lang/StringBuilder", name := "toString", desc := "()Ljava/lang/String;" } : Jvm.MethodName) jdk_67_method_42_code (1 : Nat) (Option.some (Jvm.ClassFile.FieldType.object "java/lang/String"))).before args0 about1 = true := code_word (m := ⟨25, 2⟩) (meth := k25m2) (c := k25c2) (by decide +kernel) rfl rfl rfl (by decide +kernel)
set_option maxRecDepth 65536 in
theorem w_c40 : (Jvm.Cond.code ({ cls := "java/lang/String", name := "<init>", desc := "(Ljava/lang/StringBuilder;)V" } : Jvm.MethodName) jdk_42_method_53_code (2 : Nat) (Option.none : Option Jvm.ClassFile.FieldType)).before args0 about1 = true := code_word (m := ⟨7, 4⟩) (meth := k7m4) (c := k7c4) (by decide +kernel) rfl rfl rfl (by decide +kernel)
set_option maxRecDepth 65536 in
theorem w_c41 : (Jvm.Cond.code ({ cls := "java/lang/String", name := "<init>", desc := "(Ljava/lang/AbstractStringBuilder;Ljava/lang/Void;)V" } : Jvm.MethodName) jdk_42_method_150_code (5 : Nat) (Option.none : Option Jvm.ClassFile.FieldType)).before args0 about1 = true := code_word (m := ⟨7, 9⟩) (meth := k7m9) (c := k7c9) (by decide +kernel) rfl rfl rfl (by decide +kernel)
set_option maxRecDepth 65536 in
theorem w_c42 : (Jvm.Cond.code ({ cls := "java/lang/AbstractStringBuilder", name := "getValue", desc := "()[B" } : Jvm.MethodName) jdk_68_method_64_code (1 : Nat) (Option.some (Jvm.ClassFile.FieldType.array Jvm.ClassFile.FieldType.byte))).before args0 about1 = true := code_word (m := ⟨24, 5⟩) (meth := k24m5) (c := k24c5) (by decide +kernel) rfl rfl rfl (by decide +kernel)
set_option maxRecDepth 65536 in
theorem w_c43 : (Jvm.Cond.code ({ cls := "java/lang/StringBuilder", name := "length", desc := "()I" } : Jvm.MethodName) jdk_67_method_93_code (1 : Nat) (Option.some Jvm.ClassFile.FieldType.int)).before args0 about1 = true := code_word (m := ⟨25, 3⟩) (meth := k25m3) (c := k25c3) (by decide +kernel) rfl rfl rfl (by decide +kernel)
set_option maxRecDepth 65536 in
theorem w_c44 : (Jvm.Cond.code ({ cls := "java/lang/AbstractStringBuilder", name := "length", desc := "()I" } : Jvm.MethodName) jdk_68_method_6_code (1 : Nat) (Option.some Jvm.ClassFile.FieldType.int)).before args0 about1 = true := code_word (m := ⟨24, 2⟩) (meth := k24m2) (c := k24c2) (by decide +kernel) rfl rfl rfl (by decide +kernel)
set_option maxRecDepth 65536 in
theorem w_c45 : (Jvm.Cond.code ({ cls := "java/lang/AbstractStringBuilder", name := "isLatin1", desc := "()Z" } : Jvm.MethodName) jdk_68_method_68_code (1 : Nat) (Option.some Jvm.ClassFile.FieldType.boolean)).before args0 about1 = true := code_word (m := ⟨24, 6⟩) (meth := k24m6) (c := k24c6) (by decide +kernel) rfl rfl rfl (by decide +kernel)
set_option maxRecDepth 65536 in
theorem w_c46 : (Jvm.Cond.code ({ cls := "java/util/Arrays", name := "copyOfRange", desc := "([BII)[B" } : Jvm.MethodName) jdk_65_method_132_code (3 : Nat) (Option.some (Jvm.ClassFile.FieldType.array Jvm.ClassFile.FieldType.byte))).before args0 about1 = true := code_word (m := ⟨27, 3⟩) (meth := k27m3) (c := k27c3) (by decide +kernel) rfl rfl rfl (by decide +kernel)
set_option maxRecDepth 65536 in
theorem w_c47 : (Jvm.Cond.code ({ cls := "java/util/Arrays", name := "copyOfRangeByte", desc := "([BII)[B" } : Jvm.MethodName) jdk_65_method_133_code (5 : Nat) (Option.some (Jvm.ClassFile.FieldType.array Jvm.ClassFile.FieldType.byte))).before args0 about1 = true := code_word (m := ⟨27, 4⟩) (meth := k27m4) (c := k27c4) (by decide +kernel) rfl rfl rfl (by decide +kernel)
set_option maxRecDepth 65536 in
theorem w_c48 : (Jvm.Cond.code ({ cls := "java/util/Arrays", name := "checkLength", desc := "(II)V" } : Jvm.MethodName) jdk_65_method_131_code (2 : Nat) (Option.none : Option Jvm.ClassFile.FieldType)).before args0 about1 = true := code_word (m := ⟨27, 2⟩) (meth := k27m2) (c := k27c2) (by decide +kernel) rfl rfl rfl (by decide +kernel)
set_option maxRecDepth 65536 in
theorem w_c49 : (Jvm.Cond.code ({ cls := "java/lang/Math", name := "min", desc := "(II)I" } : Jvm.MethodName) jdk_29_method_69_code (2 : Nat) (Option.some Jvm.ClassFile.FieldType.int)).before args0 about1 = true := code_word (m := ⟨20, 2⟩) (meth := k20m2) (c := k20c2) (by decide +kernel) rfl rfl rfl (by decide +kernel)
set_option maxRecDepth 65536 in
theorem w_c50 : (Jvm.Cond.code ({ cls := "com/example/realmwright/realmwright/ByteLog", name := "writeString", desc := "(Ljava/lang/String;)V" } : Jvm.MethodName) prog_1_method_3_code (6 : Nat) (Option.none : Option Jvm.ClassFile.FieldType)).before args0 about1 = true := code_word (m := ⟨10, 2⟩) (meth := k10m2) (c := k10c2) (by decide +kernel) rfl rfl rfl (by decide +kernel)
set_option maxRecDepth 65536 in
theorem w_c51 : (Jvm.Cond.code ({ cls := "java/lang/String", name := "getBytes", desc := "(Ljava/nio/charset/Charset;)[B" } : Jvm.MethodName) jdk_42_method_64_code (2 : Nat) (Option.some (Jvm.ClassFile.FieldType.array Jvm.ClassFile.FieldType.byte))).before args0 about1 = true := code_word (m := ⟨7, 6⟩) (meth := k7m6) (c := k7c6) (by decide +kernel) rfl rfl rfl (by decide +kernel)
set_option maxRecDepth 65536 in
theorem w_c52 : (Jvm.Cond.code ({ cls := "java/lang/String", name := "encode", desc := "(Ljava/nio/charset/Charset;B[B)[B" } : Jvm.MethodName) jdk_42_method_18_code (3 : Nat) (Option.some (Jvm.ClassFile.FieldType.array Jvm.ClassFile.FieldType.byte))).before args0 about1 = true := code_word (m := ⟨7, 2⟩) (meth := k7m2) (c := k7c2) (by decide +kernel) rfl rfl rfl (by decide +kernel)
set_option maxRecDepth 65536 in
theorem w_c53 : (Jvm.Cond.code ({ cls := "java/lang/String", name := "encodeUTF8", desc := "(B[BZ)[B" } : Jvm.MethodName) jdk_42_method_46_code (9 : Nat) (Option.some (Jvm.ClassFile.FieldType.array Jvm.ClassFile.FieldType.byte))).before args0 about1 = true := code_word (m := ⟨7, 3⟩) (meth := k7m3) (c := k7c3) (by decide +kernel) rfl rfl rfl (by decide +kernel)
set_option maxRecDepth 65536 in
theorem w_c54 : (Jvm.Cond.code ({ cls := "java/lang/StringCoding", name := "hasNegatives", desc := "([BII)Z" } : Jvm.MethodName) jdk_123_method_2_code (3 : Nat) (Option.some Jvm.ClassFile.FieldType.boolean)).before args0 about1 = true := code_word (m := ⟨33, 1⟩) (meth := k33m1) (c := k33c1) (by decide +kernel) rfl rfl rfl (by decide +kernel)
set_option maxRecDepth 65536 in
theorem w_c55 : (Jvm.Cond.code ({ cls := "java/lang/StringCoding", name := "countPositives", desc := "([BII)I" } : Jvm.MethodName) jdk_123_method_3_code (5 : Nat) (Option.some Jvm.ClassFile.FieldType.int)).before args0 about1 = true := code_word (m := ⟨33, 2⟩) (meth := k33m2) (c := k33c2) (by decide +kernel) rfl rfl rfl (by decide +kernel)
set_option maxRecDepth 65536 in
theorem w_c56 : (Jvm.Cond.code ({ cls := "com/example/realmwright/realmwright/KeycloakRoles", name := "endGroup", desc := "(IILjava/lang/String;)V" } : Jvm.MethodName) prog_22_method_6_code (4 : Nat) (Option.none : Option Jvm.ClassFile.FieldType)).before args0 about1 = true := code_word (m := ⟨9, 3⟩) (meth := k9m3) (c := k9c3) (by decide +kernel) rfl rfl rfl (by decide +kernel)
set_option maxRecDepth 65536 in
theorem w_c57 : (Jvm.Cond.code ({ cls := "java/lang/StringUTF16", name := "newBytesFor", desc := "(I)[B" } : Jvm.MethodName) jdk_52_method_2_code (1 : Nat) (Option.some (Jvm.ClassFile.FieldType.array Jvm.ClassFile.FieldType.byte))).before args0 about1 = true := code_word (m := ⟨8, 1⟩) (meth := k8m1) (c := k8c1) (by decide +kernel) rfl rfl rfl (by decide +kernel)
set_option maxRecDepth 65536 in
theorem w_c58 : (Jvm.Cond.code ({ cls := "java/lang/StringUTF16", name := "newBytesLength", desc := "(I)I" } : Jvm.MethodName) jdk_52_method_3_code (1 : Nat) (Option.some Jvm.ClassFile.FieldType.int)).before args0 about1 = true := code_word (m := ⟨8, 2⟩) (meth := k8m2) (c := k8c2) (by decide +kernel) rfl rfl rfl (by decide +kernel)
set_option maxRecDepth 65536 in
theorem w_c59 : (Jvm.Cond.code ({ cls := "java/util/Arrays", name := "copyOf", desc := "([BI)[B" } : Jvm.MethodName) jdk_65_method_121_code (3 : Nat) (Option.some (Jvm.ClassFile.FieldType.array Jvm.ClassFile.FieldType.byte))).before args0 about1 = true := code_word (m := ⟨27, 1⟩) (meth := k27m1) (c := k27c1) (by decide +kernel) rfl rfl rfl (by decide +kernel)
def codes1 : List Jvm.Cond := [Jvm.Cond.code x code maxLocals ret, Jvm.Cond.code ({ cls := "java/lang/String", name := "<init>", desc := "([C)V" } : Jvm.MethodName) jdk_42_method_3_code (2 : Nat) (Option.none : Option Jvm.ClassFile.FieldType), Jvm.Cond.code ({ cls := "java/lang/String", name := "<init>", desc := "([CIILjava/lang/Void;)V" } : Jvm.MethodName) jdk_42_method_149_code (6 : Nat) (Option.none : Option Jvm.ClassFile.FieldType), Jvm.Cond.code ({ cls := "java/lang/Object", name := "<init>", desc := "()V" } : Jvm.MethodName) object_method_1_code (1 : Nat) (Option.none : Option Jvm.ClassFile.FieldType), Jvm.Cond.code ({ cls := "java/lang/StringUTF16", name := "compress", desc := "([CII)[B" } : Jvm.MethodName) jdk_52_method_16_code (6 : Nat) (Option.some (Jvm.ClassFile.FieldType.array Jvm.ClassFile.FieldType.byte)), Jvm.Cond.code ({ cls := "java/lang/StringUTF16", name := "compress", desc := "([CI[BII)I" } : Jvm.MethodName) jdk_52_method_21_code (7 : Nat) (Option.some Jvm.ClassFile.FieldType.int), Jvm.Cond.code ({ cls := "java/lang/StringUTF16", name := "coderFromArrayLen", desc := "([BI)B" } : Jvm.MethodName) jdk_52_method_15_code (2 : Nat) (Option.some Jvm.ClassFile.FieldType.byte), Jvm.Cond.code ({ cls := "com/example/realmwright/realmwright/KeycloakRoles", name := "<init>", desc := "()V" } : Jvm.MethodName) prog_22_method_1_code (1 : Nat) (Option.none : Option Jvm.ClassFile.FieldType), Jvm.Cond.code ({ cls := "com/example/realmwright/realmwright/ByteLog", name := "<init>", desc := "()V" } : Jvm.MethodName) prog_1_method_1_code (1 : Nat) (Option.none : Option Jvm.ClassFile.FieldType), Jvm.Cond.code ({ cls := "java/util/ArrayList", name := "<init>", desc := "()V" } : Jvm.MethodName) jdk_38_method_2_code (1 : Nat) (Option.none : Option Jvm.ClassFile.FieldType), Jvm.Cond.code ({ cls := "java/util/AbstractList", name := "<init>", desc := "()V" } : Jvm.MethodName) jdk_39_method_1_code (1 : Nat) (Option.none : Option Jvm.ClassFile.FieldType), Jvm.Cond.code ({ cls := "java/util/AbstractCollection", name := "<init>", desc := "()V" } : Jvm.MethodName) jdk_22_method_1_code (1 : Nat) (Option.none : Option Jvm.ClassFile.FieldType), Jvm.Cond.code ({ cls := "com/example/realmwright/realmwright/KeycloakRoles", name := "beginGroup", desc := "()I" } : Jvm.MethodName) prog_22_method_4_code (1 : Nat) (Option.some Jvm.ClassFile.FieldType.int), Jvm.Cond.code ({ cls := "com/example/realmwright/realmwright/KeycloakRoles", name := "addMapped", desc := "(ILjava/lang/String;Ljava/lang/String;)V" } : Jvm.MethodName) prog_22_method_5_code (4 : Nat) (Option.none : Option Jvm.ClassFile.FieldType), Jvm.Cond.code ({ cls := "com/example/realmwright/realmwright/ByteLog", name := "writeCount", desc := "(J)V" } : Jvm.MethodName) prog_1_method_2_code (5 : Nat) (Option.none : Option Jvm.ClassFile.FieldType), Jvm.Cond.code ({ cls := "com/example/realmwright/realmwright/ByteLog", name := "writeByte", desc := "(I)V" } : Jvm.MethodName) prog_1_method_10_code (2 : Nat) (Option.none : Option Jvm.ClassFile.FieldType), Jvm.Cond.code ({ cls := "com/example/realmwright/realmwright/ByteLog", name := "lastBlock", desc := "()[B" } : Jvm.MethodName) prog_1_method_11_code (2 : Nat) (Option.some (Jvm.ClassFile.FieldType.array Jvm.ClassFile.FieldType.byte)), Jvm.Cond.code ({ cls := "java/util/ArrayList", name := "isEmpty", desc := "()Z" } : Jvm.MethodName) jdk_38_method_9_code (1 : Nat) (Option.some Jvm.ClassFile.FieldType.boolean), Jvm.Cond.code ({ cls := "java/util/ArrayList", name := "add", desc := "(Ljava/lang/Object;)Z" } : Jvm.MethodName) jdk_38_method_25_code (2 : Nat) (Option.some Jvm.ClassFile.FieldType.boolean), Jvm.Cond.code ({ cls := "java/util/ArrayList", name := "add", desc := "(Ljava/lang/Object;[Ljava/lang/Object;I)V" } : Jvm.MethodName) jdk_38_method_24_code (4 : Nat) (Option.none : Option Jvm.ClassFile.FieldType), Jvm.Cond.code ({ cls := "java/util/ArrayList", name := "grow", desc := "()[Ljava/lang/Object;" } : Jvm.MethodName) jdk_38_method_7_code (1 : Nat) (Option.some (Jvm.ClassFile.FieldType.array (Jvm.ClassFile.FieldType.object "java/lang/Object"))), Jvm.Cond.code ({ cls := "java/util/ArrayList", name := "grow", desc := "(I)[Ljava/lang/Object;" } : Jvm.MethodName) jdk_38_method_6_code (4 : Nat) (Option.some (Jvm.ClassFile.FieldType.array (Jvm.ClassFile.FieldType.object "java/lang/Object"))), Jvm.Cond.code ({ cls := "java/lang/Math", name := "max", desc := "(II)I" } : Jvm.MethodName) jdk_29_method_65_code (2 : Nat) (Option.some Jvm.ClassFile.FieldType.int), Jvm.Cond.code ({ cls := "java/util/ArrayList", name := "size", desc := "()I" } : Jvm.MethodName) jdk_38_method_8_code (1 : Nat) (Option.some Jvm.ClassFile.FieldType.int), Jvm.Cond.code ({ cls := "java/util/ArrayList", name := "get", desc := "(I)Ljava/lang/Object;" } : Jvm.MethodName) jdk_38_method_20_code (2 : Nat) (Option.some (Jvm.ClassFile.FieldType.object "java/lang/Object")), Jvm.Cond.code ({ cls := "java/util/Objects", name := "checkIndex", desc := "(II)I" } : Jvm.MethodName) jdk_31_method_17_code (2 : Nat) (Option.some Jvm.ClassFile.FieldType.int), Jvm.Cond.code ({ cls := "jdk/internal/util/Preconditions", name := "checkIndex", desc := "(IILjava/util/function/BiFunction;)I" } : Jvm.MethodName) jdk_41_method_11_code (3 : Nat) (Option.some Jvm.ClassFile.FieldType.int), Jvm.Cond.code ({ cls := "java/util/ArrayList", name := "elementData", desc := "(I)Ljava/lang/Object;" } : Jvm.MethodName) jdk_38_method_18_code (2 : Nat) (Option.some (Jvm.ClassFile.FieldType.object "java/lang/Object")), Jvm.Cond.code ({ cls := "com/example/realmwright/realmwright/KeycloakRoles", name := "key", desc := "(Ljava/lang/String;Ljava/lang/String;)Ljava/lang/String;" } : Jvm.MethodName) prog_22_method_8_code (2 : Nat) (Option.some (Jvm.ClassFile.FieldType.object "java/lang/String")), Jvm.Cond.code ({ cls := "java/lang/StringBuilder", name := "<init>", desc := "()V" } : Jvm.MethodName) jdk_67_method_1_code (1 : Nat) (Option.none : Option Jvm.ClassFile.FieldType), Jvm.Cond.code ({ cls := "java/lang/AbstractStringBuilder", name := "<init>", desc := "(I)V" } : Jvm.MethodName) jdk_68_method_2_code (2 : Nat) (Option.none : Option Jvm.ClassFile.FieldType), Jvm.Cond.code ({ cls := "java/lang/StringBuilder", name := "append", desc := "(Ljava/lang/String;)Ljava/lang/StringBuilder;" } : Jvm.MethodName) jdk_67_method_7_code (2 : Nat) (Option.some (Jvm.ClassFile.FieldType.object "java/lang/StringBuilder")), Jvm.Cond.code ({ cls := "java/lang/AbstractStringBuilder", name := "append", desc := "(Ljava/lang/String;)Ljava/lang/AbstractStringBuilder;" } : Jvm.MethodName) jdk_68_method_22_code (3 : Nat) (Option.some (Jvm.ClassFile.FieldType.object "java/lang/AbstractStringBuilder")), Jvm.Cond.code ({ cls := "java/lang/String", name := "length", desc := "()I" } : Jvm.MethodName) jdk_42_method_54_code (1 : Nat) (Option.some Jvm.ClassFile.FieldType.int), Jvm.Cond.code ({ cls := "java/lang/String", name := "coder", desc := "()B" } : Jvm.MethodName) jdk_42_method_152_code (1 : Nat) (Option.some Jvm.ClassFile.FieldType.byte), Jvm.Cond.code ({ cls := "java/lang/AbstractStringBuilder", name := "ensureCapacityInternal", desc := "(I)V" } : Jvm.MethodName) jdk_68_method_9_code (3 : Nat) (Option.none : Option Jvm.ClassFile.FieldType), Jvm.Cond.code ({ cls := "java/lang/AbstractStringBuilder", name := "putStringAt", desc := "(ILjava/lang/String;)V" } : Jvm.MethodName) jdk_68_method_73_code (3 : Nat) (Option.none : Option Jvm.ClassFile.FieldType), Jvm.Cond.code ({ cls := "java/lang/AbstractStringBuilder", name := "inflateIfNeededFor", desc := "(Ljava/lang/String;)V" } : Jvm.MethodName) jdk_68_method_71_code (2 : Nat) (Option.none : Option Jvm.ClassFile.FieldType), Jvm.Cond.code ({ cls := "java/lang/String", name := "getBytes", desc := "([BIB)V" } : Jvm.MethodName) jdk_42_method_147_code (4 : Nat) (Option.none : Option Jvm.ClassFile.FieldType), Jvm.Cond.code ({ cls := "java/lang/StringBuilder", name := "toString", desc := "()Ljava/lang/String;" } : Jvm.MethodName) jdk_67_method_42_code (1 : Nat) (Option.some (Jvm.ClassFile.FieldType.object "java/lang/String")), Jvm.Cond.code ({ cls := "java/lang/String", name := "<init>", desc := "(Ljava/lang/StringBuilder;)V" } : Jvm.MethodName) jdk_42_method_53_code (2 : Nat) (Option.none : Option Jvm.ClassFile.FieldType), Jvm.Cond.code ({ cls := "java/lang/String", name := "<init>", desc := "(Ljava/lang/AbstractStringBuilder;Ljava/lang/Void;)V" } : Jvm.MethodName) jdk_42_method_150_code (5 : Nat) (Option.none : Option Jvm.ClassFile.FieldType), Jvm.Cond.code ({ cls := "java/lang/AbstractStringBuilder", name := "getValue", desc := "()[B" } : Jvm.MethodName) jdk_68_method_64_code (1 : Nat) (Option.some (Jvm.ClassFile.FieldType.array Jvm.ClassFile.FieldType.byte)), Jvm.Cond.code ({ cls := "java/lang/StringBuilder", name := "length", desc := "()I" } : Jvm.MethodName) jdk_67_method_93_code (1 : Nat) (Option.some Jvm.ClassFile.FieldType.int), Jvm.Cond.code ({ cls := "java/lang/AbstractStringBuilder", name := "length", desc := "()I" } : Jvm.MethodName) jdk_68_method_6_code (1 : Nat) (Option.some Jvm.ClassFile.FieldType.int), Jvm.Cond.code ({ cls := "java/lang/AbstractStringBuilder", name := "isLatin1", desc := "()Z" } : Jvm.MethodName) jdk_68_method_68_code (1 : Nat) (Option.some Jvm.ClassFile.FieldType.boolean), Jvm.Cond.code ({ cls := "java/util/Arrays", name := "copyOfRange", desc := "([BII)[B" } : Jvm.MethodName) jdk_65_method_132_code (3 : Nat) (Option.some (Jvm.ClassFile.FieldType.array Jvm.ClassFile.FieldType.byte)), Jvm.Cond.code ({ cls := "java/util/Arrays", name := "copyOfRangeByte", desc := "([BII)[B" } : Jvm.MethodName) jdk_65_method_133_code (5 : Nat) (Option.some (Jvm.ClassFile.FieldType.array Jvm.ClassFile.FieldType.byte)), Jvm.Cond.code ({ cls := "java/util/Arrays", name := "checkLength", desc := "(II)V" } : Jvm.MethodName) jdk_65_method_131_code (2 : Nat) (Option.none : Option Jvm.ClassFile.FieldType), Jvm.Cond.code ({ cls := "java/lang/Math", name := "min", desc := "(II)I" } : Jvm.MethodName) jdk_29_method_69_code (2 : Nat) (Option.some Jvm.ClassFile.FieldType.int), Jvm.Cond.code ({ cls := "com/example/realmwright/realmwright/ByteLog", name := "writeString", desc := "(Ljava/lang/String;)V" } : Jvm.MethodName) prog_1_method_3_code (6 : Nat) (Option.none : Option Jvm.ClassFile.FieldType), Jvm.Cond.code ({ cls := "java/lang/String", name := "getBytes", desc := "(Ljava/nio/charset/Charset;)[B" } : Jvm.MethodName) jdk_42_method_64_code (2 : Nat) (Option.some (Jvm.ClassFile.FieldType.array Jvm.ClassFile.FieldType.byte)), Jvm.Cond.code ({ cls := "java/lang/String", name := "encode", desc := "(Ljava/nio/charset/Charset;B[B)[B" } : Jvm.MethodName) jdk_42_method_18_code (3 : Nat) (Option.some (Jvm.ClassFile.FieldType.array Jvm.ClassFile.FieldType.byte)), Jvm.Cond.code ({ cls := "java/lang/String", name := "encodeUTF8", desc := "(B[BZ)[B" } : Jvm.MethodName) jdk_42_method_46_code (9 : Nat) (Option.some (Jvm.ClassFile.FieldType.array Jvm.ClassFile.FieldType.byte)), Jvm.Cond.code ({ cls := "java/lang/StringCoding", name := "hasNegatives", desc := "([BII)Z" } : Jvm.MethodName) jdk_123_method_2_code (3 : Nat) (Option.some Jvm.ClassFile.FieldType.boolean), Jvm.Cond.code ({ cls := "java/lang/StringCoding", name := "countPositives", desc := "([BII)I" } : Jvm.MethodName) jdk_123_method_3_code (5 : Nat) (Option.some Jvm.ClassFile.FieldType.int), Jvm.Cond.code ({ cls := "com/example/realmwright/realmwright/KeycloakRoles", name := "endGroup", desc := "(IILjava/lang/String;)V" } : Jvm.MethodName) prog_22_method_6_code (4 : Nat) (Option.none : Option Jvm.ClassFile.FieldType), Jvm.Cond.code ({ cls := "java/lang/StringUTF16", name := "newBytesFor", desc := "(I)[B" } : Jvm.MethodName) jdk_52_method_2_code (1 : Nat) (Option.some (Jvm.ClassFile.FieldType.array Jvm.ClassFile.FieldType.byte)), Jvm.Cond.code ({ cls := "java/lang/StringUTF16", name := "newBytesLength", desc := "(I)I" } : Jvm.MethodName) jdk_52_method_3_code (1 : Nat) (Option.some Jvm.ClassFile.FieldType.int), Jvm.Cond.code ({ cls := "java/util/Arrays", name := "copyOf", desc := "([BI)[B" } : Jvm.MethodName) jdk_65_method_121_code (3 : Nat) (Option.some (Jvm.ClassFile.FieldType.array Jvm.ClassFile.FieldType.byte))]
set_option maxRecDepth 65536 in
theorem codes_eq : words1.filter isCode = codes1 := rfl
theorem w_codes : ∀ c ∈ words1.filter isCode, c.before args0 about1 = true := by
  rw [codes_eq]
  intro c hc
  simp only [codes1, List.mem_cons, List.not_mem_nil, or_false] at hc
  rcases hc with rfl | rfl | rfl | rfl | rfl | rfl | rfl | rfl | rfl | rfl | rfl | rfl | rfl | rfl | rfl | rfl | rfl | rfl | rfl | rfl | rfl | rfl | rfl | rfl | rfl | rfl | rfl | rfl | rfl | rfl | rfl | rfl | rfl | rfl | rfl | rfl | rfl | rfl | rfl | rfl | rfl | rfl | rfl | rfl | rfl | rfl | rfl | rfl | rfl | rfl | rfl | rfl | rfl | rfl | rfl | rfl | rfl | rfl | rfl | rfl
  · exact w_c0
  · exact w_c1
  · exact w_c2
  · exact w_c3
  · exact w_c4
  · exact w_c5
  · exact w_c6
  · exact w_c7
  · exact w_c8
  · exact w_c9
  · exact w_c10
  · exact w_c11
  · exact w_c12
  · exact w_c13
  · exact w_c14
  · exact w_c15
  · exact w_c16
  · exact w_c17
  · exact w_c18
  · exact w_c19
  · exact w_c20
  · exact w_c21
  · exact w_c22
  · exact w_c23
  · exact w_c24
  · exact w_c25
  · exact w_c26
  · exact w_c27
  · exact w_c28
  · exact w_c29
  · exact w_c30
  · exact w_c31
  · exact w_c32
  · exact w_c33
  · exact w_c34
  · exact w_c35
  · exact w_c36
  · exact w_c37
  · exact w_c38
  · exact w_c39
  · exact w_c40
  · exact w_c41
  · exact w_c42
  · exact w_c43
  · exact w_c44
  · exact w_c45
  · exact w_c46
  · exact w_c47
  · exact w_c48
  · exact w_c49
  · exact w_c50
  · exact w_c51
  · exact w_c52
  · exact w_c53
  · exact w_c54
  · exact w_c55
  · exact w_c56
  · exact w_c57
  · exact w_c58
  · exact w_c59
set_option maxRecDepth 65536 in
theorem w_t1 : (words1.take 24).all (fun c => isCode c || c.before args0 about1) = true := by decide +kernel
set_option maxRecDepth 65536 in
theorem w_t2 : ((words1.drop 24).take 24).all (fun c => isCode c || c.before args0 about1) = true := by decide +kernel
set_option maxRecDepth 65536 in
theorem w_t3 : (((words1.drop 24).drop 24).take 24).all (fun c => isCode c || c.before args0 about1) = true := by decide +kernel
set_option maxRecDepth 65536 in
theorem w_t4 : ((((words1.drop 24).drop 24).drop 24).take 24).all (fun c => isCode c || c.before args0 about1) = true := by decide +kernel
set_option maxRecDepth 65536 in
theorem w_t5 : (((((words1.drop 24).drop 24).drop 24).drop 24).take 24).all (fun c => isCode c || c.before args0 about1) = true := by decide +kernel
set_option maxRecDepth 65536 in
theorem w_t6 : ((((((words1.drop 24).drop 24).drop 24).drop 24).drop 24).take 24).all (fun c => isCode c || c.before args0 about1) = true := by decide +kernel
set_option maxRecDepth 65536 in
theorem w_t7 : (((((((words1.drop 24).drop 24).drop 24).drop 24).drop 24).drop 24).take 24).all (fun c => isCode c || c.before args0 about1) = true := by decide +kernel
set_option maxRecDepth 65536 in
theorem w_t8 : ((((((((words1.drop 24).drop 24).drop 24).drop 24).drop 24).drop 24).drop 24).take 24).all (fun c => isCode c || c.before args0 about1) = true := by decide +kernel
set_option maxRecDepth 65536 in
theorem w_t9 : (((((((((words1.drop 24).drop 24).drop 24).drop 24).drop 24).drop 24).drop 24).drop 24).take 24).all (fun c => isCode c || c.before args0 about1) = true := by decide +kernel
set_option maxRecDepth 65536 in
theorem w_t10 : ((((((((((words1.drop 24).drop 24).drop 24).drop 24).drop 24).drop 24).drop 24).drop 24).drop 24).take 24).all (fun c => isCode c || c.before args0 about1) = true := by decide +kernel
set_option maxRecDepth 65536 in
theorem w_t11 : (((((((((((words1.drop 24).drop 24).drop 24).drop 24).drop 24).drop 24).drop 24).drop 24).drop 24).drop 24).take 24).all (fun c => isCode c || c.before args0 about1) = true := by decide +kernel
set_option maxRecDepth 65536 in
theorem w_t12 : ((((((((((((words1.drop 24).drop 24).drop 24).drop 24).drop 24).drop 24).drop 24).drop 24).drop 24).drop 24).drop 24).take 24).all (fun c => isCode c || c.before args0 about1) = true := by decide +kernel
set_option maxRecDepth 65536 in
theorem w_t13 : (((((((((((((words1.drop 24).drop 24).drop 24).drop 24).drop 24).drop 24).drop 24).drop 24).drop 24).drop 24).drop 24).drop 24).take 24).all (fun c => isCode c || c.before args0 about1) = true := by decide +kernel
set_option maxRecDepth 65536 in
theorem w_t14 : ((((((((((((((words1.drop 24).drop 24).drop 24).drop 24).drop 24).drop 24).drop 24).drop 24).drop 24).drop 24).drop 24).drop 24).drop 24).take 24).all (fun c => isCode c || c.before args0 about1) = true := by decide +kernel
set_option maxRecDepth 65536 in
theorem w_t15 : ((((((((((((((words1.drop 24).drop 24).drop 24).drop 24).drop 24).drop 24).drop 24).drop 24).drop 24).drop 24).drop 24).drop 24).drop 24).drop 24).all (fun c => isCode c || c.before args0 about1) = true := by decide +kernel
theorem w_tables : (allAtoms (Jvm.Cond.code x code maxLocals ret :: tables_1)).before args0 about1 = true := by
  rw [allAtoms_all]
  show words1.all (fun c => c.before args0 about1) = true
  refine all_split ?_ w_codes
  rw [← List.take_append_drop 24 words1, List.all_append, w_t1, ← List.take_append_drop 24 (words1.drop 24), List.all_append, w_t2, ← List.take_append_drop 24 ((words1.drop 24).drop 24), List.all_append, w_t3, ← List.take_append_drop 24 (((words1.drop 24).drop 24).drop 24), List.all_append, w_t4, ← List.take_append_drop 24 ((((words1.drop 24).drop 24).drop 24).drop 24), List.all_append, w_t5, ← List.take_append_drop 24 (((((words1.drop 24).drop 24).drop 24).drop 24).drop 24), List.all_append, w_t6, ← List.take_append_drop 24 ((((((words1.drop 24).drop 24).drop 24).drop 24).drop 24).drop 24), List.all_append, w_t7, ← List.take_append_drop 24 (((((((words1.drop 24).drop 24).drop 24).drop 24).drop 24).drop 24).drop 24), List.all_append, w_t8, ← List.take_append_drop 24 ((((((((words1.drop 24).drop 24).drop 24).drop 24).drop 24).drop 24).drop 24).drop 24), List.all_append, w_t9, ← List.take_append_drop 24 (((((((((words1.drop 24).drop 24).drop 24).drop 24).drop 24).drop 24).drop 24).drop 24).drop 24), List.all_append, w_t10, ← List.take_append_drop 24 ((((((((((words1.drop 24).drop 24).drop 24).drop 24).drop 24).drop 24).drop 24).drop 24).drop 24).drop 24), List.all_append, w_t11, ← List.take_append_drop 24 (((((((((((words1.drop 24).drop 24).drop 24).drop 24).drop 24).drop 24).drop 24).drop 24).drop 24).drop 24).drop 24), List.all_append, w_t12, ← List.take_append_drop 24 ((((((((((((words1.drop 24).drop 24).drop 24).drop 24).drop 24).drop 24).drop 24).drop 24).drop 24).drop 24).drop 24).drop 24), List.all_append, w_t13, ← List.take_append_drop 24 (((((((((((((words1.drop 24).drop 24).drop 24).drop 24).drop 24).drop 24).drop 24).drop 24).drop 24).drop 24).drop 24).drop 24).drop 24), List.all_append, w_t14, w_t15]
  rfl
set_option maxRecDepth 65536 in
theorem w_rest : rest_1_c.before args0 about1 = true := by decide +kernel
set_option maxRecDepth 65536 in
theorem w_case : (Jvm.Cond.and given_1 narrow_1).before args0 about1 = true := by decide +kernel
set_option maxRecDepth 65536 in
theorem w_consts : constsHeld consts_1 about1 := Jvm.Lit.constsHeldB_iff.mp (by decide +kernel)
theorem w_applies : (headSpec (Jvm.Cond.code x code maxLocals ret :: tables_1) room_1).applies x e0.platform about1 = true :=
  (Spec.applies_iff w_frames).mpr ⟨w_running, w_runnable, w_alone, w_named, w_hears, w_ripe, w_room, w_tables⟩
theorem atStart : AtStart classFile x code maxLocals ret World_1 tables_1 room_1 Calls_1 rest_1 Pre_1 launch0 p0 e0 about1 theMethod args0 below0 :=
  ⟨lists_1, trivial, launch0.admits_env _ _ _, launch0.least_env, fairChoices_fair.cas, fairChoices_fair.clock, w_frames, w_args, w_heap, w_applies, ⟨w_consts, trivial⟩, w_rest, w_case⟩
end start1
theorem witness_1 : WitnessClaimed_1 := ⟨start1.p0, start1.e0, start1.about1, start1.theMethod, start1.args0, start1.below0, start1.atStart⟩
end Jvm.Pilot.@@N@@
