import JvmDerived
import JvmDerived.Pilot.@@N@@Statement
import JvmDerived.Pilot.@@N@@Code
set_option linter.unusedVariables false
set_option linter.unusedSimpArgs false
/- laws to paste: Road.backV, Road.eqW, Road.codOf (cut by pick.py; bodies as the Statement names them) -/
namespace Jvm.Pilot.@@N@@
namespace StrChars
open Jvm Sem ClassFile Op Lib Jvm.Stand Jvm.Free.XT Jvm.Free.ALB Jvm.Free.JM Jvm.Free
open Jvm.Lib.Cold (StaticIs)
/-- a char array whose places are chars -/
def Ch (a : Addr) (A : Cell) (U : State) : Prop := Arr .char a A U ∧ Typed .char A
theorem Ch.mv {a : Addr} {A : Cell} {U U' : State} (h : Ch a A U) (hal : U.vm.Alike U'.vm) (hh : U'.heap = U.heap) : Ch a A U' := ⟨h.1.mv hal hh, h.2⟩
theorem Ch.keep {a : Addr} {A : Cell} {U U' : State} (h : Ch a A U) (hal : U.vm.Alike U'.vm) (hk : U'.heap[a]? = some A) : Ch a A U' := ⟨h.1.keep hal hk, h.2⟩
/-- what place i of a char[]'s cell holds -/
def cv (A : Cell) (i : Nat) : Int32 := match A.slots[i]? with | some (.int x) => x | _ => 0
theorem Ch.get {a : Addr} {A : Cell} {U : State} (h : Ch a A U) {i : Nat} (hi : i < A.slots.size) : A.slots[i]? = some (.int (cv A i)) := by
  have e := Array.getElem?_eq_getElem hi
  have f := h.2 i _ e
  unfold cv; rw [e]
  generalize A.slots[i] = v at f
  cases v <;> simp [fits] at f ⊢
/-- the byte that i2b leaves of a char -/
def lo8 (x : Int32) : Int32 := x.toInt8.toInt32
theorem fits_lo8 (y : Int32) : fits .byte (.int (lo8 y)) = true := by
  have h1 := y.toInt8.le_toInt
  have h2 := y.toInt8.toInt_lt
  simp only [lo8, fits, Bool.and_eq_true, decide_eq_true_eq, Int32.le_iff_toInt_le, Int8.toInt_toInt32, show (-128 : Int32).toInt = -128 from by decide, show (127 : Int32).toInt = 127 from by decide]
  omega
/-- A' is A but that each place j of lo .. hi - 1 holds f j -/
def Laid (A A' : Cell) (lo hi : Nat) (f : Nat → Value) : Prop := A'.cls = A.cls ∧ A'.vm = A.vm ∧ A'.slots.size = A.slots.size ∧ ∀ i, A'.slots[i]? = if lo ≤ i ∧ i < hi then some (f i) else A.slots[i]?
theorem Laid.zero (A : Cell) (lo : Nat) (f : Nat → Value) : Laid A A lo (lo + 0) f := ⟨rfl, rfl, rfl, fun i => by rw [if_neg (by omega)]⟩
theorem Laid.step {A Ak : Cell} {lo k : Nat} {f : Nat → Value} {v : Value} (h : Laid A Ak lo k f) (hlo : lo ≤ k) (hk : k < Ak.slots.size) (hv : v = f k) : Laid A (Ak.setSlot k v) lo (k + 1) f := by
  refine ⟨h.1, h.2.1, by simpa [Cell.setSlot] using h.2.2.1, fun i => ?_⟩
  by_cases e : k = i
  · subst e; rw [Cell.slots_setSlot_self v hk, if_pos (by omega), hv]
  · rw [Cell.slots_setSlot_ne v e, h.2.2.2 i]
    by_cases q : lo ≤ i ∧ i < k
    · rw [if_pos q, if_pos (by omega)]
    · rw [if_neg q, if_neg (by omega)]
def U16 : String := "java/lang/StringUTF16"
namespace Cmp5
def yN : MethodName := ⟨"java/lang/StringUTF16", "compress", "([CI[BII)I"⟩
abbrev yB : ByteArray := jdk_52_method_21_code
theorem d0 : decode yB 0 = .ok (.iconst 0, 1) := by decide +kernel
theorem d1 : decode yB 1 = .ok (.istore 5, 2) := by decide +kernel
theorem d3 : decode yB 3 = .ok (.iload 5, 2) := by decide +kernel
theorem d5 : decode yB 5 = .ok (.iload 4, 2) := by decide +kernel
theorem d7 : decode yB 7 = .ok (.if_icmp (.ge) 37, 3) := by decide +kernel
theorem d10 : decode yB 10 = .ok (.aload_n 0, 1) := by decide +kernel
theorem d11 : decode yB 11 = .ok (.iload_n 1, 1) := by decide +kernel
theorem d12 : decode yB 12 = .ok (.caload, 1) := by decide +kernel
theorem d13 : decode yB 13 = .ok (.istore 6, 2) := by decide +kernel
theorem d15 : decode yB 15 = .ok (.iload 6, 2) := by decide +kernel
theorem d17 : decode yB 17 = .ok (.sipush 255, 3) := by decide +kernel
theorem d20 : decode yB 20 = .ok (.if_icmp (.le) 6, 3) := by decide +kernel
theorem d26 : decode yB 26 = .ok (.aload_n 2, 1) := by decide +kernel
theorem d27 : decode yB 27 = .ok (.iload_n 3, 1) := by decide +kernel
theorem d28 : decode yB 28 = .ok (.iload 6, 2) := by decide +kernel
theorem d30 : decode yB 30 = .ok (.i2b, 1) := by decide +kernel
theorem d31 : decode yB 31 = .ok (.bastore, 1) := by decide +kernel
theorem d32 : decode yB 32 = .ok (.iinc 1 1, 3) := by decide +kernel
theorem d35 : decode yB 35 = .ok (.iinc 3 1, 3) := by decide +kernel
theorem d38 : decode yB 38 = .ok (.iinc 5 1, 3) := by decide +kernel
theorem d41 : decode yB 41 = .ok (.goto (-38), 3) := by decide +kernel
theorem d44 : decode yB 44 = .ok (.iload 4, 2) := by decide +kernel
theorem d46 : decode yB 46 = .ok (.ireturn, 1) := by decide +kernel
def site : List Cond := []
def tab : Cond := tabOf yN yB 7 (some .int) site
def P (b : Addr) (A : Cell) (d : Addr) (B : Cell) (o q len : Nat) (args : Array Value) (s : State) : Prop := args = #[.ref b, .int (Int32.ofNat o), .ref d, .int (Int32.ofNat q), .int (Int32.ofNat len)] ∧ Ch b A s ∧ Arr .byte d B s ∧ b ≠ d ∧ o + len ≤ A.slots.size ∧ q + len ≤ B.slots.size ∧ ∀ i, i < len → ¬ 255 < cv A (o + i)
def E (b : Addr) (A : Cell) (d : Addr) (B : Cell) (o q len : Nat) (r : Option Value) (s u : State) : Prop := r = some (.int (Int32.ofNat len)) ∧ ∃ B', Put d B' s u ∧ Laid B B' q (q + len) (fun j => Value.int (lo8 (cv A (o + (j - q)))))
/-- no char of the range above 255: len; the places written hold each char's low byte -/
theorem law (l : Launch) (b : Addr) (A : Cell) (d : Addr) (B : Cell) (o q len : Nat) : Law l yN 5 5 0 0 yB 7 (some .int) site (P b A d B o q len) (E b A d B o q len) (copyLocs d q len) 0 0 := by
  refine Law.of_walk (plainFor_of_name (by decide +kernel)) (by decide +kernel) (by decide +kernel) (by decide) (fun _ _ h => by rw [h.1]; rfl) (fun _ U U' hal hh h => ⟨h.1, h.2.1.mv hal hh, h.2.2.1.mv hal hh, h.2.2.2⟩) (fun r U U' V V' h1 hal h2 h => ⟨h.1, h.2.elim fun B' q => ⟨B', q.1.mv h1 h2, q.2⟩⟩) ?_
  intro p e s m args below meth c s₁ X0 hexec hbytes hml hret hlk hnm hown hh0 W hP
  obtain ⟨rfl, hA, hB, hne, l1, l2, hp⟩ := hP
  have c1 : Steps p.tables e below (s₁.setTop (entryFrame m #[.ref b, .int (Int32.ofNat o), .ref d, .int (Int32.ofNat q), .int (Int32.ofNat len)] 7)) (s₁.setTop (mkF m 0 #[.val (.ref b), .val (.int (Int32.ofNat o)), .val (.ref d), .val (.int (Int32.ofNat q)), .val (.int (Int32.ofNat len)), .unset, .unset] [])) := entry rfl
  have hA0 := hA.1.mv X0.warmed.alike hh0
  have hB0 := hB.mv X0.warmed.alike hh0
  have a31 := hA.1.2.2.2
  have c2 : Steps p.tables e below (s₁.setTop (entryFrame m #[.ref b, .int (Int32.ofNat o), .ref d, .int (Int32.ofNat q), .int (Int32.ofNat len)] 7)) (s₁.setTop (mkF m 3 #[.val (.ref b), .val (.int (Int32.ofNat o)), .val (.ref d), .val (.int (Int32.ofNat q)), .val (.int (Int32.ofNat len)), .val (.int 0), .unset] [])) := c1.trans (by
    refine iconstV X0.here hexec rfl 0 (hb hbytes d0) (by decide) ?_
    refine XS.istore X0.here hexec rfl (hb hbytes d1) rfl rfl ?_
    exact Steps.refl _)
  have loop : ∀ (r i : Nat), i + r = len → ∀ (z : Slot), (z = .unset ∨ ∃ w, z = .val w ∧ w.category = 1) → ∀ (Tl : State) (Bk : Cell), Stand p l e { frames := 0, locals := 0, cells := 0, slots := 0 } s m #[.ref b, .int (Int32.ofNat o), .ref d, .int (Int32.ofNat q), .int (Int32.ofNat len)] below meth c Tl ([] ++ copyLocs d q i) 0 0 → Put d Bk s₁ Tl → Laid B Bk q (q + i) (fun j => Value.int (lo8 (cv A (o + (j - q))))) →
      Steps p.tables e below (s₁.setTop (entryFrame m #[.ref b, .int (Int32.ofNat o), .ref d, .int (Int32.ofNat q), .int (Int32.ofNat len)] 7)) (Tl.setTop (mkF m 3 #[.val (.ref b), .val (.int (Int32.ofNat (o + i))), .val (.ref d), .val (.int (Int32.ofNat (q + i))), .val (.int (Int32.ofNat len)), .val (.int (Int32.ofNat i)), z] [])) → ∃ (T' : State) (B' : Cell) (z' : Slot), Stand p l e { frames := 0, locals := 0, cells := 0, slots := 0 } s m #[.ref b, .int (Int32.ofNat o), .ref d, .int (Int32.ofNat q), .int (Int32.ofNat len)] below meth c T' ([] ++ copyLocs d q len) 0 0 ∧ Put d B' s₁ T' ∧ Laid B B' q (q + len) (fun j => Value.int (lo8 (cv A (o + (j - q))))) ∧
      Steps p.tables e below (s₁.setTop (entryFrame m #[.ref b, .int (Int32.ofNat o), .ref d, .int (Int32.ofNat q), .int (Int32.ofNat len)] 7)) (T'.setTop (mkF m 3 #[.val (.ref b), .val (.int (Int32.ofNat (o + len))), .val (.ref d), .val (.int (Int32.ofNat (q + len))), .val (.int (Int32.ofNat len)), .val (.int (Int32.ofNat len)), z'] [])) := by
    intro r
    induction r with
    | zero =>
      intro i hi z hz Tl Bk Xl pl fl cl
      have hil : i = len := by omega
      rw [hil] at Xl fl cl
      exact ⟨Tl, Bk, z, Xl, pl, fl, cl⟩
    | succ r ih =>
      intro i hi z hz Tl Bk Xl pl fl cl
      have all := X0.warmed.alike.symm.trans Xl.warmed.alike
      have hAl := hA0.keep all (pl.other hne hA0.1)
      have hBk := hB0.like all pl.1 fl.1 fl.2.1 fl.2.2.1
      have hlt : q + i < Bk.slots.size := by rw [fl.2.2.1]; omega
      have c3 : Steps p.tables e below (s₁.setTop (entryFrame m #[.ref b, .int (Int32.ofNat o), .ref d, .int (Int32.ofNat q), .int (Int32.ofNat len)] 7)) (Tl.setTop (mkF m 12 #[.val (.ref b), .val (.int (Int32.ofNat (o + i))), .val (.ref d), .val (.int (Int32.ofNat (q + i))), .val (.int (Int32.ofNat len)), .val (.int (Int32.ofNat i)), z] [.int (Int32.ofNat (o + i)), .ref b])) := cl.trans (by
        refine XS.iload Xl.here hexec rfl (hb hbytes d3) rfl ?_
        refine XS.iload Xl.here hexec rfl (hb hbytes d5) rfl ?_
        refine XS.icmpNo Xl.here hexec rfl (hb hbytes d7) rfl (ii_ge_f (lt32 (by omega) (by omega))) ?_
        refine XS.aloadN Xl.here hexec rfl (hb hbytes d10) rfl rfl ?_
        refine XS.iloadN Xl.here hexec rfl (hb hbytes d11) rfl ?_
        exact Steps.refl _)
      have c4 : Steps p.tables e below (s₁.setTop (entryFrame m #[.ref b, .int (Int32.ofNat o), .ref d, .int (Int32.ofNat q), .int (Int32.ofNat len)] 7)) (Tl.setTop (mkF m 13 #[.val (.ref b), .val (.int (Int32.ofNat (o + i))), .val (.ref d), .val (.int (Int32.ofNat (q + i))), .val (.int (Int32.ofNat len)), .val (.int (Int32.ofNat i)), z] [.int (cv A (o + i))])) := c3.trans (by
        refine Xl.aget hexec hAl rfl (hA.get (i := o + i) (by omega)) rfl rfl (hb hbytes d12) ?_
        exact Steps.refl _)
      have c5 : Steps p.tables e below (s₁.setTop (entryFrame m #[.ref b, .int (Int32.ofNat o), .ref d, .int (Int32.ofNat q), .int (Int32.ofNat len)] 7)) (Tl.setTop (mkF m 15 #[.val (.ref b), .val (.int (Int32.ofNat (o + i))), .val (.ref d), .val (.int (Int32.ofNat (q + i))), .val (.int (Int32.ofNat len)), .val (.int (Int32.ofNat i)), .val (.int (cv A (o + i)))] [])) := c4.trans (by
        refine XS.istoreS Xl.here hexec rfl (hb hbytes d13) rfl rfl hz ?_
        exact Steps.refl _)
      have c6 : Steps p.tables e below (s₁.setTop (entryFrame m #[.ref b, .int (Int32.ofNat o), .ref d, .int (Int32.ofNat q), .int (Int32.ofNat len)] 7)) (Tl.setTop (mkF m 31 #[.val (.ref b), .val (.int (Int32.ofNat (o + i))), .val (.ref d), .val (.int (Int32.ofNat (q + i))), .val (.int (Int32.ofNat len)), .val (.int (Int32.ofNat i)), .val (.int (cv A (o + i)))] [.int (lo8 (cv A (o + i))), .int (Int32.ofNat (q + i)), .ref d])) := c5.trans (by
        refine XS.iload Xl.here hexec rfl (hb hbytes d15) rfl ?_
        refine sipushV Xl.here hexec rfl 255 (hb hbytes d17) (by decide) ?_
        refine XS.icmpYes Xl.here hexec rfl (pc0 := 20) rfl (hb hbytes d20) rfl (ii_le_t (hp i (by omega))) (by decide) rfl ?_
        refine XS.aloadN Xl.here hexec rfl (hb hbytes d26) rfl rfl ?_
        refine XS.iloadN Xl.here hexec rfl (hb hbytes d27) rfl ?_
        refine XS.iload Xl.here hexec rfl (hb hbytes d28) rfl ?_
        refine i2b Xl.here hexec rfl (hb hbytes d30) rfl ?_
        exact Steps.refl _)
      obtain ⟨T7, X7, p7, st7⟩ := Xl.aput hexec hBk rfl hlt rfl (fits_lo8 (cv A (o + i))) (g := (mkF m 31 #[.val (.ref b), .val (.int (Int32.ofNat (o + i))), .val (.ref d), .val (.int (Int32.ofNat (q + i))), .val (.int (Int32.ofNat len)), .val (.int (Int32.ofNat i)), .val (.int (cv A (o + i)))] [.int (lo8 (cv A (o + i))), .int (Int32.ofNat (q + i)), .ref d])) rfl (rest := []) rfl (hb hbytes d31)
      have c8 : Steps p.tables e below (s₁.setTop (entryFrame m #[.ref b, .int (Int32.ofNat o), .ref d, .int (Int32.ofNat q), .int (Int32.ofNat len)] 7)) (T7.setTop (mkF m 32 #[.val (.ref b), .val (.int (Int32.ofNat (o + i))), .val (.ref d), .val (.int (Int32.ofNat (q + i))), .val (.int (Int32.ofNat len)), .val (.int (Int32.ofNat i)), .val (.int (cv A (o + i)))] [])) := c6.trans (st7 _ (Steps.refl _))
      have c9 : Steps p.tables e below (s₁.setTop (entryFrame m #[.ref b, .int (Int32.ofNat o), .ref d, .int (Int32.ofNat q), .int (Int32.ofNat len)] 7)) (T7.setTop (mkF m 3 #[.val (.ref b), .val (.int (Int32.ofNat (o + i) + 1)), .val (.ref d), .val (.int (Int32.ofNat (q + i) + 1)), .val (.int (Int32.ofNat len)), .val (.int (Int32.ofNat i + 1)), .val (.int (cv A (o + i)))] [])) := c8.trans (by
        refine iincV X7.here hexec rfl 1 (hb hbytes d32) (by decide) rfl rfl ?_
        refine iincV X7.here hexec rfl 1 (hb hbytes d35) (by decide) rfl rfl ?_
        refine iincV X7.here hexec rfl 1 (hb hbytes d38) (by decide) rfl rfl ?_
        refine XS.goto X7.here hexec rfl (pc0 := 41) rfl (hb hbytes d41) (by decide) rfl ?_
        exact Steps.refl _)
      have c10 : Steps p.tables e below (s₁.setTop (entryFrame m #[.ref b, .int (Int32.ofNat o), .ref d, .int (Int32.ofNat q), .int (Int32.ofNat len)] 7)) (T7.setTop (mkF m 3 #[.val (.ref b), .val (.int (Int32.ofNat (o + (i + 1)))), .val (.ref d), .val (.int (Int32.ofNat (q + (i + 1)))), .val (.int (Int32.ofNat len)), .val (.int (Int32.ofNat (i + 1))), .val (.int (cv A (o + i)))] [])) := by
        have := c9
        rw [succ32, succ32, succ32] at this
        exact this
      exact ih (i + 1) (by omega) _ (Or.inr ⟨_, rfl, rfl⟩) T7 _ (by rw [copyLocs_step, ← List.append_assoc]; exact X7) (pl.trans p7) (fl.step (by omega) hlt (by simp)) c10
  obtain ⟨T9, B9, z9, X9, p9, f9, g9⟩ := loop len 0 (by omega) .unset (Or.inl rfl) s₁ B (by simpa [copyLocs] using X0) ⟨hB0.1, fun _ _ => rfl, rfl⟩ (Laid.zero _ _ _) c2
  have c11 : Steps p.tables e below (s₁.setTop (entryFrame m #[.ref b, .int (Int32.ofNat o), .ref d, .int (Int32.ofNat q), .int (Int32.ofNat len)] 7)) (T9.setTop (mkF m 46 #[.val (.ref b), .val (.int (Int32.ofNat (o + len))), .val (.ref d), .val (.int (Int32.ofNat (q + len))), .val (.int (Int32.ofNat len)), .val (.int (Int32.ofNat len)), z9] [.int (Int32.ofNat len)])) := g9.trans (by
    refine XS.iload X9.here hexec rfl (hb hbytes d3) rfl ?_
    refine XS.iload X9.here hexec rfl (hb hbytes d5) rfl ?_
    refine XS.icmpYes X9.here hexec rfl (pc0 := 7) rfl (hb hbytes d7) rfl (ii_ge_t (nlt32 (by omega) (Nat.le_refl _))) (by decide) rfl ?_
    refine XS.iload X9.here hexec rfl (hb hbytes d44) rfl ?_
    exact Steps.refl _)
  exact ⟨T9, some (.int (Int32.ofNat len)), _, _, _, X9, by simp, rfl, rfl, (fun h => by cases h), ⟨rfl, B9, p9.from hh0, f9⟩, fun fs hl => c11.trans (X9.ireturnOut hexec hret rfl (Or.inl rfl) (hb hbytes d46) hl)⟩
end Cmp5
namespace Cmp3
def yN : MethodName := ⟨"java/lang/StringUTF16", "compress", "([CII)[B"⟩
abbrev yB : ByteArray := jdk_52_method_16_code
theorem d0 : decode yB 0 = .ok (.iload_n 2, 1) := by decide +kernel
theorem d1 : decode yB 1 = .ok (.newarray .byte, 2) := by decide +kernel
theorem d3 : decode yB 3 = .ok (.astore_n 3, 1) := by decide +kernel
theorem d4 : decode yB 4 = .ok (.aload_n 0, 1) := by decide +kernel
theorem d5 : decode yB 5 = .ok (.iload_n 1, 1) := by decide +kernel
theorem d6 : decode yB 6 = .ok (.aload_n 3, 1) := by decide +kernel
theorem d7 : decode yB 7 = .ok (.iconst 0, 1) := by decide +kernel
theorem d8 : decode yB 8 = .ok (.iload_n 2, 1) := by decide +kernel
theorem d9 : decode yB 9 = .ok (.invokestatic 115, 3) := by decide +kernel
theorem d12 : decode yB 12 = .ok (.istore 4, 2) := by decide +kernel
theorem d14 : decode yB 14 = .ok (.iload 4, 2) := by decide +kernel
theorem d16 : decode yB 16 = .ok (.iload_n 2, 1) := by decide +kernel
theorem d17 : decode yB 17 = .ok (.if_icmp (.eq) 40, 3) := by decide +kernel
theorem d57 : decode yB 57 = .ok (.aload_n 3, 1) := by decide +kernel
theorem d58 : decode yB 58 = .ok (.areturn, 1) := by decide +kernel
def site : List Cond := [.arrayClass .byte, Cmp5.tab] ++ staticW U16 115 Cmp5.yN
def tab : Cond := tabOf yN yB 6 (some (.array .byte)) site
def P (b : Addr) (A : Cell) (o len : Nat) (args : Array Value) (s : State) : Prop := args = #[.ref b, .int (Int32.ofNat o), .int (Int32.ofNat len)] ∧ Ch b A s ∧ o + len ≤ A.slots.size ∧ len ≤ 536870912 ∧ ∀ i, i < len → ¬ 255 < cv A (o + i)
def E (b : Addr) (A : Cell) (o len : Nat) (r : Option Value) (s u : State) : Prop := NewArr .byte "[B" len (fun j => .int (lo8 (cv A (o + j)))) r s u ∧ u.heap.size = s.heap.size + 1
/-- no char of the range above 255: a new byte[] of their low bytes -/
theorem law (l : Launch) (b : Addr) (A : Cell) (o len : Nat) : Law l yN 3 3 1 18 yB 6 (some (.array .byte)) site (P b A o len) (E b A o len) [] 1 len := by
  refine Law.of_walk (plainFor_of_name (by decide +kernel)) (by decide +kernel) (by decide +kernel) (by decide) (fun _ _ h => by rw [h.1]; rfl) (fun _ U U' hal hh h => ⟨h.1, h.2.1.mv hal hh, h.2.2⟩) (fun r U U' V V' h1 hal h2 h => ⟨NewArr.mv r U U' V V' h1 hal h2 h.1, by rw [h1, h2]; exact h.2⟩) ?_
  intro p e s m args below meth c s₁ X0 hexec hbytes hml hret hlk hnm hown hh0 W hP
  obtain ⟨rfl, hA, l1, l2, hp⟩ := hP
  have a31 := hA.1.2.2.2
  have c1 : Steps p.tables e below (s₁.setTop (entryFrame m #[.ref b, .int (Int32.ofNat o), .int (Int32.ofNat len)] 6)) (s₁.setTop (mkF m 0 #[.val (.ref b), .val (.int (Int32.ofNat o)), .val (.int (Int32.ofNat len)), .unset, .unset, .unset] [])) := entry rfl
  have c2 : Steps p.tables e below (s₁.setTop (entryFrame m #[.ref b, .int (Int32.ofNat o), .int (Int32.ofNat len)] 6)) (s₁.setTop (mkF m 1 #[.val (.ref b), .val (.int (Int32.ofNat o)), .val (.int (Int32.ofNat len)), .unset, .unset, .unset] [.int (Int32.ofNat len)])) := c1.trans (by
    refine XS.iloadN X0.here hexec rfl (hb hbytes d0) rfl ?_
    exact Steps.refl _)
  obtain ⟨T3, B3, X3, ba3, bs3, bv3, bh3, bf3, st3⟩ := X0.anew hexec (atype := .byte) (wk W (.arrayClass .byte)) rfl (by show len * 1 ≤ _; omega) (by omega) (g := (mkF m 1 #[.val (.ref b), .val (.int (Int32.ofNat o)), .val (.int (Int32.ofNat len)), .unset, .unset, .unset] [.int (Int32.ofNat len)])) rfl (hb hbytes d1) (rest := []) rfl (Nat.le_refl _) (by show 0 + len ≤ len; omega)
  rw [hh0] at ba3 st3
  have kp3 : XT.Kept s T3 := (XT.Kept.of_eq hh0).push bh3
  have hA3 := hA.keep X3.warmed.alike (kp3 _ _ hA.1.1)
  have hne : b ≠ s.heap.size := hA.1.ne
  have c4 : Steps p.tables e below (s₁.setTop (entryFrame m #[.ref b, .int (Int32.ofNat o), .int (Int32.ofNat len)] 6)) (T3.setTop (mkF m 3 #[.val (.ref b), .val (.int (Int32.ofNat o)), .val (.int (Int32.ofNat len)), .unset, .unset, .unset] [.ref s.heap.size])) := c2.trans (st3 _ (Steps.refl _))
  have c5 : Steps p.tables e below (s₁.setTop (entryFrame m #[.ref b, .int (Int32.ofNat o), .int (Int32.ofNat len)] 6)) (T3.setTop (mkF m 9 #[.val (.ref b), .val (.int (Int32.ofNat o)), .val (.int (Int32.ofNat len)), .val (.ref s.heap.size), .unset, .unset] [.int (Int32.ofNat len), .int 0, .ref s.heap.size, .int (Int32.ofNat o), .ref b])) := c4.trans (by
    refine XS.astoreN X3.here hexec rfl (hb hbytes d3) rfl rfl rfl ?_
    refine XS.aloadN X3.here hexec rfl (hb hbytes d4) rfl rfl ?_
    refine XS.iloadN X3.here hexec rfl (hb hbytes d5) rfl ?_
    refine XS.aloadN X3.here hexec rfl (hb hbytes d6) rfl rfl ?_
    refine iconstV X3.here hexec rfl 0 (hb hbytes d7) (by decide) ?_
    refine XS.iloadN X3.here hexec rfl (hb hbytes d8) rfl ?_
    exact Steps.refl _)
  obtain ⟨v6, T6, X6, E6, g6⟩ := X3.callS hexec (Cmp5.law l b A s.heap.size B3 o 0 len) hown (wks W (staticW U16 115 Cmp5.yN)) (wk W Cmp5.tab) (W := 0) (Nat.le_of_ble_eq_true rfl) (Nat.le_of_ble_eq_true rfl) (Nat.le_refl _) (by show 0 + len + 0 ≤ len; omega) (g := (mkF m 9 #[.val (.ref b), .val (.int (Int32.ofNat o)), .val (.int (Int32.ofNat len)), .val (.ref s.heap.size), .unset, .unset] [.int (Int32.ofNat len), .int (Int32.ofNat 0), .ref s.heap.size, .int (Int32.ofNat o), .ref b])) rfl (by rw [hml]; rfl) c5 (argsL := [.ref b, .int (Int32.ofNat o), .ref s.heap.size, .int (Int32.ofNat 0), .int (Int32.ofNat len)]) (rest := []) rfl rfl (by show 2 * 0 + 0 ≤ _; decide) (hb hbytes d9) (⟨rfl, hA3, ba3, hne, l1, by rw [bs3]; simp, hp⟩)
  obtain ⟨rfl, B6, p6, f6⟩ := E6
  have c7 : Steps p.tables e below (s₁.setTop (entryFrame m #[.ref b, .int (Int32.ofNat o), .int (Int32.ofNat len)] 6)) (T6.setTop (mkF m 12 #[.val (.ref b), .val (.int (Int32.ofNat o)), .val (.int (Int32.ofNat len)), .val (.ref s.heap.size), .unset, .unset] [.int (Int32.ofNat len)])) := g6
  have c8 : Steps p.tables e below (s₁.setTop (entryFrame m #[.ref b, .int (Int32.ofNat o), .int (Int32.ofNat len)] 6)) (T6.setTop (mkF m 58 #[.val (.ref b), .val (.int (Int32.ofNat o)), .val (.int (Int32.ofNat len)), .val (.ref s.heap.size), .val (.int (Int32.ofNat len)), .unset] [.ref s.heap.size])) := c7.trans (by
    refine XS.istore X6.here hexec rfl (hb hbytes d12) rfl rfl ?_
    refine XS.iload X6.here hexec rfl (hb hbytes d14) rfl ?_
    refine XS.iloadN X6.here hexec rfl (hb hbytes d16) rfl ?_
    refine XS.icmpYes X6.here hexec rfl (pc0 := 17) rfl (hb hbytes d17) rfl (ii_eq_t rfl) (by decide) rfl ?_
    refine XS.aloadN X6.here hexec rfl (hb hbytes d57) rfl rfl ?_
    exact Steps.refl _)
  have X8 := X6.wide (L' := []) (cells' := 1) (slots' := len) (fun x hx hlt => by
    simp only [List.nil_append, copyLocs, List.mem_map, List.mem_range] at hx
    obtain ⟨i, -, rfl⟩ := hx
    exact absurd hlt (Nat.lt_irrefl _)) (Nat.le_refl _) (by omega)
  exact ⟨T6, some (.ref s.heap.size), _, _, _, X8, rfl, rfl, rfl, (fun h => by cases h), ⟨⟨rfl, B6, ba3.like (X3.warmed.alike.symm.trans X6.warmed.alike) p6.1 f6.1 f6.2.1 f6.2.2.1, f6.2.1.trans bv3, by rw [X6.warmed.alike.findClass, f6.1]; exact bf3, by rw [f6.2.2.1, bs3]; simp, fun j hj => by rw [f6.2.2.2 j, if_pos (by omega)]; rfl, kp3.put p6 (Nat.le_refl _)⟩, by rw [p6.2.2, bh3, hh0]; simp⟩, fun fs hl => c8.trans (X8.areturnOut hexec rfl hret rfl (hb hbytes d58) hl)⟩
end Cmp3
namespace CodL
def yN : MethodName := ⟨"java/lang/StringUTF16", "coderFromArrayLen", "([BI)B"⟩
abbrev yB : ByteArray := jdk_52_method_15_code
theorem d0 : decode yB 0 = .ok (.iload_n 1, 1) := by decide +kernel
theorem d1 : decode yB 1 = .ok (.aload_n 0, 1) := by decide +kernel
theorem d2 : decode yB 2 = .ok (.arraylength, 1) := by decide +kernel
theorem d3 : decode yB 3 = .ok (.isub, 1) := by decide +kernel
theorem d4 : decode yB 4 = .ok (.bipush 31, 2) := by decide +kernel
theorem d6 : decode yB 6 = .ok (.iushr, 1) := by decide +kernel
theorem d7 : decode yB 7 = .ok (.i2b, 1) := by decide +kernel
theorem d8 : decode yB 8 = .ok (.ireturn, 1) := by decide +kernel
def site : List Cond := []
def tab : Cond := tabOf yN yB 2 (some .byte) site
def P (d : Addr) (B : Cell) (args : Array Value) (s : State) : Prop := args = #[.ref d, .int (Int32.ofNat B.slots.size)] ∧ Arr .byte d B s
def E (r : Option Value) (s u : State) : Prop := XT.PureE (some (.int 0)) r s u
/-- an array as long as the number of chars: LATIN1 -/
theorem law (l : Launch) (d : Addr) (B : Cell) : Law l yN 2 2 0 0 yB 2 (some .byte) site (P d B) E [] 0 0 := by
  refine Law.of_walk (plainFor_of_name (by decide +kernel)) (by decide +kernel) (by decide +kernel) (by decide) (fun _ _ h => by rw [h.1]; rfl) (fun _ U U' hal hh h => ⟨h.1, h.2.mv hal hh⟩) (fun r U U' V V' h1 hal h2 h => XT.PureE.mv r U U' V V' h1 hal h2 h) ?_
  intro p e s m args below meth c s₁ X0 hexec hbytes hml hret hlk hnm hown hh0 W hP
  obtain ⟨rfl, hB⟩ := hP
  have hB0 := hB.mv X0.warmed.alike hh0
  have c1 : Steps p.tables e below (s₁.setTop (entryFrame m #[.ref d, .int (Int32.ofNat B.slots.size)] 2)) (s₁.setTop (mkF m 0 #[.val (.ref d), .val (.int (Int32.ofNat B.slots.size))] [])) := entry rfl
  have c2 : Steps p.tables e below (s₁.setTop (entryFrame m #[.ref d, .int (Int32.ofNat B.slots.size)] 2)) (s₁.setTop (mkF m 2 #[.val (.ref d), .val (.int (Int32.ofNat B.slots.size))] [.ref d, .int (Int32.ofNat B.slots.size)])) := c1.trans (by
    refine XS.iloadN X0.here hexec rfl (hb hbytes d0) rfl ?_
    refine XS.aloadN X0.here hexec rfl (hb hbytes d1) rfl rfl ?_
    exact Steps.refl _)
  have c3 : Steps p.tables e below (s₁.setTop (entryFrame m #[.ref d, .int (Int32.ofNat B.slots.size)] 2)) (s₁.setTop (mkF m 8 #[.val (.ref d), .val (.int (Int32.ofNat B.slots.size))] [.int (lo8 (ushr (Int32.ofNat B.slots.size - Int32.ofNat B.slots.size) 31))])) := c2.trans (by
    refine X0.alen hexec hB0 rfl rfl (hb hbytes d2) ?_
    refine XS.isub X0.here hexec rfl (hb hbytes d3) rfl ?_
    refine bipushV X0.here hexec rfl 31 (hb hbytes d4) (by decide) ?_
    refine iushr X0.here hexec rfl (hb hbytes d6) rfl ?_
    refine i2b X0.here hexec rfl (hb hbytes d7) rfl ?_
    exact Steps.refl _)
  have e0 : lo8 (ushr (Int32.ofNat B.slots.size - Int32.ofNat B.slots.size) 31) = 0 := by rw [Int32.sub_self]; decide
  rw [e0] at c3
  exact ⟨s₁, some (.int 0), _, _, _, X0, rfl, rfl, rfl, (fun h => by cases h), ⟨rfl, hh0⟩, fun fs hl => c3.trans (X0.ireturnOut hexec hret rfl (Or.inr (Or.inr (Or.inl rfl))) (hb hbytes d8) hl)⟩
end CodL
/-- the String at a is Latin-1 over a new byte[] (the heap's one new cell): the low bytes of the len chars of A from o on; every cell but a is kept -/
def Got (a : Addr) (D : Cell) (fV fC : Field) (A : Cell) (o len : Nat) (r : Option Value) (s u : State) : Prop := r = none ∧ ∃ D' V : Cell, Blank "java/lang/String" a D' u ∧ Same D D' [fV.slot, fC.slot] ∧ D'.slots[fV.slot]? = some (.ref s.heap.size) ∧ D'.slots[fC.slot]? = some (.int 0) ∧ Arr .byte s.heap.size V u ∧ V.vm = .none ∧ u.vm.findClass "[B" = some V.cls ∧ V.slots.size = len ∧ (∀ j, j < len → V.slots[j]? = some (.int (lo8 (cv A (o + j))))) ∧ (∀ (y : Addr) (c : Cell), y ≠ a → s.heap[y]? = some c → u.heap[y]? = some c) ∧ u.heap.size = s.heap.size + 1
theorem Got.mv {a : Addr} {D A : Cell} {fV fC : Field} {o len : Nat} : ∀ r (U U' V V' : State), U'.heap = U.heap → V.vm.Alike V'.vm → V'.heap = V.heap → Got a D fV fC A o len r U V → Got a D fV fC A o len r U' V' :=
  fun r U U' V V' h1 hal h2 ⟨e0, D', X, a1, a2, a3, a4, a5, a6, a7, a8, a9, a10, a11⟩ => ⟨e0, D', X, a1.mv hal h2, a2, by rw [h1]; exact a3, a4, by rw [h1]; exact a5.mv hal h2, a6, by rw [hal.findClass]; exact a7, a8, a9, by rw [h1, h2]; exact a10, by rw [h1, h2]; exact a11⟩
namespace New4
def yN : MethodName := ⟨"java/lang/String", "<init>", "([CIILjava/lang/Void;)V"⟩
abbrev yB : ByteArray := jdk_42_method_149_code
theorem d0 : decode yB 0 = .ok (.aload_n 0, 1) := by decide +kernel
theorem d1 : decode yB 1 = .ok (.invokespecial 1, 3) := by decide +kernel
theorem d4 : decode yB 4 = .ok (.iload_n 3, 1) := by decide +kernel
theorem d5 : decode yB 5 = .ok (.ifCond (.ne) 22, 3) := by decide +kernel
theorem d27 : decode yB 27 = .ok (.getstatic 38, 3) := by decide +kernel
theorem d30 : decode yB 30 = .ok (.ifCond (.eq) 28, 3) := by decide +kernel
theorem d33 : decode yB 33 = .ok (.aload_n 1, 1) := by decide +kernel
theorem d34 : decode yB 34 = .ok (.iload_n 2, 1) := by decide +kernel
theorem d35 : decode yB 35 = .ok (.iload_n 3, 1) := by decide +kernel
theorem d36 : decode yB 36 = .ok (.invokestatic 177, 3) := by decide +kernel
theorem d39 : decode yB 39 = .ok (.astore 5, 2) := by decide +kernel
theorem d41 : decode yB 41 = .ok (.aload_n 0, 1) := by decide +kernel
theorem d42 : decode yB 42 = .ok (.aload 5, 2) := by decide +kernel
theorem d44 : decode yB 44 = .ok (.iload_n 3, 1) := by decide +kernel
theorem d45 : decode yB 45 = .ok (.invokestatic 47, 3) := by decide +kernel
theorem d48 : decode yB 48 = .ok (.putfield 15, 3) := by decide +kernel
theorem d51 : decode yB 51 = .ok (.aload_n 0, 1) := by decide +kernel
theorem d52 : decode yB 52 = .ok (.aload 5, 2) := by decide +kernel
theorem d54 : decode yB 54 = .ok (.putfield 9, 3) := by decide +kernel
theorem d57 : decode yB 57 = .ok (.return_, 1) := by decide +kernel
def site : List Cond := [.fieldLink "java/lang/String" 38 "java/lang/String" "COMPACT_STRINGS" "Z", Cmp3.tab, CodL.tab, .laysFinal "java/lang/String" "java/lang/String" "value" "[B", .fieldLink "java/lang/String" 9 "java/lang/String" "value" "[B", .laysFinal "java/lang/String" "java/lang/String" "coder" "B", .fieldLink "java/lang/String" 15 "java/lang/String" "coder" "B"] ++ objW "java/lang/String" 1 ++ staticW "java/lang/String" 177 Cmp3.yN ++ staticW "java/lang/String" 47 CodL.yN
def tab : Cond := tabOf yN yB 6 none site
def P (a : Addr) (D : Cell) (fV fC : Field) (b : Addr) (A : Cell) (z : Int32) (o len : Nat) (args : Array Value) (s : State) : Prop := args = #[.ref a, .ref b, .int (Int32.ofNat o), .int (Int32.ofNat len), .null] ∧ Blank "java/lang/String" a D s ∧ Found "java/lang/String" "value" "[B" fV s ∧ Found "java/lang/String" "coder" "B" fC s ∧ Ch b A s ∧ StaticIs s "java/lang/String" "COMPACT_STRINGS" "Z" (.int z) ∧ ¬ z = 0 ∧ 0 < len ∧ o + len ≤ A.slots.size ∧ len ≤ 536870912 ∧ ∀ i, i < len → ¬ 255 < cv A (o + i)
def E (a : Addr) (D : Cell) (fV fC : Field) (A : Cell) (o len : Nat) (r : Option Value) (s u : State) : Prop := Got a D fV fC A o len r s u
/-- len > 0, no char of the range above 255: a Latin-1 String of their low bytes -/
theorem law (l : Launch) (a : Addr) (D : Cell) (fV fC : Field) (b : Addr) (A : Cell) (z : Int32) (o len : Nat) : Law l yN 5 4 2 35 yB 6 none site (P a D fV fC b A z o len) (E a D fV fC A o len) [⟨a, fC.slot⟩, ⟨a, fV.slot⟩] 1 len := by
  refine Law.of_walk (plainFor_of_name (by decide +kernel)) (by decide +kernel) (by decide +kernel) (by decide) (fun _ _ h => by rw [h.1]; rfl) (fun _ U U' hal hh h => ⟨h.1, h.2.1.mv hal hh, h.2.2.1.al hal, h.2.2.2.1.al hal, h.2.2.2.2.1.mv hal hh, h.2.2.2.2.2.1.there hal hh, h.2.2.2.2.2.2⟩) (fun r U U' V V' h1 hal h2 h => Got.mv r U U' V V' h1 hal h2 h) ?_
  intro p e s m args below meth c s₁ X0 hexec hbytes hml hret hlk hnm hown hh0 W hP
  obtain ⟨rfl, hB, f1, f2, hA, s1, hz, l0, l1, l2, hp⟩ := hP
  have a31 := hA.1.2.2.2
  have c1 : Steps p.tables e below (s₁.setTop (entryFrame m #[.ref a, .ref b, .int (Int32.ofNat o), .int (Int32.ofNat len), .null] 6)) (s₁.setTop (mkF m 0 #[.val (.ref a), .val (.ref b), .val (.int (Int32.ofNat o)), .val (.int (Int32.ofNat len)), .val .null, .unset] [])) := entry rfl
  have c2 : Steps p.tables e below (s₁.setTop (entryFrame m #[.ref a, .ref b, .int (Int32.ofNat o), .int (Int32.ofNat len), .null] 6)) (s₁.setTop (mkF m 1 #[.val (.ref a), .val (.ref b), .val (.int (Int32.ofNat o)), .val (.int (Int32.ofNat len)), .val .null, .unset] [.ref a])) := c1.trans (by
    refine XS.aloadN X0.here hexec rfl (hb hbytes d0) rfl rfl ?_
    exact Steps.refl _)
  obtain ⟨T3, X3, q3, st3⟩ := X0.oinit hexec hown (wks W (objW "java/lang/String" 1)) (g := (mkF m 1 #[.val (.ref a), .val (.ref b), .val (.int (Int32.ofNat o)), .val (.int (Int32.ofNat len)), .val .null, .unset] [.ref a])) rfl (by rw [hml]; rfl) (rest := []) rfl (hb hbytes d1) (W := 0) (by show 2 * 0 + 0 ≤ _; decide) (Nat.le_of_ble_eq_true rfl) (Nat.le_of_ble_eq_true rfl)
  have hh3 := q3.trans hh0
  have c4 : Steps p.tables e below (s₁.setTop (entryFrame m #[.ref a, .ref b, .int (Int32.ofNat o), .int (Int32.ofNat len), .null] 6)) (T3.setTop (mkF m 27 #[.val (.ref a), .val (.ref b), .val (.int (Int32.ofNat o)), .val (.int (Int32.ofNat len)), .val .null, .unset] [])) := (c2.trans (st3 _ (Steps.refl _))).trans (by
    refine XS.iloadN X3.here hexec rfl (hb hbytes d4) rfl ?_
    refine XS.ifYes X3.here hexec rfl (pc0 := 5) rfl (hb hbytes d5) rfl (i0_ne_t (nz32 (by omega) l0)) (by decide) rfl ?_
    exact Steps.refl _)
  obtain ⟨T5, X5, q5, st5⟩ := X3.sget hexec hown (wk W (.fieldLink "java/lang/String" 38 "java/lang/String" "COMPACT_STRINGS" "Z")) s1 (fun _ _ h => by rw [hh3]; exact h) (g := (mkF m 27 #[.val (.ref a), .val (.ref b), .val (.int (Int32.ofNat o)), .val (.int (Int32.ofNat len)), .val .null, .unset] [])) rfl (hb hbytes d27)
  have hh5 := q5.trans hh3
  have c6 : Steps p.tables e below (s₁.setTop (entryFrame m #[.ref a, .ref b, .int (Int32.ofNat o), .int (Int32.ofNat len), .null] 6)) (T5.setTop (mkF m 30 #[.val (.ref a), .val (.ref b), .val (.int (Int32.ofNat o)), .val (.int (Int32.ofNat len)), .val .null, .unset] [.int z])) := c4.trans (st5 _ (Steps.refl _))
  have c7 : Steps p.tables e below (s₁.setTop (entryFrame m #[.ref a, .ref b, .int (Int32.ofNat o), .int (Int32.ofNat len), .null] 6)) (T5.setTop (mkF m 36 #[.val (.ref a), .val (.ref b), .val (.int (Int32.ofNat o)), .val (.int (Int32.ofNat len)), .val .null, .unset] [.int (Int32.ofNat len), .int (Int32.ofNat o), .ref b])) := c6.trans (by
    refine XS.ifNo X5.here hexec rfl (hb hbytes d30) rfl (i0_eq_f hz) ?_
    refine XS.aloadN X5.here hexec rfl (hb hbytes d33) rfl rfl ?_
    refine XS.iloadN X5.here hexec rfl (hb hbytes d34) rfl ?_
    refine XS.iloadN X5.here hexec rfl (hb hbytes d35) rfl ?_
    exact Steps.refl _)
  obtain ⟨v8, T8, X8, E8, g8⟩ := X5.callS hexec (Cmp3.law l b A o len) hown (wks W (staticW "java/lang/String" 177 Cmp3.yN)) (wk W Cmp3.tab) (W := 0) (Nat.le_of_ble_eq_true rfl) (Nat.le_of_ble_eq_true rfl) (Nat.le_refl _) (by show 0 + len ≤ len; omega) (g := (mkF m 36 #[.val (.ref a), .val (.ref b), .val (.int (Int32.ofNat o)), .val (.int (Int32.ofNat len)), .val .null, .unset] [.int (Int32.ofNat len), .int (Int32.ofNat o), .ref b])) rfl (by rw [hml]; rfl) c7 (argsL := [.ref b, .int (Int32.ofNat o), .int (Int32.ofNat len)]) (rest := []) rfl rfl (by show 2 * 0 + 0 ≤ _; decide) (hb hbytes d36) (⟨rfl, hA.mv X5.warmed.alike hh5, l1, l2, hp⟩)
  obtain ⟨e8, z8⟩ := E8
  obtain ⟨rfl, N, n1, n2, n3, n4, n5, n6⟩ := NewArr.mv _ T5 s _ _ hh5.symm (Vm.Alike.refl _) rfl e8
  rw [hh5] at z8
  have hB1 := hB.keep X8.warmed.alike (n6 _ _ hB.1)
  have hne : s.heap.size ≠ a := (Nat.ne_of_lt (Array.getElem?_eq_some_iff.mp hB.1).1).symm
  have c9 : Steps p.tables e below (s₁.setTop (entryFrame m #[.ref a, .ref b, .int (Int32.ofNat o), .int (Int32.ofNat len), .null] 6)) (T8.setTop (mkF m 39 #[.val (.ref a), .val (.ref b), .val (.int (Int32.ofNat o)), .val (.int (Int32.ofNat len)), .val .null, .unset] [.ref s.heap.size])) := g8
  have c10 : Steps p.tables e below (s₁.setTop (entryFrame m #[.ref a, .ref b, .int (Int32.ofNat o), .int (Int32.ofNat len), .null] 6)) (T8.setTop (mkF m 45 #[.val (.ref a), .val (.ref b), .val (.int (Int32.ofNat o)), .val (.int (Int32.ofNat len)), .val .null, .val (.ref s.heap.size)] [.int (Int32.ofNat N.slots.size), .ref s.heap.size, .ref a])) := by
    have hc : Steps p.tables e below (s₁.setTop (entryFrame m #[.ref a, .ref b, .int (Int32.ofNat o), .int (Int32.ofNat len), .null] 6)) (T8.setTop (mkF m 45 #[.val (.ref a), .val (.ref b), .val (.int (Int32.ofNat o)), .val (.int (Int32.ofNat len)), .val .null, .val (.ref s.heap.size)] [.int (Int32.ofNat len), .ref s.heap.size, .ref a])) := c9.trans (by
      refine XS.astore X8.here hexec rfl (hb hbytes d39) rfl rfl rfl ?_
      refine XS.aloadN X8.here hexec rfl (hb hbytes d41) rfl rfl ?_
      refine XS.aload X8.here hexec rfl (hb hbytes d42) rfl rfl ?_
      refine XS.iloadN X8.here hexec rfl (hb hbytes d44) rfl ?_
      exact Steps.refl _)
    rw [n4]; exact hc
  obtain ⟨v11, T11, X11, E11, g11⟩ := X8.callS hexec (CodL.law l s.heap.size N) hown (wks W (staticW "java/lang/String" 47 CodL.yN)) (wk W CodL.tab) (W := 1) (Nat.le_of_ble_eq_true rfl) (Nat.le_of_ble_eq_true rfl) (Nat.le_refl _) (by show 0 + len + 0 ≤ len; omega) (g := (mkF m 45 #[.val (.ref a), .val (.ref b), .val (.int (Int32.ofNat o)), .val (.int (Int32.ofNat len)), .val .null, .val (.ref s.heap.size)] [.int (Int32.ofNat N.slots.size), .ref s.heap.size, .ref a])) rfl (by rw [hml]; rfl) c10 (argsL := [.ref s.heap.size, .int (Int32.ofNat N.slots.size)]) (rest := [.ref a]) rfl rfl (by show 2 * 0 + (1 + 0) ≤ _; decide) (hb hbytes d45) (⟨rfl, n1⟩)
  obtain ⟨rfl, q11⟩ := E11
  have hB11 := hB1.mv (X8.warmed.alike.symm.trans X11.warmed.alike) q11
  have c12 : Steps p.tables e below (s₁.setTop (entryFrame m #[.ref a, .ref b, .int (Int32.ofNat o), .int (Int32.ofNat len), .null] 6)) (T11.setTop (mkF m 48 #[.val (.ref a), .val (.ref b), .val (.int (Int32.ofNat o)), .val (.int (Int32.ofNat len)), .val .null, .val (.ref s.heap.size)] [.int 0, .ref a])) := g11
  obtain ⟨T13, X13, p13, bl13, sl13, st13⟩ := X11.finit hexec hown (wk W (.fieldLink "java/lang/String" 15 "java/lang/String" "coder" "B")) (Or.inr ⟨_, (wk W (.laysFinal "java/lang/String" "java/lang/String" "coder" "B"))⟩) (Or.inl ⟨rfl, hnm⟩) f2 (Or.inl rfl) hB11 (t := .byte) (by decide +kernel) rfl (g := (mkF m 48 #[.val (.ref a), .val (.ref b), .val (.int (Int32.ofNat o)), .val (.int (Int32.ofNat len)), .val .null, .val (.ref s.heap.size)] [.int 0, .ref a])) rfl (rest := []) rfl (hb hbytes d48)
  have c14 : Steps p.tables e below (s₁.setTop (entryFrame m #[.ref a, .ref b, .int (Int32.ofNat o), .int (Int32.ofNat len), .null] 6)) (T13.setTop (mkF m 54 #[.val (.ref a), .val (.ref b), .val (.int (Int32.ofNat o)), .val (.int (Int32.ofNat len)), .val .null, .val (.ref s.heap.size)] [.ref s.heap.size, .ref a])) := (c12.trans (st13 _ (Steps.refl _))).trans (by
    refine XS.aloadN X13.here hexec rfl (hb hbytes d51) rfl rfl ?_
    refine XS.aload X13.here hexec rfl (hb hbytes d52) rfl rfl ?_
    exact Steps.refl _)
  obtain ⟨T15, X15, p15, bl15, sl15, st15⟩ := X13.finit hexec hown (wk W (.fieldLink "java/lang/String" 9 "java/lang/String" "value" "[B")) (Or.inr ⟨_, (wk W (.laysFinal "java/lang/String" "java/lang/String" "value" "[B"))⟩) (Or.inl ⟨rfl, hnm⟩) f1 (Or.inl rfl) bl13 (t := (.array .byte)) (by decide +kernel) rfl (g := (mkF m 54 #[.val (.ref a), .val (.ref b), .val (.int (Int32.ofNat o)), .val (.int (Int32.ofNat len)), .val .null, .val (.ref s.heap.size)] [.ref s.heap.size, .ref a])) rfl (rest := []) rfl (hb hbytes d54)
  have c16 : Steps p.tables e below (s₁.setTop (entryFrame m #[.ref a, .ref b, .int (Int32.ofNat o), .int (Int32.ofNat len), .null] 6)) (T15.setTop (mkF m 57 #[.val (.ref a), .val (.ref b), .val (.int (Int32.ofNat o)), .val (.int (Int32.ofNat len)), .val .null, .val (.ref s.heap.size)] [])) := c14.trans (st15 _ (Steps.refl _))
  have ap := apart (Or.inr ⟨_, (wk W (.laysFinal "java/lang/String" "java/lang/String" "value" "[B"))⟩) (Or.inr ⟨_, (wk W (.laysFinal "java/lang/String" "java/lang/String" "coder" "B"))⟩) f1 f2 (t₁ := .array .byte) (t₂ := .byte) (by decide +kernel) (by decide +kernel) (by decide)
  have al := X8.warmed.alike.symm.trans X15.warmed.alike
  have n7 : T11.heap[s.heap.size]? = some N := by rw [q11]; exact n1.1
  exact ⟨T15, none, _, _, _, X15, by simp, rfl, by omega, (fun _ => rfl), ⟨rfl, _, N, bl15, ((Same.refl D _).set _ (by simp)).set _ (by simp), sl15, (Cell.slots_setSlot_ne _ ap).trans sl13, n1.keep al (p15.other hne (p13.other hne n7)), n2, by rw [al.findClass]; exact n3, n4, n5, fun y c h1 h2 => p15.other h1 (p13.other h1 (by rw [q11]; exact n6 y c h2)), by rw [p15.2.2, p13.2.2, q11]; exact z8⟩, fun fs hl => c16.trans (X15.returnOut hexec hret (hb hbytes d57) hl)⟩
end New4
namespace New1
def yN : MethodName := ⟨"java/lang/String", "<init>", "([C)V"⟩
abbrev yB : ByteArray := jdk_42_method_3_code
theorem d0 : decode yB 0 = .ok (.aload_n 0, 1) := by decide +kernel
theorem d1 : decode yB 1 = .ok (.aload_n 1, 1) := by decide +kernel
theorem d2 : decode yB 2 = .ok (.iconst 0, 1) := by decide +kernel
theorem d3 : decode yB 3 = .ok (.aload_n 1, 1) := by decide +kernel
theorem d4 : decode yB 4 = .ok (.arraylength, 1) := by decide +kernel
theorem d5 : decode yB 5 = .ok (.aconst_null, 1) := by decide +kernel
theorem d6 : decode yB 6 = .ok (.invokespecial 27, 3) := by decide +kernel
theorem d9 : decode yB 9 = .ok (.return_, 1) := by decide +kernel
def site : List Cond := [New4.tab] ++ initW "java/lang/String" 27 New4.yN
def tab : Cond := tabOf yN yB 2 none site
def P (a : Addr) (D : Cell) (fV fC : Field) (b : Addr) (A : Cell) (z : Int32) (args : Array Value) (s : State) : Prop := args = #[.ref a, .ref b] ∧ Blank "java/lang/String" a D s ∧ Found "java/lang/String" "value" "[B" fV s ∧ Found "java/lang/String" "coder" "B" fC s ∧ Ch b A s ∧ StaticIs s "java/lang/String" "COMPACT_STRINGS" "Z" (.int z) ∧ ¬ z = 0 ∧ 0 < A.slots.size ∧ A.slots.size ≤ 536870912 ∧ ∀ i, i < A.slots.size → ¬ 255 < cv A i
def E (a : Addr) (D : Cell) (fV fC : Field) (A : Cell) (r : Option Value) (s u : State) : Prop := Got a D fV fC A 0 A.slots.size r s u
/-- new String(chars), not empty, no char above 255: a Latin-1 String of their low bytes -/
theorem law (l : Launch) (a : Addr) (D : Cell) (fV fC : Field) (b : Addr) (A : Cell) (z : Int32) : Law l yN 2 1 3 52 yB 2 none site (P a D fV fC b A z) (E a D fV fC A) [⟨a, fC.slot⟩, ⟨a, fV.slot⟩] 1 A.slots.size := by
  refine Law.of_walk (plainFor_of_name (by decide +kernel)) (by decide +kernel) (by decide +kernel) (by decide) (fun _ _ h => by rw [h.1]; rfl) (fun _ U U' hal hh h => ⟨h.1, h.2.1.mv hal hh, h.2.2.1.al hal, h.2.2.2.1.al hal, h.2.2.2.2.1.mv hal hh, h.2.2.2.2.2.1.there hal hh, h.2.2.2.2.2.2⟩) (fun r U U' V V' h1 hal h2 h => Got.mv r U U' V V' h1 hal h2 h) ?_
  intro p e s m args below meth c s₁ X0 hexec hbytes hml hret hlk hnm hown hh0 W hP
  obtain ⟨rfl, hB, f1, f2, hA, s1, hz, l0, l2, hp⟩ := hP
  have c1 : Steps p.tables e below (s₁.setTop (entryFrame m #[.ref a, .ref b] 2)) (s₁.setTop (mkF m 0 #[.val (.ref a), .val (.ref b)] [])) := entry rfl
  have c2 : Steps p.tables e below (s₁.setTop (entryFrame m #[.ref a, .ref b] 2)) (s₁.setTop (mkF m 6 #[.val (.ref a), .val (.ref b)] [.null, .int (Int32.ofNat A.slots.size), .int 0, .ref b, .ref a])) := c1.trans (by
    refine XS.aloadN X0.here hexec rfl (hb hbytes d0) rfl rfl ?_
    refine XS.aloadN X0.here hexec rfl (hb hbytes d1) rfl rfl ?_
    refine iconstV X0.here hexec rfl 0 (hb hbytes d2) (by decide) ?_
    refine XS.aloadN X0.here hexec rfl (hb hbytes d3) rfl rfl ?_
    refine X0.alen hexec (hA.1.mv X0.warmed.alike hh0) rfl rfl (hb hbytes d4) ?_
    refine XS.aconstNull X0.here hexec rfl (hb hbytes d5) ?_
    exact Steps.refl _)
  obtain ⟨v3, T3, X3, E3, g3⟩ := X0.callN hexec (New4.law l a D fV fC b A z 0 A.slots.size) rfl hown (wks W (initW "java/lang/String" 27 New4.yN)) (W New4.tab (by simp only [site, List.mem_cons, List.mem_append, true_or, or_true])) (W := 0) (Nat.le_of_ble_eq_true rfl) (Nat.le_of_ble_eq_true rfl) (Nat.le_refl _) (by show 0 + A.slots.size ≤ A.slots.size; omega) (g := (mkF m 6 #[.val (.ref a), .val (.ref b)] [.null, .int (Int32.ofNat A.slots.size), .int (Int32.ofNat 0), .ref b, .ref a])) rfl (by rw [hml]; rfl) c2 (argsL := [.ref b, .int (Int32.ofNat 0), .int (Int32.ofNat A.slots.size), .null]) (rest := []) rfl rfl (by show 2 * 0 + 0 ≤ _; decide) (hb hbytes d6) (⟨rfl, hB.mv X0.warmed.alike hh0, f1.al X0.warmed.alike, f2.al X0.warmed.alike, hA.mv X0.warmed.alike hh0, s1.there X0.warmed.alike hh0, hz, l0, by omega, l2, fun i hi => by rw [Nat.zero_add]; exact hp i hi⟩)
  have e0 := Got.mv _ s₁ s _ _ hh0.symm (Vm.Alike.refl _) rfl E3
  obtain rfl := e0.1
  have c4 : Steps p.tables e below (s₁.setTop (entryFrame m #[.ref a, .ref b] 2)) (T3.setTop (mkF m 9 #[.val (.ref a), .val (.ref b)] [])) := g3
  exact ⟨T3, none, _, _, _, X3, by simp, rfl, by omega, (fun _ => rfl), e0, fun fs hl => c4.trans (X3.returnOut hexec hret (hb hbytes d9) hl)⟩
theorem pays {l : Launch} {R : Room} {p : Program} {e : Env} {below : List Frame} {s : State} {sargs : Array Value} {len W : Nat} (a : Addr) (D : Cell) (fV fC : Field) (b : Addr) (A : Cell) (z : Int32) (htab : tab.before sargs s = true) (hfr : 4 ≤ R.frames) (hlo : W + 65 ≤ R.locals) :
    Back l R p e below s sargs yN len W (fun A₁ a₁ => A₁.cells + 1 ≤ R.cells ∧ A₁.slots + A.slots.size ≤ R.slots ∧ P a D fV fC b A z a₁ A₁.U) (fun A₁ _ v₁ B₁ => E a D fV fC A v₁ A₁.U B₁.U ∧ B₁.locs = A₁.locs ++ [⟨a, fC.slot⟩, ⟨a, fV.slot⟩] ∧ B₁.cells = A₁.cells + 1 ∧ B₁.slots = A₁.slots + A.slots.size) :=
  (law l a D fV fC b A z).pays htab hfr (by omega)
end New1
/-- the byte, read back as charAt reads it, is the char -/
theorem lo8_mask {x : Int32} (h0 : ¬ x < 0) (h1 : ¬ 255 < x) : lo8 x &&& 255 = x := by
  have t : ∀ k : Fin 256, lo8 (Int32.ofNat k.val) &&& 255 = Int32.ofNat k.val := by decide +kernel
  rw [Int32.lt_iff_toInt_lt] at h0 h1
  have e0 : (0 : Int32).toInt = 0 := rfl
  have e1 : (255 : Int32).toInt = 255 := rfl
  obtain ⟨k, hk⟩ : ∃ k : Nat, x.toInt = k := ⟨x.toInt.toNat, by omega⟩
  have hx : x = Int32.ofNat k := Int32.toInt_inj.mp (by rw [hk, Int32.toInt_ofNat_small (by omega)])
  rw [hx]
  exact t ⟨k, by omega⟩
end StrChars
namespace StrChars.Road
open Jvm Sem ClassFile Op Lib Jvm.Stand Jvm.Free Jvm.Free.XT
open Jvm.Lib.Cold (StaticIs)
abbrev ST : String := "java/lang/String"
/-- every table word that New1's law asks, flat -/
abbrev words : List Jvm.Cond := [.code New1.yN New1.yB 2 none, .initialized ST, .methodLink ST 27 New4.yN, .instanceMethod New4.yN,
  .code New4.yN New4.yB 6 none, .fieldLink ST 38 ST "COMPACT_STRINGS" "Z", .laysFinal ST ST "value" "[B", .fieldLink ST 9 ST "value" "[B", .laysFinal ST ST "coder" "B", .fieldLink ST 15 ST "coder" "B",
  .methodLink ST 1 Lib.objectInit, .instanceMethod Lib.objectInit, .code Lib.objectInit ⟨#[0xb1]⟩ 1 none, .methodLink ST 177 Cmp3.yN, .static Cmp3.yN, .methodLink ST 47 CodL.yN, .static CodL.yN,
  .code Cmp3.yN Cmp3.yB 6 (some (.array .byte)), .initialized U16, .arrayClass .byte, .methodLink U16 115 Cmp5.yN, .static Cmp5.yN, .code Cmp5.yN Cmp5.yB 7 (some .int), .code CodL.yN CodL.yB 2 (some .byte)]
theorem tab_of {a : Array Value} {s : State} (h : ∀ w ∈ words, w.before a s = true) : New1.tab.before a s = true := by
  have h5 : Cmp5.tab.before a s = true := unparts (wk h (.code Cmp5.yN Cmp5.yB 7 (some .int))) (wks h (.initialized Cmp5.yN.cls :: Cmp5.site))
  have hc : CodL.tab.before a s = true := unparts (wk h (.code CodL.yN CodL.yB 2 (some .byte))) (wks h (.initialized CodL.yN.cls :: CodL.site))
  have q5 : ∀ w ∈ Cmp5.tab :: words, w.before a s = true := fun w hw => (List.mem_cons.mp hw).elim (fun e => e ▸ h5) (h w)
  have h3 : Cmp3.tab.before a s = true := unparts (wk q5 (.code Cmp3.yN Cmp3.yB 6 (some (.array .byte)))) (wks q5 (.initialized Cmp3.yN.cls :: Cmp3.site))
  have q3 : ∀ w ∈ Cmp3.tab :: CodL.tab :: words, w.before a s = true := fun w hw => (List.mem_cons.mp hw).elim (fun e => e ▸ h3) fun hw => (List.mem_cons.mp hw).elim (fun e => e ▸ hc) (h w)
  have h4 : New4.tab.before a s = true := unparts (wk q3 (.code New4.yN New4.yB 6 none)) (wks q3 (.initialized New4.yN.cls :: New4.site))
  have q4 : ∀ w ∈ New4.tab :: words, w.before a s = true := fun w hw => (List.mem_cons.mp hw).elim (fun e => e ▸ h4) (h w)
  exact unparts (wk q4 (.code New1.yN New1.yB 2 none)) (wks q4 (.initialized New1.yN.cls :: New1.site))
/-- the words ride from the start Z to the walk's own state -/
theorem moved {Z s : State} {a0 args : Array Value} (hZ : Z.Warmed39 s.vm) (hw : ∀ d ∈ words, d.before a0 Z = true) : ∀ d ∈ words, d.before args s = true := fun d hd => by
  have q := hw d hd
  have t : ∀ d ∈ words, d = .arrayClass .byte ∨ (d.onTables && d.keepsFace) = true := by decide +kernel
  rcases t d hd with rfl | t
  · exact RoadKit.mvA hZ q
  · exact RoadKit.mv hZ q t
/-- WHAT COMES BACK, over the tables of the start Z: h the heap at the call, h' behind it -/
def Q (Z : State) (x : Addr) (A : Cell) (h : Heap) (v : Option Value) (h' : Heap) (L : List Loc) : Prop := v = none ∧ (∀ y ∈ L, y.base = x) ∧ RoadKit.Keep h h' [x] ∧ h'.size = h.size + 1 ∧ RoadKit.Exa Z h' x ST ∧ RoadKit.Fld Z h' x ST "value" "[B" (.ref h.size) ∧ RoadKit.Fld Z h' x ST "coder" "B" (.int 0) ∧
  (∃ V : Cell, RoadKit.Arr Z h' h.size V .byte ∧ V.vm = .none ∧ Z.vm.findClass "[B" = some V.cls ∧ V.slots.size = A.slots.size ∧ ∀ j, j < A.slots.size → V.slots[j]? = some (.int (lo8 (cv A j)))) ∧
  ∀ (O n d : String) (w : Value), RoadKit.Fld Z h x O n d w → RoadKit.slotOf Z O n d ≠ RoadKit.slotOf Z ST "value" "[B" → RoadKit.slotOf Z O n d ≠ RoadKit.slotOf Z ST "coder" "B" → RoadKit.Fld Z h' x O n d w
/-- **new String(chars) AT A CALL, IN THE ROAD'S FORM**: for specialBack behind newO: x the fresh String, b the char[] with the cell A -/
theorem back {p : Program} {l : Launch} {e : Env} {R : Room} {s : State} {args : Array Value} {below : List Frame} {len W : Nat} {Z : State} {a0 : Array Value} {h : Heap} (hZ : Z.Warmed39 s.vm) (hw : ∀ d ∈ words, d.before a0 Z = true) {kI : Nat} (wi : (Jvm.Cond.instantiable ST kI).before a0 Z = true)
    {x b : Addr} {A : Cell} {z : Int32} {v0 c0 : Value} (E : RoadKit.Exa Z h x ST) (V : RoadKit.Fld Z h x ST "value" "[B" v0) (C : RoadKit.Fld Z h x ST "coder" "B" c0) (K : RoadKit.Arr Z h b A .char) (hty : Typed .char A) (S : RoadKit.Sta Z h ST "COMPACT_STRINGS" "Z" (.int z)) (hz : ¬ z = 0)
    (l0 : 0 < A.slots.size) (l2 : A.slots.size ≤ 536870912) (hp : ∀ i, i < A.slots.size → ¬ 255 < cv A i) (hfr : 4 ≤ R.frames) (hlo : W + 65 ≤ R.locals) :
    Back l R p e below s args New1.yN len W (fun P a => a = #[.ref x, .ref b] ∧ P.U.heap = h ∧ P.cells + 1 ≤ R.cells ∧ P.slots + A.slots.size ≤ R.slots)
      (fun P _ v B => ∃ L, Q Z x A h v B.U.heap L ∧ B.locs = P.locs ++ L ∧ B.cells = P.cells + 1 ∧ B.slots = P.slots + A.slots.size) := by
  intro m meth c P g ig mk a X hg hsize hdg hW hn hp'
  obtain ⟨rfl, rfl, r1, r2⟩ := hp'
  have al : Z.vm.Alike P.U.vm := hZ.alike.trans X.warmed.alike
  obtain ⟨D, cfV, kV, iV, fV, hD, gV, stV, knV, obV, asV, slV⟩ := id V
  obtain ⟨D', cfC, kC, iC, fC, hD', gC, stC, -, -, asC, slC⟩ := id C
  cases hD.symm.trans hD'
  obtain ⟨D2, kD, e1, e2, e3, e4, e5⟩ := id E
  cases hD.symm.trans e1
  obtain ⟨c2, k2, i1, i2, i3, -⟩ := Cond.instantiable_spec wi
  cases e2.symm.trans i1
  cases e3.symm.trans i2
  obtain ⟨kU, u1, u2⟩ := al.2.2 _ _ e3
  have hB : Blank ST x D P.U := ⟨hD, ⟨knV, fun q hq => by rw [hq] at obV; cases obV⟩, by rw [al.findClass]; exact e2, kU, u1, by rw [u2]; exact i3, by rw [u2]; exact e5 i3⟩
  have F1 : Found ST "value" "[B" fV P.U := ⟨SBG.found_only al ⟨cfV, kV, iV, gV⟩, stV⟩
  have F2 : Found ST "coder" "B" fC P.U := ⟨SBG.found_only al ⟨cfC, kC, iC, gC⟩, stC⟩
  have hA : Ch b A P.U := ⟨⟨K.1, State.isArrayOf_alike al K.2.1, K.2.2, by omega⟩, hty⟩
  have hS : StaticIs P.U ST "COMPACT_STRINGS" "Z" (.int z) := by
    obtain ⟨cfS, iS, kS, fS, st, cS, t1, t2, t3, t4, t5, t6, t7⟩ := S
    exact StaticIs.there (s := { Z with heap := P.U.heap }) ⟨cfS, iS, kS, fS, st, cS, t1, t2, t3, t4, t5, (fun q => by rw [q] at t6; cases t6), t7⟩ al rfl
  obtain ⟨v, B, X', ⟨⟨hv, E', V', q1, q2, q3, q4, q5, q6, q7, q8, q9, q10, q11⟩, hl, hc, hs⟩, st⟩ := New1.pays x D fV fC b A z (tab_of (moved hZ hw)) hfr hlo m meth c P g ig mk _ X hg hsize hdg hW hn ⟨r1, r2, rfl, hB, F1, F2, hA, hS, hz, l0, l2, hp⟩
  have al' : Z.vm.Alike B.U.vm := hZ.alike.trans X'.warmed.alike
  have hsz : E'.slots.size = D.slots.size := by
    obtain ⟨-, -, -, kB, w1, w2, w3⟩ := q1
    obtain ⟨kB', y1, y2⟩ := al'.2.2 _ _ e3
    rw [q2.2.1] at w1
    cases w1.symm.trans y1
    rw [w3, e5 i3, y2]
  refine ⟨v, B, X', ⟨_, ⟨hv, ?_, ⟨by omega, fun y cy hy hn' => q10 y cy (by simpa using hn') hy, fun y cy hy => ?_⟩, q11, ⟨E', _, q1.1, by rw [q2.2.1]; exact e2, by rw [q2.2.1]; exact e3, by rw [q2.1]; exact obV, fun _ => by rw [hsz]; exact e5 i3⟩,
    ⟨E', cfV, kV, iV, fV, q1.1, gV, stV, by rw [q2.1]; exact knV, by rw [q2.1]; exact obV, by rw [q2.2.1]; exact asV, q3⟩, ⟨E', cfC, kC, iC, fC, q1.1, gC, stC, by rw [q2.1]; exact knV, by rw [q2.1]; exact obV, by rw [q2.2.1]; exact asC, q4⟩,
    ⟨V', ⟨q5.1, State.isArrayOf_alike al'.symm q5.2.1, q5.2.2.1⟩, q6, by rw [← al'.findClass]; exact q7, q8, fun j hj => by have := q9 j hj; rwa [Nat.zero_add] at this⟩, fun O n d w F n1 n2 => ?_⟩, hl, hc, hs⟩, st⟩
  · intro y hy
    simp only [List.mem_cons, List.not_mem_nil, or_false] at hy
    rcases hy with rfl | rfl <;> rfl
  · by_cases q : y = x
    · subst q
      cases hD.symm.trans hy
      exact ⟨E', q1.1, q2.2.1, q2.1, hsz⟩
    · exact ⟨cy, q10 y cy q hy, rfl, rfl, rfl⟩
  · obtain ⟨D3, cf, k, i, f, g1, g2, g3, g4, g5, g6, g7⟩ := F
    cases hD.symm.trans g1
    simp only [RoadKit.slotOf, g2, gV, gC, Option.map_some, Option.getD_some] at n1 n2
    exact ⟨E', cf, k, i, f, q1.1, g2, g3, by rw [q2.1]; exact g4, by rw [q2.1]; exact g5, by rw [q2.2.1]; exact g6, by rw [q2.2.2 f.slot (by simp [n1, n2])]; exact g7⟩
end StrChars.Road
namespace StrChars.Road
open Jvm Sem ClassFile Op Lib Jvm.Stand Jvm.Free Jvm.Free.XT
/-- WHAT COMES BACK, the byte[] as a list of values -/
def QA (Z : State) (x : Addr) (zn : Int32) (cs : List Int32) (h : Heap) (v : Option Value) (h' : Heap) (L : List Loc) : Prop := v = none ∧ (∀ y ∈ L, y.base = x) ∧ RoadKit.Keep h h' [x] ∧ h'.size = h.size + 1 ∧ RoadKit.Exa Z h' x ST ∧ RoadKit.Fld Z h' x ST "value" "[B" (.ref h.size) ∧ RoadKit.Fld Z h' x ST "coder" "B" (.int 0) ∧
  (∃ kb, Z.vm.findClass "[B" = some kb ∧ RoadKit.Arv Z h' h.size kb .byte zn (cs.map fun c => .int (lo8 c)) (.int 0)) ∧
  ∀ (O n d : String) (w : Value), RoadKit.Fld Z h x O n d w → RoadKit.slotOf Z O n d ≠ RoadKit.slotOf Z ST "value" "[B" → RoadKit.slotOf Z O n d ≠ RoadKit.slotOf Z ST "coder" "B" → RoadKit.Fld Z h' x O n d w
/-- **new String(chars) AT A CALL, THE ARRAYS AS LISTS**: the char[] at b holds cs, not empty, no char above 255 -/
theorem backArv {p : Program} {l : Launch} {e : Env} {R : Room} {s : State} {args : Array Value} {below : List Frame} {len W : Nat} {Z : State} {a0 : Array Value} {h : Heap} (hZ : Z.Warmed39 s.vm) (hw : ∀ d ∈ words, d.before a0 Z = true) {kI : Nat} (wi : (Jvm.Cond.instantiable ST kI).before a0 Z = true)
    {x b : Addr} {k : ClassId} {zn z : Int32} {cs : List Int32} {dv v0 c0 : Value} (E : RoadKit.Exa Z h x ST) (V : RoadKit.Fld Z h x ST "value" "[B" v0) (C : RoadKit.Fld Z h x ST "coder" "B" c0) (K : RoadKit.Arv Z h b k .char zn (cs.map Value.int) dv) (S : RoadKit.Sta Z h ST "COMPACT_STRINGS" "Z" (.int z)) (hz : ¬ z = 0)
    (hlen : zn.toNatClampNeg = cs.length) (h0 : 0 < cs.length) (hbig : cs.length ≤ 536870912) (hall : ∀ c ∈ cs, ¬ 255 < c) (hfr : 4 ≤ R.frames) (hlo : W + 65 ≤ R.locals) :
    Back l R p e below s args New1.yN len W (fun P a => a = #[.ref x, .ref b] ∧ P.U.heap = h ∧ P.cells + 1 ≤ R.cells ∧ P.slots + cs.length ≤ R.slots)
      (fun P _ v B => ∃ L, QA Z x zn cs h v B.U.heap L ∧ B.locs = P.locs ++ L ∧ B.cells = P.cells + 1 ∧ B.slots = P.slots + cs.length) := by
  obtain ⟨A, K1, K2, K3, K4, K5, K6⟩ := K
  have e : A.slots.size = cs.length := K3.trans hlen
  have hat : ∀ (i : Nat) (hi : i < cs.length), A.slots[i]? = some (.int cs[i]) := fun i hi => by rw [K5 i (by omega)]; simp [List.getD_eq_getElem?_getD, hi]
  have hcv : ∀ (i : Nat) (hi : i < cs.length), cv A i = cs[i] := fun i hi => by unfold cv; rw [hat i hi]
  have hty : Typed .char A := fun i v hv => by
    have hi : i < A.slots.size := (Array.getElem?_eq_some_iff.mp hv).1
    have q := K5 i hi
    rw [hv] at q
    rw [Option.some.inj q]
    exact K6 i hi
  refine Back.mono (back hZ hw wi E V C K1 hty S hz (by omega) (by omega) (fun i hi => by rw [hcv i (by omega)]; exact hall _ (List.getElem_mem _)) hfr hlo) (fun P a hp => ⟨hp.1, hp.2.1, hp.2.2.1, by rw [e]; exact hp.2.2.2⟩) (fun P a v B hp hq => ?_)
  obtain ⟨L, ⟨q1, q2, q3, q4, q5, q6, q7, ⟨V', v1, v2, v3, v4, v5⟩, q9⟩, hl, hc, hs⟩ := hq
  refine ⟨L, ⟨q1, q2, q3, q4, q5, q6, q7, ⟨V'.cls, v3, V', v1, rfl, by rw [v4, e, hlen], K4, fun i hi => ?_, fun i hi => ?_⟩, q9⟩, hl, hc, by rw [hs, e]⟩
  · have hi' : i < cs.length := by omega
    rw [v5 i (by omega), hcv i hi']; simp [List.getD_eq_getElem?_getD, hi']
  · have hi' : i < cs.length := by omega
    simp only [List.getD_eq_getElem?_getD, List.getElem?_map, List.getElem?_eq_getElem hi', Option.map_some, Option.getD_some]
    exact fits_lo8 _
end StrChars.Road
namespace StrChars.Road
open Jvm Sem ClassFile Op Lib Jvm.Stand Jvm.Free Jvm.Free.XT
/-- WHAT COMES BACK, in the writer's own shape -/
def QV (Z : State) (x : Addr) (N : Int32) (bs : List Int32) (h : Heap) (n0 : Nat) (v : Option Value) (h' : Heap) (L : List Loc) : Prop := v = none ∧ RoadKit.Fr n0 L ∧ RoadKit.Keep h h' [x] ∧ RoadKit.Exa Z h' x ST ∧ RoadKit.Fld Z h' x ST "coder" "B" (.int 0) ∧
  ∃ (t : Addr) (kb : ClassId), n0 ≤ t ∧ h.size ≤ t ∧ ¬ t = x ∧ RoadKit.Fld Z h' x ST "value" "[B" (.ref t) ∧ RoadKit.Arv Z h' t kb .byte N (bs.map Value.int) (.int 0)
/-- **new String(chars) AT A CALL, FOR THE WRITER**: a char[] of n known ints, each 0 to 255 -/
theorem backV {p : Program} {l : Launch} {e : Env} {R : Room} {s : State} {args : Array Value} {below : List Frame} {len W : Nat} {Z : State} {a0 : Array Value} {h : Heap} (hZ : Z.Warmed39 s.vm) (hw : ∀ d ∈ words, d.before a0 Z = true) {kI : Nat} (wi : (Jvm.Cond.instantiable ST kI).before a0 Z = true)
    {x b : Addr} {kC : ClassId} {cs bs : List Int32} {d v0 c0 : Value} {z N : Int32} {n n0 : Nat} (hx0 : n0 ≤ x) (hh0 : n0 ≤ h.size) (E : RoadKit.Exa Z h x ST) (V : RoadKit.Fld Z h x ST "value" "[B" v0) (C : RoadKit.Fld Z h x ST "coder" "B" c0) (K : RoadKit.Arv Z h b kC .char N (cs.map Value.int) d) (S : RoadKit.Sta Z h ST "COMPACT_STRINGS" "Z" (.int z)) (hz : ¬ z = 0)
    (hn : cs.length = n) (hN : N = Int32.ofNat n) (l0 : 0 < n) (l2 : n ≤ 4000) (hp : ∀ c ∈ cs, ¬ c < 0 ∧ ¬ (255 : Int32) < c) (hb : bs = cs.map (fun c => c.toInt8.toInt32)) (hfr : 4 ≤ R.frames) (hlo : W + 65 ≤ R.locals) :
    Back l R p e below s args (⟨"java/lang/String", "<init>", "([C)V"⟩ : MethodName) len W (fun P a => a = #[.ref x, .ref b] ∧ P.U.heap = h ∧ P.cells + 1 ≤ R.cells ∧ P.slots + n ≤ R.slots)
      (fun P _ v B => ∃ L, QV Z x N bs h n0 v B.U.heap L ∧ B.locs = P.locs ++ L ∧ B.cells = P.cells + 1 ∧ B.slots = P.slots + n) := by
  subst hn hN hb
  refine Back.mono (backArv hZ hw wi E V C K S hz (n32 (by omega)) l0 (by omega) (fun c hc => (hp c hc).2) hfr hlo) (fun P a hp => hp) (fun P a v B hp hq => ?_)
  obtain ⟨L, ⟨q1, q2, q3, q4, q5, q6, q7, ⟨kb, v1, v2⟩, q9⟩, hl, hc, hs⟩ := hq
  exact ⟨L, ⟨q1, fun y hy => by rw [q2 y hy]; exact hx0, q3, q5, q7, h.size, kb, hh0, Nat.le_refl _, Nat.ne_of_gt E.lt, q6, by rw [List.map_map]; exact v2⟩, hl, hc, hs⟩
end StrChars.Road
namespace StrChars
open Jvm Sem ClassFile Op Lib Jvm.Stand Jvm.Free.XT Jvm.Free.ALB Jvm.Free.JM Jvm.Free
open Jvm.Lib.Cold (StaticIs)
def hi8 (x : Int32) : Int32 := lo8 (x >>> ((8 : Int32) &&& 31))
/-- what StringUTF16.getChar makes of two bytes -/
def pairCh (u v : Int32) : Int32 := (((u &&& 255) <<< ((0 : Int32) &&& 31)) ||| ((v &&& 255) <<< ((8 : Int32) &&& 31))).toUInt32.toUInt16.toUInt32.toInt32
theorem lo8_and (x : Int32) : (lo8 x &&& 255).toBitVec.toNat = x.toBitVec.toNat % 256 := by
  have h : (lo8 x).toBitVec = (x.toBitVec.signExtend 8).signExtend 32 := by rw [lo8, Int8.toBitVec_toInt32, Int32.toBitVec_toInt8]
  rw [Int32.toBitVec_and, BitVec.toNat_and, h]
  have e : ((x.toBitVec.signExtend 8).signExtend 32).toNat % 256 = x.toBitVec.toNat % 256 := by
    rw [BitVec.toNat_signExtend]
    have hlt := x.toBitVec.isLt
    simp only [BitVec.toNat_setWidth, BitVec.toNat_signExtend]
    split <;> split <;> omega
  rw [← e]
  exact Nat.and_two_pow_sub_one_eq_mod _ 8
theorem pair_says {c : Int32} (h0 : ¬ c < 0) (h1 : ¬ 65535 < c) : pairCh (lo8 c) (hi8 c) = c := by
  rw [Int32.lt_iff_toInt_lt] at h0 h1
  have e0 : (0 : Int32).toInt = 0 := rfl
  have e1 : (65535 : Int32).toInt = 65535 := rfl
  have hc : c.toInt = c.toBitVec.toNat := by
    have := c.toBitVec.isLt
    have e : c.toInt = c.toBitVec.toInt := rfl
    rw [e] at h0 h1
    rw [e]
    rw [BitVec.toInt_eq_toNat_cond] at h0 h1 ⊢
    split at h0 <;> split <;> omega
  have hn : c.toBitVec.toNat < 65536 := by omega
  have a1 := lo8_and c
  have a2 : (hi8 c &&& 255).toBitVec.toNat = c.toBitVec.toNat / 256 := by
    rw [hi8, lo8_and]
    have e : ((8 : Int32) &&& 31) = 8 := by decide
    rw [e, Int32.toBitVec_shiftRight]
    have e2 : ((8 : Int32).toBitVec.smod 32) = 8#32 := by decide
    rw [e2, BitVec.sshiftRight_eq', BitVec.toNat_sshiftRight_of_msb_false (by rw [BitVec.msb_eq_false_iff_two_mul_lt]; omega)]
    show c.toBitVec.toNat >>> 8 % 256 = _
    rw [Nat.shiftRight_eq_div_pow]
    omega
  unfold pairCh
  apply Int32.toBitVec_inj.mp
  apply BitVec.eq_of_toNat_eq
  have f0 : ((0 : Int32) &&& 31) = 0 := by decide
  have f8 : ((8 : Int32) &&& 31) = 8 := by decide
  rw [f0, f8]
  have g : (((lo8 c &&& 255) <<< (0 : Int32)) ||| ((hi8 c &&& 255) <<< (8 : Int32))).toBitVec.toNat = c.toBitVec.toNat := by
    rw [Int32.toBitVec_or, Int32.toBitVec_shiftLeft, Int32.toBitVec_shiftLeft]
    have s0 : ((0 : Int32).toBitVec.smod 32) = 0#32 := by decide
    have s8 : ((8 : Int32).toBitVec.smod 32) = 8#32 := by decide
    rw [s0, s8, BitVec.toNat_or]
    simp only [BitVec.shiftLeft_eq', BitVec.toNat_shiftLeft, a1, a2]
    show (c.toBitVec.toNat % 256) <<< 0 % 2 ^ 32 ||| (c.toBitVec.toNat / 256) <<< 8 % 2 ^ 32 = _
    rw [Nat.shiftLeft_zero, Nat.mod_eq_of_lt (show c.toBitVec.toNat % 256 < 2 ^ 32 by omega), Nat.mod_eq_of_lt (show (c.toBitVec.toNat / 256) <<< 8 < 2 ^ 32 by rw [Nat.shiftLeft_eq]; omega), Nat.or_comm, ← Nat.shiftLeft_add_eq_or_of_lt (by omega), Nat.shiftLeft_eq]
    omega
  show BitVec.toNat (((((lo8 c &&& 255) <<< (0 : Int32)) ||| ((hi8 c &&& 255) <<< (8 : Int32))).toBitVec.setWidth 16).setWidth 32) = _
  rw [BitVec.toNat_setWidth, BitVec.toNat_setWidth, g]
  omega
end StrChars
namespace StrChars
open Jvm Sem ClassFile Op Lib Jvm.Stand Jvm.Free.XT Jvm.Free.ALB Jvm.Free.JM Jvm.Free
open Jvm.Lib.Cold (StaticIs)
/-- the array's cell V codes the n chars f 0 .. f (n - 1) by the coder cd, as the JDK does: coder 1 just where some char is above 255 -/
def Cod (cd : Int32) (n : Nat) (f : Nat → Int32) (V : Cell) : Prop := (cd = 0 ∧ V.slots.size = n ∧ ∀ j, j < n → V.slots[j]? = some (.int (lo8 (f j))) ∧ ¬ 255 < f j) ∨ (cd = 1 ∧ V.slots.size = 2 * n ∧ (∀ j, j < n → V.slots[2 * j]? = some (.int (lo8 (f j))) ∧ V.slots[2 * j + 1]? = some (.int (hi8 (f j)))) ∧ ∃ j, j < n ∧ 255 < f j)
/-- **x is a String of the n chars f 0 .. f (n - 1)**, Latin-1 or UTF-16; its array at t has the cell V -/
def Txt (x t : Addr) (V : Cell) (cd : Int32) (n : Nat) (f : Nat → Int32) (U : State) : Prop := Exact "java/lang/String" x U ∧ Has x "java/lang/String" "value" "[B" (.ref t) U ∧ Has x "java/lang/String" "coder" "B" (.int cd) U ∧ XT.Arr .byte t V U ∧ Cod cd n f V ∧ ∀ j, j < n → ¬ f j < 0 ∧ ¬ 65535 < f j
theorem Txt.mv {x t : Addr} {V : Cell} {cd : Int32} {n : Nat} {f : Nat → Int32} {U U' : State} (h : Txt x t V cd n f U) (hal : U.vm.Alike U'.vm) (hh : U'.heap = U.heap) : Txt x t V cd n f U' := ⟨h.1.mv hal hh, h.2.1.mv hal hh, h.2.2.1.mv hal hh, h.2.2.2.1.mv hal hh, h.2.2.2.2⟩
end StrChars
namespace StrChars.Road
open Jvm Sem ClassFile Op Lib Jvm.Stand Jvm.Free Jvm.Free.XT
open Jvm.Lib.Cold (StaticIs)
theorem consq {a : Array Value} {s : State} {c : Jvm.Cond} {L : List Jvm.Cond} (h0 : c.before a s = true) (h : ∀ w ∈ L, w.before a s = true) : ∀ w ∈ c :: L, w.before a s = true := fun w hw => (List.mem_cons.mp hw).elim (fun e => e ▸ h0) (h w)
/-- the bytes of the chars cs, low before high -/
def wideBytes : List Int32 → List Value
  | [] => []
  | c :: cs => .int (lo8 c) :: .int (hi8 c) :: wideBytes cs
theorem wide_lo (d : Value) : ∀ (cs : List Int32) (j : Nat), j < cs.length → (wideBytes cs).getD (2 * j) d = .int (lo8 (cs.getD j 0))
  | [], j, h => absurd h (Nat.not_lt_zero j)
  | c :: cs, 0, _ => rfl
  | c :: cs, j + 1, h => by
    have q := wide_lo d cs j (by simpa using h)
    rw [show 2 * (j + 1) = 2 * j + 1 + 1 from by omega]
    simpa [wideBytes] using q
theorem wide_hi (d : Value) : ∀ (cs : List Int32) (j : Nat), j < cs.length → (wideBytes cs).getD (2 * j + 1) d = .int (hi8 (cs.getD j 0))
  | [], j, h => absurd h (Nat.not_lt_zero j)
  | c :: cs, 0, _ => rfl
  | c :: cs, j + 1, h => by
    have q := wide_hi d cs j (by simpa using h)
    rw [show 2 * (j + 1) + 1 = 2 * j + 1 + 1 + 1 from by omega]
    simpa [wideBytes] using q
theorem low_at (d : Value) (cs : List Int32) (j : Nat) (h : j < cs.length) : (cs.map fun c => Value.int (lo8 c)).getD j d = .int (lo8 (cs.getD j 0)) := by
  simp [List.getD_eq_getElem?_getD, h]
/-- an array of N2 bytes vs codes the chars cs by the coder cd -/
def CodA (cs : List Int32) (cd N2 : Int32) (vs : List Value) : Prop := (cd = 0 ∧ N2 = Int32.ofNat cs.length ∧ vs = (cs.map fun c => Value.int (lo8 c)) ∧ ∀ c ∈ cs, ¬ 255 < c) ∨ (cd = 1 ∧ N2 = Int32.ofNat (2 * cs.length) ∧ vs = wideBytes cs ∧ ∃ c ∈ cs, 255 < c)
theorem CodA.cod {cs : List Int32} {cd N2 : Int32} {vs : List Value} {V : Cell} (h : CodA cs cd N2 vs) (hn : 2 * cs.length < 2 ^ 31) (hs : V.slots.size = N2.toNatClampNeg) (hv : RoadKit.Has V vs (.int 0)) : Cod cd cs.length (fun j => cs.getD j 0) V := by
  rcases h with ⟨rfl, rfl, rfl, h⟩ | ⟨rfl, rfl, rfl, c, hc, hw⟩
  · rw [n32 (by omega)] at hs
    exact Or.inl ⟨rfl, hs, fun j hj => ⟨by rw [hv j (by omega), low_at _ _ _ hj], by
      have e : cs.getD j 0 = cs[j] := by simp [List.getD_eq_getElem?_getD, hj]
      show ¬ 255 < cs.getD j 0
      rw [e]; exact h _ (List.getElem_mem _)⟩⟩
  · rw [n32 (by omega)] at hs
    obtain ⟨j, hj, rfl⟩ := List.getElem_of_mem hc
    exact Or.inr ⟨rfl, hs, fun j hj => ⟨by rw [hv _ (by omega), wide_lo _ _ _ hj], by rw [hv _ (by omega), wide_hi _ _ _ hj]⟩, j, hj, by
      have e : cs.getD j 0 = cs[j] := by simp [List.getD_eq_getElem?_getD, hj]
      show 255 < cs.getD j 0
      rw [e]; exact hw⟩
/-- an object of exactly java/lang/String, its two fields found: as the laws ask it -/
theorem strObj {Z U : State} {a0 : Array Value} {kI : Nat} (wi : (Jvm.Cond.instantiable ST kI).before a0 Z = true) (al : Z.vm.Alike U.vm) {x : Addr} {v0 c0 : Value} (E : RoadKit.Exa Z U.heap x ST) (V : RoadKit.Fld Z U.heap x ST "value" "[B" v0) (C : RoadKit.Fld Z U.heap x ST "coder" "B" c0) :
    ∃ (D : Cell) (fV fC : Field), Blank ST x D U ∧ Found ST "value" "[B" fV U ∧ Found ST "coder" "B" fC U ∧ D.slots[fV.slot]? = some v0 ∧ D.slots[fC.slot]? = some c0 ∧ RoadKit.slotOf Z ST "value" "[B" = fV.slot ∧ RoadKit.slotOf Z ST "coder" "B" = fC.slot := by
  obtain ⟨D, cfV, kV, iV, fV, hD, gV, stV, knV, obV, asV, slV⟩ := V
  obtain ⟨D', cfC, kC, iC, fC, hD', gC, stC, -, -, asC, slC⟩ := C
  cases hD.symm.trans hD'
  obtain ⟨D2, kD, e1, e2, e3, e4, e5⟩ := E
  cases hD.symm.trans e1
  obtain ⟨c2, k2, i1, i2, i3, -⟩ := Cond.instantiable_spec wi
  cases e2.symm.trans i1
  cases e3.symm.trans i2
  obtain ⟨kU, u1, u2⟩ := al.2.2 _ _ e3
  exact ⟨D, fV, fC, ⟨hD, ⟨knV, fun q hq => by rw [hq] at obV; cases obV⟩, by rw [al.findClass]; exact e2, kU, u1, by rw [u2]; exact i3, by rw [u2]; exact e5 i3⟩, ⟨SBG.found_only al ⟨cfV, kV, iV, gV⟩, stV⟩, ⟨SBG.found_only al ⟨cfC, kC, iC, gC⟩, stC⟩, slV, slC, by simp [RoadKit.slotOf, gV], by simp [RoadKit.slotOf, gC]⟩
theorem sta_is {Z U : State} (al : Z.vm.Alike U.vm) {C n d : String} {v : Value} (S : RoadKit.Sta Z U.heap C n d v) : StaticIs U C n d v := by
  obtain ⟨cfS, iS, kS, fS, st, cS, t1, t2, t3, t4, t5, t6, t7⟩ := S
  exact StaticIs.there (s := { Z with heap := U.heap }) ⟨cfS, iS, kS, fS, st, cS, t1, t2, t3, t4, t5, (fun q => by rw [q] at t6; cases t6), t7⟩ al rfl
end StrChars.Road
namespace StrChars
open Jvm Sem ClassFile Op Lib Jvm.Stand Jvm.Free.XT Jvm.Free.ALB Jvm.Free.JM Jvm.Free
open Jvm.Lib.Cold (StaticIs)
/-- what place i of a byte[]'s cell holds -/
def yv (A : Cell) (i : Nat) : Int32 := match A.slots[i]? with | some (.int x) => x | _ => 0
theorem yv_get {a : Addr} {A : Cell} {U : State} (h : XT.Arr .byte a A U) (ht : Typed .byte A) {i : Nat} (hi : i < A.slots.size) : A.slots[i]? = some (.int (yv A i)) := by
  have e := Array.getElem?_eq_getElem hi
  have f := ht i _ e
  unfold yv; rw [e]
  generalize A.slots[i] = v at f
  cases v <;> simp [fits] at f ⊢
/-- the two arrays are equal, place for place -/
def EqC (A B : Cell) : Prop := A.slots.size = B.slots.size ∧ ∀ i, i < A.slots.size → yv A i = yv B i
/-- a boolean that says whether p -/
def Says01 (q : Prop) (r : Option Value) (s u : State) : Prop := ∃ v : Int32, r = some (.int v) ∧ u.heap = s.heap ∧ ((v = 1 ∧ q) ∨ (v = 0 ∧ ¬ q))
theorem Says01.mv {q : Prop} : ∀ r (U U' V V' : State), U'.heap = U.heap → V.vm.Alike V'.vm → V'.heap = V.heap → Says01 q r U V → Says01 q r U' V' :=
  fun r U U' V V' h1 _ h2 ⟨v, a, b, c⟩ => ⟨v, a, by rw [h1, h2]; exact b, c⟩
namespace LEq
def yN : MethodName := ⟨"java/lang/StringLatin1", "equals", "([B[B)Z"⟩
abbrev yB : ByteArray := jdk_43_method_13_code
theorem d0 : decode yB 0 = .ok (.aload_n 0, 1) := by decide +kernel
theorem d1 : decode yB 1 = .ok (.arraylength, 1) := by decide +kernel
theorem d2 : decode yB 2 = .ok (.aload_n 1, 1) := by decide +kernel
theorem d3 : decode yB 3 = .ok (.arraylength, 1) := by decide +kernel
theorem d4 : decode yB 4 = .ok (.if_icmp (.ne) 30, 3) := by decide +kernel
theorem d7 : decode yB 7 = .ok (.iconst 0, 1) := by decide +kernel
theorem d8 : decode yB 8 = .ok (.istore_n 2, 1) := by decide +kernel
theorem d9 : decode yB 9 = .ok (.iload_n 2, 1) := by decide +kernel
theorem d10 : decode yB 10 = .ok (.aload_n 0, 1) := by decide +kernel
theorem d11 : decode yB 11 = .ok (.arraylength, 1) := by decide +kernel
theorem d12 : decode yB 12 = .ok (.if_icmp (.ge) 20, 3) := by decide +kernel
theorem d15 : decode yB 15 = .ok (.aload_n 0, 1) := by decide +kernel
theorem d16 : decode yB 16 = .ok (.iload_n 2, 1) := by decide +kernel
theorem d17 : decode yB 17 = .ok (.baload, 1) := by decide +kernel
theorem d18 : decode yB 18 = .ok (.aload_n 1, 1) := by decide +kernel
theorem d19 : decode yB 19 = .ok (.iload_n 2, 1) := by decide +kernel
theorem d20 : decode yB 20 = .ok (.baload, 1) := by decide +kernel
theorem d21 : decode yB 21 = .ok (.if_icmp (.eq) 5, 3) := by decide +kernel
theorem d24 : decode yB 24 = .ok (.iconst 0, 1) := by decide +kernel
theorem d25 : decode yB 25 = .ok (.ireturn, 1) := by decide +kernel
theorem d26 : decode yB 26 = .ok (.iinc 2 1, 3) := by decide +kernel
theorem d29 : decode yB 29 = .ok (.goto (-20), 3) := by decide +kernel
theorem d32 : decode yB 32 = .ok (.iconst 1, 1) := by decide +kernel
theorem d33 : decode yB 33 = .ok (.ireturn, 1) := by decide +kernel
theorem d34 : decode yB 34 = .ok (.iconst 0, 1) := by decide +kernel
theorem d35 : decode yB 35 = .ok (.ireturn, 1) := by decide +kernel
def site : List Cond := []
def tab : Cond := tabOf yN yB 3 (some .boolean) site
def P (a : Addr) (A : Cell) (b : Addr) (B : Cell) (args : Array Value) (s : State) : Prop := args = #[.ref a, .ref b] ∧ XT.Arr .byte a A s ∧ Typed .byte A ∧ XT.Arr .byte b B s ∧ Typed .byte B
/-- whether two byte[] are equal, place for place -/
theorem law (l : Launch) (a : Addr) (A : Cell) (b : Addr) (B : Cell) : Law l yN 2 2 0 0 yB 3 (some .boolean) site (P a A b B) (Says01 (EqC A B)) [] 0 0 := by
  refine Law.of_walk (plainFor_of_name (by decide +kernel)) (by decide +kernel) (by decide +kernel) (by decide) (fun _ _ h => by rw [h.1]; rfl) (fun _ U U' hal hh h => ⟨h.1, h.2.1.mv hal hh, h.2.2.1, h.2.2.2.1.mv hal hh, h.2.2.2.2⟩) (fun r U U' V V' h1 hal h2 h => Says01.mv r U U' V V' h1 hal h2 h) ?_
  intro p e s m args below meth c s₁ X0 hexec hbytes hml hret hlk hnm hown hh0 W hP
  obtain ⟨rfl, hA, tA, hB, tB⟩ := hP
  have a31 := hA.2.2.2
  have b31 := hB.2.2.2
  have hA0 := hA.mv X0.warmed.alike hh0
  have hB0 := hB.mv X0.warmed.alike hh0
  have c1 : Steps p.tables e below (s₁.setTop (entryFrame m #[.ref a, .ref b] 3)) (s₁.setTop (mkF m 0 #[.val (.ref a), .val (.ref b), .unset] [])) := entry rfl
  have c2 : Steps p.tables e below (s₁.setTop (entryFrame m #[.ref a, .ref b] 3)) (s₁.setTop (mkF m 4 #[.val (.ref a), .val (.ref b), .unset] [.int (Int32.ofNat B.slots.size), .int (Int32.ofNat A.slots.size)])) := c1.trans (by
    refine XS.aloadN X0.here hexec rfl (hb hbytes d0) rfl rfl ?_
    refine X0.alen hexec hA0 rfl rfl (hb hbytes d1) ?_
    refine XS.aloadN X0.here hexec rfl (hb hbytes d2) rfl rfl ?_
    refine X0.alen hexec hB0 rfl rfl (hb hbytes d3) ?_
    exact Steps.refl _)
  by_cases hs : A.slots.size = B.slots.size
  · have c3 : Steps p.tables e below (s₁.setTop (entryFrame m #[.ref a, .ref b] 3)) (s₁.setTop (mkF m 9 #[.val (.ref a), .val (.ref b), .val (.int 0)] [])) := c2.trans (by
      refine XS.icmpNo X0.here hexec rfl (hb hbytes d4) rfl (ii_ne_f (by rw [hs])) ?_
      refine iconstV X0.here hexec rfl 0 (hb hbytes d7) (by decide) ?_
      refine XS.istoreN X0.here hexec rfl (hb hbytes d8) rfl rfl ?_
      exact Steps.refl _)
    have loop : ∀ (r i : Nat), i + r = A.slots.size → (∀ j, j < i → yv A j = yv B j) → Steps p.tables e below (s₁.setTop (entryFrame m #[.ref a, .ref b] 3)) (s₁.setTop (mkF m 9 #[.val (.ref a), .val (.ref b), .val (.int (Int32.ofNat i))] [])) → ∃ (pc : Nat) (Ls : Array Slot) (v : Int32), (pc = 25 ∨ pc = 33) ∧ ((v = 1 ∧ EqC A B) ∨ (v = 0 ∧ ¬ EqC A B)) ∧ Steps p.tables e below (s₁.setTop (entryFrame m #[.ref a, .ref b] 3)) (s₁.setTop (mkF m pc Ls [.int v])) := by
      intro r
      induction r with
      | zero =>
        intro i hi he cl
        exact ⟨33, _, 1, Or.inr rfl, Or.inl ⟨rfl, hs, fun j hj => he j (by omega)⟩, cl.trans (by
          refine XS.iloadN X0.here hexec rfl (hb hbytes d9) rfl ?_
          refine XS.aloadN X0.here hexec rfl (hb hbytes d10) rfl rfl ?_
          refine X0.alen hexec hA0 rfl rfl (hb hbytes d11) ?_
          refine XS.icmpYes X0.here hexec rfl (pc0 := 12) rfl (hb hbytes d12) rfl (ii_ge_t (nlt32 (by omega) (by omega))) (by decide) rfl ?_
          refine iconstV X0.here hexec rfl 1 (hb hbytes d32) (by decide) ?_
          exact Steps.refl _)⟩
      | succ r ih =>
        intro i hi he cl
        have c4 : Steps p.tables e below (s₁.setTop (entryFrame m #[.ref a, .ref b] 3)) (s₁.setTop (mkF m 21 #[.val (.ref a), .val (.ref b), .val (.int (Int32.ofNat i))] [.int (yv B i), .int (yv A i)])) := cl.trans (by
          refine XS.iloadN X0.here hexec rfl (hb hbytes d9) rfl ?_
          refine XS.aloadN X0.here hexec rfl (hb hbytes d10) rfl rfl ?_
          refine X0.alen hexec hA0 rfl rfl (hb hbytes d11) ?_
          refine XS.icmpNo X0.here hexec rfl (hb hbytes d12) rfl (ii_ge_f (lt32 (by omega) (by omega))) ?_
          refine XS.aloadN X0.here hexec rfl (hb hbytes d15) rfl rfl ?_
          refine XS.iloadN X0.here hexec rfl (hb hbytes d16) rfl ?_
          refine X0.aget hexec hA0 rfl (yv_get hA tA (i := i) (by omega)) rfl rfl (hb hbytes d17) ?_
          refine XS.aloadN X0.here hexec rfl (hb hbytes d18) rfl rfl ?_
          refine XS.iloadN X0.here hexec rfl (hb hbytes d19) rfl ?_
          refine X0.aget hexec hB0 rfl (yv_get hB tB (i := i) (by omega)) rfl rfl (hb hbytes d20) ?_
          exact Steps.refl _)
        by_cases hv : yv A i = yv B i
        · have c5 : Steps p.tables e below (s₁.setTop (entryFrame m #[.ref a, .ref b] 3)) (s₁.setTop (mkF m 9 #[.val (.ref a), .val (.ref b), .val (.int (Int32.ofNat i + 1))] [])) := c4.trans (by
            refine XS.icmpYes X0.here hexec rfl (pc0 := 21) rfl (hb hbytes d21) rfl (ii_eq_t hv) (by decide) rfl ?_
            refine iincV X0.here hexec rfl 1 (hb hbytes d26) (by decide) rfl rfl ?_
            refine XS.goto X0.here hexec rfl (pc0 := 29) rfl (hb hbytes d29) (by decide) rfl ?_
            exact Steps.refl _)
          rw [succ32] at c5
          exact ih (i + 1) (by omega) (fun j hj => by
            by_cases e : j = i
            · rw [e]; exact hv
            · exact he j (by omega)) c5
        · exact ⟨25, _, 0, Or.inl rfl, Or.inr ⟨rfl, fun q => hv (q.2 i (by omega))⟩, c4.trans (by
            refine XS.icmpNo X0.here hexec rfl (hb hbytes d21) rfl (ii_eq_f hv) ?_
            refine iconstV X0.here hexec rfl 0 (hb hbytes d24) (by decide) ?_
            exact Steps.refl _)⟩
    obtain ⟨pc, Ls, v, hpc, hv, cz⟩ := loop A.slots.size 0 (by omega) (fun j hj => absurd hj (Nat.not_lt_zero j)) c3
    have nv : narrow .boolean (.int v) = .int v := by rcases hv with ⟨rfl, -⟩ | ⟨rfl, -⟩ <;> rfl
    rcases hpc with rfl | rfl
    · exact ⟨s₁, some (.int v), _, _, _, X0, rfl, rfl, rfl, (fun h => by cases h), ⟨v, rfl, hh0, hv⟩, fun fs hl => cz.trans (X0.ireturnOut hexec hret nv (Or.inr (Or.inl rfl)) (hb hbytes d25) hl)⟩
    · exact ⟨s₁, some (.int v), _, _, _, X0, rfl, rfl, rfl, (fun h => by cases h), ⟨v, rfl, hh0, hv⟩, fun fs hl => cz.trans (X0.ireturnOut hexec hret nv (Or.inr (Or.inl rfl)) (hb hbytes d33) hl)⟩
  · have c3 : Steps p.tables e below (s₁.setTop (entryFrame m #[.ref a, .ref b] 3)) (s₁.setTop (mkF m 35 #[.val (.ref a), .val (.ref b), .unset] [.int 0])) := c2.trans (by
      refine XS.icmpYes X0.here hexec rfl (pc0 := 4) rfl (hb hbytes d4) rfl (ii_ne_t (ne32 a31 b31 hs)) (by decide) rfl ?_
      refine iconstV X0.here hexec rfl 0 (hb hbytes d34) (by decide) ?_
      exact Steps.refl _)
    exact ⟨s₁, some (.int 0), _, _, _, X0, rfl, rfl, rfl, (fun h => by cases h), ⟨0, rfl, hh0, Or.inr ⟨rfl, fun q => hs q.1⟩⟩, fun fs hl => c3.trans (X0.ireturnOut hexec hret rfl (Or.inr (Or.inl rfl)) (hb hbytes d35) hl)⟩
end LEq
theorem Cod.ty {cd : Int32} {n : Nat} {f : Nat → Int32} {V : Cell} (h : Cod cd n f V) : Typed .byte V := fun i v hv => by
  have hi : i < V.slots.size := (Array.getElem?_eq_some_iff.mp hv).1
  rcases h with ⟨-, k1, k2⟩ | ⟨-, k1, k2, -⟩
  · rw [(k2 i (by omega)).1] at hv; cases hv; exact fits_lo8 _
  · rcases Nat.mod_two_eq_zero_or_one i with e | e
    · obtain ⟨j, rfl⟩ : ∃ j, i = 2 * j := ⟨i / 2, by omega⟩
      rw [(k2 j (by omega)).1] at hv; cases hv; exact fits_lo8 _
    · obtain ⟨j, rfl⟩ : ∃ j, i = 2 * j + 1 := ⟨i / 2, by omega⟩
      rw [(k2 j (by omega)).2] at hv; cases hv; exact fits_lo8 _
/-- the same text -/
def SameT (n : Nat) (f : Nat → Int32) (k : Nat) (g : Nat → Int32) : Prop := n = k ∧ ∀ j, j < n → f j = g j
theorem lo8_inj {x y : Int32} (h0 : ¬ x < 0) (h1 : ¬ 255 < x) (k0 : ¬ y < 0) (k1 : ¬ 255 < y) (h : lo8 x = lo8 y) : x = y := by
  rw [← lo8_mask h0 h1, ← lo8_mask k0 k1, h]
/-- arrays coded by one coder are equal just where the texts are -/
theorem Cod.eqv {cd : Int32} {n k : Nat} {f g : Nat → Int32} {V V' : Cell} (h : Cod cd n f V) (h' : Cod cd k g V') (hf : ∀ j, j < n → ¬ f j < 0 ∧ ¬ 65535 < f j) (hg : ∀ j, j < k → ¬ g j < 0 ∧ ¬ 65535 < g j) : EqC V V' ↔ SameT n f k g := by
  have yvv : ∀ {W : Cell} {i : Nat} {x : Int32}, W.slots[i]? = some (.int x) → yv W i = x := fun q => by unfold yv; rw [q]
  rcases h with ⟨rfl, k1, k2⟩ | ⟨rfl, k1, k2, -⟩
  · rcases h' with ⟨-, m1, m2⟩ | ⟨e, -⟩
    · constructor
      · rintro ⟨e1, e2⟩
        refine ⟨by omega, fun j hj => ?_⟩
        have q := e2 j (by omega)
        rw [yvv (k2 j hj).1, yvv (m2 j (by omega)).1] at q
        exact lo8_inj (hf j hj).1 (k2 j hj).2 (hg j (by omega)).1 (m2 j (by omega)).2 q
      · rintro ⟨rfl, e2⟩
        refine ⟨by omega, fun j hj => ?_⟩
        rw [yvv (k2 j (by omega)).1, yvv (m2 j (by omega)).1, e2 j (by omega)]
    · exact absurd e (by decide)
  · rcases h' with ⟨e, -⟩ | ⟨-, m1, m2, -⟩
    · exact absurd e (by decide)
    · constructor
      · rintro ⟨e1, e2⟩
        refine ⟨by omega, fun j hj => ?_⟩
        have q1 := e2 (2 * j) (by omega)
        have q2 := e2 (2 * j + 1) (by omega)
        rw [yvv (k2 j hj).1, yvv (m2 j (by omega)).1] at q1
        rw [yvv (k2 j hj).2, yvv (m2 j (by omega)).2] at q2
        rw [← pair_says (hf j hj).1 (hf j hj).2, ← pair_says (hg j (by omega)).1 (hg j (by omega)).2, q1, q2]
      · rintro ⟨rfl, e2⟩
        refine ⟨by omega, fun i hi => ?_⟩
        rcases Nat.mod_two_eq_zero_or_one i with e | e
        · obtain ⟨j, rfl⟩ : ∃ j, i = 2 * j := ⟨i / 2, by omega⟩
          rw [yvv (k2 j (by omega)).1, yvv (m2 j (by omega)).1, e2 j (by omega)]
        · obtain ⟨j, rfl⟩ : ∃ j, i = 2 * j + 1 := ⟨i / 2, by omega⟩
          rw [yvv (k2 j (by omega)).2, yvv (m2 j (by omega)).2, e2 j (by omega)]
/-- two codings differ: so do the texts -/
theorem Cod.dif {cd cd' : Int32} {n k : Nat} {f g : Nat → Int32} {V V' : Cell} (h : Cod cd n f V) (h' : Cod cd' k g V') (hne : ¬ cd = cd') : ¬ SameT n f k g := by
  rintro ⟨rfl, e⟩
  rcases h with ⟨rfl, -, k2⟩ | ⟨rfl, -, -, j, hj, hw⟩
  · rcases h' with ⟨rfl, -⟩ | ⟨-, -, -, j, hj, hw⟩
    · exact hne rfl
    · exact (k2 j hj).2 (by rw [e j hj]; exact hw)
  · rcases h' with ⟨-, -, m2⟩ | ⟨rfl, -⟩
    · exact (m2 j hj).2 (by rw [← e j hj]; exact hw)
    · exact hne rfl
/-- an object of exactly C is an instance of C -/
theorem cinst {p : Program} {l : Launch} {e : Env} {R : Room} {s : State} {m : MethodId} {args : Array Value} {below : List Frame} {meth : Method} {c : Code} {T : State} {locs : List Loc} {cells slots : Nat} (X : Stand p l e R s m args below meth c T locs cells slots) (hexec : p.tables.exec = Jvm.exec) {own C : String} {index : Nat} (hown : s.vm.findClass own = some m.cls) (hlink : (Cond.classLink own index C).before args s = true) {a : Addr} (hE : Exact C a T)
    {g : JFrame} (hg : g.method = m) {rest : List Value} (hstack : g.stack = .ref a :: rest) (hdg : decode c.code g.pc = .ok (.instanceof index, 3)) :
    ∃ T', Stand p l e R s m args below meth c T' locs cells slots ∧ T'.heap = T.heap ∧ ∀ target, Steps p.tables e below (T'.setTop { g with pc := g.pc + 3, stack := .int 1 :: rest }) target → Steps p.tables e below (T.setTop g) target := by
  obtain ⟨cB, h1, D, h2, h3, h4⟩ := hE
  have h1' : s.vm.findClass C = some cB := by rw [← X.warmed.alike.findClass]; exact h1
  obtain ⟨vm', X', st⟩ := X.instanceofYes hexec hown hlink h2 h4 h1' (by rw [h3]; exact Jvm.Free.SB.assignable_self _ _) hg hstack hdg
  exact ⟨_, X', rfl, st⟩
theorem cself {p : Program} {l : Launch} {e : Env} {R : Room} {s : State} {m : MethodId} {args : Array Value} {below : List Frame} {meth : Method} {c : Code} {T : State} {locs : List Loc} {cells slots : Nat} (X : Stand p l e R s m args below meth c T locs cells slots) (hexec : p.tables.exec = Jvm.exec) {own C : String} {index : Nat} (hown : s.vm.findClass own = some m.cls) (hlink : (Cond.classLink own index C).before args s = true) {a : Addr} (hE : Exact C a T)
    {g : JFrame} (hg : g.method = m) {rest : List Value} (hstack : g.stack = .ref a :: rest) (hdg : decode c.code g.pc = .ok (.checkcast index, 3)) :
    ∃ T', Stand p l e R s m args below meth c T' locs cells slots ∧ T'.heap = T.heap ∧ ∀ target, Steps p.tables e below (T'.setTop { g with pc := g.pc + 3, stack := .ref a :: rest }) target → Steps p.tables e below (T.setTop g) target := by
  obtain ⟨cB, h1, D, h2, h3, h4⟩ := hE
  have h1' : s.vm.findClass C = some cB := by rw [← X.warmed.alike.findClass]; exact h1
  obtain ⟨vm', X', st⟩ := X.checkcastYes hexec hown hlink h2 h4 h1' (by rw [h3]; exact Jvm.Free.SB.assignable_self _ _) hg hstack hdg
  exact ⟨_, X', rfl, fun t h => st t (by rw [← hstack] at h; exact h)⟩
namespace SEq
def yN : MethodName := ⟨"java/lang/String", "equals", "(Ljava/lang/Object;)Z"⟩
abbrev yB : ByteArray := jdk_42_method_66_code
theorem d0 : decode yB 0 = .ok (.aload_n 0, 1) := by decide +kernel
theorem d1 : decode yB 1 = .ok (.aload_n 1, 1) := by decide +kernel
theorem d2 : decode yB 2 = .ok (.if_acmp (.ne) 5, 3) := by decide +kernel
theorem d5 : decode yB 5 = .ok (.iconst 1, 1) := by decide +kernel
theorem d6 : decode yB 6 = .ok (.ireturn, 1) := by decide +kernel
theorem d7 : decode yB 7 = .ok (.aload_n 1, 1) := by decide +kernel
theorem d8 : decode yB 8 = .ok (.instanceof 10, 3) := by decide +kernel
theorem d11 : decode yB 11 = .ok (.ifCond (.eq) 43, 3) := by decide +kernel
theorem d14 : decode yB 14 = .ok (.aload_n 1, 1) := by decide +kernel
theorem d15 : decode yB 15 = .ok (.checkcast 10, 3) := by decide +kernel
theorem d18 : decode yB 18 = .ok (.astore_n 2, 1) := by decide +kernel
theorem d19 : decode yB 19 = .ok (.getstatic 38, 3) := by decide +kernel
theorem d22 : decode yB 22 = .ok (.ifCond (.eq) 14, 3) := by decide +kernel
theorem d25 : decode yB 25 = .ok (.aload_n 0, 1) := by decide +kernel
theorem d26 : decode yB 26 = .ok (.getfield 15, 3) := by decide +kernel
theorem d29 : decode yB 29 = .ok (.aload_n 2, 1) := by decide +kernel
theorem d30 : decode yB 30 = .ok (.getfield 15, 3) := by decide +kernel
theorem d33 : decode yB 33 = .ok (.if_icmp (.ne) 21, 3) := by decide +kernel
theorem d36 : decode yB 36 = .ok (.aload_n 0, 1) := by decide +kernel
theorem d37 : decode yB 37 = .ok (.getfield 9, 3) := by decide +kernel
theorem d40 : decode yB 40 = .ok (.aload_n 2, 1) := by decide +kernel
theorem d41 : decode yB 41 = .ok (.getfield 9, 3) := by decide +kernel
theorem d44 : decode yB 44 = .ok (.invokestatic 541, 3) := by decide +kernel
theorem d47 : decode yB 47 = .ok (.ifCond (.eq) 7, 3) := by decide +kernel
theorem d50 : decode yB 50 = .ok (.iconst 1, 1) := by decide +kernel
theorem d51 : decode yB 51 = .ok (.goto 4, 3) := by decide +kernel
theorem d54 : decode yB 54 = .ok (.iconst 0, 1) := by decide +kernel
theorem d55 : decode yB 55 = .ok (.ireturn, 1) := by decide +kernel
def site : List Cond := [.classLink "java/lang/String" 10 "java/lang/String", .fieldLink "java/lang/String" 38 "java/lang/String" "COMPACT_STRINGS" "Z", .fieldLink "java/lang/String" 15 "java/lang/String" "coder" "B", .fieldLink "java/lang/String" 9 "java/lang/String" "value" "[B", LEq.tab] ++ staticW "java/lang/String" 541 LEq.yN
def tab : Cond := tabOf yN yB 3 (some .boolean) site
def P (x t : Addr) (V : Cell) (cd : Int32) (n : Nat) (f : Nat → Int32) (y t' : Addr) (V' : Cell) (cd' : Int32) (k : Nat) (g : Nat → Int32) (z : Int32) (args : Array Value) (s : State) : Prop := args = #[.ref x, .ref y] ∧ Txt x t V cd n f s ∧ Txt y t' V' cd' k g s ∧ StaticIs s "java/lang/String" "COMPACT_STRINGS" "Z" (.int z) ∧ ¬ z = 0
/-- equals(Object) of two Strings: whether the texts are the same -/
theorem law (l : Launch) (x t : Addr) (V : Cell) (cd : Int32) (n : Nat) (f : Nat → Int32) (y t' : Addr) (V' : Cell) (cd' : Int32) (k : Nat) (g : Nat → Int32) (z : Int32) : Law l yN 2 1 1 14 yB 3 (some .boolean) site (P x t V cd n f y t' V' cd' k g z) (Says01 (SameT n f k g)) [] 0 0 := by
  refine Law.of_walk (plainFor_of_name (by decide +kernel)) (by decide +kernel) (by decide +kernel) (by decide) (fun _ _ h => by rw [h.1]; rfl) (fun _ U U' hal hh h => ⟨h.1, h.2.1.mv hal hh, h.2.2.1.mv hal hh, h.2.2.2.1.there hal hh, h.2.2.2.2⟩) (fun r U U' V V' h1 hal h2 h => Says01.mv r U U' V V' h1 hal h2 h) ?_
  intro p e s m args below meth c s₁ X0 hexec hbytes hml hret hlk hnm hown hh0 W hP
  obtain ⟨rfl, hx, hy, s1, hz⟩ := hP
  have c1 : Steps p.tables e below (s₁.setTop (entryFrame m #[.ref x, .ref y] 3)) (s₁.setTop (mkF m 2 #[.val (.ref x), .val (.ref y), .unset] [.ref y, .ref x])) := Steps.trans (entry rfl) (by
    show Steps p.tables e below (s₁.setTop (mkF m 0 #[.val (.ref x), .val (.ref y), .unset] [])) _
    refine XS.aloadN X0.here hexec rfl (hb hbytes d0) rfl rfl ?_
    refine XS.aloadN X0.here hexec rfl (hb hbytes d1) rfl rfl ?_
    exact Steps.refl _)
  by_cases hxy : x = y
  · have c2 : Steps p.tables e below (s₁.setTop (entryFrame m #[.ref x, .ref y] 3)) (s₁.setTop (mkF m 6 #[.val (.ref x), .val (.ref y), .unset] [.int 1])) := c1.trans (by
      refine acmpNo X0.here hexec rfl (hb hbytes d2) rfl rfl rfl (by simp [acmp, hxy]) ?_
      refine iconstV X0.here hexec rfl 1 (hb hbytes d5) (by decide) ?_
      exact Steps.refl _)
    subst hxy
    have ec : cd = cd' := by
      obtain ⟨D, fd, a1, a2, a3⟩ := hx.2.2.1
      obtain ⟨D', fd', b1, b2, b3⟩ := hy.2.2.1
      cases a1.symm.trans b1
      obtain ⟨q1, q2, q3, q4⟩ := a2.1
      obtain ⟨r1, r2, r3, r4⟩ := b2.1
      cases q4.symm.trans r4
      cases a3.symm.trans b3; rfl
    have et : t = t' := by
      obtain ⟨D, fd, a1, a2, a3⟩ := hx.2.1
      obtain ⟨D', fd', b1, b2, b3⟩ := hy.2.1
      cases a1.symm.trans b1
      obtain ⟨q1, q2, q3, q4⟩ := a2.1
      obtain ⟨r1, r2, r3, r4⟩ := b2.1
      cases q4.symm.trans r4
      cases a3.symm.trans b3; rfl
    subst ec et
    have ev : V = V' := by cases hx.2.2.2.1.1.symm.trans hy.2.2.2.1.1; rfl
    subst ev
    have hs : SameT n f k g := (Cod.eqv hx.2.2.2.2.1 hy.2.2.2.2.1 hx.2.2.2.2.2 hy.2.2.2.2.2).mp ⟨rfl, fun _ _ => rfl⟩
    exact ⟨s₁, some (.int 1), _, _, _, X0, rfl, rfl, rfl, (fun h => by cases h), ⟨1, rfl, hh0, Or.inl ⟨rfl, hs⟩⟩, fun fs hl => c2.trans (X0.ireturnOut hexec hret rfl (Or.inr (Or.inl rfl)) (hb hbytes d6) hl)⟩
  · have c2 : Steps p.tables e below (s₁.setTop (entryFrame m #[.ref x, .ref y] 3)) (s₁.setTop (mkF m 8 #[.val (.ref x), .val (.ref y), .unset] [.ref y])) := c1.trans (by
      refine acmpYes X0.here hexec rfl (pc0 := 2) rfl (hb hbytes d2) rfl rfl rfl (by simp [acmp, hxy]) (by decide) rfl ?_
      refine XS.aloadN X0.here hexec rfl (hb hbytes d7) rfl rfl ?_
      exact Steps.refl _)
    obtain ⟨T3, X3, q3, st3⟩ := cinst X0 hexec hown (wk W (.classLink "java/lang/String" 10 "java/lang/String")) (hy.mv X0.warmed.alike hh0).1 (g := (mkF m 8 #[.val (.ref x), .val (.ref y), .unset] [.ref y])) rfl (rest := []) rfl (hb hbytes d8)
    have hh3 := q3.trans hh0
    have c4 : Steps p.tables e below (s₁.setTop (entryFrame m #[.ref x, .ref y] 3)) (T3.setTop (mkF m 15 #[.val (.ref x), .val (.ref y), .unset] [.ref y])) := (c2.trans (st3 _ (Steps.refl _))).trans (by
      refine XS.ifNo X3.here hexec rfl (hb hbytes d11) rfl (i0_eq_f (by decide)) ?_
      refine XS.aloadN X3.here hexec rfl (hb hbytes d14) rfl rfl ?_
      exact Steps.refl _)
    obtain ⟨T5, X5, q5, st5⟩ := cself X3 hexec hown (wk W (.classLink "java/lang/String" 10 "java/lang/String")) (hy.mv X3.warmed.alike hh3).1 (g := (mkF m 15 #[.val (.ref x), .val (.ref y), .unset] [.ref y])) rfl (rest := []) rfl (hb hbytes d15)
    have hh5 := q5.trans hh3
    have c6 : Steps p.tables e below (s₁.setTop (entryFrame m #[.ref x, .ref y] 3)) (T5.setTop (mkF m 19 #[.val (.ref x), .val (.ref y), .val (.ref y)] [])) := (c4.trans (st5 _ (Steps.refl _))).trans (by
      refine XS.astoreN X5.here hexec rfl (hb hbytes d18) rfl rfl rfl ?_
      exact Steps.refl _)
    obtain ⟨T7, X7, q7, st7⟩ := X5.sget hexec hown (wk W (.fieldLink "java/lang/String" 38 "java/lang/String" "COMPACT_STRINGS" "Z")) s1 (fun _ _ h => by rw [hh5]; exact h) (g := (mkF m 19 #[.val (.ref x), .val (.ref y), .val (.ref y)] [])) rfl (hb hbytes d19)
    have hh7 := q7.trans hh5
    have c8 : Steps p.tables e below (s₁.setTop (entryFrame m #[.ref x, .ref y] 3)) (T7.setTop (mkF m 26 #[.val (.ref x), .val (.ref y), .val (.ref y)] [.ref x])) := (c6.trans (st7 _ (Steps.refl _))).trans (by
      refine XS.ifNo X7.here hexec rfl (hb hbytes d22) rfl (i0_eq_f hz) ?_
      refine XS.aloadN X7.here hexec rfl (hb hbytes d25) rfl rfl ?_
      exact Steps.refl _)
    obtain ⟨T9, X9, q9, st9⟩ := X7.hget hexec hown (wk W (.fieldLink "java/lang/String" 15 "java/lang/String" "coder" "B")) (hx.mv X7.warmed.alike hh7).2.2.1 (g := (mkF m 26 #[.val (.ref x), .val (.ref y), .val (.ref y)] [.ref x])) rfl (rest := []) rfl (hb hbytes d26)
    have hh9 := q9.trans hh7
    have c10 : Steps p.tables e below (s₁.setTop (entryFrame m #[.ref x, .ref y] 3)) (T9.setTop (mkF m 30 #[.val (.ref x), .val (.ref y), .val (.ref y)] [.ref y, .int cd])) := (c8.trans (st9 _ (Steps.refl _))).trans (by
      refine XS.aloadN X9.here hexec rfl (hb hbytes d29) rfl rfl ?_
      exact Steps.refl _)
    obtain ⟨T11, X11, q11, st11⟩ := X9.hget hexec hown (wk W (.fieldLink "java/lang/String" 15 "java/lang/String" "coder" "B")) (hy.mv X9.warmed.alike hh9).2.2.1 (g := (mkF m 30 #[.val (.ref x), .val (.ref y), .val (.ref y)] [.ref y, .int cd])) rfl (rest := [.int cd]) rfl (hb hbytes d30)
    have hh11 := q11.trans hh9
    have c12 : Steps p.tables e below (s₁.setTop (entryFrame m #[.ref x, .ref y] 3)) (T11.setTop (mkF m 33 #[.val (.ref x), .val (.ref y), .val (.ref y)] [.int cd', .int cd])) := c10.trans (st11 _ (Steps.refl _))
    by_cases hcd : cd = cd'
    · subst hcd
      have c13 : Steps p.tables e below (s₁.setTop (entryFrame m #[.ref x, .ref y] 3)) (T11.setTop (mkF m 37 #[.val (.ref x), .val (.ref y), .val (.ref y)] [.ref x])) := c12.trans (by
        refine XS.icmpNo X11.here hexec rfl (hb hbytes d33) rfl (ii_ne_f rfl) ?_
        refine XS.aloadN X11.here hexec rfl (hb hbytes d36) rfl rfl ?_
        exact Steps.refl _)
      obtain ⟨T14, X14, q14, st14⟩ := X11.hget hexec hown (wk W (.fieldLink "java/lang/String" 9 "java/lang/String" "value" "[B")) (hx.mv X11.warmed.alike hh11).2.1 (g := (mkF m 37 #[.val (.ref x), .val (.ref y), .val (.ref y)] [.ref x])) rfl (rest := []) rfl (hb hbytes d37)
      have hh14 := q14.trans hh11
      have c15 : Steps p.tables e below (s₁.setTop (entryFrame m #[.ref x, .ref y] 3)) (T14.setTop (mkF m 41 #[.val (.ref x), .val (.ref y), .val (.ref y)] [.ref y, .ref t])) := (c13.trans (st14 _ (Steps.refl _))).trans (by
        refine XS.aloadN X14.here hexec rfl (hb hbytes d40) rfl rfl ?_
        exact Steps.refl _)
      obtain ⟨T16, X16, q16, st16⟩ := X14.hget hexec hown (wk W (.fieldLink "java/lang/String" 9 "java/lang/String" "value" "[B")) (hy.mv X14.warmed.alike hh14).2.1 (g := (mkF m 41 #[.val (.ref x), .val (.ref y), .val (.ref y)] [.ref y, .ref t])) rfl (rest := [.ref t]) rfl (hb hbytes d41)
      have hh16 := q16.trans hh14
      have c17 : Steps p.tables e below (s₁.setTop (entryFrame m #[.ref x, .ref y] 3)) (T16.setTop (mkF m 44 #[.val (.ref x), .val (.ref y), .val (.ref y)] [.ref t', .ref t])) := c15.trans (st16 _ (Steps.refl _))
      obtain ⟨v18, T18, X18, E18, g18⟩ := X16.callS hexec (LEq.law l t V t' V') hown (wks W (staticW "java/lang/String" 541 LEq.yN)) (wk W LEq.tab) (W := 0) (Nat.le_of_ble_eq_true rfl) (Nat.le_of_ble_eq_true rfl) (Nat.le_refl _) (Nat.le_refl _) (g := (mkF m 44 #[.val (.ref x), .val (.ref y), .val (.ref y)] [.ref t', .ref t])) rfl (by rw [hml]; rfl) c17 (argsL := [.ref t, .ref t']) (rest := []) rfl rfl (by show 2 * 0 + 0 ≤ _; decide) (hb hbytes d44) (⟨rfl, hx.2.2.2.1.mv X16.warmed.alike hh16, hx.2.2.2.2.1.ty, hy.2.2.2.1.mv X16.warmed.alike hh16, hy.2.2.2.2.1.ty⟩)
      obtain ⟨v, rfl, q18, hv⟩ := E18
      have iff := Cod.eqv hx.2.2.2.2.1 hy.2.2.2.2.1 hx.2.2.2.2.2 hy.2.2.2.2.2
      rcases hv with ⟨rfl, he⟩ | ⟨rfl, he⟩
      · have c19 : Steps p.tables e below (s₁.setTop (entryFrame m #[.ref x, .ref y] 3)) (T18.setTop (mkF m 55 #[.val (.ref x), .val (.ref y), .val (.ref y)] [.int 1])) := Steps.trans g18 (by
          refine XS.ifNo X18.here hexec rfl (hb hbytes d47) rfl (i0_eq_f (by decide)) ?_
          refine iconstV X18.here hexec rfl 1 (hb hbytes d50) (by decide) ?_
          refine XS.goto X18.here hexec rfl (pc0 := 51) rfl (hb hbytes d51) (by decide) rfl ?_
          exact Steps.refl _)
        exact ⟨T18, some (.int 1), _, _, _, X18, rfl, rfl, rfl, (fun h => by cases h), ⟨1, rfl, q18.trans hh16, Or.inl ⟨rfl, iff.mp he⟩⟩, fun fs hl => c19.trans (X18.ireturnOut hexec hret rfl (Or.inr (Or.inl rfl)) (hb hbytes d55) hl)⟩
      · have c19 : Steps p.tables e below (s₁.setTop (entryFrame m #[.ref x, .ref y] 3)) (T18.setTop (mkF m 55 #[.val (.ref x), .val (.ref y), .val (.ref y)] [.int 0])) := Steps.trans g18 (by
          refine XS.ifYes X18.here hexec rfl (pc0 := 47) rfl (hb hbytes d47) rfl (i0_eq_t rfl) (by decide) rfl ?_
          refine iconstV X18.here hexec rfl 0 (hb hbytes d54) (by decide) ?_
          exact Steps.refl _)
        exact ⟨T18, some (.int 0), _, _, _, X18, rfl, rfl, rfl, (fun h => by cases h), ⟨0, rfl, q18.trans hh16, Or.inr ⟨rfl, fun q => he (iff.mpr q)⟩⟩, fun fs hl => c19.trans (X18.ireturnOut hexec hret rfl (Or.inr (Or.inl rfl)) (hb hbytes d55) hl)⟩
    · have c13 : Steps p.tables e below (s₁.setTop (entryFrame m #[.ref x, .ref y] 3)) (T11.setTop (mkF m 55 #[.val (.ref x), .val (.ref y), .val (.ref y)] [.int 0])) := c12.trans (by
        refine XS.icmpYes X11.here hexec rfl (pc0 := 33) rfl (hb hbytes d33) rfl (ii_ne_t hcd) (by decide) rfl ?_
        refine iconstV X11.here hexec rfl 0 (hb hbytes d54) (by decide) ?_
        exact Steps.refl _)
      exact ⟨T11, some (.int 0), _, _, _, X11, rfl, rfl, rfl, (fun h => by cases h), ⟨0, rfl, hh11, Or.inr ⟨rfl, Cod.dif hx.2.2.2.2.1 hy.2.2.2.2.1 hcd⟩⟩, fun fs hl => c13.trans (X11.ireturnOut hexec hret rfl (Or.inr (Or.inl rfl)) (hb hbytes d55) hl)⟩
theorem pays {l : Launch} {R : Room} {p : Program} {e : Env} {below : List Frame} {s : State} {sargs : Array Value} {len W : Nat} (x t : Addr) (V : Cell) (cd : Int32) (n : Nat) (f : Nat → Int32) (y t' : Addr) (V' : Cell) (cd' : Int32) (k : Nat) (g : Nat → Int32) (z : Int32) (htab : tab.before sargs s = true) (hfr : 2 ≤ R.frames) (hlo : W + 28 ≤ R.locals) :
    Back l R p e below s sargs yN len W (fun A₁ a₁ => A₁.cells + 0 ≤ R.cells ∧ A₁.slots + 0 ≤ R.slots ∧ P x t V cd n f y t' V' cd' k g z a₁ A₁.U) (fun A₁ _ v₁ B₁ => Says01 (SameT n f k g) v₁ A₁.U B₁.U ∧ B₁.locs = A₁.locs ++ [] ∧ B₁.cells = A₁.cells + 0 ∧ B₁.slots = A₁.slots + 0) :=
  (law l x t V cd n f y t' V' cd' k g z).pays htab hfr (by omega)
end SEq
end StrChars
namespace StrChars.Road
open Jvm Sem ClassFile Op Lib Jvm.Stand Jvm.Free Jvm.Free.XT
open Jvm.Lib.Cold (StaticIs)
/-- the words of String.equals(Object) -/
abbrev wordsEq : List Jvm.Cond := [.code SEq.yN SEq.yB 3 (some .boolean), .initialized ST, .classLink ST 10 ST, .fieldLink ST 38 ST "COMPACT_STRINGS" "Z", .fieldLink ST 15 ST "coder" "B", .fieldLink ST 9 ST "value" "[B", .methodLink ST 541 LEq.yN, .static LEq.yN, .code LEq.yN LEq.yB 3 (some .boolean), .initialized "java/lang/StringLatin1"]
theorem tabEq_of {a : Array Value} {s : State} (h : ∀ w ∈ wordsEq, w.before a s = true) : SEq.tab.before a s = true := by
  have hl : LEq.tab.before a s = true := unparts (wk h (.code LEq.yN LEq.yB 3 (some .boolean))) (wks h (.initialized LEq.yN.cls :: LEq.site))
  have q := consq hl h
  exact unparts (wk q (.code SEq.yN SEq.yB 3 (some .boolean))) (wks q (.initialized SEq.yN.cls :: SEq.site))
theorem movedEq {Z s : State} {a0 args : Array Value} (hZ : Z.Warmed39 s.vm) (hw : ∀ d ∈ wordsEq, d.before a0 Z = true) : ∀ d ∈ wordsEq, d.before args s = true := fun d hd => by
  have t : ∀ d ∈ wordsEq, (d.onTables && d.keepsFace) = true := by decide +kernel
  exact RoadKit.mv hZ (hw d hd) (t d hd)
/-- the road's facts of a String, as the laws ask it -/
theorem txt_of {Z U : State} {a0 : Array Value} {kI : Nat} (wi : (Jvm.Cond.instantiable ST kI).before a0 Z = true) (al : Z.vm.Alike U.vm) {x t : Addr} {kb : ClassId} {cs : List Int32} {cd N2 : Int32} {vs : List Value} (E : RoadKit.Exa Z U.heap x ST) (V : RoadKit.Fld Z U.heap x ST "value" "[B" (.ref t)) (C : RoadKit.Fld Z U.heap x ST "coder" "B" (.int cd)) (K : RoadKit.Arv Z U.heap t kb .byte N2 vs (.int 0)) (hc : CodA cs cd N2 vs) (hb : ∀ c ∈ cs, ¬ c < 0 ∧ ¬ (65535 : Int32) < c) (l2 : cs.length ≤ 4000) :
    ∃ A, Txt x t A cd cs.length (fun j => cs.getD j 0) U := by
  obtain ⟨A, K1, K2, K3, K4, K5, K6⟩ := K
  have hcod := hc.cod (by omega) K3 K5
  obtain ⟨D, fV, fC, hB, F1, F2, g1, g2, -, -⟩ := strObj wi al E V C
  exact ⟨A, ⟨_, hB.2.2.1, D, hB.1, rfl, by cases q : D.vm <;> first | rfl | exact absurd q (hB.2.1.2 _)⟩, Has.of hB F1 g1, Has.of hB F2 g2, ⟨K1.1, State.isArrayOf_alike al K1.2.1, K1.2.2, by rcases hcod with ⟨-, q, -⟩ | ⟨-, q, -⟩ <;> omega⟩, hcod, fun j hj => by
    have e : cs.getD j 0 = cs[j] := by simp [List.getD_eq_getElem?_getD, hj]
    show ¬ cs.getD j 0 < 0 ∧ ¬ 65535 < cs.getD j 0
    rw [e]; exact hb _ (List.getElem_mem _)⟩
theorem same_list (cs ds : List Int32) : SameT cs.length (fun j => cs.getD j 0) ds.length (fun j => ds.getD j 0) ↔ cs = ds := by
  constructor
  · rintro ⟨e, q⟩
    refine List.ext_getElem e fun j h1 h2 => ?_
    have := q j h1
    simpa [List.getD_eq_getElem?_getD, h1, h2] using this
  · rintro rfl
    exact ⟨rfl, fun _ _ => rfl⟩
/-- **equals(Object) OF TWO SUCH STRINGS**: 1 just where the chars are the same -/
theorem eqW {p : Program} {l : Launch} {e : Env} {R : Room} {s : State} {args : Array Value} {below : List Frame} {len W : Nat} {Z : State} {a0 : Array Value} {h : Heap} (hZ : Z.Warmed39 s.vm) (hw : ∀ d ∈ wordsEq, d.before a0 Z = true) {kI : Nat} (wi : (Jvm.Cond.instantiable ST kI).before a0 Z = true)
    {x t : Addr} {kb : ClassId} {cs : List Int32} {cd N2 : Int32} {vs : List Value} (E : RoadKit.Exa Z h x ST) (V : RoadKit.Fld Z h x ST "value" "[B" (.ref t)) (C : RoadKit.Fld Z h x ST "coder" "B" (.int cd)) (K : RoadKit.Arv Z h t kb .byte N2 vs (.int 0)) (hc : CodA cs cd N2 vs) (hb : ∀ c ∈ cs, ¬ c < 0 ∧ ¬ (65535 : Int32) < c) (l2 : cs.length ≤ 4000)
    {y t' : Addr} {kb' : ClassId} {ds : List Int32} {cd' N2' : Int32} {vs' : List Value} (E' : RoadKit.Exa Z h y ST) (V' : RoadKit.Fld Z h y ST "value" "[B" (.ref t')) (C' : RoadKit.Fld Z h y ST "coder" "B" (.int cd')) (K' : RoadKit.Arv Z h t' kb' .byte N2' vs' (.int 0)) (hc' : CodA ds cd' N2' vs') (hb' : ∀ c ∈ ds, ¬ c < 0 ∧ ¬ (65535 : Int32) < c) (l2' : ds.length ≤ 4000)
    {z : Int32} (S : RoadKit.Sta Z h ST "COMPACT_STRINGS" "Z" (.int z)) (hz : ¬ z = 0) (hfr : 2 ≤ R.frames) (hlo : W + 28 ≤ R.locals) :
    Back l R p e below s args (⟨"java/lang/String", "equals", "(Ljava/lang/Object;)Z"⟩ : MethodName) len W (fun P a => a = #[.ref x, .ref y] ∧ P.U.heap = h ∧ P.cells + 0 ≤ R.cells ∧ P.slots + 0 ≤ R.slots)
      (fun P _ v B => ∃ L, (((v = some (.int 1) ∧ cs = ds) ∨ (v = some (.int 0) ∧ ¬ cs = ds)) ∧ L = [] ∧ B.U.heap = h) ∧ B.locs = P.locs ++ L ∧ B.cells = P.cells + 0 ∧ B.slots = P.slots + 0) := by
  intro m meth c P g ig mk a X hg hsize hdg hW hn hp'
  obtain ⟨rfl, rfl, r1, r2⟩ := hp'
  have al : Z.vm.Alike P.U.vm := hZ.alike.trans X.warmed.alike
  obtain ⟨A, hx⟩ := txt_of wi al E V C K hc hb l2
  obtain ⟨A', hy⟩ := txt_of wi al E' V' C' K' hc' hb' l2'
  obtain ⟨v, B, X', ⟨⟨w, hv, hh, hq⟩, hl, hk, hs⟩, st⟩ := SEq.pays x t A cd cs.length (fun j => cs.getD j 0) y t' A' cd' ds.length (fun j => ds.getD j 0) z (tabEq_of (movedEq hZ hw)) hfr hlo m meth c P g ig mk _ X hg hsize hdg hW hn ⟨r1, r2, rfl, hx, hy, sta_is al S, hz⟩
  refine ⟨v, B, X', ⟨[], ⟨?_, rfl, hh⟩, hl, hk, hs⟩, st⟩
  rcases hq with ⟨rfl, q⟩ | ⟨rfl, q⟩
  · exact Or.inl ⟨hv, (same_list cs ds).mp q⟩
  · exact Or.inr ⟨hv, fun e => q ((same_list cs ds).mpr e)⟩
end StrChars.Road
namespace StrChars.Road
open Jvm Sem ClassFile Op Lib Jvm.Stand Jvm.Free Jvm.Free.XT
open Jvm.Lib.Cold (StaticIs)
/-- what backV says of its String, as the contracts of this text ask it: cs's low bytes, coder 0 -/
theorem codOf {cs : List Int32} {n : Nat} (hn : cs.length = n) (hb : ∀ c ∈ cs, ¬ 255 < c) : CodA cs 0 (Int32.ofNat n) ((cs.map lo8).map Value.int) := Or.inl ⟨rfl, by rw [hn], by simp [List.map_map, Function.comp_def], hb⟩
end StrChars.Road
end Jvm.Pilot.@@N@@
namespace Jvm.Pilot.@@N@@
open Jvm Jvm.ClassFile Sem Op Lib Jvm.Free Jvm.Stand Jvm.LawKit Jvm.RoadKit Bundle Jvm.Pilot.@@N@@.Jvm.D
/-- the run from u comes to an end that P holds of -/
def Go (p : Program) (e : Env) (below : List Frame) (P : State → Outcome → Prop) (u : State) : Prop := ∃ t o, Steps p.tables e below u t ∧ t.status = .running ∧ Ended t below o ∧ P t o
section Own
variable {p : Program} {l : Launch} {e : Env} {R : Room} {s : State} {m : MethodId} {args : Array Value} {below : List Frame} {meth : Method} {c : Code} {T : State} {locs : List Loc} {cells slots : Nat} {Z : State} {a0 : Array Value} {h h' : Heap} {vm : Vm} {P : State → Outcome → Prop} {u w : State}
theorem Go.on (st : ∀ t, Steps p.tables e below w t → Steps p.tables e below u t) (k : Go p e below P w) : Go p e below P u := by
  obtain ⟨t, o, h, r⟩ := k; exact ⟨t, o, st t h, r⟩
theorem Go.fin {vm1 : Vm} {n : Nat} (X : Stand p l e R (s.setVm vm1) m args below meth c T locs cells slots) (hS : s.Since vm1 n) (hn : n ≤ T.heap.size) (hlk : meth.locks = false) {v : Option Value} (hv : meth.sig.returnType = none → v = none)
    (st : ∀ fs, (∀ (f : JFrame) (acts : List Action), f.method = m → f.locked = none → f.entered = [] → (doReturn e (T.setTop f) acts v).1 = T.setFrames fs) → Steps p.tables e below u (T.setFrames fs))
    (hP : ∀ fs, ReturnedEndW s (.returned v) (T.setFrames fs) locs cells slots → P (T.setFrames fs) (.returned v)) : Go p e below P u := by
  obtain ⟨fs, h1, h2, h3, h4⟩ := X.leaveW hS hn hv (hlocks := hlk)
  exact ⟨_, _, st fs h1, h2, h3, hP fs h4⟩
theorem Go.finH (X : Stand p l e R s m args below meth c T locs cells slots) (hlk : meth.locks = false) {v : Option Value} (hv : meth.sig.returnType = none → v = none)
    (st : ∀ fs, (∀ (f : JFrame) (acts : List Action), f.method = m → f.locked = none → f.entered = [] → (doReturn e (T.setTop f) acts v).1 = T.setFrames fs) → Steps p.tables e below u (T.setFrames fs))
    (hP : ∀ fs, FrameEnd s (.returned v) (T.setFrames fs) locs cells slots → P (T.setFrames fs) (.returned v)) : Go p e below P u := by
  obtain ⟨fs, h1, h2, h3, h4, h5⟩ := X.leave hv (hlocks := hlk)
  exact ⟨_, _, st fs h1, h2, h3, hP fs ⟨⟨v, rfl⟩, h4, h5⟩⟩
theorem endP {Q : Option Value → Heap → List Loc → Prop} {EL : List (String × Nat)} {v : Option Value} {k n : Nat} (q : Q v T.heap locs) (r : CHr Z EL s.vm s.heap T.vm T.heap) (hc : cells ≤ k) (hs : slots ≤ n) :
    ∀ fs, ReturnedEndW s (.returned v) (T.setFrames fs) locs cells slots → ∃ v' L, Outcome.returned v = .returned v' ∧ Q v' (T.setFrames fs).heap L ∧ CHr Z EL s.vm s.heap (T.setFrames fs).vm (T.setFrames fs).heap ∧ ReturnedEndW s (.returned v) (T.setFrames fs) L k n :=
  fun fs h => ⟨v, locs, rfl, q, r, h.1, h.2.1, h.2.2.1, h.2.2.2.mono hc hs⟩
theorem endH {Q : Option Value → Heap → List Loc → Prop} {v : Option Value} {k n : Nat} (q : Q v T.heap locs) (hc : cells ≤ k) (hs : slots ≤ n) :
    ∀ fs, FrameEnd s (.returned v) (T.setFrames fs) locs cells slots → ∃ v' L, Outcome.returned v = .returned v' ∧ Q v' (T.setFrames fs).heap L ∧ FrameEnd s (.returned v) (T.setFrames fs) L k n :=
  fun fs h => ⟨v, locs, rfl, q, h.1, h.2.1, h.2.2.mono hc hs⟩
/-- a String whose value is still null is no booked constant -/
theorem own_safeNull {EL : List (String × Nat)} {x : Addr} (hal : Z.vm.Alike vm) (E : Exa Z h x "java/lang/String") (F : Fld Z h x "java/lang/String" "value" "[B" .null) : Safe Z EL vm h x := fun B => by
  obtain ⟨cell, k, e1, e2, e3, -, -⟩ := E
  obtain ⟨p, -, u, a, -, q, -, G, rfl | rfl⟩ := B
  · obtain ⟨cell', cf, kf, i, f, f1, f2, -, -, -, -, f7⟩ := F
    obtain ⟨cS, ⟨⟨s1, -, -, ⟨c1, k1, i1, v1, -⟩, -, -, -, v2, -⟩, -⟩, -⟩ := G
    obtain ⟨k3, q3, -⟩ := State.fieldFound?_setVm (s := Z) (vm' := vm) hal f2
    have e4 := (show (Wst Z vm h).fieldFound? _ _ _ = _ from q3).symm.trans v1
    simp only [Option.some.injEq, Prod.mk.injEq] at e4
    cases (show h[q.sa]? = some q.sC from s1).symm.trans f1
    rw [← e4.2.2.2, f7] at v2
    cases v2
  · cases (show h[q.sd]? = some q.SA from G.hd).symm.trans e1
    obtain ⟨cS, -, -, f, -⟩ := G
    rw [show (Wst Z vm h).vm.findClass "[B" = Z.vm.findClass "[B" from hal.findClass _ _] at f
    obtain ⟨k1, q1, q2⟩ := Vm.findClass_spec f
    obtain ⟨k2, q3, q4⟩ := Vm.findClass_spec e2
    cases q1.symm.trans q3
    exact absurd (q2.symm.trans q4) (by decide)
end Own
theorem own_chr (x : Int32) : ∃ z : Int32, (x &&& (255 : Int32)).toUInt32.toUInt16.toUInt32.toInt32 = z ∧ ¬ z < 0 ∧ ¬ (255 : Int32) < z := by
  refine ⟨_, rfl, ?_⟩
  have t : ∀ k : Fin 256, ¬ ((Int32.ofNat k.val).toUInt32.toUInt16.toUInt32.toInt32) < 0 ∧ ¬ (255 : Int32) < ((Int32.ofNat k.val).toUInt32.toUInt16.toUInt32.toInt32) := by decide +kernel
  have h : (x &&& 255).toBitVec.toNat < 256 := by
    simp only [Int32.toBitVec_and, BitVec.toNat_and]
    exact Nat.lt_succ_of_le Nat.and_le_right
  have e : (x &&& 255) = Int32.ofNat (x &&& 255).toBitVec.toNat := by
    apply Int32.toBitVec_inj.mp
    show _ = BitVec.ofNat 32 _
    rw [BitVec.ofNat_toNat]; simp
  rw [e]
  exact t ⟨_, h⟩
theorem own_small {z : Int32} (h0 : ¬ z < 0) (h1 : ¬ (255 : Int32) < z) : ∃ k : Fin 256, z = Int32.ofNat k.val := by
  have a : z.toInt ≤ 255 := by rw [Int32.lt_iff_toInt_lt] at h1; have e1 : (255 : Int32).toInt = 255 := rfl; omega
  have b : 0 ≤ z.toInt := by rw [Int32.lt_iff_toInt_lt] at h0; have e1 : (0 : Int32).toInt = 0 := rfl; omega
  refine ⟨⟨z.toInt.toNat, by omega⟩, Int32.toInt_inj.mp ?_⟩
  show z.toInt = (Int32.ofNat z.toInt.toNat).toInt
  rw [Int32.toInt_ofNat_of_lt (by omega)]; omega
theorem own_nar {z : Int32} (h0 : ¬ z < 0) (h1 : ¬ (255 : Int32) < z) : nar .char z = z := by
  have t : ∀ k : Fin 256, nar .char (Int32.ofNat k.val) = Int32.ofNat k.val := by decide +kernel
  obtain ⟨k, rfl⟩ := own_small h0 h1
  exact t k
theorem own_and3 (x : Int32) : x &&& (3 : Int32) = 0 ∨ x &&& (3 : Int32) = 1 ∨ x &&& (3 : Int32) = 2 ∨ x &&& (3 : Int32) = 3 := by
  have t : ∀ k : Fin 4, Int32.ofNat k.val = 0 ∨ Int32.ofNat k.val = 1 ∨ Int32.ofNat k.val = 2 ∨ Int32.ofNat k.val = 3 := by decide +kernel
  have h : (x &&& 3).toBitVec.toNat < 4 := by
    simp only [Int32.toBitVec_and, BitVec.toNat_and]
    exact Nat.lt_succ_of_le Nat.and_le_right
  have e : (x &&& 3) = Int32.ofNat (x &&& 3).toBitVec.toNat := by
    apply Int32.toBitVec_inj.mp
    show _ = BitVec.ofNat 32 _
    rw [BitVec.ofNat_toNat]; simp
  rw [e]
  exact t ⟨_, h⟩
theorem own_up {cs : List Int32} (h : ∀ c ∈ cs, ¬ c < 0 ∧ ¬ (255 : Int32) < c) : ∀ c ∈ cs, ¬ c < 0 ∧ ¬ (65535 : Int32) < c := fun c hc => ⟨(h c hc).1, fun q => (h c hc).2 (by rw [Int32.lt_iff_toInt_lt] at q ⊢; have e1 : (65535 : Int32).toInt = 65535 := rfl; have e2 : (255 : Int32).toInt = 255 := rfl; omega)⟩
theorem own_nar8 (c : Int32) : nar .byte (c.toInt8.toInt32) = c.toInt8.toInt32 := by
  show ((c.toInt8.toInt32).toInt8).toInt32 = _
  rw [Int8.toInt8_toInt32]
/-- the chars of a String of n signs -/
def own_cs (n c0 c1 : Int32) : List Int32 := if n = 0 then [] else if n = 1 then [c0] else [c0, c1]
theorem own_cs0 (c0 c1 : Int32) : own_cs 0 c0 c1 = [] := rfl
theorem own_cs1 (c0 c1 : Int32) : own_cs 1 c0 c1 = [c0] := by simp [own_cs]
theorem own_cs2 (c0 c1 : Int32) : own_cs 2 c0 c1 = [c0, c1] := by simp [own_cs]
theorem own_all1 {a : Int32} (h : ¬ a < 0 ∧ ¬ (255 : Int32) < a) : ∀ c ∈ [a], ¬ c < 0 ∧ ¬ (255 : Int32) < c := fun c hc => by simp only [List.mem_cons, List.not_mem_nil, or_false] at hc; subst hc; exact h
theorem own_all2 {a b : Int32} (h : ¬ a < 0 ∧ ¬ (255 : Int32) < a) (h' : ¬ b < 0 ∧ ¬ (255 : Int32) < b) : ∀ c ∈ [a, b], ¬ c < 0 ∧ ¬ (255 : Int32) < c := fun c hc => by
  simp only [List.mem_cons, List.not_mem_nil, or_false] at hc
  rcases hc with rfl | rfl
  · exact h
  · exact h'
theorem own_len {n c0 c1 : Int32} {cs : List Int32} (e : cs = own_cs n c0 c1) : cs.length ≤ 4000 := by
  subst e; unfold own_cs; split
  · simp
  · split <;> simp
theorem own_eqv {v : Option Value} {A : Prop} (h : (v = some (.int 1) ∧ A) ∨ (v = some (.int 0) ∧ ¬ A)) : ∃ r : Int32, v = some (.int r) ∧ ((r = 1 ∧ A) ∨ (r = 0 ∧ ¬ A)) := by
  rcases h with ⟨h, a⟩ | ⟨h, a⟩
  · exact ⟨1, h, Or.inl ⟨rfl, a⟩⟩
  · exact ⟨0, h, Or.inr ⟨rfl, a⟩⟩
/-- two such Strings are alike just where the law says so -/
theorem own_csEq {n k c0 c1 d0 d1 : Int32} (hn : n = 0 ∨ n = 1 ∨ n = 2) (hk : k = 0 ∨ k = 1 ∨ k = 2) : own_cs n c0 c1 = own_cs k d0 d1 ↔ (n = k ∧ (n < 1 ∨ c0 = d0) ∧ (n < 2 ∨ c1 = d1)) := by
  rcases hn with rfl | rfl | rfl <;> rcases hk with rfl | rfl | rfl <;> simp [own_cs] <;> decide
theorem own_if01 {r : Int32} {A B : Prop} (h : (r = 1 ∧ A) ∨ (r = 0 ∧ ¬ A)) (e : A ↔ B) [Decidable B] : r = if B then 1 else 0 := by
  rcases h with ⟨rfl, a⟩ | ⟨rfl, a⟩
  · rw [if_pos (e.mp a)]
  · rw [if_neg (fun b => a (e.mpr b))]
theorem own_exaRef {args : Array Value} {s : State} {t : Term} {C : String} (h : (Jvm.Cond.exactly t C).value args s none s [] = some true) : ∃ a, t.eval args s none [] s = some (.ref a) := by
  obtain ⟨a, c, cell, k, h1, -⟩ := Cond.exactly_spec (Cond.before_iff.mpr h)
  exact ⟨a, h1⟩
theorem own_ord {args : Array Value} {s : State} {t : Term} {a : Addr} {C f d : String} {i : Int32} (ea : t.eval args s none [] s = some (.ref a)) (h1 : (Jvm.Cond.eq (.field t C f d) (.int i)).value args s none s [] = some true) : s.fieldOf? a C f d = some (.int i) := by
  have e1 : (Term.field t C f d).eval args s none [] s = s.fieldOf? a C f d := by simp [Term.eval, ea]
  simp only [Cond.value, e1, Term.int_eval] at h1
  cases hq : s.fieldOf? a C f d with
  | none => simp [hq] at h1
  | some v =>
    rw [hq] at h1
    cases v <;> simp at h1
    rw [h1]
def EL : List (String × Nat) := [("java/lang/String", 7)]
theorem w_0 {a0 : Array Value} {Z : State} (hw : ∀ d ∈ tables_1, d.before a0 Z = true) : (Jvm.Cond.methodLink "com/example/treewidth/treewidth/ontology/RoleEqualsPinLaw" (16 : Nat) ({ cls := "java/lang/Math", name := "min", desc := "(II)I" } : Jvm.MethodName)).before a0 Z = true := hw _ (List.mem_of_getElem? (i := 0) rfl)
theorem w_1 {a0 : Array Value} {Z : State} (hw : ∀ d ∈ tables_1, d.before a0 Z = true) : (Jvm.Cond.static ({ cls := "java/lang/Math", name := "min", desc := "(II)I" } : Jvm.MethodName)).before a0 Z = true := hw _ (List.mem_of_getElem? (i := 1) rfl)
theorem w_2 {a0 : Array Value} {Z : State} (hw : ∀ d ∈ tables_1, d.before a0 Z = true) : (Jvm.Cond.initialized "java/lang/Math").before a0 Z = true := hw _ (List.mem_of_getElem? (i := 2) rfl)
theorem w_3 {a0 : Array Value} {Z : State} (hw : ∀ d ∈ tables_1, d.before a0 Z = true) : (Jvm.Cond.code ({ cls := "java/lang/Math", name := "min", desc := "(II)I" } : Jvm.MethodName) jdk_29_method_69_code (2 : Nat) (Option.some Jvm.ClassFile.FieldType.int)).before a0 Z = true := hw _ (List.mem_of_getElem? (i := 3) rfl)
theorem w_4 {a0 : Array Value} {Z : State} (hw : ∀ d ∈ tables_1, d.before a0 Z = true) : (Jvm.Cond.methodLink "com/example/treewidth/treewidth/ontology/RoleEqualsPinLaw" (22 : Nat) ({ cls := "com/example/treewidth/treewidth/ontology/RoleEqualsPinLaw", name := "str", desc := "(ICC)Ljava/lang/String;" } : Jvm.MethodName)).before a0 Z = true := hw _ (List.mem_of_getElem? (i := 4) rfl)
theorem w_5 {a0 : Array Value} {Z : State} (hw : ∀ d ∈ tables_1, d.before a0 Z = true) : (Jvm.Cond.static ({ cls := "com/example/treewidth/treewidth/ontology/RoleEqualsPinLaw", name := "str", desc := "(ICC)Ljava/lang/String;" } : Jvm.MethodName)).before a0 Z = true := hw _ (List.mem_of_getElem? (i := 5) rfl)
theorem w_6 {a0 : Array Value} {Z : State} (hw : ∀ d ∈ tables_1, d.before a0 Z = true) : (Jvm.Cond.initialized "com/example/treewidth/treewidth/ontology/RoleEqualsPinLaw").before a0 Z = true := hw _ (List.mem_of_getElem? (i := 6) rfl)
theorem w_7 {a0 : Array Value} {Z : State} (hw : ∀ d ∈ tables_1, d.before a0 Z = true) : (Jvm.Cond.code ({ cls := "com/example/treewidth/treewidth/ontology/RoleEqualsPinLaw", name := "str", desc := "(ICC)Ljava/lang/String;" } : Jvm.MethodName) method_2_code (3 : Nat) (Option.some (Jvm.ClassFile.FieldType.object "java/lang/String"))).before a0 Z = true := hw _ (List.mem_of_getElem? (i := 7) rfl)
theorem w_8 {a0 : Array Value} {Z : State} (hw : ∀ d ∈ tables_1, d.before a0 Z = true) : (Jvm.Cond.classLink "com/example/treewidth/treewidth/ontology/RoleEqualsPinLaw" (7 : Nat) "java/lang/String").before a0 Z = true := hw _ (List.mem_of_getElem? (i := 8) rfl)
theorem w_9 {a0 : Array Value} {Z : State} (hw : ∀ d ∈ tables_1, d.before a0 Z = true) : (Jvm.Cond.instantiable "java/lang/String" (4 : Nat)).before a0 Z = true := hw _ (List.mem_of_getElem? (i := 9) rfl)
theorem w_10 {a0 : Array Value} {Z : State} (hw : ∀ d ∈ tables_1, d.before a0 Z = true) : (Jvm.Cond.initialized "java/lang/String").before a0 Z = true := hw _ (List.mem_of_getElem? (i := 10) rfl)
theorem w_11 {a0 : Array Value} {Z : State} (hw : ∀ d ∈ tables_1, d.before a0 Z = true) : (Jvm.Cond.arrayClass Jvm.ClassFile.FieldType.char).before a0 Z = true := hw _ (List.mem_of_getElem? (i := 11) rfl)
theorem w_12 {a0 : Array Value} {Z : State} (hw : ∀ d ∈ tables_1, d.before a0 Z = true) : (Jvm.Cond.methodLink "com/example/treewidth/treewidth/ontology/RoleEqualsPinLaw" (9 : Nat) ({ cls := "java/lang/String", name := "<init>", desc := "([C)V" } : Jvm.MethodName)).before a0 Z = true := hw _ (List.mem_of_getElem? (i := 12) rfl)
theorem w_13 {a0 : Array Value} {Z : State} (hw : ∀ d ∈ tables_1, d.before a0 Z = true) : (Jvm.Cond.instanceMethod ({ cls := "java/lang/String", name := "<init>", desc := "([C)V" } : Jvm.MethodName)).before a0 Z = true := hw _ (List.mem_of_getElem? (i := 13) rfl)
theorem w_14 {a0 : Array Value} {Z : State} (hw : ∀ d ∈ tables_1, d.before a0 Z = true) : (Jvm.Cond.code ({ cls := "java/lang/String", name := "<init>", desc := "([C)V" } : Jvm.MethodName) jdk_42_method_3_code (2 : Nat) (Option.none : Option Jvm.ClassFile.FieldType)).before a0 Z = true := hw _ (List.mem_of_getElem? (i := 14) rfl)
theorem w_15 {a0 : Array Value} {Z : State} (hw : ∀ d ∈ tables_1, d.before a0 Z = true) : (Jvm.Cond.methodLink "java/lang/String" (27 : Nat) ({ cls := "java/lang/String", name := "<init>", desc := "([CIILjava/lang/Void;)V" } : Jvm.MethodName)).before a0 Z = true := hw _ (List.mem_of_getElem? (i := 15) rfl)
theorem w_16 {a0 : Array Value} {Z : State} (hw : ∀ d ∈ tables_1, d.before a0 Z = true) : (Jvm.Cond.instanceMethod ({ cls := "java/lang/String", name := "<init>", desc := "([CIILjava/lang/Void;)V" } : Jvm.MethodName)).before a0 Z = true := hw _ (List.mem_of_getElem? (i := 16) rfl)
theorem w_18 {a0 : Array Value} {Z : State} (hw : ∀ d ∈ tables_1, d.before a0 Z = true) : (Jvm.Cond.code ({ cls := "java/lang/String", name := "<init>", desc := "([CIILjava/lang/Void;)V" } : Jvm.MethodName) jdk_42_method_149_code (6 : Nat) (Option.none : Option Jvm.ClassFile.FieldType)).before a0 Z = true := hw _ (List.mem_of_getElem? (i := 18) rfl)
theorem w_19 {a0 : Array Value} {Z : State} (hw : ∀ d ∈ tables_1, d.before a0 Z = true) : (Jvm.Cond.methodLink "java/lang/String" (1 : Nat) ({ cls := "java/lang/Object", name := "<init>", desc := "()V" } : Jvm.MethodName)).before a0 Z = true := hw _ (List.mem_of_getElem? (i := 19) rfl)
theorem w_20 {a0 : Array Value} {Z : State} (hw : ∀ d ∈ tables_1, d.before a0 Z = true) : (Jvm.Cond.instanceMethod ({ cls := "java/lang/Object", name := "<init>", desc := "()V" } : Jvm.MethodName)).before a0 Z = true := hw _ (List.mem_of_getElem? (i := 20) rfl)
theorem w_21 {a0 : Array Value} {Z : State} (hw : ∀ d ∈ tables_1, d.before a0 Z = true) : (Jvm.Cond.code ({ cls := "java/lang/Object", name := "<init>", desc := "()V" } : Jvm.MethodName) object_method_1_code (1 : Nat) (Option.none : Option Jvm.ClassFile.FieldType)).before a0 Z = true := hw _ (List.mem_of_getElem? (i := 21) rfl)
theorem w_22 {a0 : Array Value} {Z : State} (hw : ∀ d ∈ tables_1, d.before a0 Z = true) : (Jvm.Cond.stringLink "java/lang/String" (7 : Nat) "").before a0 Z = true := hw _ (List.mem_of_getElem? (i := 22) rfl)
theorem w_23 {a0 : Array Value} {Z : State} (hw : ∀ d ∈ tables_1, d.before a0 Z = true) : (Jvm.Cond.arrayClass Jvm.ClassFile.FieldType.byte).before a0 Z = true := hw _ (List.mem_of_getElem? (i := 23) rfl)
theorem w_24 {a0 : Array Value} {Z : State} (hw : ∀ d ∈ tables_1, d.before a0 Z = true) : (Jvm.Cond.laysFinal "java/lang/String" "java/lang/String" "value" "[B").before a0 Z = true := hw _ (List.mem_of_getElem? (i := 24) rfl)
theorem w_25 {a0 : Array Value} {Z : State} (hw : ∀ d ∈ tables_1, d.before a0 Z = true) : (Jvm.Cond.laysFinal "java/lang/String" "java/lang/String" "coder" "B").before a0 Z = true := hw _ (List.mem_of_getElem? (i := 25) rfl)
theorem w_28 {a0 : Array Value} {Z : State} (hw : ∀ d ∈ tables_1, d.before a0 Z = true) : (Jvm.Cond.fieldLink "java/lang/String" (9 : Nat) "java/lang/String" "value" "[B").before a0 Z = true := hw _ (List.mem_of_getElem? (i := 28) rfl)
theorem w_29 {a0 : Array Value} {Z : State} (hw : ∀ d ∈ tables_1, d.before a0 Z = true) : (Jvm.Cond.fieldLink "java/lang/String" (15 : Nat) "java/lang/String" "coder" "B").before a0 Z = true := hw _ (List.mem_of_getElem? (i := 29) rfl)
theorem w_30 {a0 : Array Value} {Z : State} (hw : ∀ d ∈ tables_1, d.before a0 Z = true) : (Jvm.Cond.classLink "com/example/treewidth/treewidth/ontology/RoleEqualsPinLaw" (28 : Nat) "com/example/treewidth/treewidth/ontology/Role").before a0 Z = true := hw _ (List.mem_of_getElem? (i := 30) rfl)
theorem w_31 {a0 : Array Value} {Z : State} (hw : ∀ d ∈ tables_1, d.before a0 Z = true) : (Jvm.Cond.instantiable "com/example/treewidth/treewidth/ontology/Role" (2 : Nat)).before a0 Z = true := hw _ (List.mem_of_getElem? (i := 31) rfl)
theorem w_32 {a0 : Array Value} {Z : State} (hw : ∀ d ∈ tables_1, d.before a0 Z = true) : (Jvm.Cond.initialized "com/example/treewidth/treewidth/ontology/Role").before a0 Z = true := hw _ (List.mem_of_getElem? (i := 32) rfl)
theorem w_33 {a0 : Array Value} {Z : State} (hw : ∀ d ∈ tables_1, d.before a0 Z = true) : (Jvm.Cond.methodLink "com/example/treewidth/treewidth/ontology/RoleEqualsPinLaw" (30 : Nat) ({ cls := "com/example/treewidth/treewidth/ontology/Role", name := "<init>", desc := "(Ljava/lang/String;Z)V" } : Jvm.MethodName)).before a0 Z = true := hw _ (List.mem_of_getElem? (i := 33) rfl)
theorem w_34 {a0 : Array Value} {Z : State} (hw : ∀ d ∈ tables_1, d.before a0 Z = true) : (Jvm.Cond.instanceMethod ({ cls := "com/example/treewidth/treewidth/ontology/Role", name := "<init>", desc := "(Ljava/lang/String;Z)V" } : Jvm.MethodName)).before a0 Z = true := hw _ (List.mem_of_getElem? (i := 34) rfl)
theorem w_35 {a0 : Array Value} {Z : State} (hw : ∀ d ∈ tables_1, d.before a0 Z = true) : (Jvm.Cond.code ({ cls := "com/example/treewidth/treewidth/ontology/Role", name := "<init>", desc := "(Ljava/lang/String;Z)V" } : Jvm.MethodName) prog_10_method_1_code (3 : Nat) (Option.none : Option Jvm.ClassFile.FieldType)).before a0 Z = true := hw _ (List.mem_of_getElem? (i := 35) rfl)
theorem w_36 {a0 : Array Value} {Z : State} (hw : ∀ d ∈ tables_1, d.before a0 Z = true) : (Jvm.Cond.methodLink "com/example/treewidth/treewidth/ontology/Role" (1 : Nat) ({ cls := "java/lang/Object", name := "<init>", desc := "()V" } : Jvm.MethodName)).before a0 Z = true := hw _ (List.mem_of_getElem? (i := 36) rfl)
theorem w_37 {a0 : Array Value} {Z : State} (hw : ∀ d ∈ tables_1, d.before a0 Z = true) : (Jvm.Cond.stringLink "com/example/treewidth/treewidth/ontology/Role" (7 : Nat) "propertyIri").before a0 Z = true := hw _ (List.mem_of_getElem? (i := 37) rfl)
theorem w_38 {a0 : Array Value} {Z : State} (hw : ∀ d ∈ tables_1, d.before a0 Z = true) : (Jvm.Cond.methodLink "com/example/treewidth/treewidth/ontology/Role" (9 : Nat) ({ cls := "java/util/Objects", name := "requireNonNull", desc := "(Ljava/lang/Object;Ljava/lang/String;)Ljava/lang/Object;" } : Jvm.MethodName)).before a0 Z = true := hw _ (List.mem_of_getElem? (i := 38) rfl)
theorem w_39 {a0 : Array Value} {Z : State} (hw : ∀ d ∈ tables_1, d.before a0 Z = true) : (Jvm.Cond.static ({ cls := "java/util/Objects", name := "requireNonNull", desc := "(Ljava/lang/Object;Ljava/lang/String;)Ljava/lang/Object;" } : Jvm.MethodName)).before a0 Z = true := hw _ (List.mem_of_getElem? (i := 39) rfl)
theorem w_40 {a0 : Array Value} {Z : State} (hw : ∀ d ∈ tables_1, d.before a0 Z = true) : (Jvm.Cond.initialized "java/util/Objects").before a0 Z = true := hw _ (List.mem_of_getElem? (i := 40) rfl)
theorem w_41 {a0 : Array Value} {Z : State} (hw : ∀ d ∈ tables_1, d.before a0 Z = true) : (Jvm.Cond.code ({ cls := "java/util/Objects", name := "requireNonNull", desc := "(Ljava/lang/Object;Ljava/lang/String;)Ljava/lang/Object;" } : Jvm.MethodName) jdk_31_method_11_code (2 : Nat) (Option.some (Jvm.ClassFile.FieldType.object "java/lang/Object"))).before a0 Z = true := hw _ (List.mem_of_getElem? (i := 41) rfl)
theorem w_42 {a0 : Array Value} {Z : State} (hw : ∀ d ∈ tables_1, d.before a0 Z = true) : (Jvm.Cond.classLink "com/example/treewidth/treewidth/ontology/Role" (15 : Nat) "java/lang/String").before a0 Z = true := hw _ (List.mem_of_getElem? (i := 42) rfl)
theorem w_43 {a0 : Array Value} {Z : State} (hw : ∀ d ∈ tables_1, d.before a0 Z = true) : (Jvm.Cond.fieldLink "com/example/treewidth/treewidth/ontology/Role" (17 : Nat) "com/example/treewidth/treewidth/ontology/Role" "property" "Ljava/lang/String;").before a0 Z = true := hw _ (List.mem_of_getElem? (i := 43) rfl)
theorem w_44 {a0 : Array Value} {Z : State} (hw : ∀ d ∈ tables_1, d.before a0 Z = true) : (Jvm.Cond.laysFinal "com/example/treewidth/treewidth/ontology/Role" "com/example/treewidth/treewidth/ontology/Role" "property" "Ljava/lang/String;").before a0 Z = true := hw _ (List.mem_of_getElem? (i := 44) rfl)
theorem w_45 {a0 : Array Value} {Z : State} (hw : ∀ d ∈ tables_1, d.before a0 Z = true) : (Jvm.Cond.fieldLink "com/example/treewidth/treewidth/ontology/Role" (23 : Nat) "com/example/treewidth/treewidth/ontology/Role" "inverse" "Z").before a0 Z = true := hw _ (List.mem_of_getElem? (i := 45) rfl)
theorem w_46 {a0 : Array Value} {Z : State} (hw : ∀ d ∈ tables_1, d.before a0 Z = true) : (Jvm.Cond.laysFinal "com/example/treewidth/treewidth/ontology/Role" "com/example/treewidth/treewidth/ontology/Role" "inverse" "Z").before a0 Z = true := hw _ (List.mem_of_getElem? (i := 46) rfl)
theorem w_47 {a0 : Array Value} {Z : State} (hw : ∀ d ∈ tables_1, d.before a0 Z = true) : (Jvm.Cond.methodLink "com/example/treewidth/treewidth/ontology/RoleEqualsPinLaw" (33 : Nat) ({ cls := "com/example/treewidth/treewidth/ontology/Role", name := "equals", desc := "(Ljava/lang/Object;)Z" } : Jvm.MethodName)).before a0 Z = true := hw _ (List.mem_of_getElem? (i := 47) rfl)
theorem w_48 {a0 : Array Value} {Z : State} (hw : ∀ d ∈ tables_1, d.before a0 Z = true) : (Jvm.Cond.declares ({ cls := "com/example/treewidth/treewidth/ontology/Role", name := "equals", desc := "(Ljava/lang/Object;)Z" } : Jvm.MethodName)).before a0 Z = true := hw _ (List.mem_of_getElem? (i := 48) rfl)
theorem w_49 {a0 : Array Value} {Z : State} (hw : ∀ d ∈ tables_1, d.before a0 Z = true) : (Jvm.Cond.instanceMethod ({ cls := "com/example/treewidth/treewidth/ontology/Role", name := "equals", desc := "(Ljava/lang/Object;)Z" } : Jvm.MethodName)).before a0 Z = true := hw _ (List.mem_of_getElem? (i := 49) rfl)
theorem w_50 {a0 : Array Value} {Z : State} (hw : ∀ d ∈ tables_1, d.before a0 Z = true) : (Jvm.Cond.selects "com/example/treewidth/treewidth/ontology/Role" ({ cls := "com/example/treewidth/treewidth/ontology/Role", name := "equals", desc := "(Ljava/lang/Object;)Z" } : Jvm.MethodName) ({ cls := "com/example/treewidth/treewidth/ontology/Role", name := "equals", desc := "(Ljava/lang/Object;)Z" } : Jvm.MethodName)).before a0 Z = true := hw _ (List.mem_of_getElem? (i := 50) rfl)
theorem w_51 {a0 : Array Value} {Z : State} (hw : ∀ d ∈ tables_1, d.before a0 Z = true) : (Jvm.Cond.code ({ cls := "com/example/treewidth/treewidth/ontology/Role", name := "equals", desc := "(Ljava/lang/Object;)Z" } : Jvm.MethodName) prog_10_method_5_code (3 : Nat) (Option.some Jvm.ClassFile.FieldType.boolean)).before a0 Z = true := hw _ (List.mem_of_getElem? (i := 51) rfl)
theorem w_52 {a0 : Array Value} {Z : State} (hw : ∀ d ∈ tables_1, d.before a0 Z = true) : (Jvm.Cond.classLink "com/example/treewidth/treewidth/ontology/Role" (18 : Nat) "com/example/treewidth/treewidth/ontology/Role").before a0 Z = true := hw _ (List.mem_of_getElem? (i := 52) rfl)
theorem w_54 {a0 : Array Value} {Z : State} (hw : ∀ d ∈ tables_1, d.before a0 Z = true) : (Jvm.Cond.methodLink "com/example/treewidth/treewidth/ontology/Role" (30 : Nat) ({ cls := "java/lang/String", name := "equals", desc := "(Ljava/lang/Object;)Z" } : Jvm.MethodName)).before a0 Z = true := hw _ (List.mem_of_getElem? (i := 54) rfl)
theorem w_55 {a0 : Array Value} {Z : State} (hw : ∀ d ∈ tables_1, d.before a0 Z = true) : (Jvm.Cond.declares ({ cls := "java/lang/String", name := "equals", desc := "(Ljava/lang/Object;)Z" } : Jvm.MethodName)).before a0 Z = true := hw _ (List.mem_of_getElem? (i := 55) rfl)
theorem w_56 {a0 : Array Value} {Z : State} (hw : ∀ d ∈ tables_1, d.before a0 Z = true) : (Jvm.Cond.instanceMethod ({ cls := "java/lang/String", name := "equals", desc := "(Ljava/lang/Object;)Z" } : Jvm.MethodName)).before a0 Z = true := hw _ (List.mem_of_getElem? (i := 56) rfl)
theorem w_57 {a0 : Array Value} {Z : State} (hw : ∀ d ∈ tables_1, d.before a0 Z = true) : (Jvm.Cond.selects "java/lang/String" ({ cls := "java/lang/String", name := "equals", desc := "(Ljava/lang/Object;)Z" } : Jvm.MethodName) ({ cls := "java/lang/String", name := "equals", desc := "(Ljava/lang/Object;)Z" } : Jvm.MethodName)).before a0 Z = true := hw _ (List.mem_of_getElem? (i := 57) rfl)
theorem w_58 {a0 : Array Value} {Z : State} (hw : ∀ d ∈ tables_1, d.before a0 Z = true) : (Jvm.Cond.code ({ cls := "java/lang/String", name := "equals", desc := "(Ljava/lang/Object;)Z" } : Jvm.MethodName) jdk_42_method_66_code (3 : Nat) (Option.some Jvm.ClassFile.FieldType.boolean)).before a0 Z = true := hw _ (List.mem_of_getElem? (i := 58) rfl)
theorem w_59 {a0 : Array Value} {Z : State} (hw : ∀ d ∈ tables_1, d.before a0 Z = true) : (Jvm.Cond.classLink "java/lang/String" (10 : Nat) "java/lang/String").before a0 Z = true := hw _ (List.mem_of_getElem? (i := 59) rfl)
theorem w_60 {a0 : Array Value} {Z : State} (hw : ∀ d ∈ tables_1, d.before a0 Z = true) : (Jvm.Cond.fieldLink "java/lang/String" (38 : Nat) "java/lang/String" "COMPACT_STRINGS" "Z").before a0 Z = true := hw _ (List.mem_of_getElem? (i := 60) rfl)
theorem w_63 {a0 : Array Value} {Z : State} (hw : ∀ d ∈ tables_1, d.before a0 Z = true) : (Jvm.Cond.initialized "java/lang/StringLatin1").before a0 Z = true := hw _ (List.mem_of_getElem? (i := 63) rfl)
theorem w_75 {a0 : Array Value} {Z : State} (hw : ∀ d ∈ tables_1, d.before a0 Z = true) : (Jvm.Cond.methodLink "com/example/treewidth/treewidth/ontology/RoleEqualsPinLaw" (12 : Nat) ({ cls := "java/lang/String", name := "valueOf", desc := "(C)Ljava/lang/String;" } : Jvm.MethodName)).before a0 Z = true := hw _ (List.mem_of_getElem? (i := 75) rfl)
theorem w_76 {a0 : Array Value} {Z : State} (hw : ∀ d ∈ tables_1, d.before a0 Z = true) : (Jvm.Cond.static ({ cls := "java/lang/String", name := "valueOf", desc := "(C)Ljava/lang/String;" } : Jvm.MethodName)).before a0 Z = true := hw _ (List.mem_of_getElem? (i := 76) rfl)
theorem w_77 {a0 : Array Value} {Z : State} (hw : ∀ d ∈ tables_1, d.before a0 Z = true) : (Jvm.Cond.code ({ cls := "java/lang/String", name := "valueOf", desc := "(C)Ljava/lang/String;" } : Jvm.MethodName) jdk_42_method_139_code (1 : Nat) (Option.some (Jvm.ClassFile.FieldType.object "java/lang/String"))).before a0 Z = true := hw _ (List.mem_of_getElem? (i := 77) rfl)
theorem w_78 {a0 : Array Value} {Z : State} (hw : ∀ d ∈ tables_1, d.before a0 Z = true) : (Jvm.Cond.methodLink "java/lang/String" (1015 : Nat) ({ cls := "java/lang/StringLatin1", name := "canEncode", desc := "(C)Z" } : Jvm.MethodName)).before a0 Z = true := hw _ (List.mem_of_getElem? (i := 78) rfl)
theorem w_79 {a0 : Array Value} {Z : State} (hw : ∀ d ∈ tables_1, d.before a0 Z = true) : (Jvm.Cond.static ({ cls := "java/lang/StringLatin1", name := "canEncode", desc := "(C)Z" } : Jvm.MethodName)).before a0 Z = true := hw _ (List.mem_of_getElem? (i := 79) rfl)
theorem w_80 {a0 : Array Value} {Z : State} (hw : ∀ d ∈ tables_1, d.before a0 Z = true) : (Jvm.Cond.code ({ cls := "java/lang/StringLatin1", name := "canEncode", desc := "(C)Z" } : Jvm.MethodName) jdk_43_method_3_code (1 : Nat) (Option.some Jvm.ClassFile.FieldType.boolean)).before a0 Z = true := hw _ (List.mem_of_getElem? (i := 80) rfl)
theorem w_81 {a0 : Array Value} {Z : State} (hw : ∀ d ∈ tables_1, d.before a0 Z = true) : (Jvm.Cond.methodLink "java/lang/String" (1018 : Nat) ({ cls := "java/lang/StringLatin1", name := "toBytes", desc := "(C)[B" } : Jvm.MethodName)).before a0 Z = true := hw _ (List.mem_of_getElem? (i := 81) rfl)
theorem w_82 {a0 : Array Value} {Z : State} (hw : ∀ d ∈ tables_1, d.before a0 Z = true) : (Jvm.Cond.static ({ cls := "java/lang/StringLatin1", name := "toBytes", desc := "(C)[B" } : Jvm.MethodName)).before a0 Z = true := hw _ (List.mem_of_getElem? (i := 82) rfl)
theorem w_83 {a0 : Array Value} {Z : State} (hw : ∀ d ∈ tables_1, d.before a0 Z = true) : (Jvm.Cond.code ({ cls := "java/lang/StringLatin1", name := "toBytes", desc := "(C)[B" } : Jvm.MethodName) jdk_43_method_46_code (1 : Nat) (Option.some (Jvm.ClassFile.FieldType.array Jvm.ClassFile.FieldType.byte))).before a0 Z = true := hw _ (List.mem_of_getElem? (i := 83) rfl)
theorem w_84 {a0 : Array Value} {Z : State} (hw : ∀ d ∈ tables_1, d.before a0 Z = true) : (Jvm.Cond.methodLink "java/lang/String" (209 : Nat) ({ cls := "java/lang/String", name := "<init>", desc := "([BB)V" } : Jvm.MethodName)).before a0 Z = true := hw _ (List.mem_of_getElem? (i := 84) rfl)
theorem w_85 {a0 : Array Value} {Z : State} (hw : ∀ d ∈ tables_1, d.before a0 Z = true) : (Jvm.Cond.instanceMethod ({ cls := "java/lang/String", name := "<init>", desc := "([BB)V" } : Jvm.MethodName)).before a0 Z = true := hw _ (List.mem_of_getElem? (i := 85) rfl)
theorem w_86 {a0 : Array Value} {Z : State} (hw : ∀ d ∈ tables_1, d.before a0 Z = true) : (Jvm.Cond.code ({ cls := "java/lang/String", name := "<init>", desc := "([BB)V" } : Jvm.MethodName) jdk_42_method_151_code (3 : Nat) (Option.none : Option Jvm.ClassFile.FieldType)).before a0 Z = true := hw _ (List.mem_of_getElem? (i := 86) rfl)
theorem w_87 {a0 : Array Value} {Z : State} (hw : ∀ d ∈ tables_1, d.before a0 Z = true) : (Jvm.Cond.superclass "java/lang/String" "java/lang/Object").before a0 Z = true := hw _ (List.mem_of_getElem? (i := 87) rfl)
theorem w_88 {a0 : Array Value} {Z : State} (hw : ∀ d ∈ tables_1, d.before a0 Z = true) : (Jvm.Cond.noSuperclass "java/lang/Object").before a0 Z = true := hw _ (List.mem_of_getElem? (i := 88) rfl)
theorem d8_0 : decode jdk_29_method_69_code 0 = .ok (.iload_n 0, 1) := by decide +kernel
theorem d8_1 : decode jdk_29_method_69_code 1 = .ok (.iload_n 1, 1) := by decide +kernel
theorem d8_2 : decode jdk_29_method_69_code 2 = .ok (.if_icmp .gt 7, 3) := by decide +kernel
theorem d8_5 : decode jdk_29_method_69_code 5 = .ok (.iload_n 0, 1) := by decide +kernel
theorem d8_6 : decode jdk_29_method_69_code 6 = .ok (.goto 4, 3) := by decide +kernel
theorem d8_9 : decode jdk_29_method_69_code 9 = .ok (.iload_n 1, 1) := by decide +kernel
theorem d8_10 : decode jdk_29_method_69_code 10 = .ok (.ireturn, 1) := by decide +kernel
theorem d0_0 : decode jdk_31_method_11_code 0 = .ok (.aload_n 0, 1) := by decide +kernel
theorem d0_1 : decode jdk_31_method_11_code 1 = .ok (.ifnonnull 12, 3) := by decide +kernel
theorem d0_13 : decode jdk_31_method_11_code 13 = .ok (.aload_n 0, 1) := by decide +kernel
theorem d0_14 : decode jdk_31_method_11_code 14 = .ok (.areturn, 1) := by decide +kernel
theorem d6_0 : decode jdk_42_method_139_code 0 = .ok (.getstatic 38, 3) := by decide +kernel
theorem d6_3 : decode jdk_42_method_139_code 3 = .ok (.ifCond .eq 23, 3) := by decide +kernel
theorem d6_6 : decode jdk_42_method_139_code 6 = .ok (.iload_n 0, 1) := by decide +kernel
theorem d6_7 : decode jdk_42_method_139_code 7 = .ok (.invokestatic 1015, 3) := by decide +kernel
theorem d6_10 : decode jdk_42_method_139_code 10 = .ok (.ifCond .eq 16, 3) := by decide +kernel
theorem d6_13 : decode jdk_42_method_139_code 13 = .ok (.new 10, 3) := by decide +kernel
theorem d6_16 : decode jdk_42_method_139_code 16 = .ok (.dup, 1) := by decide +kernel
theorem d6_17 : decode jdk_42_method_139_code 17 = .ok (.iload_n 0, 1) := by decide +kernel
theorem d6_18 : decode jdk_42_method_139_code 18 = .ok (.invokestatic 1018, 3) := by decide +kernel
theorem d6_21 : decode jdk_42_method_139_code 21 = .ok (.iconst 0, 1) := by decide +kernel
theorem d6_22 : decode jdk_42_method_139_code 22 = .ok (.invokespecial 209, 3) := by decide +kernel
theorem d6_25 : decode jdk_42_method_139_code 25 = .ok (.areturn, 1) := by decide +kernel
theorem d1_0 : decode jdk_42_method_149_code 0 = .ok (.aload_n 0, 1) := by decide +kernel
theorem d1_1 : decode jdk_42_method_149_code 1 = .ok (.invokespecial 1, 3) := by decide +kernel
theorem d1_4 : decode jdk_42_method_149_code 4 = .ok (.iload_n 3, 1) := by decide +kernel
theorem d1_5 : decode jdk_42_method_149_code 5 = .ok (.ifCond .ne 22, 3) := by decide +kernel
theorem d1_8 : decode jdk_42_method_149_code 8 = .ok (.aload_n 0, 1) := by decide +kernel
theorem d1_9 : decode jdk_42_method_149_code 9 = .ok (.ldc 7, 2) := by decide +kernel
theorem d1_11 : decode jdk_42_method_149_code 11 = .ok (.getfield 9, 3) := by decide +kernel
theorem d1_14 : decode jdk_42_method_149_code 14 = .ok (.putfield 9, 3) := by decide +kernel
theorem d1_17 : decode jdk_42_method_149_code 17 = .ok (.aload_n 0, 1) := by decide +kernel
theorem d1_18 : decode jdk_42_method_149_code 18 = .ok (.ldc 7, 2) := by decide +kernel
theorem d1_20 : decode jdk_42_method_149_code 20 = .ok (.getfield 15, 3) := by decide +kernel
theorem d1_23 : decode jdk_42_method_149_code 23 = .ok (.putfield 15, 3) := by decide +kernel
theorem d1_26 : decode jdk_42_method_149_code 26 = .ok (.return_, 1) := by decide +kernel
theorem d5_0 : decode jdk_42_method_151_code 0 = .ok (.aload_n 0, 1) := by decide +kernel
theorem d5_1 : decode jdk_42_method_151_code 1 = .ok (.invokespecial 1, 3) := by decide +kernel
theorem d5_4 : decode jdk_42_method_151_code 4 = .ok (.aload_n 0, 1) := by decide +kernel
theorem d5_5 : decode jdk_42_method_151_code 5 = .ok (.aload_n 1, 1) := by decide +kernel
theorem d5_6 : decode jdk_42_method_151_code 6 = .ok (.putfield 9, 3) := by decide +kernel
theorem d5_9 : decode jdk_42_method_151_code 9 = .ok (.aload_n 0, 1) := by decide +kernel
theorem d5_10 : decode jdk_42_method_151_code 10 = .ok (.iload_n 2, 1) := by decide +kernel
theorem d5_11 : decode jdk_42_method_151_code 11 = .ok (.putfield 15, 3) := by decide +kernel
theorem d5_14 : decode jdk_42_method_151_code 14 = .ok (.return_, 1) := by decide +kernel
theorem d2_0 : decode jdk_42_method_3_code 0 = .ok (.aload_n 0, 1) := by decide +kernel
theorem d2_1 : decode jdk_42_method_3_code 1 = .ok (.aload_n 1, 1) := by decide +kernel
theorem d2_2 : decode jdk_42_method_3_code 2 = .ok (.iconst 0, 1) := by decide +kernel
theorem d2_3 : decode jdk_42_method_3_code 3 = .ok (.aload_n 1, 1) := by decide +kernel
theorem d2_4 : decode jdk_42_method_3_code 4 = .ok (.arraylength, 1) := by decide +kernel
theorem d2_5 : decode jdk_42_method_3_code 5 = .ok (.aconst_null, 1) := by decide +kernel
theorem d2_6 : decode jdk_42_method_3_code 6 = .ok (.invokespecial 27, 3) := by decide +kernel
theorem d2_9 : decode jdk_42_method_3_code 9 = .ok (.return_, 1) := by decide +kernel
theorem d3_0 : decode jdk_43_method_3_code 0 = .ok (.iload_n 0, 1) := by decide +kernel
theorem d3_1 : decode jdk_43_method_3_code 1 = .ok (.sipush 255, 3) := by decide +kernel
theorem d3_4 : decode jdk_43_method_3_code 4 = .ok (.if_icmp .gt 7, 3) := by decide +kernel
theorem d3_7 : decode jdk_43_method_3_code 7 = .ok (.iconst 1, 1) := by decide +kernel
theorem d3_8 : decode jdk_43_method_3_code 8 = .ok (.goto 4, 3) := by decide +kernel
theorem d3_12 : decode jdk_43_method_3_code 12 = .ok (.ireturn, 1) := by decide +kernel
theorem d4_0 : decode jdk_43_method_46_code 0 = .ok (.iconst 1, 1) := by decide +kernel
theorem d4_1 : decode jdk_43_method_46_code 1 = .ok (.newarray .byte, 2) := by decide +kernel
theorem d4_3 : decode jdk_43_method_46_code 3 = .ok (.dup, 1) := by decide +kernel
theorem d4_4 : decode jdk_43_method_46_code 4 = .ok (.iconst 0, 1) := by decide +kernel
theorem d4_5 : decode jdk_43_method_46_code 5 = .ok (.iload_n 0, 1) := by decide +kernel
theorem d4_6 : decode jdk_43_method_46_code 6 = .ok (.i2b, 1) := by decide +kernel
theorem d4_7 : decode jdk_43_method_46_code 7 = .ok (.bastore, 1) := by decide +kernel
theorem d4_8 : decode jdk_43_method_46_code 8 = .ok (.areturn, 1) := by decide +kernel
theorem d7_0 : decode method_2_code 0 = .ok (.iload_n 0, 1) := by decide +kernel
theorem d7_1 : decode method_2_code 1 = .ok (.ifCond .ne 14, 3) := by decide +kernel
theorem d7_4 : decode method_2_code 4 = .ok (.new 7, 3) := by decide +kernel
theorem d7_7 : decode method_2_code 7 = .ok (.dup, 1) := by decide +kernel
theorem d7_8 : decode method_2_code 8 = .ok (.iconst 0, 1) := by decide +kernel
theorem d7_9 : decode method_2_code 9 = .ok (.newarray .char, 2) := by decide +kernel
theorem d7_11 : decode method_2_code 11 = .ok (.invokespecial 9, 3) := by decide +kernel
theorem d7_14 : decode method_2_code 14 = .ok (.areturn, 1) := by decide +kernel
theorem d7_15 : decode method_2_code 15 = .ok (.iload_n 0, 1) := by decide +kernel
theorem d7_16 : decode method_2_code 16 = .ok (.iconst 1, 1) := by decide +kernel
theorem d7_17 : decode method_2_code 17 = .ok (.if_icmp .ne 8, 3) := by decide +kernel
theorem d7_20 : decode method_2_code 20 = .ok (.iload_n 1, 1) := by decide +kernel
theorem d7_21 : decode method_2_code 21 = .ok (.invokestatic 12, 3) := by decide +kernel
theorem d7_24 : decode method_2_code 24 = .ok (.areturn, 1) := by decide +kernel
theorem d7_25 : decode method_2_code 25 = .ok (.new 7, 3) := by decide +kernel
theorem d7_28 : decode method_2_code 28 = .ok (.dup, 1) := by decide +kernel
theorem d7_29 : decode method_2_code 29 = .ok (.iconst 2, 1) := by decide +kernel
theorem d7_30 : decode method_2_code 30 = .ok (.newarray .char, 2) := by decide +kernel
theorem d7_32 : decode method_2_code 32 = .ok (.dup, 1) := by decide +kernel
theorem d7_33 : decode method_2_code 33 = .ok (.iconst 0, 1) := by decide +kernel
theorem d7_34 : decode method_2_code 34 = .ok (.iload_n 1, 1) := by decide +kernel
theorem d7_35 : decode method_2_code 35 = .ok (.castore, 1) := by decide +kernel
theorem d7_36 : decode method_2_code 36 = .ok (.dup, 1) := by decide +kernel
theorem d7_37 : decode method_2_code 37 = .ok (.iconst 1, 1) := by decide +kernel
theorem d7_38 : decode method_2_code 38 = .ok (.iload_n 2, 1) := by decide +kernel
theorem d7_39 : decode method_2_code 39 = .ok (.castore, 1) := by decide +kernel
theorem d7_40 : decode method_2_code 40 = .ok (.invokespecial 9, 3) := by decide +kernel
theorem d7_43 : decode method_2_code 43 = .ok (.areturn, 1) := by decide +kernel
theorem d9_0 : decode prog_10_method_1_code 0 = .ok (.aload_n 0, 1) := by decide +kernel
theorem d9_1 : decode prog_10_method_1_code 1 = .ok (.invokespecial 1, 3) := by decide +kernel
theorem d9_4 : decode prog_10_method_1_code 4 = .ok (.aload_n 0, 1) := by decide +kernel
theorem d9_5 : decode prog_10_method_1_code 5 = .ok (.aload_n 1, 1) := by decide +kernel
theorem d9_6 : decode prog_10_method_1_code 6 = .ok (.ldc 7, 2) := by decide +kernel
theorem d9_8 : decode prog_10_method_1_code 8 = .ok (.invokestatic 9, 3) := by decide +kernel
theorem d9_11 : decode prog_10_method_1_code 11 = .ok (.checkcast 15, 3) := by decide +kernel
theorem d9_14 : decode prog_10_method_1_code 14 = .ok (.putfield 17, 3) := by decide +kernel
theorem d9_17 : decode prog_10_method_1_code 17 = .ok (.aload_n 0, 1) := by decide +kernel
theorem d9_18 : decode prog_10_method_1_code 18 = .ok (.iload_n 2, 1) := by decide +kernel
theorem d9_19 : decode prog_10_method_1_code 19 = .ok (.putfield 23, 3) := by decide +kernel
theorem d9_22 : decode prog_10_method_1_code 22 = .ok (.return_, 1) := by decide +kernel
theorem d10_0 : decode prog_10_method_5_code 0 = .ok (.aload_n 1, 1) := by decide +kernel
theorem d10_1 : decode prog_10_method_5_code 1 = .ok (.instanceof 18, 3) := by decide +kernel
theorem d10_4 : decode prog_10_method_5_code 4 = .ok (.ifCond .eq 37, 3) := by decide +kernel
theorem d10_7 : decode prog_10_method_5_code 7 = .ok (.aload_n 1, 1) := by decide +kernel
theorem d10_8 : decode prog_10_method_5_code 8 = .ok (.checkcast 18, 3) := by decide +kernel
theorem d10_11 : decode prog_10_method_5_code 11 = .ok (.astore_n 2, 1) := by decide +kernel
theorem d10_12 : decode prog_10_method_5_code 12 = .ok (.aload_n 0, 1) := by decide +kernel
theorem d10_13 : decode prog_10_method_5_code 13 = .ok (.getfield 17, 3) := by decide +kernel
theorem d10_16 : decode prog_10_method_5_code 16 = .ok (.aload_n 2, 1) := by decide +kernel
theorem d10_17 : decode prog_10_method_5_code 17 = .ok (.getfield 17, 3) := by decide +kernel
theorem d10_20 : decode prog_10_method_5_code 20 = .ok (.invokevirtual 30, 3) := by decide +kernel
theorem d10_23 : decode prog_10_method_5_code 23 = .ok (.ifCond .eq 18, 3) := by decide +kernel
theorem d10_26 : decode prog_10_method_5_code 26 = .ok (.aload_n 0, 1) := by decide +kernel
theorem d10_27 : decode prog_10_method_5_code 27 = .ok (.getfield 23, 3) := by decide +kernel
theorem d10_30 : decode prog_10_method_5_code 30 = .ok (.aload_n 2, 1) := by decide +kernel
theorem d10_31 : decode prog_10_method_5_code 31 = .ok (.getfield 23, 3) := by decide +kernel
theorem d10_34 : decode prog_10_method_5_code 34 = .ok (.if_icmp .ne 7, 3) := by decide +kernel
theorem d10_37 : decode prog_10_method_5_code 37 = .ok (.iconst 1, 1) := by decide +kernel
theorem d10_38 : decode prog_10_method_5_code 38 = .ok (.goto 4, 3) := by decide +kernel
theorem d10_41 : decode prog_10_method_5_code 41 = .ok (.iconst 0, 1) := by decide +kernel
theorem d10_42 : decode prog_10_method_5_code 42 = .ok (.ireturn, 1) := by decide +kernel
theorem pd_0 : parseMethodDescriptor "([CIILjava/lang/Void;)V" = some ⟨[(.array .char), .int, .int, (.object "java/lang/Void")], none⟩ := by decide +kernel
theorem pd_1 : parseMethodDescriptor "(C)Z" = some ⟨[.char], some .boolean⟩ := by decide +kernel
theorem pd_2 : parseMethodDescriptor "(C)[B" = some ⟨[.char], some (.array .byte)⟩ := by decide +kernel
theorem pd_3 : parseMethodDescriptor "([BB)V" = some ⟨[(.array .byte), .byte], none⟩ := by decide +kernel
theorem pd_4 : parseMethodDescriptor "([C)V" = some ⟨[(.array .char)], none⟩ := by decide +kernel
theorem pd_5 : parseMethodDescriptor "(C)Ljava/lang/String;" = some ⟨[.char], some (.object "java/lang/String")⟩ := by decide +kernel
theorem pd_6 : parseMethodDescriptor "(Ljava/lang/Object;Ljava/lang/String;)Ljava/lang/Object;" = some ⟨[(.object "java/lang/Object"), (.object "java/lang/String")], some (.object "java/lang/Object")⟩ := by decide +kernel
theorem pd_7 : parseMethodDescriptor "(Ljava/lang/Object;)Z" = some ⟨[(.object "java/lang/Object")], some .boolean⟩ := by decide +kernel
theorem pd_8 : parseMethodDescriptor "(II)I" = some ⟨[.int, .int], some .int⟩ := by decide +kernel
theorem pd_9 : parseMethodDescriptor "(ICC)Ljava/lang/String;" = some ⟨[.int, .char, .char], some (.object "java/lang/String")⟩ := by decide +kernel
theorem pd_10 : parseMethodDescriptor "(Ljava/lang/String;Z)V" = some ⟨[(.object "java/lang/String"), .boolean], none⟩ := by decide +kernel
theorem sAt {a0 : Array Value} {Z : State} (hw : ∀ d ∈ tables_1, d.before a0 Z = true) : ∀ d ∈ Bundle.stringAtoms, d.before a0 Z = true := fun d hd => hw d ((by decide +kernel : ∀ d ∈ Bundle.stringAtoms, d ∈ tables_1) d hd)
theorem hStrW {a0 : Array Value} {Z : State} (hw : ∀ d ∈ tables_1, d.before a0 Z = true) : ∀ d ∈ StrChars.Road.words, d.before a0 Z = true := fun d hd => hw d ((by decide +kernel : ∀ d ∈ StrChars.Road.words, d ∈ tables_1) d hd)
theorem hEqW {a0 : Array Value} {Z : State} (hw : ∀ d ∈ tables_1, d.before a0 Z = true) : ∀ d ∈ StrChars.Road.wordsEq, d.before a0 Z = true := fun d hd => hw d ((by decide +kernel : ∀ d ∈ StrChars.Road.wordsEq, d ∈ tables_1) d hd)
theorem own_one {r : Int32} (h : r = 1) : ¬ r = (0 : Int32) := by subst h; decide
theorem own_yes {r : Int32} {A : Prop} (h : (r = 1 ∧ A) ∨ (r = 0 ∧ ¬ A)) (a : A) : r = 1 := by
  rcases h with ⟨h, -⟩ | ⟨-, n⟩
  · exact h
  · exact absurd a n
theorem own_narZ {b : Int32} (h : b = 0 ∨ b = 1) : narrow .boolean (.int b) = .int b ∧ fits .boolean (.int b) = true := by rcases h with rfl | rfl <;> exact ⟨rfl, rfl⟩
theorem own_min3 {v x : Int32} (h : v = if (2 : Int32) < (x &&& (3 : Int32)) then (2 : Int32) else (x &&& (3 : Int32))) : v = 0 ∨ v = 1 ∨ v = 2 := by
  subst h
  rcases own_and3 x with h | h | h | h <;> rw [h] <;> decide
/-- an object of a class C whose only parent is O isn't one of K -/
theorem own_far {Z : State} {a0 : Array Value} {C O K : String} {n : Nat} (w : (Jvm.Cond.superclass C O).before a0 Z = true) (wo : (Jvm.Cond.noSuperclass O).before a0 Z = true) (wk : (Jvm.Cond.instantiable K n).before a0 Z = true) (hn : C ≠ K) (ho : O ≠ K) : ∃ c t, Z.vm.findClass C = some c ∧ Z.vm.findClass K = some t ∧ Z.vm.assignable c t = false := by
  obtain ⟨t, kt, g1, g2, g3, g4, -⟩ := Cond.instantiable_spec wk
  obtain ⟨o, ko, o1, o2, o3, -, -⟩ := Cond.noSuperclass_spec wo
  have no : NS Z O K := ⟨o, t, o1, g1, fun fuel => by
    have ne := ids_ne o1 g1 ho
    cases fuel with
    | zero => rfl
    | succ f => simp [Vm.isSubclassAux, ne, o2, o3]⟩
  have nc : NS Z C K := NS.step w no hn
  obtain ⟨c, t', h0, g0, n3⟩ := nc
  cases g1.symm.trans g0
  obtain ⟨p, k, kp, h1, h2, h3, h4, h5, -, h7⟩ := Cond.superclass_spec h0 w
  have ne := ids_ne h0 g0 hn
  refine ⟨c, t, h0, g0, ?_⟩
  have g7 : kt.isInterface = false := by simp only [Bool.or_eq_false_iff] at g4; exact g4.1
  show Z.vm.assignableAux (255 + 1) c t = false
  simp [Vm.assignableAux, ne, h2, g2, h5, g3, g7, Vm.isSubclass, n3]
theorem own_rIff {n k c0 c1 d0 d1 i j : Int32} {cs ds : List Int32} (e1 : cs = own_cs n c0 c1) (e2 : ds = own_cs k d0 d1) (s1 : n = 0 ∨ n = 1 ∨ n = 2) (s2 : k = 0 ∨ k = 1 ∨ k = 2) : (cs = ds ∧ i = j) ↔ ((n = k ∧ (n < 1 ∨ c0 = d0) ∧ (n < 2 ∨ c1 = d1)) ∧ i = j) := by
  subst e1 e2; rw [own_csEq s1 s2]
theorem own_rIff' {n k c0 c1 d0 d1 i j : Int32} {cs ds : List Int32} (e1 : cs = own_cs n c0 c1) (e2 : ds = own_cs k d0 d1) (s1 : n = 0 ∨ n = 1 ∨ n = 2) (s2 : k = 0 ∨ k = 1 ∨ k = 2) : (ds = cs ∧ j = i) ↔ ((n = k ∧ (n < 1 ∨ c0 = d0) ∧ (n < 2 ∨ c1 = d1)) ∧ i = j) := by
  rw [← own_rIff e1 e2 s1 s2]; exact ⟨fun ⟨a, b⟩ => ⟨a.symm, b.symm⟩, fun ⟨a, b⟩ => ⟨a.symm, b.symm⟩⟩
theorem own_exp {B C D F G H : Prop} [Decidable B] [Decidable C] [Decidable D] [Decidable F] [Decidable G] [Decidable H] {sm : Int32}
    (h : (if B then (if C then (if F then (1 : Int32) else (if G then (1 : Int32) else (0 : Int32))) else (if D then (if F then (1 : Int32) else (if G then (1 : Int32) else (0 : Int32))) else (0 : Int32))) else (0 : Int32)) = sm) : (if sm = (0 : Int32) then (0 : Int32) else (if H then (1 : Int32) else (0 : Int32))) = if ((B ∧ (C ∨ D) ∧ (F ∨ G)) ∧ H) then 1 else 0 := by
  subst h
  by_cases hB : B <;> by_cases hC : C <;> by_cases hD : D <;> by_cases hF : F <;> by_cases hG : G <;> by_cases hH : H <;> simp [hB, hC, hD, hF, hG, hH]
def Q_rmRnn (Z : State) (a1 : Addr) (a2 : Addr) (h0 : Heap) (vv : Option Value) (h : Heap) (L : List Loc) : Prop := vv = some (.ref a1) ∧ Fr Z.heap.size L ∧ h = h0
theorem ef_rmRnn (m : MethodId) (x0 : Addr) (x1 : Addr)   : entryFrame m #[(.ref x0), (.ref x1)] 2 = mkF m 0 #[.val (.ref x0), .val (.ref x1)] [] := by first | rfl | (simp [entryFrame, mkF, argsToLocals, Value.category]; done)
set_option maxRecDepth 65536 in
set_option maxHeartbeats 40000000 in
theorem rmRnn (l : Launch) (Z : State) (a0 : Array Value) (hw : ∀ d ∈ tables_1, d.before a0 Z = true) (ws : List Jvm.Cond) (a1 : Addr) (a2 : Addr) (h0 : Heap) :
    MetFree l (⟨"java/util/Objects", "requireNonNull", "(Ljava/lang/Object;Ljava/lang/String;)Ljava/lang/Object;"⟩ : MethodName) (head1 (Jvm.Cond.code (⟨"java/util/Objects", "requireNonNull", "(Ljava/lang/Object;Ljava/lang/String;)Ljava/lang/Object;"⟩ : MethodName) jdk_31_method_11_code 2 (some (.object "java/lang/Object")) :: ws) ({ frames := 0, cells := 0, slots := 0, locals := 0 } : Room)) (fun a U => a = #[(.ref a1), (.ref a2)] ∧ Z.Warmed39 U.vm ∧ U.heap = h0) (fun _ _ _ _ _ => True) (fun _ U o U' => ∃ v L, o = .returned v ∧ Q_rmRnn Z a1 a2 h0 v U'.heap L ∧ FrameEnd U o U' L ({ frames := 0, cells := 0, slots := 0, locals := 0 } : Room).cells ({ frames := 0, cells := 0, slots := 0, locals := 0 } : Room).slots) := by
  refine MetFree.of_bodySF (plainFor_of_name (by first | (simp [plainName, overriddenIn]; done) | decide +kernel)) hisR ?_
  intro p e s m args below meth c s₁ Bd hml0 hP hK
  obtain ⟨rfl, hZ0', hh⟩ := hP
  have hx := Bd.exec
  have hby := Bd.bytes
  have hml : c.maxLocals = 2 := hml0
  have hZ0 : Z.Warmed39 s.vm := hZ0'
  have hown0 : s.vm.findClass "java/util/Objects" = some m.cls := findClass_of_methodNamed Bd.named
  have hnm := (name_of_methodNamed Bd.named Bd.method).1
  have hlk : meth.locks = false := Bd.notSynchronized
  have X0 : Stand p l e ({ frames := 0, cells := 0, slots := 0, locals := 0 } : Room) s m #[(.ref a1), (.ref a2)] below meth c s₁ [] 0 0 := Stand.of_body Bd
  have e0 : s₁.heap = h0 := by rw [← hh, Bd.state]; rfl
  have N0 := Fr.nil Z.heap.size
  have KP0 : Keep h0 h0 ([] : List Addr) := Keep.refl _ _
  show Go p e below (fun t o => ∃ v L, o = .returned v ∧ Q_rmRnn Z a1 a2 h0 v t.heap L ∧ FrameEnd s o t L ({ frames := 0, cells := 0, slots := 0, locals := 0 } : Room).cells ({ frames := 0, cells := 0, slots := 0, locals := 0 } : Room).slots) (s₁.setTop (entryFrame m #[(.ref a1), (.ref a2)] 2))
  refine Go.on (w := s₁.setTop (mkF m 0 #[rv a1, rv a2] [])) (fun t k => castTop (ef_rmRnn m a1 a2) k) ?_
  refine Go.on (w := s₁.setTop (mkF m 14 #[rv a1, rv a2] [(.ref a1)])) (fun t k => XS.aloadN X0.here hx rfl (hb hby d0_0) rfl rfl (XS.ifnonnullYes X0.here hx rfl (pc0 := 1) (pc' := 13) rfl (hb hby d0_1) rfl (by decide) (by decide) (XS.aloadN X0.here hx rfl (hb hby d0_13) rfl rfl k))) ?_
  refine Go.finH X0 hlk (v := some (.ref a1)) (fun h => by rw [Bd.returns] at h; cases h) (fun fs hr => ?_) (endH (Q := Q_rmRnn Z a1 a2 h0) (by rw [e0]; exact ⟨rfl, N0, rfl⟩) (by decide) (by decide))
  exact retOut X0 hx Bd.returns rfl (Or.inr (Or.inr (Or.inr (Or.inr ⟨rfl, rfl, rfl⟩)))) (hb hby d0_14) hr
def Q_rmNew4 (Z : State) (a1 : Addr) (a2 : Addr) (h0 : Heap) (vv : Option Value) (h : Heap) (L : List Loc) : Prop := ∃ (t : Addr) (kb : ClassId), vv = none ∧ Fr Z.heap.size L ∧ Keep h0 h [a1] ∧ Exa Z h a1 "java/lang/String" ∧ Fld Z h a1 "java/lang/String" "coder" "B" (.int 0) ∧ Fld Z h a1 "java/lang/String" "value" "[B" (.ref t) ∧ Arv Z h t kb .byte (0 : Int32) [] (.int 0)
theorem ef_rmNew4 (m : MethodId) (x0 : Addr) (x1 : Addr) (x2 : Int32) (x3 : Int32)   : entryFrame m #[(.ref x0), (.ref x1), (.int x2), (.int x3), .null] 6 = mkF m 0 #[.val (.ref x0), .val (.ref x1), .val (.int x2), .val (.int x3), .val .null, .unset] [] := by first | rfl | (simp [entryFrame, mkF, argsToLocals, Value.category]; done)
set_option maxRecDepth 65536 in
set_option maxHeartbeats 40000000 in
theorem rmNew4 (l : Launch) (Z : State) (a0 : Array Value) (hw : ∀ d ∈ tables_1, d.before a0 Z = true) (ws : List Jvm.Cond) (a1 : Addr) (a2 : Addr) (h0 : Heap) (hEL : EW Z a0 EL) (Z0 : Z.heap.size ≤ h0.size) (lo_a1 : Z.heap.size ≤ a1) (E_a1 : Exa Z h0 a1 "java/lang/String") (Fc : Fld Z h0 a1 "java/lang/String" "coder" "B" (.int 0)) (Fv : Fld Z h0 a1 "java/lang/String" "value" "[B" .null) :
    MetFree l (⟨"java/lang/String", "<init>", "([CIILjava/lang/Void;)V"⟩ : MethodName) (head1 (Jvm.Cond.code (⟨"java/lang/String", "<init>", "([CIILjava/lang/Void;)V"⟩ : MethodName) jdk_42_method_149_code 6 none :: ws) ({ frames := 1, cells := 4, slots := 8, locals := 12 } : Room)) (fun a U => a = #[(.ref a1), (.ref a2), (.int 0), (.int 0), .null] ∧ Z.Warmed39 U.vm ∧ U.heap = h0 ∧ CHv Z EL U.vm h0) (fun _ _ _ _ _ => True) (fun _ U o U' => ∃ v L, o = .returned v ∧ Q_rmNew4 Z a1 a2 h0 v U'.heap L ∧ CHr Z EL U.vm U.heap U'.vm U'.heap ∧ ReturnedEndW U o U' L ({ frames := 1, cells := 4, slots := 8, locals := 12 } : Room).cells ({ frames := 1, cells := 4, slots := 8, locals := 12 } : Room).slots) := by
  refine MetFree.of_bodySF (plainFor_of_name (by first | (simp [plainName, overriddenIn]; done) | decide +kernel)) hisR ?_
  intro p e s m args below meth c s₁ Bd hml0 hP hK
  obtain ⟨rfl, hZ0', hh, hC0⟩ := hP
  have hx := Bd.exec
  have hby := Bd.bytes
  have hml : c.maxLocals = 6 := hml0
  have hZ0 : Z.Warmed39 (s.setVm s.vm).vm := hZ0'
  have hown0 : (s.setVm s.vm).vm.findClass "java/lang/String" = some m.cls := findClass_of_methodNamed Bd.named
  have hnm := (name_of_methodNamed Bd.named Bd.method).1
  have hlk : meth.locks = false := Bd.notSynchronized
  have X0 : Stand p l e ({ frames := 1, cells := 4, slots := 8, locals := 12 } : Room) (s.setVm s.vm) m #[(.ref a1), (.ref a2), (.int 0), (.int 0), .null] below meth c s₁ [] 0 0 := Stand.of_body Bd
  have e0 : s₁.heap = h0 := by rw [← hh, Bd.state]; rfl
  have hS0 : s.Since s.vm s.heap.size := (State.WarmedH.refl s).since _
  have hk0 : s.heap.size ≤ h0.size := by rw [hh]; exact Nat.le_refl _
  have CR0 : CHr Z EL s.vm s.heap s.vm h0 := by rw [hh]; exact CHr.refl hC0
  have N0 := Fr.nil Z.heap.size
  have KP0 : Keep h0 h0 ([a1] : List Addr) := Keep.refl _ _
  show Go p e below (fun t o => ∃ v L, o = .returned v ∧ Q_rmNew4 Z a1 a2 h0 v t.heap L ∧ CHr Z EL s.vm s.heap t.vm t.heap ∧ ReturnedEndW s o t L ({ frames := 1, cells := 4, slots := 8, locals := 12 } : Room).cells ({ frames := 1, cells := 4, slots := 8, locals := 12 } : Room).slots) (s₁.setTop (entryFrame m #[(.ref a1), (.ref a2), (.int 0), (.int 0), .null] 6))
  refine Go.on (w := s₁.setTop (mkF m 0 #[rv a1, rv a2, iv 0, iv 0, .val .null, .unset] [])) (fun t k => castTop (ef_rmNew4 m a1 a2 (0 : Int32) (0 : Int32)) k) ?_
  have u_a1 : h0.size > a1 := E_a1.lt
  have Sf0 : Safe Z EL s.vm h0 a1 := own_safeNull hZ0.alike E_a1 Fv
  obtain ⟨T1, X1, e1, st1⟩ := initO X0 hx hZ0 hown0 (w_19 hw) (w_20 hw) (w_21 hw) e0 (g := (mkF m 1 #[rv a1, rv a2, iv 0, iv 0, .val .null, .unset] [(.ref a1)])) rfl (by rw [hml]; rfl) rfl (hb hby d1_1) (by decide) (W := 0) (by show 2 * 0 + _ ≤ _; exact Nat.le_of_eq rfl) (by decide)
  obtain ⟨b2, T2, h2, j2, t2, k2, X2, e2, E2, hS2, hk2, hZ2, hown2, Ex2, Fc2, Fv2, Av2, ua2, ub2, C2, Li2, sf2, st2⟩ := ldcCH X1 hx hZ0 hown0 (w_22 hw) (sAt hw) e1 hS0 (by omega) hEL (by simp [EL]) CR0.1 (vs := []) (z := (0 : Int32)) (by decide) (by decide) (by decide) (g := (mkF m 9 #[rv a1, rv a2, iv 0, iv 0, .val .null, .unset] [(.ref a1)])) rfl (hb hby d1_9) (n := 0) (by decide) (by decide) (by decide) (by decide)
  have z2 : h0.size ≤ h2.size := E2.1
  have CR2 := CR0.trans C2
  have KP2 : Keep h0 h2 ([a1] : List Addr) := KP0.ext E2
  have va2 : h2.size > b2 := ua2
  have vb2 : h2.size > t2 := ub2
  have F3 := (C2.safe (show @LT.lt Nat _ a1 h0.size by omega) Sf0)
  obtain ⟨T4, X4, e4, st4⟩ := getF X2 hx hZ2 hown2 (host := "") (Or.inl (w_28 hw)) Via.refl e2 Fv2 (g := (mkF m 11 #[rv a1, rv a2, iv 0, iv 0, .val .null, .unset] [(.ref b2), (.ref a1)])) rfl rfl (hb hby d1_11)
  have F5 := (E_a1.ext E2)
  have F6 := (Fv.ext E2)
  obtain ⟨T7, h7, X7, e7, W7, st7⟩ := putF X4 hx hZ2 hown2 (host := "") (Or.inl (w_28 hw)) Via.refl e4 F6 F5 (Or.inr ⟨(w_24 hw), rfl, hnm⟩) (w_9 hw) (ty := (.array .byte)) (by decide) rfl rfl (g := (mkF m 14 #[rv a1, rv a2, iv 0, iv 0, .val .null, .unset] [(.ref t2), (.ref a1)])) rfl rfl (hb hby d1_14)
  have CR7 := CR2.trans (CHr.wr W7 F3 CR2.1)
  have z7 : h2.size ≤ h7.size := Nat.le_of_eq W7.size.symm
  have KP7 : Keep h0 h7 ([a1] : List Addr) := KP2.wr W7 (Or.inl (List.mem_of_getElem? (i := 0) rfl))
  have N7 := Fr.snoc X7 N0 (by omega)
  have Fw7 := F6.same W7
  obtain ⟨b8, T8, h8, j8, t8, k8, X8, e8, E8, hS8, hk8, hZ8, hown8, Ex8, Fc8, Fv8, Av8, ua8, ub8, C8, Li8, sf8, st8⟩ := ldcCH X7 hx hZ2 hown2 (w_22 hw) (sAt hw) e7 hS2 (by omega) hEL (by simp [EL]) CR7.1 (vs := []) (z := (0 : Int32)) (by decide) (by decide) (by decide) (g := (mkF m 18 #[rv a1, rv a2, iv 0, iv 0, .val .null, .unset] [(.ref a1)])) rfl (hb hby d1_18) (n := 0) (by decide) (by decide) (by decide) (by decide)
  have z8 : h7.size ≤ h8.size := E8.1
  have CR8 := CR7.trans C8
  have KP8 : Keep h0 h8 ([a1] : List Addr) := KP7.ext E8
  have va8 : h8.size > b8 := ua8
  have vb8 : h8.size > t8 := ub8
  have F9 := (C8.safe (show @LT.lt Nat _ a1 h7.size by omega) (Safe.wr W7 F3 CR2.1 F3))
  obtain ⟨T10, X10, e10, st10⟩ := getF X8 hx hZ8 hown8 (host := "") (Or.inl (w_29 hw)) Via.refl e8 Fc8 (g := (mkF m 20 #[rv a1, rv a2, iv 0, iv 0, .val .null, .unset] [(.ref b8), (.ref a1)])) rfl rfl (hb hby d1_20)
  have F11 := ((F5.wr W7).ext E8)
  have F12 := (((Fc.ext E2).other W7 (Or.inr (slot_ne (Or.inr (w_25 hw)) (Or.inr (w_24 hw)) (by decide) (t := .byte) (t' := (.array .byte)) (by decide) (by decide)))).ext E8)
  obtain ⟨T13, h13, X13, e13, W13, st13⟩ := putFN X10 hx hZ8 hown8 (w_29 hw) Via.refl e10 F12 F11 (Or.inr ⟨(w_25 hw), rfl, hnm⟩) (w_9 hw) (ty := .byte) (v' := (.int 0)) (by decide) rfl rfl (g := (mkF m 23 #[rv a1, rv a2, iv 0, iv 0, .val .null, .unset] [(.int 0), (.ref a1)])) rfl rfl (hb hby d1_23)
  have CR13 := CR8.trans (CHr.wr W13 F9 CR8.1)
  have z13 : h8.size ≤ h13.size := Nat.le_of_eq W13.size.symm
  have KP13 : Keep h0 h13 ([a1] : List Addr) := KP8.wr W13 (Or.inl (List.mem_of_getElem? (i := 0) rfl))
  have N13 := Fr.snoc X13 N7 (by omega)
  have Fw13 := F12.same W13
  have F14 := (F11.wr W13)
  have F15 := ((Fw7.ext E8).other W13 (Or.inr (slot_ne (Or.inr (w_24 hw)) (Or.inr (w_25 hw)) (by decide) (t := (.array .byte)) (t' := .byte) (by decide) (by decide))))
  have F16 := (((Av2.other W7 (Ne.symm (sf2 _ F3).2)).ext E8).other W13 (Ne.symm (sf2 _ F3).2))
  refine Go.on (w := T13.setTop (mkF m 26 #[rv a1, rv a2, iv 0, iv 0, .val .null, .unset] [])) (fun t k => XS.aloadN X0.here hx rfl (hb hby d1_0) rfl rfl (st1 _ (XS.iloadN X1.here hx rfl (hb hby d1_4) rfl (XS.ifNo X1.here hx rfl (hb hby d1_5) rfl ((if0 _ _).trans (teq (by decide : (0 : Int32) = (0 : Int32))).2) (XS.aloadN X1.here hx rfl (hb hby d1_8) rfl rfl (st2 _ (st4 _ (st7 _ (XS.aloadN X7.here hx rfl (hb hby d1_17) rfl rfl (st8 _ (st10 _ (st13 _ k)))))))))))) ?_
  have CE17 := CR13.trans (CHv.at X13 hZ8 hEL CR13.1)
  refine Go.fin X13 hS8 (by rw [e13]; omega) hlk (v := none) (fun _ => rfl) (fun fs hr => ?_) (endP (Q := Q_rmNew4 Z a1 a2 h0) (by rw [e13]; exact ⟨t2, k2, rfl, N13, KP13, F14, Fw13, F15, F16⟩) (by rw [e13]; exact CE17) (by decide) (by decide))
  exact X13.returnOut hx Bd.returns (hb hby d1_26) hr
def Q_rmNew1 (Z : State) (a1 : Addr) (a2 : Addr) (kc : ClassId) (h0 : Heap) (vv : Option Value) (h : Heap) (L : List Loc) : Prop := ∃ (t : Addr) (kb : ClassId), vv = none ∧ Fr Z.heap.size L ∧ Keep h0 h [a1] ∧ Exa Z h a1 "java/lang/String" ∧ Fld Z h a1 "java/lang/String" "coder" "B" (.int 0) ∧ Fld Z h a1 "java/lang/String" "value" "[B" (.ref t) ∧ Arv Z h t kb .byte (0 : Int32) [] (.int 0)
theorem ef_rmNew1 (m : MethodId) (x0 : Addr) (x1 : Addr)   : entryFrame m #[(.ref x0), (.ref x1)] 2 = mkF m 0 #[.val (.ref x0), .val (.ref x1)] [] := by first | rfl | (simp [entryFrame, mkF, argsToLocals, Value.category]; done)
set_option maxRecDepth 65536 in
set_option maxHeartbeats 40000000 in
theorem rmNew1 (l : Launch) (Z : State) (a0 : Array Value) (hw : ∀ d ∈ tables_1, d.before a0 Z = true) (ws : List Jvm.Cond) (a1 : Addr) (a2 : Addr) (kc : ClassId) (h0 : Heap) (hEL : EW Z a0 EL) (Z0 : Z.heap.size ≤ h0.size) (lo_a1 : Z.heap.size ≤ a1) (E_a1 : Exa Z h0 a1 "java/lang/String") (Fc : Fld Z h0 a1 "java/lang/String" "coder" "B" (.int 0)) (Fv : Fld Z h0 a1 "java/lang/String" "value" "[B" .null) (Va : Arv Z h0 a2 kc .char (0 : Int32) [] (.int 0)) :
    MetFree l (⟨"java/lang/String", "<init>", "([C)V"⟩ : MethodName) (head1 (Jvm.Cond.code (⟨"java/lang/String", "<init>", "([C)V"⟩ : MethodName) jdk_42_method_3_code 2 none :: ws) ({ frames := 2, cells := 4, slots := 8, locals := 29 } : Room)) (fun a U => a = #[(.ref a1), (.ref a2)] ∧ Z.Warmed39 U.vm ∧ U.heap = h0 ∧ CHv Z EL U.vm h0) (fun _ _ _ _ _ => True) (fun _ U o U' => ∃ v L, o = .returned v ∧ Q_rmNew1 Z a1 a2 kc h0 v U'.heap L ∧ CHr Z EL U.vm U.heap U'.vm U'.heap ∧ ReturnedEndW U o U' L ({ frames := 2, cells := 4, slots := 8, locals := 29 } : Room).cells ({ frames := 2, cells := 4, slots := 8, locals := 29 } : Room).slots) := by
  refine MetFree.of_bodySF (plainFor_of_name (by first | (simp [plainName, overriddenIn]; done) | decide +kernel)) hisR ?_
  intro p e s m args below meth c s₁ Bd hml0 hP hK
  obtain ⟨rfl, hZ0', hh, hC0⟩ := hP
  have hx := Bd.exec
  have hby := Bd.bytes
  have hml : c.maxLocals = 2 := hml0
  have hZ0 : Z.Warmed39 (s.setVm s.vm).vm := hZ0'
  have hown0 : (s.setVm s.vm).vm.findClass "java/lang/String" = some m.cls := findClass_of_methodNamed Bd.named
  have hnm := (name_of_methodNamed Bd.named Bd.method).1
  have hlk : meth.locks = false := Bd.notSynchronized
  have X0 : Stand p l e ({ frames := 2, cells := 4, slots := 8, locals := 29 } : Room) (s.setVm s.vm) m #[(.ref a1), (.ref a2)] below meth c s₁ [] 0 0 := Stand.of_body Bd
  have e0 : s₁.heap = h0 := by rw [← hh, Bd.state]; rfl
  have hS0 : s.Since s.vm s.heap.size := (State.WarmedH.refl s).since _
  have hk0 : s.heap.size ≤ h0.size := by rw [hh]; exact Nat.le_refl _
  have CR0 : CHr Z EL s.vm s.heap s.vm h0 := by rw [hh]; exact CHr.refl hC0
  have N0 := Fr.nil Z.heap.size
  have KP0 : Keep h0 h0 ([a1] : List Addr) := Keep.refl _ _
  show Go p e below (fun t o => ∃ v L, o = .returned v ∧ Q_rmNew1 Z a1 a2 kc h0 v t.heap L ∧ CHr Z EL s.vm s.heap t.vm t.heap ∧ ReturnedEndW s o t L ({ frames := 2, cells := 4, slots := 8, locals := 29 } : Room).cells ({ frames := 2, cells := 4, slots := 8, locals := 29 } : Room).slots) (s₁.setTop (entryFrame m #[(.ref a1), (.ref a2)] 2))
  refine Go.on (w := s₁.setTop (mkF m 0 #[rv a1, rv a2] [])) (fun t k => castTop (ef_rmNew1 m a1 a2) k) ?_
  have u_a1 : h0.size > a1 := E_a1.lt
  obtain ⟨cl18, Ar18, q18, S18, M18, H18, U18⟩ := id Va
  refine Go.on (w := s₁.setTop (mkF m 4 #[rv a1, rv a2] [(.ref a2), (.int 0), (.ref a2), (.ref a1)])) (fun t k => XS.aloadN X0.here hx rfl (hb hby d2_0) rfl rfl (XS.aloadN X0.here hx rfl (hb hby d2_1) rfl rfl (XS.iconst X0.here hx rfl (hb hby d2_2) (XS.aloadN X0.here hx rfl (hb hby d2_3) rfl rfl k)))) ?_
  refine Go.on (w := s₁.setTop (mkF m 5 #[rv a1, rv a2] [(.int 0), (.int 0), (.ref a2), (.ref a1)])) (fun t k => X0.arraylength hx (by rw [e0]; exact Ar18.1) (State.isArrayOf_alike hZ0.alike Ar18.2.1) (g := (mkF m 4 #[rv a1, rv a2] [(.ref a2), (.int 0), (.ref a2), (.ref a1)])) rfl rfl (hb hby d2_4) _ (by rw [len_of S18 M18]; exact k)) ?_
  obtain ⟨v19, _, ⟨T19, L19, k19, n19⟩, -, X19', hs19, hg19, ⟨Lc19, hQ19, l19, y19, z19, C19⟩, st19⟩ := X0.specialBackS hx (y := (⟨"java/lang/String", "<init>", "([CIILjava/lang/Void;)V"⟩ : MethodName)) rfl hown0 (mvT hZ0 (w_15 hw)) (mvT hZ0 (w_16 hw)) (mvT hZ0 (w_18 hw)) (by decide) (backOfSH (s := s) (W := 0) (rmNew4 l Z a0 hw [] a1 a2 h0 hEL (by omega) (by omega) E_a1 Fc Fv) hZ0 (w_18 hw) (w_10 hw) (by decide) (by decide) hEL CR0.1) (g := (mkF m 6 #[rv a1, rv a2] [.null, (.int 0), (.int 0), (.ref a2), (.ref a1)])) rfl (by rw [hml]; rfl) (Steps.refl _) (a := a1) (argsL := [(.ref a2), (.int 0), (.int 0), .null]) (rest := []) (lenOf pd_0 rfl) rfl (by show 2 * 0 + _ ≤ _; exact Nat.le_of_eq rfl) (hb hby d2_6) (fun _ _ => ⟨rfl, e0, (by decide : 0 + 4 ≤ _), (by decide : 0 + 8 ≤ _)⟩)
  dsimp only [Pt.U, Pt.locs, Pt.cells, Pt.slots] at X19' l19 y19 z19 st19 hQ19 hs19 hg19 C19
  subst l19 y19 z19
  obtain ⟨X19, hS19, hZ19, hown19⟩ := rebS hS0 (n1 := s₁.heap.size) (by rw [e0]; omega) X19' hs19 hg19 hZ0 hown0
  have hj19 : T19.heap.size ≤ T19.heap.size := Nat.le_refl _
  obtain ⟨t_19, kb_19, rfl, Nq19, K19, f19_0, f19_1, f19_2, f19_3⟩ := hQ19
  have N19 := Fr.app N0 Nq19
  have eK19 : T19.heap = T19.heap := rfl
  have CR19 := CR0.trans C19
  have z19 : h0.size ≤ T19.heap.size := K19.1
  have KP19 : Keep h0 T19.heap ([a1] : List Addr) := KP0.trans K19 (allS (P := fun x => x ∈ ([a1] : List Addr) ∨ h0.size ≤ x) (Or.inl (List.mem_of_getElem? (i := 0) rfl)) all0)
  have u19_3 : T19.heap.size > t_19 := f19_3.lt
  refine Go.on (w := T19.setTop (mkF m 9 #[rv a1, rv a2] [])) (fun t k => XS.aconstNull X0.here hx rfl (hb hby d2_5) (st19.trans k)) ?_
  have CE20 := CR19.trans (CHv.at X19 hZ19 hEL CR19.1)
  refine Go.fin X19 hS19 (by rw [eK19]; omega) hlk (v := none) (fun _ => rfl) (fun fs hr => ?_) (endP (Q := Q_rmNew1 Z a1 a2 kc h0) (by rw [eK19]; exact ⟨t_19, kb_19, rfl, N19, KP19, f19_0, f19_1, f19_2, f19_3⟩) (by rw [eK19]; exact CE20) (by decide) (by decide))
  exact X19.returnOut hx Bd.returns (hb hby d2_9) hr
def Q_rmCan (Z : State) (ch : Int32) (h0 : Heap) (vv : Option Value) (h : Heap) (L : List Loc) : Prop := vv = some (.int 1) ∧ Fr Z.heap.size L ∧ h = h0
theorem ef_rmCan (m : MethodId) (x0 : Int32)   : entryFrame m #[(.int x0)] 1 = mkF m 0 #[.val (.int x0)] [] := by first | rfl | (simp [entryFrame, mkF, argsToLocals, Value.category]; done)
set_option maxRecDepth 65536 in
set_option maxHeartbeats 40000000 in
theorem rmCan (l : Launch) (Z : State) (a0 : Array Value) (hw : ∀ d ∈ tables_1, d.before a0 Z = true) (ws : List Jvm.Cond) (ch : Int32) (h0 : Heap) (lc : ¬ ch < 0) (rc : ¬ (255 : Int32) < ch) :
    MetFree l (⟨"java/lang/StringLatin1", "canEncode", "(C)Z"⟩ : MethodName) (head1 (Jvm.Cond.code (⟨"java/lang/StringLatin1", "canEncode", "(C)Z"⟩ : MethodName) jdk_43_method_3_code 1 (some .boolean) :: ws) ({ frames := 0, cells := 0, slots := 0, locals := 0 } : Room)) (fun a U => a = #[(.int ch)] ∧ Z.Warmed39 U.vm ∧ U.heap = h0) (fun _ _ _ _ _ => True) (fun _ U o U' => ∃ v L, o = .returned v ∧ Q_rmCan Z ch h0 v U'.heap L ∧ FrameEnd U o U' L ({ frames := 0, cells := 0, slots := 0, locals := 0 } : Room).cells ({ frames := 0, cells := 0, slots := 0, locals := 0 } : Room).slots) := by
  refine MetFree.of_bodySF (plainFor_of_name (by first | (simp [plainName, overriddenIn]; done) | decide +kernel)) hisR ?_
  intro p e s m args below meth c s₁ Bd hml0 hP hK
  obtain ⟨rfl, hZ0', hh⟩ := hP
  have hx := Bd.exec
  have hby := Bd.bytes
  have hml : c.maxLocals = 1 := hml0
  have hZ0 : Z.Warmed39 s.vm := hZ0'
  have hown0 : s.vm.findClass "java/lang/StringLatin1" = some m.cls := findClass_of_methodNamed Bd.named
  have hnm := (name_of_methodNamed Bd.named Bd.method).1
  have hlk : meth.locks = false := Bd.notSynchronized
  have X0 : Stand p l e ({ frames := 0, cells := 0, slots := 0, locals := 0 } : Room) s m #[(.int ch)] below meth c s₁ [] 0 0 := Stand.of_body Bd
  have e0 : s₁.heap = h0 := by rw [← hh, Bd.state]; rfl
  have N0 := Fr.nil Z.heap.size
  have KP0 : Keep h0 h0 ([] : List Addr) := Keep.refl _ _
  show Go p e below (fun t o => ∃ v L, o = .returned v ∧ Q_rmCan Z ch h0 v t.heap L ∧ FrameEnd s o t L ({ frames := 0, cells := 0, slots := 0, locals := 0 } : Room).cells ({ frames := 0, cells := 0, slots := 0, locals := 0 } : Room).slots) (s₁.setTop (entryFrame m #[(.int ch)] 1))
  refine Go.on (w := s₁.setTop (mkF m 0 #[iv ch] [])) (fun t k => castTop (ef_rmCan m ch) k) ?_
  refine Go.on (w := s₁.setTop (mkF m 12 #[iv ch] [(.int 1)])) (fun t k => XS.iloadN X0.here hx rfl (hb hby d3_0) rfl (XS.sipush X0.here hx rfl (hb hby d3_1) (XS.icmpNo X0.here hx rfl (hb hby d3_4) rfl (flt rc).2.2.1 (XS.iconst X0.here hx rfl (hb hby d3_7) (XS.goto X0.here hx rfl (pc0 := 8) (pc' := 12) rfl (hb hby d3_8) (by decide) (by decide) k))))) ?_
  refine Go.finH X0 hlk (v := some (.int 1)) (fun h => by rw [Bd.returns] at h; cases h) (fun fs hr => ?_) (endH (Q := Q_rmCan Z ch h0) (by rw [e0]; exact ⟨rfl, N0, rfl⟩) (by decide) (by decide))
  exact retN X0 hx (t := .boolean) Bd.returns (by simp) (hb hby d3_12) hr
def Q_rmToB (Z : State) (ch : Int32) (h0 : Heap) (vv : Option Value) (h : Heap) (L : List Loc) : Prop := ∃ (r : Addr) (kb : ClassId), vv = some (.ref r) ∧ Fr Z.heap.size L ∧ Keep h0 h [] ∧ (h0.size ≤ r) ∧ Arv Z h r kb .byte (1 : Int32) [(.int (ch.toInt8.toInt32))] (.int 0)
theorem ef_rmToB (m : MethodId) (x0 : Int32)   : entryFrame m #[(.int x0)] 1 = mkF m 0 #[.val (.int x0)] [] := by first | rfl | (simp [entryFrame, mkF, argsToLocals, Value.category]; done)
set_option maxRecDepth 65536 in
set_option maxHeartbeats 40000000 in
theorem rmToB (l : Launch) (Z : State) (a0 : Array Value) (hw : ∀ d ∈ tables_1, d.before a0 Z = true) (ws : List Jvm.Cond) (ch : Int32) (h0 : Heap) (Z0 : Z.heap.size ≤ h0.size) :
    MetFree l (⟨"java/lang/StringLatin1", "toBytes", "(C)[B"⟩ : MethodName) (head1 (Jvm.Cond.code (⟨"java/lang/StringLatin1", "toBytes", "(C)[B"⟩ : MethodName) jdk_43_method_46_code 1 (some (.array .byte)) :: ws) ({ frames := 0, cells := 1, slots := 1, locals := 0 } : Room)) (fun a U => a = #[(.int ch)] ∧ Z.Warmed39 U.vm ∧ U.heap = h0) (fun _ _ _ _ _ => True) (fun _ U o U' => ∃ v L, o = .returned v ∧ Q_rmToB Z ch h0 v U'.heap L ∧ FrameEnd U o U' L ({ frames := 0, cells := 1, slots := 1, locals := 0 } : Room).cells ({ frames := 0, cells := 1, slots := 1, locals := 0 } : Room).slots) := by
  refine MetFree.of_bodySF (plainFor_of_name (by first | (simp [plainName, overriddenIn]; done) | decide +kernel)) hisR ?_
  intro p e s m args below meth c s₁ Bd hml0 hP hK
  obtain ⟨rfl, hZ0', hh⟩ := hP
  have hx := Bd.exec
  have hby := Bd.bytes
  have hml : c.maxLocals = 1 := hml0
  have hZ0 : Z.Warmed39 s.vm := hZ0'
  have hown0 : s.vm.findClass "java/lang/StringLatin1" = some m.cls := findClass_of_methodNamed Bd.named
  have hnm := (name_of_methodNamed Bd.named Bd.method).1
  have hlk : meth.locks = false := Bd.notSynchronized
  have X0 : Stand p l e ({ frames := 0, cells := 1, slots := 1, locals := 0 } : Room) s m #[(.int ch)] below meth c s₁ [] 0 0 := Stand.of_body Bd
  have e0 : s₁.heap = h0 := by rw [← hh, Bd.state]; rfl
  have N0 := Fr.nil Z.heap.size
  have KP0 : Keep h0 h0 ([] : List Addr) := Keep.refl _ _
  show Go p e below (fun t o => ∃ v L, o = .returned v ∧ Q_rmToB Z ch h0 v t.heap L ∧ FrameEnd s o t L ({ frames := 0, cells := 1, slots := 1, locals := 0 } : Room).cells ({ frames := 0, cells := 1, slots := 1, locals := 0 } : Room).slots) (s₁.setTop (entryFrame m #[(.int ch)] 1))
  refine Go.on (w := s₁.setTop (mkF m 0 #[iv ch] [])) (fun t k => castTop (ef_rmToB m ch) k) ?_
  obtain ⟨T21, h21, k21, X21, e21, E21, A21, st21⟩ := newP (aty := .byte) X0 hx hZ0 (w_23 hw) e0 (g := (mkF m 1 #[iv ch] [(.int 1)])) rfl (hb hby d4_1) rfl (by decide : ¬ ((1 : Int32) < (0 : Int32))) (cap := 1) (by decide) (by decide) (by decide) (by decide)
  obtain ⟨b21, g21⟩ : ∃ z, z = h0.size := ⟨_, rfl⟩
  rw [← g21] at A21 st21
  have V21 : Arv Z h21 b21 k21 .byte (1 : Int32) [(.int 0)] (.int 0) := (Arv.new A21 (by decide : ¬ ((1 : Int32) < (0 : Int32)))).pad (pad_rep [] (.int 0) 1)
  have u21 : h21.size > b21 := V21.lt
  have z21 : h0.size ≤ h21.size := E21.1
  have KP21 : Keep h0 h21 ([] : List Addr) := KP0.ext E21
  obtain ⟨cl22, Ar22, q22, S22, M22, H22, U22⟩ := id V21
  obtain ⟨T22, h22, X22, e22, W22, st22⟩ := stB X21 hx hZ0 e21 Ar22 (j := (0 : Int32)) (inb_of S22 ⟨(by decide), (by decide)⟩) (g := (mkF m 7 #[iv ch] [(.int (ch.toInt8.toInt32)), (.int 0), (.ref b21), (.ref b21)])) rfl rfl (hb hby d4_7)
  have V22 : Arv Z h22 b21 k21 .byte (1 : Int32) [(.int (ch.toInt8.toInt32))] (.int 0) := by rw [← (own_nar8 ch : nar .byte (ch.toInt8.toInt32) = (ch.toInt8.toInt32))]; exact (Arv.set Ar22 q22 S22 M22 H22 U22 (fits_nar_byte _) W22 0 rfl (Nat.le_of_ble_eq_true rfl))
  have z22 : h21.size ≤ h22.size := Nat.le_of_eq W22.size.symm
  have KP22 : Keep h0 h22 ([] : List Addr) := KP21.wr W22 (Or.inr (by omega))
  have N22 := Fr.snoc X22 N0 (by omega)
  refine Go.on (w := T22.setTop (mkF m 8 #[iv ch] [(.ref b21)])) (fun t k => XS.iconst X0.here hx rfl (hb hby d4_0) (st21 _ (XS.dup X21.here hx rfl (hb hby d4_3) rfl rfl (XS.iconst X21.here hx rfl (hb hby d4_4) (XS.iloadN X21.here hx rfl (hb hby d4_5) rfl (XS.i2b X21.here hx rfl (hb hby d4_6) rfl (st22 _ k))))))) ?_
  refine Go.finH X22 hlk (v := some (.ref b21)) (fun h => by rw [Bd.returns] at h; cases h) (fun fs hr => ?_) (endH (Q := Q_rmToB Z ch h0) (by rw [e22]; exact ⟨b21, k21, rfl, N22, KP22, (by omega), V22⟩) (by decide) (by decide))
  exact retOut X22 hx Bd.returns rfl (Or.inr (Or.inr (Or.inr (Or.inr ⟨rfl, rfl, rfl⟩)))) (hb hby d4_8) hr
def Q_rmNewB (Z : State) (a1 : Addr) (a2 : Addr) (h0 : Heap) (vv : Option Value) (h : Heap) (L : List Loc) : Prop := vv = none ∧ Fr Z.heap.size L ∧ Keep h0 h [a1] ∧ Exa Z h a1 "java/lang/String" ∧ Fld Z h a1 "java/lang/String" "coder" "B" (.int 0) ∧ Fld Z h a1 "java/lang/String" "value" "[B" (.ref a2)
theorem ef_rmNewB (m : MethodId) (x0 : Addr) (x1 : Addr) (x2 : Int32)   : entryFrame m #[(.ref x0), (.ref x1), (.int x2)] 3 = mkF m 0 #[.val (.ref x0), .val (.ref x1), .val (.int x2)] [] := by first | rfl | (simp [entryFrame, mkF, argsToLocals, Value.category]; done)
set_option maxRecDepth 65536 in
set_option maxHeartbeats 40000000 in
theorem rmNewB (l : Launch) (Z : State) (a0 : Array Value) (hw : ∀ d ∈ tables_1, d.before a0 Z = true) (ws : List Jvm.Cond) (a1 : Addr) (a2 : Addr) (h0 : Heap) (Z0 : Z.heap.size ≤ h0.size) (lo_a1 : Z.heap.size ≤ a1) (E_a1 : Exa Z h0 a1 "java/lang/String") (Fc : Fld Z h0 a1 "java/lang/String" "coder" "B" (.int 0)) (Fv : Fld Z h0 a1 "java/lang/String" "value" "[B" .null) :
    MetFree l (⟨"java/lang/String", "<init>", "([BB)V"⟩ : MethodName) (head1 (Jvm.Cond.code (⟨"java/lang/String", "<init>", "([BB)V"⟩ : MethodName) jdk_42_method_151_code 3 none :: ws) ({ frames := 1, cells := 0, slots := 0, locals := 12 } : Room)) (fun a U => a = #[(.ref a1), (.ref a2), (.int 0)] ∧ Z.Warmed39 U.vm ∧ U.heap = h0) (fun _ _ _ _ _ => True) (fun _ U o U' => ∃ v L, o = .returned v ∧ Q_rmNewB Z a1 a2 h0 v U'.heap L ∧ FrameEnd U o U' L ({ frames := 1, cells := 0, slots := 0, locals := 12 } : Room).cells ({ frames := 1, cells := 0, slots := 0, locals := 12 } : Room).slots) := by
  refine MetFree.of_bodySF (plainFor_of_name (by first | (simp [plainName, overriddenIn]; done) | decide +kernel)) hisR ?_
  intro p e s m args below meth c s₁ Bd hml0 hP hK
  obtain ⟨rfl, hZ0', hh⟩ := hP
  have hx := Bd.exec
  have hby := Bd.bytes
  have hml : c.maxLocals = 3 := hml0
  have hZ0 : Z.Warmed39 s.vm := hZ0'
  have hown0 : s.vm.findClass "java/lang/String" = some m.cls := findClass_of_methodNamed Bd.named
  have hnm := (name_of_methodNamed Bd.named Bd.method).1
  have hlk : meth.locks = false := Bd.notSynchronized
  have X0 : Stand p l e ({ frames := 1, cells := 0, slots := 0, locals := 12 } : Room) s m #[(.ref a1), (.ref a2), (.int 0)] below meth c s₁ [] 0 0 := Stand.of_body Bd
  have e0 : s₁.heap = h0 := by rw [← hh, Bd.state]; rfl
  have N0 := Fr.nil Z.heap.size
  have KP0 : Keep h0 h0 ([a1] : List Addr) := Keep.refl _ _
  show Go p e below (fun t o => ∃ v L, o = .returned v ∧ Q_rmNewB Z a1 a2 h0 v t.heap L ∧ FrameEnd s o t L ({ frames := 1, cells := 0, slots := 0, locals := 12 } : Room).cells ({ frames := 1, cells := 0, slots := 0, locals := 12 } : Room).slots) (s₁.setTop (entryFrame m #[(.ref a1), (.ref a2), (.int 0)] 3))
  refine Go.on (w := s₁.setTop (mkF m 0 #[rv a1, rv a2, iv 0] [])) (fun t k => castTop (ef_rmNewB m a1 a2 (0 : Int32)) k) ?_
  have u_a1 : h0.size > a1 := E_a1.lt
  obtain ⟨T23, X23, e23, st23⟩ := initO X0 hx hZ0 hown0 (w_19 hw) (w_20 hw) (w_21 hw) e0 (g := (mkF m 1 #[rv a1, rv a2, iv 0] [(.ref a1)])) rfl (by rw [hml]; rfl) rfl (hb hby d5_1) (by decide) (W := 0) (by show 2 * 0 + _ ≤ _; exact Nat.le_of_eq rfl) (by decide)
  obtain ⟨T24, h24, X24, e24, W24, st24⟩ := putF X23 hx hZ0 hown0 (host := "") (Or.inl (w_28 hw)) Via.refl e23 Fv E_a1 (Or.inr ⟨(w_24 hw), rfl, hnm⟩) (w_9 hw) (ty := (.array .byte)) (by decide) rfl rfl (g := (mkF m 6 #[rv a1, rv a2, iv 0] [(.ref a2), (.ref a1)])) rfl rfl (hb hby d5_6)
  have z24 : h0.size ≤ h24.size := Nat.le_of_eq W24.size.symm
  have KP24 : Keep h0 h24 ([a1] : List Addr) := KP0.wr W24 (Or.inl (List.mem_of_getElem? (i := 0) rfl))
  have N24 := Fr.snoc X24 N0 (by omega)
  have Fw24 := Fv.same W24
  have F25 := (E_a1.wr W24)
  have F26 := (Fc.other W24 (Or.inr (slot_ne (Or.inr (w_25 hw)) (Or.inr (w_24 hw)) (by decide) (t := .byte) (t' := (.array .byte)) (by decide) (by decide))))
  obtain ⟨T27, h27, X27, e27, W27, st27⟩ := putFN X24 hx hZ0 hown0 (w_29 hw) Via.refl e24 F26 F25 (Or.inr ⟨(w_25 hw), rfl, hnm⟩) (w_9 hw) (ty := .byte) (v' := (.int 0)) (by decide) rfl rfl (g := (mkF m 11 #[rv a1, rv a2, iv 0] [(.int 0), (.ref a1)])) rfl rfl (hb hby d5_11)
  have z27 : h24.size ≤ h27.size := Nat.le_of_eq W27.size.symm
  have KP27 : Keep h0 h27 ([a1] : List Addr) := KP24.wr W27 (Or.inl (List.mem_of_getElem? (i := 0) rfl))
  have N27 := Fr.snoc X27 N24 (by omega)
  have Fw27 := F26.same W27
  have F28 := (F25.wr W27)
  have F29 := (Fw24.other W27 (Or.inr (slot_ne (Or.inr (w_24 hw)) (Or.inr (w_25 hw)) (by decide) (t := (.array .byte)) (t' := .byte) (by decide) (by decide))))
  refine Go.on (w := T27.setTop (mkF m 14 #[rv a1, rv a2, iv 0] [])) (fun t k => XS.aloadN X0.here hx rfl (hb hby d5_0) rfl rfl (st23 _ (XS.aloadN X23.here hx rfl (hb hby d5_4) rfl rfl (XS.aloadN X23.here hx rfl (hb hby d5_5) rfl rfl (st24 _ (XS.aloadN X24.here hx rfl (hb hby d5_9) rfl rfl (XS.iloadN X24.here hx rfl (hb hby d5_10) rfl (st27 _ k)))))))) ?_
  refine Go.finH X27 hlk (v := none) (fun _ => rfl) (fun fs hr => ?_) (endH (Q := Q_rmNewB Z a1 a2 h0) (by rw [e27]; exact ⟨rfl, N27, KP27, F28, Fw27, F29⟩) (by decide) (by decide))
  exact X27.returnOut hx Bd.returns (hb hby d5_14) hr
def Q_rmVal (Z : State) (ch : Int32) (G1 : Int32) (h0 : Heap) (vv : Option Value) (h : Heap) (L : List Loc) : Prop := ∃ (r : Addr) (t : Addr) (kb : ClassId), vv = some (.ref r) ∧ Fr Z.heap.size L ∧ Keep h0 h [] ∧ (h0.size ≤ r) ∧ Exa Z h r "java/lang/String" ∧ Fld Z h r "java/lang/String" "coder" "B" (.int 0) ∧ Fld Z h r "java/lang/String" "value" "[B" (.ref t) ∧ Arv Z h t kb .byte (1 : Int32) [(.int (ch.toInt8.toInt32))] (.int 0)
theorem ef_rmVal (m : MethodId) (x0 : Int32)   : entryFrame m #[(.int x0)] 1 = mkF m 0 #[.val (.int x0)] [] := by first | rfl | (simp [entryFrame, mkF, argsToLocals, Value.category]; done)
set_option maxRecDepth 65536 in
set_option maxHeartbeats 40000000 in
theorem rmVal (l : Launch) (Z : State) (a0 : Array Value) (hw : ∀ d ∈ tables_1, d.before a0 Z = true) (ws : List Jvm.Cond) (ch : Int32) (G1 : Int32) (h0 : Heap) (Z0 : Z.heap.size ≤ h0.size) (OL : Old Z Z.heap.size h0) (O2 : Sta Z Z.heap "java/lang/String" "COMPACT_STRINGS" "Z" (.int G1)) (P5 : ¬ (G1 = (0 : Int32))) (lc : ¬ ch < 0) (rc : ¬ (255 : Int32) < ch) :
    MetFree l (⟨"java/lang/String", "valueOf", "(C)Ljava/lang/String;"⟩ : MethodName) (head1 (Jvm.Cond.code (⟨"java/lang/String", "valueOf", "(C)Ljava/lang/String;"⟩ : MethodName) jdk_42_method_139_code 1 (some (.object "java/lang/String")) :: ws) ({ frames := 2, cells := 2, slots := 5, locals := 27 } : Room)) (fun a U => a = #[(.int ch)] ∧ Z.Warmed39 U.vm ∧ U.heap = h0) (fun _ _ _ _ _ => True) (fun _ U o U' => ∃ v L, o = .returned v ∧ Q_rmVal Z ch G1 h0 v U'.heap L ∧ FrameEnd U o U' L ({ frames := 2, cells := 2, slots := 5, locals := 27 } : Room).cells ({ frames := 2, cells := 2, slots := 5, locals := 27 } : Room).slots) := by
  refine MetFree.of_bodySF (plainFor_of_name (by first | (simp [plainName, overriddenIn]; done) | decide +kernel)) hisR ?_
  intro p e s m args below meth c s₁ Bd hml0 hP hK
  obtain ⟨rfl, hZ0', hh⟩ := hP
  have hx := Bd.exec
  have hby := Bd.bytes
  have hml : c.maxLocals = 1 := hml0
  have hZ0 : Z.Warmed39 s.vm := hZ0'
  have hown0 : s.vm.findClass "java/lang/String" = some m.cls := findClass_of_methodNamed Bd.named
  have hnm := (name_of_methodNamed Bd.named Bd.method).1
  have hlk : meth.locks = false := Bd.notSynchronized
  have X0 : Stand p l e ({ frames := 2, cells := 2, slots := 5, locals := 27 } : Room) s m #[(.int ch)] below meth c s₁ [] 0 0 := Stand.of_body Bd
  have e0 : s₁.heap = h0 := by rw [← hh, Bd.state]; rfl
  have N0 := Fr.nil Z.heap.size
  have KP0 : Keep h0 h0 ([] : List Addr) := Keep.refl _ _
  show Go p e below (fun t o => ∃ v L, o = .returned v ∧ Q_rmVal Z ch G1 h0 v t.heap L ∧ FrameEnd s o t L ({ frames := 2, cells := 2, slots := 5, locals := 27 } : Room).cells ({ frames := 2, cells := 2, slots := 5, locals := 27 } : Room).slots) (s₁.setTop (entryFrame m #[(.int ch)] 1))
  refine Go.on (w := s₁.setTop (mkF m 0 #[iv ch] [])) (fun t k => castTop (ef_rmVal m ch) k) ?_
  obtain ⟨T30, X30, e30, st30⟩ := getS2 X0 hx hZ0 hown0 (host := "") (Or.inl (w_60 hw)) Via.refl e0 (O2.ext OL.2) (g := (mkF m 0 #[iv ch] [])) rfl (hb hby d6_0)
  obtain ⟨v31, _, ⟨T31, L31, k31, n31⟩, -, X31, ⟨Lc31, hQ31, l31, y31, z31⟩, st31⟩ := Jvm.LawKit.callS X30 hx (y := (⟨"java/lang/StringLatin1", "canEncode", "(C)Z"⟩ : MethodName)) hown0 (mvT hZ0 (w_78 hw)) (mvT hZ0 (w_79 hw)) (mvT hZ0 (w_63 hw)) (mvT hZ0 (w_80 hw)) (by decide) (backOf (W := 0) (rmCan l Z a0 hw [] ch h0 ((⟨lc, rc⟩ : ¬ ch < 0 ∧ ¬ (255 : Int32) < ch)).1 ((⟨lc, rc⟩ : ¬ ch < 0 ∧ ¬ (255 : Int32) < ch)).2) hZ0 (w_80 hw) (w_63 hw) (by decide) (by decide)) (g := (mkF m 7 #[iv ch] [(.int ch)])) rfl (by rw [hml]; rfl) (argsL := [(.int ch)]) (rest := []) (lenOf pd_1 rfl) rfl (by show 2 * 0 + _ ≤ _; exact Nat.le_of_eq rfl) (hb hby d6_7) (fun _ _ => ⟨rfl, e30, (by decide : 0 + 0 ≤ _), (by decide : 0 + 0 ≤ _)⟩)
  dsimp only [Pt.U, Pt.locs, Pt.cells, Pt.slots] at X31 l31 y31 z31 st31 hQ31
  subst l31 y31 z31
  obtain ⟨rfl, Nq31, eh31⟩ := hQ31
  have N31 := Fr.app N0 Nq31
  obtain ⟨T32, h32, X32, e32, E32, A32, D32, -, st32⟩ := newO X31 hx hZ0 hown0 (w_59 hw) (w_9 hw) (w_10 hw) eh31 (g := (mkF m 13 #[iv ch] [])) rfl (hb hby d6_13) (by decide) (by decide)
  obtain ⟨b32, g32⟩ : ∃ z, z = h0.size := ⟨_, rfl⟩
  rw [← g32] at A32 D32 st32
  have u32 : h32.size > b32 := A32.lt
  have z32 : h0.size ≤ h32.size := E32.1
  have KP32 : Keep h0 h32 ([] : List Addr) := KP0.ext E32
  have Fn32_24 : Fld Z h32 b32 "java/lang/String" "value" "[B" .null := D32 (Or.inr (w_24 hw)) (ty := (.array .byte)) (by decide)
  have Fn32_25 : Fld Z h32 b32 "java/lang/String" "coder" "B" (.int 0) := D32 (Or.inr (w_25 hw)) (ty := .byte) (by decide)
  obtain ⟨v33, _, ⟨T33, L33, k33, n33⟩, -, X33, ⟨Lc33, hQ33, l33, y33, z33⟩, st33⟩ := Jvm.LawKit.callS X32 hx (y := (⟨"java/lang/StringLatin1", "toBytes", "(C)[B"⟩ : MethodName)) hown0 (mvT hZ0 (w_81 hw)) (mvT hZ0 (w_82 hw)) (mvT hZ0 (w_63 hw)) (mvT hZ0 (w_83 hw)) (by decide) (backOf (W := 2) (rmToB l Z a0 hw [] ch h32 (by omega)) hZ0 (w_83 hw) (w_63 hw) (by decide) (by decide)) (g := (mkF m 18 #[iv ch] [(.int ch), (.ref b32), (.ref b32)])) rfl (by rw [hml]; rfl) (argsL := [(.int ch)]) (rest := [(.ref b32), (.ref b32)]) (lenOf pd_2 rfl) rfl (by show 2 * 0 + _ ≤ _; exact Nat.le_of_eq rfl) (hb hby d6_18) (fun _ _ => ⟨rfl, e32, (by decide : 1 + 1 ≤ _), (by decide : 4 + 1 ≤ _)⟩)
  dsimp only [Pt.U, Pt.locs, Pt.cells, Pt.slots] at X33 l33 y33 z33 st33 hQ33
  subst l33 y33 z33
  obtain ⟨r_33, kb_33, rfl, Nq33, K33, f33_0, f33_1⟩ := hQ33
  have N33 := Fr.app N31 Nq33
  have eK33 : T33.heap = T33.heap := rfl
  have z33 : h32.size ≤ T33.heap.size := K33.1
  have KP33 : Keep h0 T33.heap ([] : List Addr) := KP32.trans K33 all0
  have u33_1 : T33.heap.size > r_33 := f33_1.lt
  have F35 := (A32.keep K33)
  have F36 := (Fn32_25.keep K33 nin0)
  have F37 := (Fn32_24.keep K33 nin0)
  obtain ⟨v34, _, ⟨T34, L34, k34, n34⟩, -, X34, ⟨Lc34, hQ34, l34, y34, z34⟩, st34⟩ := X33.specialBack hx (y := (⟨"java/lang/String", "<init>", "([BB)V"⟩ : MethodName)) rfl hown0 (mvT hZ0 (w_84 hw)) (mvT hZ0 (w_85 hw)) (mvT hZ0 (w_86 hw)) (by decide) (backOf (W := 1) (rmNewB l Z a0 hw [] b32 r_33 T33.heap (by omega) (by omega) F35 F36 F37) hZ0 (w_86 hw) (w_10 hw) (by decide) (by decide)) (g := (mkF m 22 #[iv ch] [(.int 0), (.ref r_33), (.ref b32), (.ref b32)])) rfl (by rw [hml]; rfl) (Steps.refl _) (a := b32) (argsL := [(.ref r_33), (.int 0)]) (rest := [(.ref b32)]) (lenOf pd_3 rfl) rfl (by show 2 * 0 + _ ≤ _; exact Nat.le_of_eq rfl) (hb hby d6_22) (fun _ _ => ⟨rfl, eK33, (by decide : 2 + 0 ≤ _), (by decide : 5 + 0 ≤ _)⟩)
  dsimp only [Pt.U, Pt.locs, Pt.cells, Pt.slots] at X34 l34 y34 z34 st34 hQ34
  subst l34 y34 z34
  obtain ⟨rfl, Nq34, K34, f34_0, f34_1, f34_2⟩ := hQ34
  have N34 := Fr.app N33 Nq34
  have eK34 : T34.heap = T34.heap := rfl
  have z34 : T33.heap.size ≤ T34.heap.size := K34.1
  have KP34 : Keep h0 T34.heap ([] : List Addr) := KP33.trans K34 (allS (P := fun x => x ∈ ([] : List Addr) ∨ h0.size ≤ x) (Or.inr (by omega)) all0)
  have F38 := (f33_1.keep K34 (ninS (show @Ne Nat r_33 b32 by omega) nin0))
  refine Go.on (w := T34.setTop (mkF m 25 #[iv ch] [(.ref b32)])) (fun t k => st30 _ (XS.ifNo X30.here hx rfl (hb hby d6_3) rfl ((if0 _ _).trans (feq P5).1) (XS.iloadN X30.here hx rfl (hb hby d6_6) rfl (st31 _ (XS.ifNo X31.here hx rfl (hb hby d6_10) rfl ((if0 _ _).trans (feq (by decide : ¬ ((1 : Int32) = (0 : Int32)))).1) (st32 _ (XS.dup X32.here hx rfl (hb hby d6_16) rfl rfl (XS.iloadN X32.here hx rfl (hb hby d6_17) rfl (st33 _ (XS.iconst X33.here hx rfl (hb hby d6_21) (st34.trans k))))))))))) ?_
  refine Go.finH X34 hlk (v := some (.ref b32)) (fun h => by rw [Bd.returns] at h; cases h) (fun fs hr => ?_) (endH (Q := Q_rmVal Z ch G1 h0) (by rw [eK34]; exact ⟨b32, r_33, kb_33, rfl, N34, KP34, (by omega), f34_0, f34_1, f34_2, F38⟩) (by decide) (by decide))
  exact retOut X34 hx Bd.returns rfl (Or.inr (Or.inr (Or.inr (Or.inr ⟨rfl, rfl, rfl⟩)))) (hb hby d6_25) hr
def Q_rmMk (Z : State) (n : Int32) (c0 : Int32) (c1 : Int32) (G1 : Int32) (h0 : Heap) (vv : Option Value) (h : Heap) (L : List Loc) : Prop := ∃ (r : Addr) (t : Addr) (kb : ClassId) (cs : List Int32), vv = some (.ref r) ∧ Fr Z.heap.size L ∧ Keep h0 h [] ∧ (h0.size ≤ r) ∧ (cs = own_cs n c0 c1) ∧ (∀ c ∈ cs, ¬ c < 0 ∧ ¬ (255 : Int32) < c) ∧ Exa Z h r "java/lang/String" ∧ Fld Z h r "java/lang/String" "coder" "B" (.int 0) ∧ Fld Z h r "java/lang/String" "value" "[B" (.ref t) ∧ Arv Z h t kb .byte (Int32.ofNat cs.length) ((cs.map (fun c => c.toInt8.toInt32)).map Value.int) (.int 0)
theorem ef_rmMk (m : MethodId) (x0 : Int32) (x1 : Int32) (x2 : Int32)   : entryFrame m #[(.int x0), (.int x1), (.int x2)] 3 = mkF m 0 #[.val (.int x0), .val (.int x1), .val (.int x2)] [] := by first | rfl | (simp [entryFrame, mkF, argsToLocals, Value.category]; done)
set_option maxRecDepth 65536 in
set_option maxHeartbeats 40000000 in
theorem rmMk (l : Launch) (Z : State) (a0 : Array Value) (hw : ∀ d ∈ tables_1, d.before a0 Z = true) (ws : List Jvm.Cond) (n : Int32) (c0 : Int32) (c1 : Int32) (G1 : Int32) (h0 : Heap) (hEL : EW Z a0 EL) (Z0 : Z.heap.size ≤ h0.size) (OL : Old Z Z.heap.size h0) (O2 : Sta Z Z.heap "java/lang/String" "COMPACT_STRINGS" "Z" (.int G1)) (P5 : ¬ (G1 = (0 : Int32))) (hn : n = 0 ∨ n = 1 ∨ n = 2) (h0c : ¬ c0 < 0 ∧ ¬ (255 : Int32) < c0) (h1c : ¬ c1 < 0 ∧ ¬ (255 : Int32) < c1) :
    MetFree l (⟨"com/example/treewidth/treewidth/ontology/RoleEqualsPinLaw", "str", "(ICC)Ljava/lang/String;"⟩ : MethodName) (head1 (Jvm.Cond.code (⟨"com/example/treewidth/treewidth/ontology/RoleEqualsPinLaw", "str", "(ICC)Ljava/lang/String;"⟩ : MethodName) method_2_code 3 (some (.object "java/lang/String")) :: ws) ({ frames := 4, cells := 6, slots := 12, locals := 66 } : Room)) (fun a U => a = #[(.int n), (.int c0), (.int c1)] ∧ Z.Warmed39 U.vm ∧ U.heap = h0 ∧ CHv Z EL U.vm h0) (fun _ _ _ _ _ => True) (fun _ U o U' => ∃ v L, o = .returned v ∧ Q_rmMk Z n c0 c1 G1 h0 v U'.heap L ∧ CHr Z EL U.vm U.heap U'.vm U'.heap ∧ ReturnedEndW U o U' L ({ frames := 4, cells := 6, slots := 12, locals := 66 } : Room).cells ({ frames := 4, cells := 6, slots := 12, locals := 66 } : Room).slots) := by
  refine MetFree.of_bodySF (plainFor_of_name (by first | (simp [plainName, overriddenIn]; done) | decide +kernel)) hisR ?_
  intro p e s m args below meth c s₁ Bd hml0 hP hK
  obtain ⟨rfl, hZ0', hh, hC0⟩ := hP
  have hx := Bd.exec
  have hby := Bd.bytes
  have hml : c.maxLocals = 3 := hml0
  have hZ0 : Z.Warmed39 (s.setVm s.vm).vm := hZ0'
  have hown0 : (s.setVm s.vm).vm.findClass "com/example/treewidth/treewidth/ontology/RoleEqualsPinLaw" = some m.cls := findClass_of_methodNamed Bd.named
  have hnm := (name_of_methodNamed Bd.named Bd.method).1
  have hlk : meth.locks = false := Bd.notSynchronized
  have X0 : Stand p l e ({ frames := 4, cells := 6, slots := 12, locals := 66 } : Room) (s.setVm s.vm) m #[(.int n), (.int c0), (.int c1)] below meth c s₁ [] 0 0 := Stand.of_body Bd
  have e0 : s₁.heap = h0 := by rw [← hh, Bd.state]; rfl
  have hS0 : s.Since s.vm s.heap.size := (State.WarmedH.refl s).since _
  have hk0 : s.heap.size ≤ h0.size := by rw [hh]; exact Nat.le_refl _
  have CR0 : CHr Z EL s.vm s.heap s.vm h0 := by rw [hh]; exact CHr.refl hC0
  have N0 := Fr.nil Z.heap.size
  have KP0 : Keep h0 h0 ([] : List Addr) := Keep.refl _ _
  show Go p e below (fun t o => ∃ v L, o = .returned v ∧ Q_rmMk Z n c0 c1 G1 h0 v t.heap L ∧ CHr Z EL s.vm s.heap t.vm t.heap ∧ ReturnedEndW s o t L ({ frames := 4, cells := 6, slots := 12, locals := 66 } : Room).cells ({ frames := 4, cells := 6, slots := 12, locals := 66 } : Room).slots) (s₁.setTop (entryFrame m #[(.int n), (.int c0), (.int c1)] 3))
  refine Go.on (w := s₁.setTop (mkF m 0 #[iv n, iv c0, iv c1] [])) (fun t k => castTop (ef_rmMk m n c0 c1) k) ?_
  rcases hn with rfl | rfl | rfl
  ·
    obtain ⟨T39, h39, X39, e39, E39, A39, D39, -, st39⟩ := newO X0 hx hZ0 hown0 (w_8 hw) (w_9 hw) (w_10 hw) e0 (g := (mkF m 4 #[iv 0, iv c0, iv c1] [])) rfl (hb hby d7_4) (by decide) (by decide)
    obtain ⟨b39, g39⟩ : ∃ z, z = h0.size := ⟨_, rfl⟩
    rw [← g39] at A39 D39 st39
    have u39 : h39.size > b39 := A39.lt
    have z39 : h0.size ≤ h39.size := E39.1
    have CR39 := CR0.trans (CHr.ext E39 CR0.1)
    have KP39 : Keep h0 h39 ([] : List Addr) := KP0.ext E39
    have Fn39_24 : Fld Z h39 b39 "java/lang/String" "value" "[B" .null := D39 (Or.inr (w_24 hw)) (ty := (.array .byte)) (by decide)
    have Fn39_25 : Fld Z h39 b39 "java/lang/String" "coder" "B" (.int 0) := D39 (Or.inr (w_25 hw)) (ty := .byte) (by decide)
    obtain ⟨T40, h40, k40, X40, e40, E40, A40, st40⟩ := newP (aty := .char) X39 hx hZ0 (w_11 hw) e39 (g := (mkF m 9 #[iv 0, iv c0, iv c1] [(.int 0), (.ref b39), (.ref b39)])) rfl (hb hby d7_9) rfl (by decide : ¬ ((0 : Int32) < (0 : Int32))) (cap := 0) (by decide) (by decide) (by decide) (by decide)
    obtain ⟨b40, g40⟩ : ∃ z, z = h39.size := ⟨_, rfl⟩
    rw [← g40] at A40 st40
    have V40 : Arv Z h40 b40 k40 .char (0 : Int32) [] (.int 0) := (Arv.new A40 (by decide : ¬ ((0 : Int32) < (0 : Int32)))).pad (pad_rep [] (.int 0) 0)
    have u40 : h40.size > b40 := V40.lt
    have z40 : h39.size ≤ h40.size := E40.1
    have CR40 := CR39.trans (CHr.ext E40 CR39.1)
    have KP40 : Keep h0 h40 ([] : List Addr) := KP39.ext E40
    have F42 := (A39.ext E40)
    have F43 := (Fn39_25.ext E40)
    have F44 := (Fn39_24.ext E40)
    obtain ⟨v41, _, ⟨T41, L41, k41, n41⟩, -, X41', hs41, hg41, ⟨Lc41, hQ41, l41, y41, z41, C41⟩, st41⟩ := X40.specialBackS hx (y := (⟨"java/lang/String", "<init>", "([C)V"⟩ : MethodName)) rfl hown0 (mvT hZ0 (w_12 hw)) (mvT hZ0 (w_13 hw)) (mvT hZ0 (w_14 hw)) (by decide) (backOfSH (s := s) (W := 1) (rmNew1 l Z a0 hw [] b39 b40 k40 h40 hEL (by omega) (by omega) F42 F43 F44 V40) hZ0 (w_14 hw) (w_10 hw) (by decide) (by decide) hEL CR40.1) (g := (mkF m 11 #[iv 0, iv c0, iv c1] [(.ref b40), (.ref b39), (.ref b39)])) rfl (by rw [hml]; rfl) (Steps.refl _) (a := b39) (argsL := [(.ref b40)]) (rest := [(.ref b39)]) (lenOf pd_4 rfl) rfl (by show 2 * 0 + _ ≤ _; exact Nat.le_of_eq rfl) (hb hby d7_11) (fun _ _ => ⟨rfl, e40, (by decide : 2 + 4 ≤ _), (by decide : 4 + 8 ≤ _)⟩)
    dsimp only [Pt.U, Pt.locs, Pt.cells, Pt.slots] at X41' l41 y41 z41 st41 hQ41 hs41 hg41 C41
    subst l41 y41 z41
    obtain ⟨X41, hS41, hZ41, hown41⟩ := rebS hS0 (n1 := T40.heap.size) (by rw [e40]; omega) X41' hs41 hg41 hZ0 hown0
    have hj41 : T41.heap.size ≤ T41.heap.size := Nat.le_refl _
    obtain ⟨t_41, kb_41, rfl, Nq41, K41, f41_0, f41_1, f41_2, f41_3⟩ := hQ41
    have N41 := Fr.app N0 Nq41
    have eK41 : T41.heap = T41.heap := rfl
    have CR41 := CR40.trans C41
    have z41 : h40.size ≤ T41.heap.size := K41.1
    have KP41 : Keep h0 T41.heap ([] : List Addr) := KP40.trans K41 (allS (P := fun x => x ∈ ([] : List Addr) ∨ h0.size ≤ x) (Or.inr (by omega)) all0)
    have u41_3 : T41.heap.size > t_41 := f41_3.lt
    refine Go.on (w := T41.setTop (mkF m 14 #[iv 0, iv c0, iv c1] [(.ref b39)])) (fun t k => XS.iloadN X0.here hx rfl (hb hby d7_0) rfl (XS.ifNo X0.here hx rfl (hb hby d7_1) rfl ((if0 _ _).trans (teq (by decide : (0 : Int32) = (0 : Int32))).2) (st39 _ (XS.dup X39.here hx rfl (hb hby d7_7) rfl rfl (XS.iconst X39.here hx rfl (hb hby d7_8) (st40 _ (st41.trans k))))))) ?_
    have CE45 := CR41.trans (CHv.at X41 hZ41 hEL CR41.1)
    refine Go.fin X41 hS41 (by rw [eK41]; omega) hlk (v := some (.ref b39)) (fun h => by rw [Bd.returns] at h; cases h) (fun fs hr => ?_) (endP (Q := Q_rmMk Z (0 : Int32) c0 c1 G1 h0) (by rw [eK41]; exact ⟨b39, t_41, kb_41, [], rfl, N41, KP41, (by omega), (own_cs0 _ _).symm, (fun _ q => nomatch q), f41_0, f41_1, f41_2, f41_3⟩) (by rw [eK41]; exact CE45) (by decide) (by decide))
    exact retOut X41 hx Bd.returns rfl (Or.inr (Or.inr (Or.inr (Or.inr ⟨rfl, rfl, rfl⟩)))) (hb hby d7_14) hr
  ·
    obtain ⟨v46, _, ⟨T46, L46, k46, n46⟩, -, X46, ⟨Lc46, hQ46, l46, y46, z46⟩, st46⟩ := Jvm.LawKit.callS X0 hx (y := (⟨"java/lang/String", "valueOf", "(C)Ljava/lang/String;"⟩ : MethodName)) hown0 (mvT hZ0 (w_75 hw)) (mvT hZ0 (w_76 hw)) (mvT hZ0 (w_10 hw)) (mvT hZ0 (w_77 hw)) (by decide) (backOf (W := 0) (rmVal l Z a0 hw [] c0 G1 h0 (by omega) OL O2 P5 (h0c).1 (h0c).2) hZ0 (w_77 hw) (w_10 hw) (by decide) (by decide)) (g := (mkF m 21 #[iv 1, iv c0, iv c1] [(.int c0)])) rfl (by rw [hml]; rfl) (argsL := [(.int c0)]) (rest := []) (lenOf pd_5 rfl) rfl (by show 2 * 0 + _ ≤ _; exact Nat.le_of_eq rfl) (hb hby d7_21) (fun _ _ => ⟨rfl, e0, (by decide : 0 + 2 ≤ _), (by decide : 0 + 5 ≤ _)⟩)
    dsimp only [Pt.U, Pt.locs, Pt.cells, Pt.slots] at X46 l46 y46 z46 st46 hQ46
    subst l46 y46 z46
    obtain ⟨r_46, t_46, kb_46, rfl, Nq46, K46, f46_0, f46_1, f46_2, f46_3, f46_4⟩ := hQ46
    have N46 := Fr.app N0 Nq46
    have eK46 : T46.heap = T46.heap := rfl
    have CR46 := CR0.trans (CHr.keep K46 sf0 CR0.1)
    have z46 : h0.size ≤ T46.heap.size := K46.1
    have KP46 : Keep h0 T46.heap ([] : List Addr) := KP0.trans K46 all0
    have u46_1 : T46.heap.size > r_46 := f46_1.lt
    have u46_4 : T46.heap.size > t_46 := f46_4.lt
    refine Go.on (w := T46.setTop (mkF m 24 #[iv 1, iv c0, iv c1] [(.ref r_46)])) (fun t k => XS.iloadN X0.here hx rfl (hb hby d7_0) rfl (XS.ifYes X0.here hx rfl (pc0 := 1) (pc' := 15) rfl (hb hby d7_1) rfl ((if0 _ _).trans (feq (by decide : ¬ ((1 : Int32) = (0 : Int32)))).2) (by decide) (by decide) (XS.iloadN X0.here hx rfl (hb hby d7_15) rfl (XS.iconst X0.here hx rfl (hb hby d7_16) (XS.icmpNo X0.here hx rfl (hb hby d7_17) rfl (teq (by decide : (1 : Int32) = (1 : Int32))).2 (XS.iloadN X0.here hx rfl (hb hby d7_20) rfl (st46 _ k))))))) ?_
    have CE47 := CR46.trans (CHv.at X46 hZ0 hEL CR46.1)
    refine Go.fin X46 hS0 (by rw [eK46]; omega) hlk (v := some (.ref r_46)) (fun h => by rw [Bd.returns] at h; cases h) (fun fs hr => ?_) (endP (Q := Q_rmMk Z (1 : Int32) c0 c1 G1 h0) (by rw [eK46]; exact ⟨r_46, t_46, kb_46, [c0], rfl, N46, KP46, (by omega), (own_cs1 _ _).symm, (own_all1 h0c), f46_1, f46_2, f46_3, f46_4⟩) (by rw [eK46]; exact CE47) (by decide) (by decide))
    exact retOut X46 hx Bd.returns rfl (Or.inr (Or.inr (Or.inr (Or.inr ⟨rfl, rfl, rfl⟩)))) (hb hby d7_24) hr
  ·
    obtain ⟨T48, h48, X48, e48, E48, A48, D48, -, st48⟩ := newO X0 hx hZ0 hown0 (w_8 hw) (w_9 hw) (w_10 hw) e0 (g := (mkF m 25 #[iv 2, iv c0, iv c1] [])) rfl (hb hby d7_25) (by decide) (by decide)
    obtain ⟨b48, g48⟩ : ∃ z, z = h0.size := ⟨_, rfl⟩
    rw [← g48] at A48 D48 st48
    have u48 : h48.size > b48 := A48.lt
    have z48 : h0.size ≤ h48.size := E48.1
    have CR48 := CR0.trans (CHr.ext E48 CR0.1)
    have KP48 : Keep h0 h48 ([] : List Addr) := KP0.ext E48
    have Fn48_24 : Fld Z h48 b48 "java/lang/String" "value" "[B" .null := D48 (Or.inr (w_24 hw)) (ty := (.array .byte)) (by decide)
    have Fn48_25 : Fld Z h48 b48 "java/lang/String" "coder" "B" (.int 0) := D48 (Or.inr (w_25 hw)) (ty := .byte) (by decide)
    obtain ⟨T49, h49, k49, X49, e49, E49, A49, st49⟩ := newP (aty := .char) X48 hx hZ0 (w_11 hw) e48 (g := (mkF m 30 #[iv 2, iv c0, iv c1] [(.int 2), (.ref b48), (.ref b48)])) rfl (hb hby d7_30) rfl (by decide : ¬ ((2 : Int32) < (0 : Int32))) (cap := 2) (by decide) (by decide) (by decide) (by decide)
    obtain ⟨b49, g49⟩ : ∃ z, z = h48.size := ⟨_, rfl⟩
    rw [← g49] at A49 st49
    have V49 : Arv Z h49 b49 k49 .char (2 : Int32) [(.int 0), (.int 0)] (.int 0) := (Arv.new A49 (by decide : ¬ ((2 : Int32) < (0 : Int32)))).pad (pad_rep [] (.int 0) 2)
    have u49 : h49.size > b49 := V49.lt
    have z49 : h48.size ≤ h49.size := E49.1
    have CR49 := CR48.trans (CHr.ext E49 CR48.1)
    have KP49 : Keep h0 h49 ([] : List Addr) := KP48.ext E49
    obtain ⟨cl50, Ar50, q50, S50, M50, H50, U50⟩ := id V49
    obtain ⟨T50, h50, X50, e50, W50, st50⟩ := stC X49 hx hZ0 e49 Ar50 (j := (0 : Int32)) (inb_of S50 ⟨(by decide), (by decide)⟩) (g := (mkF m 35 #[iv 2, iv c0, iv c1] [(.int c0), (.int 0), (.ref b49), (.ref b49), (.ref b48), (.ref b48)])) rfl rfl (hb hby d7_35)
    have V50 : Arv Z h50 b49 k49 .char (2 : Int32) [(.int c0), (.int 0)] (.int 0) := by rw [← (own_nar h0c.1 h0c.2 : nar .char c0 = c0)]; exact (Arv.set Ar50 q50 S50 M50 H50 U50 (fits_nar_char _) W50 0 rfl (Nat.le_of_ble_eq_true rfl))
    have CR50 := CR49.trans (CHr.wr W50 (Safe.arv hZ0.alike V49 (by decide)) CR49.1)
    have z50 : h49.size ≤ h50.size := Nat.le_of_eq W50.size.symm
    have KP50 : Keep h0 h50 ([] : List Addr) := KP49.wr W50 (Or.inr (by omega))
    have N50 := Fr.snoc X50 N0 (by omega)
    obtain ⟨cl51, Ar51, q51, S51, M51, H51, U51⟩ := id V50
    obtain ⟨T51, h51, X51, e51, W51, st51⟩ := stC X50 hx hZ0 e50 Ar51 (j := (1 : Int32)) (inb_of S51 ⟨(by decide), (by decide)⟩) (g := (mkF m 39 #[iv 2, iv c0, iv c1] [(.int c1), (.int 1), (.ref b49), (.ref b49), (.ref b48), (.ref b48)])) rfl rfl (hb hby d7_39)
    have V51 : Arv Z h51 b49 k49 .char (2 : Int32) [(.int c0), (.int c1)] (.int 0) := by rw [← (own_nar h1c.1 h1c.2 : nar .char c1 = c1)]; exact (Arv.set Ar51 q51 S51 M51 H51 U51 (fits_nar_char _) W51 1 rfl (Nat.le_of_ble_eq_true rfl))
    have CR51 := CR50.trans (CHr.wr W51 (Safe.arv hZ0.alike V50 (by decide)) CR50.1)
    have z51 : h50.size ≤ h51.size := Nat.le_of_eq W51.size.symm
    have KP51 : Keep h0 h51 ([] : List Addr) := KP50.wr W51 (Or.inr (by omega))
    have N51 := Fr.snoc X51 N50 (by omega)
    have F52 := (((A48.ext E49).wr W50).wr W51)
    have F53 := (((Fn48_24.ext E49).other W50 (Or.inl (show @Ne Nat b48 b49 by omega))).other W51 (Or.inl (show @Ne Nat b48 b49 by omega)))
    have F54 := (((Fn48_25.ext E49).other W50 (Or.inl (show @Ne Nat b48 b49 by omega))).other W51 (Or.inl (show @Ne Nat b48 b49 by omega)))
    have F55 := ((((OL.ext E48).ext E49).wr W50 (by omega)).wr W51 (by omega))
    refine Go.on (w := T51.setTop (mkF m 40 #[iv 2, iv c0, iv c1] [(.ref b49), (.ref b48), (.ref b48)])) (fun t k => XS.iloadN X0.here hx rfl (hb hby d7_0) rfl (XS.ifYes X0.here hx rfl (pc0 := 1) (pc' := 15) rfl (hb hby d7_1) rfl ((if0 _ _).trans (feq (by decide : ¬ ((2 : Int32) = (0 : Int32)))).2) (by decide) (by decide) (XS.iloadN X0.here hx rfl (hb hby d7_15) rfl (XS.iconst X0.here hx rfl (hb hby d7_16) (XS.icmpYes X0.here hx rfl (pc0 := 17) (pc' := 25) rfl (hb hby d7_17) rfl (feq (by decide : ¬ ((2 : Int32) = (1 : Int32)))).2 (by decide) (by decide) (st48 _ (XS.dup X48.here hx rfl (hb hby d7_28) rfl rfl (XS.iconst X48.here hx rfl (hb hby d7_29) (st49 _ (XS.dup X49.here hx rfl (hb hby d7_32) rfl rfl (XS.iconst X49.here hx rfl (hb hby d7_33) (XS.iloadN X49.here hx rfl (hb hby d7_34) rfl (st50 _ (XS.dup X50.here hx rfl (hb hby d7_36) rfl rfl (XS.iconst X50.here hx rfl (hb hby d7_37) (XS.iloadN X50.here hx rfl (hb hby d7_38) rfl (st51 _ k))))))))))))))))) ?_
    have hp56 : ∀ c ∈ ([c0, c1] : List Int32), ¬ c < 0 ∧ ¬ (255 : Int32) < c := by
      intro c hc
      simp only [List.mem_cons, List.not_mem_nil, or_false] at hc
      rcases hc with rfl | rfl
      · exact h0c
      · exact h1c
    obtain ⟨v57, _, ⟨T57, L57, k57, n57⟩, -, X57, ⟨Lc57, hQ57, l57, y57, z57⟩, st57⟩ := X51.specialBack hx (y := (⟨"java/lang/String", "<init>", "([C)V"⟩ : MethodName)) rfl hown0 (mvT hZ0 (w_12 hw)) (mvT hZ0 (w_13 hw)) (mvT hZ0 (w_14 hw)) (by decide) (StrChars.Road.backV (W := 1) hZ0 (hStrW hw) (kI := 4) (w_9 hw) (cs := ([c0, c1] : List Int32)) (bs := ([c0, c1] : List Int32).map (fun c => c.toInt8.toInt32)) (n := 2) (n0 := Z.heap.size) (by omega) (by omega) F52 F53 F54 V51 (O2.ext F55.2) P5 rfl rfl (by decide) (by decide) hp56 rfl (by decide) (by decide)) (g := (mkF m 40 #[iv 2, iv c0, iv c1] [(.ref b49), (.ref b48), (.ref b48)])) rfl (by rw [hml]; rfl) (Steps.refl _) (a := b48) (argsL := [(.ref b49)]) (rest := [(.ref b48)]) (lenOf pd_4 rfl) rfl (by show 2 * 0 + _ ≤ _; exact Nat.le_of_eq rfl) (hb hby d7_40) (fun _ _ => ⟨rfl, e51, (by decide : 2 + 1 ≤ _), (by decide : 6 + 2 ≤ _)⟩)
    dsimp only [Pt.U, Pt.locs, Pt.cells, Pt.slots] at X57 l57 y57 z57 st57 hQ57
    subst l57 y57 z57
    obtain ⟨rfl, Nq57, K57, Ex57, Fc57, t57, kb57, -, ht57, hne57, Fv57, Av57⟩ := hQ57
    have N57 := Fr.app N51 Nq57
    have eK57 : T57.heap = T57.heap := rfl
    have CR57 := CR51.trans (CHr.keep K57 (sfS (own_safeNull hZ0.alike F52 F53) sf0) CR51.1)
    have z57 : h51.size ≤ T57.heap.size := K57.1
    have KP57 : Keep h0 T57.heap ([] : List Addr) := KP51.trans K57 (allS (P := fun x => x ∈ ([] : List Addr) ∨ h0.size ≤ x) (Or.inr (by omega)) all0)
    have ut57 : T57.heap.size > t57 := Av57.lt
    refine Go.on (w := T57.setTop (mkF m 43 #[iv 2, iv c0, iv c1] [(.ref b48)])) (fun t k => st57.trans k) ?_
    have CE58 := CR57.trans (CHv.at X57 hZ0 hEL CR57.1)
    refine Go.fin X57 hS0 (by rw [eK57]; omega) hlk (v := some (.ref b48)) (fun h => by rw [Bd.returns] at h; cases h) (fun fs hr => ?_) (endP (Q := Q_rmMk Z (2 : Int32) c0 c1 G1 h0) (by rw [eK57]; exact ⟨b48, t57, kb57, [c0, c1], rfl, N57, KP57, (by omega), (own_cs2 _ _).symm, (own_all2 h0c h1c), Ex57, Fc57, Fv57, Av57⟩) (by rw [eK57]; exact CE58) (by decide) (by decide))
    exact retOut X57 hx Bd.returns rfl (Or.inr (Or.inr (Or.inr (Or.inr ⟨rfl, rfl, rfl⟩)))) (hb hby d7_43) hr
def Q_rmMin (Z : State) (i1 : Int32) (i2 : Int32) (h0 : Heap) (vv : Option Value) (h : Heap) (L : List Loc) : Prop := ∃ (v : Int32), vv = some (.int v) ∧ Fr Z.heap.size L ∧ h = h0 ∧ (v = if i2 < i1 then i2 else i1)
theorem ef_rmMin (m : MethodId) (x0 : Int32) (x1 : Int32)   : entryFrame m #[(.int x0), (.int x1)] 2 = mkF m 0 #[.val (.int x0), .val (.int x1)] [] := by first | rfl | (simp [entryFrame, mkF, argsToLocals, Value.category]; done)
set_option maxRecDepth 65536 in
set_option maxHeartbeats 40000000 in
theorem rmMin (l : Launch) (Z : State) (a0 : Array Value) (hw : ∀ d ∈ tables_1, d.before a0 Z = true) (ws : List Jvm.Cond) (i1 : Int32) (i2 : Int32) (h0 : Heap) :
    MetFree l (⟨"java/lang/Math", "min", "(II)I"⟩ : MethodName) (head1 (Jvm.Cond.code (⟨"java/lang/Math", "min", "(II)I"⟩ : MethodName) jdk_29_method_69_code 2 (some .int) :: ws) ({ frames := 0, cells := 0, slots := 0, locals := 0 } : Room)) (fun a U => a = #[(.int i1), (.int i2)] ∧ Z.Warmed39 U.vm ∧ U.heap = h0) (fun _ _ _ _ _ => True) (fun _ U o U' => ∃ v L, o = .returned v ∧ Q_rmMin Z i1 i2 h0 v U'.heap L ∧ FrameEnd U o U' L ({ frames := 0, cells := 0, slots := 0, locals := 0 } : Room).cells ({ frames := 0, cells := 0, slots := 0, locals := 0 } : Room).slots) := by
  refine MetFree.of_bodySF (Jvm.Free.JP.mathPlain rfl (by decide +kernel)) hisR ?_
  intro p e s m args below meth c s₁ Bd hml0 hP hK
  obtain ⟨rfl, hZ0', hh⟩ := hP
  have hx := Bd.exec
  have hby := Bd.bytes
  have hml : c.maxLocals = 2 := hml0
  have hZ0 : Z.Warmed39 s.vm := hZ0'
  have hown0 : s.vm.findClass "java/lang/Math" = some m.cls := findClass_of_methodNamed Bd.named
  have hnm := (name_of_methodNamed Bd.named Bd.method).1
  have hlk : meth.locks = false := Bd.notSynchronized
  have X0 : Stand p l e ({ frames := 0, cells := 0, slots := 0, locals := 0 } : Room) s m #[(.int i1), (.int i2)] below meth c s₁ [] 0 0 := Stand.of_body Bd
  have e0 : s₁.heap = h0 := by rw [← hh, Bd.state]; rfl
  have N0 := Fr.nil Z.heap.size
  have KP0 : Keep h0 h0 ([] : List Addr) := Keep.refl _ _
  show Go p e below (fun t o => ∃ v L, o = .returned v ∧ Q_rmMin Z i1 i2 h0 v t.heap L ∧ FrameEnd s o t L ({ frames := 0, cells := 0, slots := 0, locals := 0 } : Room).cells ({ frames := 0, cells := 0, slots := 0, locals := 0 } : Room).slots) (s₁.setTop (entryFrame m #[(.int i1), (.int i2)] 2))
  refine Go.on (w := s₁.setTop (mkF m 0 #[iv i1, iv i2] [])) (fun t k => castTop (ef_rmMin m i1 i2) k) ?_
  refine Go.on (w := s₁.setTop (mkF m 2 #[iv i1, iv i2] [(.int i2), (.int i1)])) (fun t k => XS.iloadN X0.here hx rfl (hb hby d8_0) rfl (XS.iloadN X0.here hx rfl (hb hby d8_1) rfl k)) ?_
  by_cases hc59 : i2 < i1
  ·
    refine Go.on (w := s₁.setTop (mkF m 10 #[iv i1, iv i2] [(.int i2)])) (fun t k => XS.icmpYes X0.here hx rfl (pc0 := 2) (pc' := 9) rfl (hb hby d8_2) rfl (tlt hc59).2.2.1 (by decide) (by decide) (XS.iloadN X0.here hx rfl (hb hby d8_9) rfl k)) ?_
    refine Go.finH X0 hlk (v := some (.int i2)) (fun h => by rw [Bd.returns] at h; cases h) (fun fs hr => ?_) (endH (Q := Q_rmMin Z i1 i2 h0) (by rw [e0]; exact ⟨i2, rfl, N0, rfl, (if_pos hc59).symm⟩) (by decide) (by decide))
    exact retOut X0 hx Bd.returns rfl (Or.inl ⟨rfl, Or.inl rfl, _, rfl⟩) (hb hby d8_10) hr
  ·
    refine Go.on (w := s₁.setTop (mkF m 10 #[iv i1, iv i2] [(.int i1)])) (fun t k => XS.icmpNo X0.here hx rfl (hb hby d8_2) rfl (flt hc59).2.2.1 (XS.iloadN X0.here hx rfl (hb hby d8_5) rfl (XS.goto X0.here hx rfl (pc0 := 6) (pc' := 10) rfl (hb hby d8_6) (by decide) (by decide) k))) ?_
    refine Go.finH X0 hlk (v := some (.int i1)) (fun h => by rw [Bd.returns] at h; cases h) (fun fs hr => ?_) (endH (Q := Q_rmMin Z i1 i2 h0) (by rw [e0]; exact ⟨i1, rfl, N0, rfl, (if_neg hc59).symm⟩) (by decide) (by decide))
    exact retOut X0 hx Bd.returns rfl (Or.inl ⟨rfl, Or.inl rfl, _, rfl⟩) (hb hby d8_10) hr
def Q_rmRole (Z : State) (a1 : Addr) (a2 : Addr) (b : Int32) (h0 : Heap) (vv : Option Value) (h : Heap) (L : List Loc) : Prop := vv = none ∧ Fr Z.heap.size L ∧ Keep h0 h [a1] ∧ Exa Z h a1 "com/example/treewidth/treewidth/ontology/Role" ∧ Fld Z h a1 "com/example/treewidth/treewidth/ontology/Role" "property" "Ljava/lang/String;" (.ref a2) ∧ Fld Z h a1 "com/example/treewidth/treewidth/ontology/Role" "inverse" "Z" (.int b)
theorem ef_rmRole (m : MethodId) (x0 : Addr) (x1 : Addr) (x2 : Int32)   : entryFrame m #[(.ref x0), (.ref x1), (.int x2)] 3 = mkF m 0 #[.val (.ref x0), .val (.ref x1), .val (.int x2)] [] := by first | rfl | (simp [entryFrame, mkF, argsToLocals, Value.category]; done)
set_option maxRecDepth 65536 in
set_option maxHeartbeats 40000000 in
theorem rmRole (l : Launch) (Z : State) (a0 : Array Value) (hw : ∀ d ∈ tables_1, d.before a0 Z = true) (ws : List Jvm.Cond) (a1 : Addr) (a2 : Addr) (b : Int32) (h0 : Heap) (hEL : EW Z a0 EL) (Z0 : Z.heap.size ≤ h0.size) (lo_a1 : Z.heap.size ≤ a1) (E_a1 : Exa Z h0 a1 "com/example/treewidth/treewidth/ontology/Role") (Fp : Fld Z h0 a1 "com/example/treewidth/treewidth/ontology/Role" "property" "Ljava/lang/String;" .null) (Fi : Fld Z h0 a1 "com/example/treewidth/treewidth/ontology/Role" "inverse" "Z" (.int 0)) (E_a2 : Exa Z h0 a2 "java/lang/String") (hb01 : b = 0 ∨ b = 1) :
    MetFree l (⟨"com/example/treewidth/treewidth/ontology/Role", "<init>", "(Ljava/lang/String;Z)V"⟩ : MethodName) (head1 (Jvm.Cond.code (⟨"com/example/treewidth/treewidth/ontology/Role", "<init>", "(Ljava/lang/String;Z)V"⟩ : MethodName) prog_10_method_1_code 3 none :: ws) ({ frames := 1, cells := 2, slots := 48, locals := 14 } : Room)) (fun a U => a = #[(.ref a1), (.ref a2), (.int b)] ∧ Z.Warmed39 U.vm ∧ U.heap = h0 ∧ CHv Z EL U.vm h0) (fun _ _ _ _ _ => True) (fun _ U o U' => ∃ v L, o = .returned v ∧ Q_rmRole Z a1 a2 b h0 v U'.heap L ∧ CHr Z EL U.vm U.heap U'.vm U'.heap ∧ ReturnedEndW U o U' L ({ frames := 1, cells := 2, slots := 48, locals := 14 } : Room).cells ({ frames := 1, cells := 2, slots := 48, locals := 14 } : Room).slots) := by
  refine MetFree.of_bodySF (plainFor_of_name (by first | (simp [plainName, overriddenIn]; done) | decide +kernel)) hisR ?_
  intro p e s m args below meth c s₁ Bd hml0 hP hK
  obtain ⟨rfl, hZ0', hh, hC0⟩ := hP
  have hx := Bd.exec
  have hby := Bd.bytes
  have hml : c.maxLocals = 3 := hml0
  have hZ0 : Z.Warmed39 (s.setVm s.vm).vm := hZ0'
  have hown0 : (s.setVm s.vm).vm.findClass "com/example/treewidth/treewidth/ontology/Role" = some m.cls := findClass_of_methodNamed Bd.named
  have hnm := (name_of_methodNamed Bd.named Bd.method).1
  have hlk : meth.locks = false := Bd.notSynchronized
  have X0 : Stand p l e ({ frames := 1, cells := 2, slots := 48, locals := 14 } : Room) (s.setVm s.vm) m #[(.ref a1), (.ref a2), (.int b)] below meth c s₁ [] 0 0 := Stand.of_body Bd
  have e0 : s₁.heap = h0 := by rw [← hh, Bd.state]; rfl
  have hS0 : s.Since s.vm s.heap.size := (State.WarmedH.refl s).since _
  have hk0 : s.heap.size ≤ h0.size := by rw [hh]; exact Nat.le_refl _
  have CR0 : CHr Z EL s.vm s.heap s.vm h0 := by rw [hh]; exact CHr.refl hC0
  have N0 := Fr.nil Z.heap.size
  have KP0 : Keep h0 h0 ([a1] : List Addr) := Keep.refl _ _
  show Go p e below (fun t o => ∃ v L, o = .returned v ∧ Q_rmRole Z a1 a2 b h0 v t.heap L ∧ CHr Z EL s.vm s.heap t.vm t.heap ∧ ReturnedEndW s o t L ({ frames := 1, cells := 2, slots := 48, locals := 14 } : Room).cells ({ frames := 1, cells := 2, slots := 48, locals := 14 } : Room).slots) (s₁.setTop (entryFrame m #[(.ref a1), (.ref a2), (.int b)] 3))
  refine Go.on (w := s₁.setTop (mkF m 0 #[rv a1, rv a2, iv b] [])) (fun t k => castTop (ef_rmRole m a1 a2 b) k) ?_
  have u_a1 : h0.size > a1 := E_a1.lt
  obtain ⟨T60, X60, e60, st60⟩ := initO X0 hx hZ0 hown0 (w_36 hw) (w_20 hw) (w_21 hw) e0 (g := (mkF m 1 #[rv a1, rv a2, iv b] [(.ref a1)])) rfl (by rw [hml]; rfl) rfl (hb hby d9_1) (by decide) (W := 0) (by show 2 * 0 + _ ≤ _; exact Nat.le_of_eq rfl) (by decide)
  obtain ⟨b61, T61, h61, j61, X61, e61, E61, hS61, hk61, hZ61, hown61, C61, Li61, st61⟩ := ldcOH X60 hx hZ0 hown0 (w_37 hw) (sAt hw) e60 hS0 (by omega) hEL CR0.1 (g := (mkF m 6 #[rv a1, rv a2, iv b] [(.ref a2), (.ref a1)])) rfl (hb hby d9_6) (n := 44) (by decide) (by decide) (by decide) (by decide)
  have z61 : h0.size ≤ h61.size := E61.1
  have CR61 := CR0.trans C61
  have KP61 : Keep h0 h61 ([a1] : List Addr) := KP0.ext E61
  obtain ⟨v62, _, ⟨T62, L62, k62, n62⟩, -, X62, ⟨Lc62, hQ62, l62, y62, z62⟩, st62⟩ := Jvm.LawKit.callS X61 hx (y := (⟨"java/util/Objects", "requireNonNull", "(Ljava/lang/Object;Ljava/lang/String;)Ljava/lang/Object;"⟩ : MethodName)) hown61 (mvT hZ61 (w_38 hw)) (mvT hZ61 (w_39 hw)) (mvT hZ61 (w_40 hw)) (mvT hZ61 (w_41 hw)) (by decide) (backOf (W := 1) (rmRnn l Z a0 hw [] a2 b61 h61 ) hZ61 (w_41 hw) (w_40 hw) (by decide) (by decide)) (g := (mkF m 8 #[rv a1, rv a2, iv b] [(.ref b61), (.ref a2), (.ref a1)])) rfl (by rw [hml]; rfl) (argsL := [(.ref a2), (.ref b61)]) (rest := [(.ref a1)]) (lenOf pd_6 rfl) rfl (by show 2 * 0 + _ ≤ _; exact Nat.le_of_eq rfl) (hb hby d9_8) (fun _ _ => ⟨rfl, e61, (by decide : 2 + 0 ≤ _), (by decide : 48 + 0 ≤ _)⟩)
  dsimp only [Pt.U, Pt.locs, Pt.cells, Pt.slots] at X62 l62 y62 z62 st62 hQ62
  subst l62 y62 z62
  obtain ⟨rfl, Nq62, eh62⟩ := hQ62
  have N62 := Fr.app N0 Nq62
  have F64 := (E_a2.ext E61)
  obtain ⟨T63, X63, e63, st63⟩ := castY X62 hx hZ61 hown61 (w_42 hw) eh62 (Ins.self F64) (g := (mkF m 11 #[rv a1, rv a2, iv b] [(.ref a2), (.ref a1)])) rfl rfl (hb hby d9_11)
  have F65 := (E_a1.ext E61)
  have F66 := (Fp.ext E61)
  obtain ⟨T67, h67, X67, e67, W67, st67⟩ := putF X63 hx hZ61 hown61 (host := "") (Or.inl (w_43 hw)) Via.refl e63 F66 F65 (Or.inr ⟨(w_44 hw), rfl, hnm⟩) (w_31 hw) (ty := (.object "java/lang/String")) (by decide) rfl rfl (g := (mkF m 14 #[rv a1, rv a2, iv b] [(.ref a2), (.ref a1)])) rfl rfl (hb hby d9_14)
  have CR67 := CR61.trans (CHr.wr W67 (Safe.exa hZ61.alike F65 (by decide) (by decide)) CR61.1)
  have z67 : h61.size ≤ h67.size := Nat.le_of_eq W67.size.symm
  have KP67 : Keep h0 h67 ([a1] : List Addr) := KP61.wr W67 (Or.inl (List.mem_of_getElem? (i := 0) rfl))
  have N67 := Fr.snoc X67 N62 (by omega)
  have Fw67 := F66.same W67
  have F68 := (F65.wr W67)
  have F69 := ((Fi.ext E61).other W67 (Or.inr (slot_ne (Or.inr (w_46 hw)) (Or.inr (w_44 hw)) (by decide) (t := .boolean) (t' := (.object "java/lang/String")) (by decide) (by decide))))
  obtain ⟨T70, h70, X70, e70, W70, st70⟩ := putFN X67 hx hZ61 hown61 (w_45 hw) Via.refl e67 F69 F68 (Or.inr ⟨(w_46 hw), rfl, hnm⟩) (w_31 hw) (ty := .boolean) (v' := (.int b)) (by decide) (own_narZ hb01).1 (own_narZ hb01).2 (g := (mkF m 19 #[rv a1, rv a2, iv b] [(.int b), (.ref a1)])) rfl rfl (hb hby d9_19)
  have CR70 := CR67.trans (CHr.wr W70 (Safe.exa hZ61.alike F68 (by decide) (by decide)) CR67.1)
  have z70 : h67.size ≤ h70.size := Nat.le_of_eq W70.size.symm
  have KP70 : Keep h0 h70 ([a1] : List Addr) := KP67.wr W70 (Or.inl (List.mem_of_getElem? (i := 0) rfl))
  have N70 := Fr.snoc X70 N67 (by omega)
  have Fw70 := F69.same W70
  have F71 := (F68.wr W70)
  have F72 := (Fw67.other W70 (Or.inr (slot_ne (Or.inr (w_44 hw)) (Or.inr (w_46 hw)) (by decide) (t := (.object "java/lang/String")) (t' := .boolean) (by decide) (by decide))))
  refine Go.on (w := T70.setTop (mkF m 22 #[rv a1, rv a2, iv b] [])) (fun t k => XS.aloadN X0.here hx rfl (hb hby d9_0) rfl rfl (st60 _ (XS.aloadN X60.here hx rfl (hb hby d9_4) rfl rfl (XS.aloadN X60.here hx rfl (hb hby d9_5) rfl rfl (st61 _ (st62 _ (st63 _ (st67 _ (XS.aloadN X67.here hx rfl (hb hby d9_17) rfl rfl (XS.iloadN X67.here hx rfl (hb hby d9_18) rfl (st70 _ k))))))))))) ?_
  have CE73 := CR70.trans (CHv.at X70 hZ61 hEL CR70.1)
  refine Go.fin X70 hS61 (by rw [e70]; omega) hlk (v := none) (fun _ => rfl) (fun fs hr => ?_) (endP (Q := Q_rmRole Z a1 a2 b h0) (by rw [e70]; exact ⟨rfl, N70, KP70, F71, F72, Fw70⟩) (by rw [e70]; exact CE73) (by decide) (by decide))
  exact X70.returnOut hx Bd.returns (hb hby d9_22) hr
def Q_rmEqN (Z : State) (a1 : Addr) (h0 : Heap) (vv : Option Value) (h : Heap) (L : List Loc) : Prop := vv = some (.int 0) ∧ Fr Z.heap.size L ∧ h = h0
theorem ef_rmEqN (m : MethodId) (x0 : Addr)   : entryFrame m #[(.ref x0), .null] 3 = mkF m 0 #[.val (.ref x0), .val .null, .unset] [] := by first | rfl | (simp [entryFrame, mkF, argsToLocals, Value.category]; done)
set_option maxRecDepth 65536 in
set_option maxHeartbeats 40000000 in
theorem rmEqN (l : Launch) (Z : State) (a0 : Array Value) (hw : ∀ d ∈ tables_1, d.before a0 Z = true) (ws : List Jvm.Cond) (a1 : Addr) (h0 : Heap) :
    MetFree l (⟨"com/example/treewidth/treewidth/ontology/Role", "equals", "(Ljava/lang/Object;)Z"⟩ : MethodName) (head1 (Jvm.Cond.code (⟨"com/example/treewidth/treewidth/ontology/Role", "equals", "(Ljava/lang/Object;)Z"⟩ : MethodName) prog_10_method_5_code 3 (some .boolean) :: ws) ({ frames := 0, cells := 0, slots := 0, locals := 0 } : Room)) (fun a U => a = #[(.ref a1), .null] ∧ Z.Warmed39 U.vm ∧ U.heap = h0) (fun _ _ _ _ _ => True) (fun _ U o U' => ∃ v L, o = .returned v ∧ Q_rmEqN Z a1 h0 v U'.heap L ∧ FrameEnd U o U' L ({ frames := 0, cells := 0, slots := 0, locals := 0 } : Room).cells ({ frames := 0, cells := 0, slots := 0, locals := 0 } : Room).slots) := by
  refine MetFree.of_bodySF (plainFor_of_name (by first | (simp [plainName, overriddenIn]; done) | decide +kernel)) hisR ?_
  intro p e s m args below meth c s₁ Bd hml0 hP hK
  obtain ⟨rfl, hZ0', hh⟩ := hP
  have hx := Bd.exec
  have hby := Bd.bytes
  have hml : c.maxLocals = 3 := hml0
  have hZ0 : Z.Warmed39 s.vm := hZ0'
  have hown0 : s.vm.findClass "com/example/treewidth/treewidth/ontology/Role" = some m.cls := findClass_of_methodNamed Bd.named
  have hnm := (name_of_methodNamed Bd.named Bd.method).1
  have hlk : meth.locks = false := Bd.notSynchronized
  have X0 : Stand p l e ({ frames := 0, cells := 0, slots := 0, locals := 0 } : Room) s m #[(.ref a1), .null] below meth c s₁ [] 0 0 := Stand.of_body Bd
  have e0 : s₁.heap = h0 := by rw [← hh, Bd.state]; rfl
  have N0 := Fr.nil Z.heap.size
  have KP0 : Keep h0 h0 ([] : List Addr) := Keep.refl _ _
  show Go p e below (fun t o => ∃ v L, o = .returned v ∧ Q_rmEqN Z a1 h0 v t.heap L ∧ FrameEnd s o t L ({ frames := 0, cells := 0, slots := 0, locals := 0 } : Room).cells ({ frames := 0, cells := 0, slots := 0, locals := 0 } : Room).slots) (s₁.setTop (entryFrame m #[(.ref a1), .null] 3))
  refine Go.on (w := s₁.setTop (mkF m 0 #[rv a1, .val .null, .unset] [])) (fun t k => castTop (ef_rmEqN m a1) k) ?_
  refine Go.on (w := s₁.setTop (mkF m 42 #[rv a1, .val .null, .unset] [(.int 0)])) (fun t k => XS.aloadN X0.here hx rfl (hb hby d10_0) rfl rfl (X0.instanceofNull hx (g := (mkF m 1 #[rv a1, .val .null, .unset] [.null])) rfl rfl (hb hby d10_1) _ (XS.ifYes X0.here hx rfl (pc0 := 4) (pc' := 41) rfl (hb hby d10_4) rfl ((if0 _ _).trans (teq (by decide : (0 : Int32) = (0 : Int32))).1) (by decide) (by decide) (XS.iconst X0.here hx rfl (hb hby d10_41) k)))) ?_
  refine Go.finH X0 hlk (v := some (.int 0)) (fun h => by rw [Bd.returns] at h; cases h) (fun fs hr => ?_) (endH (Q := Q_rmEqN Z a1 h0) (by rw [e0]; exact ⟨rfl, N0, rfl⟩) (by decide) (by decide))
  exact retN X0 hx (t := .boolean) Bd.returns (by simp) (hb hby d10_42) hr
def Q_rmEqS (Z : State) (a1 : Addr) (a2 : Addr) (h0 : Heap) (vv : Option Value) (h : Heap) (L : List Loc) : Prop := vv = some (.int 0) ∧ Fr Z.heap.size L ∧ h = h0
theorem ef_rmEqS (m : MethodId) (x0 : Addr) (x1 : Addr)   : entryFrame m #[(.ref x0), (.ref x1)] 3 = mkF m 0 #[.val (.ref x0), .val (.ref x1), .unset] [] := by first | rfl | (simp [entryFrame, mkF, argsToLocals, Value.category]; done)
set_option maxRecDepth 65536 in
set_option maxHeartbeats 40000000 in
theorem rmEqS (l : Launch) (Z : State) (a0 : Array Value) (hw : ∀ d ∈ tables_1, d.before a0 Z = true) (ws : List Jvm.Cond) (a1 : Addr) (a2 : Addr) (h0 : Heap) (E_a2 : Exa Z h0 a2 "java/lang/String") :
    MetFree l (⟨"com/example/treewidth/treewidth/ontology/Role", "equals", "(Ljava/lang/Object;)Z"⟩ : MethodName) (head1 (Jvm.Cond.code (⟨"com/example/treewidth/treewidth/ontology/Role", "equals", "(Ljava/lang/Object;)Z"⟩ : MethodName) prog_10_method_5_code 3 (some .boolean) :: ws) ({ frames := 0, cells := 0, slots := 0, locals := 0 } : Room)) (fun a U => a = #[(.ref a1), (.ref a2)] ∧ Z.Warmed39 U.vm ∧ U.heap = h0) (fun _ _ _ _ _ => True) (fun _ U o U' => ∃ v L, o = .returned v ∧ Q_rmEqS Z a1 a2 h0 v U'.heap L ∧ FrameEnd U o U' L ({ frames := 0, cells := 0, slots := 0, locals := 0 } : Room).cells ({ frames := 0, cells := 0, slots := 0, locals := 0 } : Room).slots) := by
  refine MetFree.of_bodySF (plainFor_of_name (by first | (simp [plainName, overriddenIn]; done) | decide +kernel)) hisR ?_
  intro p e s m args below meth c s₁ Bd hml0 hP hK
  obtain ⟨rfl, hZ0', hh⟩ := hP
  have hx := Bd.exec
  have hby := Bd.bytes
  have hml : c.maxLocals = 3 := hml0
  have hZ0 : Z.Warmed39 s.vm := hZ0'
  have hown0 : s.vm.findClass "com/example/treewidth/treewidth/ontology/Role" = some m.cls := findClass_of_methodNamed Bd.named
  have hnm := (name_of_methodNamed Bd.named Bd.method).1
  have hlk : meth.locks = false := Bd.notSynchronized
  have X0 : Stand p l e ({ frames := 0, cells := 0, slots := 0, locals := 0 } : Room) s m #[(.ref a1), (.ref a2)] below meth c s₁ [] 0 0 := Stand.of_body Bd
  have e0 : s₁.heap = h0 := by rw [← hh, Bd.state]; rfl
  have N0 := Fr.nil Z.heap.size
  have KP0 : Keep h0 h0 ([] : List Addr) := Keep.refl _ _
  show Go p e below (fun t o => ∃ v L, o = .returned v ∧ Q_rmEqS Z a1 a2 h0 v t.heap L ∧ FrameEnd s o t L ({ frames := 0, cells := 0, slots := 0, locals := 0 } : Room).cells ({ frames := 0, cells := 0, slots := 0, locals := 0 } : Room).slots) (s₁.setTop (entryFrame m #[(.ref a1), (.ref a2)] 3))
  refine Go.on (w := s₁.setTop (mkF m 0 #[rv a1, rv a2, .unset] [])) (fun t k => castTop (ef_rmEqS m a1 a2) k) ?_
  obtain ⟨T74, X74, e74, st74⟩ := instNo X0 hx hZ0 hown0 (w_52 hw) e0 E_a2 (own_far (w_87 hw) (w_88 hw) (w_31 hw) (by decide) (by decide)) (g := (mkF m 1 #[rv a1, rv a2, .unset] [(.ref a2)])) rfl rfl (hb hby d10_1)
  refine Go.on (w := T74.setTop (mkF m 42 #[rv a1, rv a2, .unset] [(.int 0)])) (fun t k => XS.aloadN X0.here hx rfl (hb hby d10_0) rfl rfl (st74 _ (XS.ifYes X74.here hx rfl (pc0 := 4) (pc' := 41) rfl (hb hby d10_4) rfl ((if0 _ _).trans (teq (by decide : (0 : Int32) = (0 : Int32))).1) (by decide) (by decide) (XS.iconst X74.here hx rfl (hb hby d10_41) k)))) ?_
  refine Go.finH X74 hlk (v := some (.int 0)) (fun h => by rw [Bd.returns] at h; cases h) (fun fs hr => ?_) (endH (Q := Q_rmEqS Z a1 a2 h0) (by rw [e74]; exact ⟨rfl, N0, rfl⟩) (by decide) (by decide))
  exact retN X74 hx (t := .boolean) Bd.returns (by simp) (hb hby d10_42) hr
def Q_rmEqR (Z : State) (a1 : Addr) (a2 : Addr) (x1 : Addr) (t1 : Addr) (q1 : ClassId) (cs : List Int32) (b1 : Int32) (x2 : Addr) (t2 : Addr) (q2 : ClassId) (ds : List Int32) (b2 : Int32) (G1 : Int32) (h0 : Heap) (vv : Option Value) (h : Heap) (L : List Loc) : Prop := ∃ (v : Int32), vv = some (.int v) ∧ Fr Z.heap.size L ∧ h = h0 ∧ ((v = 1 ∧ (cs = ds ∧ b1 = b2)) ∨ (v = 0 ∧ ¬ (cs = ds ∧ b1 = b2)))
theorem ef_rmEqR (m : MethodId) (x0 : Addr) (x1 : Addr)   : entryFrame m #[(.ref x0), (.ref x1)] 3 = mkF m 0 #[.val (.ref x0), .val (.ref x1), .unset] [] := by first | rfl | (simp [entryFrame, mkF, argsToLocals, Value.category]; done)
set_option maxRecDepth 65536 in
set_option maxHeartbeats 40000000 in
theorem rmEqR (l : Launch) (Z : State) (a0 : Array Value) (hw : ∀ d ∈ tables_1, d.before a0 Z = true) (ws : List Jvm.Cond) (a1 : Addr) (a2 : Addr) (x1 : Addr) (t1 : Addr) (q1 : ClassId) (cs : List Int32) (b1 : Int32) (x2 : Addr) (t2 : Addr) (q2 : ClassId) (ds : List Int32) (b2 : Int32) (G1 : Int32) (h0 : Heap) (OL : Old Z Z.heap.size h0) (O2 : Sta Z Z.heap "java/lang/String" "COMPACT_STRINGS" "Z" (.int G1)) (P5 : ¬ (G1 = (0 : Int32))) (E_a2 : Exa Z h0 a2 "com/example/treewidth/treewidth/ontology/Role") (Fp1 : Fld Z h0 a1 "com/example/treewidth/treewidth/ontology/Role" "property" "Ljava/lang/String;" (.ref x1)) (Fi1 : Fld Z h0 a1 "com/example/treewidth/treewidth/ontology/Role" "inverse" "Z" (.int b1)) (Fp2 : Fld Z h0 a2 "com/example/treewidth/treewidth/ontology/Role" "property" "Ljava/lang/String;" (.ref x2)) (Fi2 : Fld Z h0 a2 "com/example/treewidth/treewidth/ontology/Role" "inverse" "Z" (.int b2)) (S1_0 : Exa Z h0 x1 "java/lang/String") (S1_1 : Fld Z h0 x1 "java/lang/String" "coder" "B" (.int 0)) (S1_2 : Fld Z h0 x1 "java/lang/String" "value" "[B" (.ref t1)) (S1_3 : Arv Z h0 t1 q1 .byte (Int32.ofNat cs.length) ((cs.map (fun c => c.toInt8.toInt32)).map Value.int) (.int 0)) (S2_0 : Exa Z h0 x2 "java/lang/String") (S2_1 : Fld Z h0 x2 "java/lang/String" "coder" "B" (.int 0)) (S2_2 : Fld Z h0 x2 "java/lang/String" "value" "[B" (.ref t2)) (S2_3 : Arv Z h0 t2 q2 .byte (Int32.ofNat ds.length) ((ds.map (fun c => c.toInt8.toInt32)).map Value.int) (.int 0)) (hp1 : ∀ c ∈ cs, ¬ c < 0 ∧ ¬ (255 : Int32) < c) (hp2 : ∀ c ∈ ds, ¬ c < 0 ∧ ¬ (255 : Int32) < c) (l1 : cs.length ≤ 4000) (l2 : ds.length ≤ 4000) :
    MetFree l (⟨"com/example/treewidth/treewidth/ontology/Role", "equals", "(Ljava/lang/Object;)Z"⟩ : MethodName) (head1 (Jvm.Cond.code (⟨"com/example/treewidth/treewidth/ontology/Role", "equals", "(Ljava/lang/Object;)Z"⟩ : MethodName) prog_10_method_5_code 3 (some .boolean) :: ws) ({ frames := 2, cells := 0, slots := 0, locals := 28 } : Room)) (fun a U => a = #[(.ref a1), (.ref a2)] ∧ Z.Warmed39 U.vm ∧ U.heap = h0) (fun _ _ _ _ _ => True) (fun _ U o U' => ∃ v L, o = .returned v ∧ Q_rmEqR Z a1 a2 x1 t1 q1 cs b1 x2 t2 q2 ds b2 G1 h0 v U'.heap L ∧ FrameEnd U o U' L ({ frames := 2, cells := 0, slots := 0, locals := 28 } : Room).cells ({ frames := 2, cells := 0, slots := 0, locals := 28 } : Room).slots) := by
  refine MetFree.of_bodySF (plainFor_of_name (by first | (simp [plainName, overriddenIn]; done) | decide +kernel)) hisR ?_
  intro p e s m args below meth c s₁ Bd hml0 hP hK
  obtain ⟨rfl, hZ0', hh⟩ := hP
  have hx := Bd.exec
  have hby := Bd.bytes
  have hml : c.maxLocals = 3 := hml0
  have hZ0 : Z.Warmed39 s.vm := hZ0'
  have hown0 : s.vm.findClass "com/example/treewidth/treewidth/ontology/Role" = some m.cls := findClass_of_methodNamed Bd.named
  have hnm := (name_of_methodNamed Bd.named Bd.method).1
  have hlk : meth.locks = false := Bd.notSynchronized
  have X0 : Stand p l e ({ frames := 2, cells := 0, slots := 0, locals := 28 } : Room) s m #[(.ref a1), (.ref a2)] below meth c s₁ [] 0 0 := Stand.of_body Bd
  have e0 : s₁.heap = h0 := by rw [← hh, Bd.state]; rfl
  have N0 := Fr.nil Z.heap.size
  have KP0 : Keep h0 h0 ([] : List Addr) := Keep.refl _ _
  show Go p e below (fun t o => ∃ v L, o = .returned v ∧ Q_rmEqR Z a1 a2 x1 t1 q1 cs b1 x2 t2 q2 ds b2 G1 h0 v t.heap L ∧ FrameEnd s o t L ({ frames := 2, cells := 0, slots := 0, locals := 28 } : Room).cells ({ frames := 2, cells := 0, slots := 0, locals := 28 } : Room).slots) (s₁.setTop (entryFrame m #[(.ref a1), (.ref a2)] 3))
  refine Go.on (w := s₁.setTop (mkF m 0 #[rv a1, rv a2, .unset] [])) (fun t k => castTop (ef_rmEqR m a1 a2) k) ?_
  obtain ⟨T75, X75, e75, st75⟩ := instY X0 hx hZ0 hown0 (w_52 hw) e0 (Ins.self E_a2) (g := (mkF m 1 #[rv a1, rv a2, .unset] [(.ref a2)])) rfl rfl (hb hby d10_1)
  obtain ⟨T76, X76, e76, st76⟩ := castY X75 hx hZ0 hown0 (w_52 hw) e75 (Ins.self E_a2) (g := (mkF m 8 #[rv a1, rv a2, .unset] [(.ref a2)])) rfl rfl (hb hby d10_8)
  obtain ⟨T77, X77, e77, st77⟩ := getF X76 hx hZ0 hown0 (host := "") (Or.inl (w_43 hw)) Via.refl e76 Fp1 (g := (mkF m 13 #[rv a1, rv a2, rv a2] [(.ref a1)])) rfl rfl (hb hby d10_13)
  obtain ⟨T78, X78, e78, st78⟩ := getF X77 hx hZ0 hown0 (host := "") (Or.inl (w_43 hw)) Via.refl e77 Fp2 (g := (mkF m 17 #[rv a1, rv a2, rv a2] [(.ref a2), (.ref x1)])) rfl rfl (hb hby d10_17)
  obtain ⟨cq79, kq79, q79a, q79b, q79c⟩ := isOf hZ0 e78 S1_0
  obtain ⟨v79, _, ⟨T79, L79, k79, n79⟩, -, X79, ⟨Lc79, hQ79, l79, y79, z79⟩, st79⟩ := X78.virtualBack hx (y := (⟨"java/lang/String", "equals", "(Ljava/lang/Object;)Z"⟩ : MethodName)) (z := (⟨"java/lang/String", "equals", "(Ljava/lang/Object;)Z"⟩ : MethodName)) hown0 (mvT hZ0 (w_54 hw)) (mvT hZ0 (w_55 hw)) (notFace_of_selects (args := #[]) (mvT hZ0 (w_57 hw))) (mvT hZ0 (w_57 hw)) (mvT hZ0 (w_56 hw)) (by decide) (StrChars.Road.eqW (W := 0) hZ0 (hEqW hw) (kI := 4) (w_9 hw) S1_0 S1_2 S1_1 S1_3 (StrChars.Road.codOf (cs := cs) rfl (fun c hc => (hp1 c hc).2)) (own_up hp1) l1 S2_0 S2_2 S2_1 S2_3 (StrChars.Road.codOf (cs := ds) rfl (fun c hc => (hp2 c hc).2)) (own_up hp2) l2 (O2.ext OL.2) P5 (by decide) (by decide)) q79a q79c (g := (mkF m 20 #[rv a1, rv a2, rv a2] [(.ref x2), (.ref x1)])) rfl (by rw [hml]; rfl) (Steps.refl _) (argsL := [(.ref x2)]) (rest := []) (lenOf pd_7 rfl) rfl (by show 2 * 0 + _ ≤ _; exact Nat.le_of_eq rfl) (hb hby d10_20) (fun _ _ => ⟨rfl, e78, (by decide : 0 + 0 ≤ _), (by decide : 0 + 0 ≤ _)⟩)
  dsimp only [Pt.U, Pt.locs, Pt.cells, Pt.slots] at X79 l79 y79 z79 st79 hQ79
  subst l79 y79 z79
  obtain ⟨hv79, rfl, eh79⟩ := hQ79
  obtain ⟨r79, rfl, hd79⟩ := own_eqv hv79
  have N79 := Fr.app N0 (Fr.nil Z.heap.size)
  refine Go.on (w := T79.setTop (mkF m 23 #[rv a1, rv a2, rv a2] [(.int r79)])) (fun t k => XS.aloadN X0.here hx rfl (hb hby d10_0) rfl rfl (st75 _ (XS.ifNo X75.here hx rfl (hb hby d10_4) rfl ((if0 _ _).trans (feq (by decide : ¬ ((1 : Int32) = (0 : Int32)))).1) (XS.aloadN X75.here hx rfl (hb hby d10_7) rfl rfl (st76 _ (XS.astoreN X76.here hx rfl (hb hby d10_11) rfl rfl (l' := #[rv a1, rv a2, rv a2]) rfl (XS.aloadN X76.here hx rfl (hb hby d10_12) rfl rfl (st77 _ (XS.aloadN X77.here hx rfl (hb hby d10_16) rfl rfl (st78 _ (st79.trans k))))))))))) ?_
  rcases hd79 with ⟨hr79, hq79⟩ | ⟨hr79, hq79⟩
  ·
    obtain ⟨T80, X80, e80, st80⟩ := getF X79 hx hZ0 hown0 (host := "") (Or.inl (w_45 hw)) Via.refl eh79 Fi1 (g := (mkF m 27 #[rv a1, rv a2, rv a2] [(.ref a1)])) rfl rfl (hb hby d10_27)
    obtain ⟨T81, X81, e81, st81⟩ := getF X80 hx hZ0 hown0 (host := "") (Or.inl (w_45 hw)) Via.refl e80 Fi2 (g := (mkF m 31 #[rv a1, rv a2, rv a2] [(.ref a2), (.int b1)])) rfl rfl (hb hby d10_31)
    refine Go.on (w := T81.setTop (mkF m 34 #[rv a1, rv a2, rv a2] [(.int b2), (.int b1)])) (fun t k => XS.ifNo X79.here hx rfl (hb hby d10_23) rfl ((if0 _ _).trans (feq (own_one hr79)).1) (XS.aloadN X79.here hx rfl (hb hby d10_26) rfl rfl (st80 _ (XS.aloadN X80.here hx rfl (hb hby d10_30) rfl rfl (st81 _ k))))) ?_
    by_cases hc82 : b1 = b2
    ·
      refine Go.on (w := T81.setTop (mkF m 42 #[rv a1, rv a2, rv a2] [(.int 1)])) (fun t k => XS.icmpNo X81.here hx rfl (hb hby d10_34) rfl (teq hc82).2 (XS.iconst X81.here hx rfl (hb hby d10_37) (XS.goto X81.here hx rfl (pc0 := 38) (pc' := 42) rfl (hb hby d10_38) (by decide) (by decide) k))) ?_
      refine Go.finH X81 hlk (v := some (.int 1)) (fun h => by rw [Bd.returns] at h; cases h) (fun fs hr => ?_) (endH (Q := Q_rmEqR Z a1 a2 x1 t1 q1 cs b1 x2 t2 q2 ds b2 G1 h0) (by rw [e81]; exact ⟨(1 : Int32), rfl, N79, rfl, Or.inl ⟨rfl, hq79, hc82⟩⟩) (by decide) (by decide))
      exact retN X81 hx (t := .boolean) Bd.returns (by simp) (hb hby d10_42) hr
    ·
      refine Go.on (w := T81.setTop (mkF m 42 #[rv a1, rv a2, rv a2] [(.int 0)])) (fun t k => XS.icmpYes X81.here hx rfl (pc0 := 34) (pc' := 41) rfl (hb hby d10_34) rfl (feq hc82).2 (by decide) (by decide) (XS.iconst X81.here hx rfl (hb hby d10_41) k)) ?_
      refine Go.finH X81 hlk (v := some (.int 0)) (fun h => by rw [Bd.returns] at h; cases h) (fun fs hr => ?_) (endH (Q := Q_rmEqR Z a1 a2 x1 t1 q1 cs b1 x2 t2 q2 ds b2 G1 h0) (by rw [e81]; exact ⟨(0 : Int32), rfl, N79, rfl, Or.inr ⟨rfl, fun q => hc82 q.2⟩⟩) (by decide) (by decide))
      exact retN X81 hx (t := .boolean) Bd.returns (by simp) (hb hby d10_42) hr
  ·
    refine Go.on (w := T79.setTop (mkF m 42 #[rv a1, rv a2, rv a2] [(.int 0)])) (fun t k => XS.ifYes X79.here hx rfl (pc0 := 23) (pc' := 41) rfl (hb hby d10_23) rfl ((if0 _ _).trans (teq hr79).1) (by decide) (by decide) (XS.iconst X79.here hx rfl (hb hby d10_41) k)) ?_
    refine Go.finH X79 hlk (v := some (.int 0)) (fun h => by rw [Bd.returns] at h; cases h) (fun fs hr => ?_) (endH (Q := Q_rmEqR Z a1 a2 x1 t1 q1 cs b1 x2 t2 q2 ds b2 G1 h0) (by rw [eh79]; exact ⟨(0 : Int32), rfl, N79, rfl, Or.inr ⟨rfl, fun q => hq79 q.1⟩⟩) (by decide) (by decide))
    exact retN X79 hx (t := .boolean) Bd.returns (by simp) (hb hby d10_42) hr
def Q_rm0 (Z : State) (p0 : Int32) (p1 : Int32) (p2 : Int32) (p3 : Int32) (G1 : Int32) (h0 : Heap) (vv : Option Value) (h : Heap) (L : List Loc) : Prop := vv = some (.int 1) ∧ Fr Z.heap.size L ∧ Keep h0 h []
theorem ef_rm0 (m : MethodId) (x0 : Int32) (x1 : Int32) (x2 : Int32) (x3 : Int32)   : entryFrame m #[(.int x0), (.int x1), (.int x2), (.int x3)] maxLocals = mkF m 0 #[.val (.int x0), .val (.int x1), .val (.int x2), .val (.int x3), .unset, .unset, .unset, .unset, .unset, .unset, .unset, .unset, .unset, .unset, .unset, .unset, .unset, .unset, .unset] [] := by first | (simp [entryFrame, mkF, argsToLocals, Value.category, maxLocals]; done) | rfl
set_option maxRecDepth 65536 in
set_option maxHeartbeats 40000000 in
theorem rm0 (l : Launch) (Z : State) (a0 : Array Value) (hw : ∀ d ∈ tables_1, d.before a0 Z = true) (ws : List Jvm.Cond) (p0 : Int32) (p1 : Int32) (p2 : Int32) (p3 : Int32) (G1 : Int32) (h0 : Heap) (hEL : EW Z a0 EL) (Z0 : Z.heap.size ≤ h0.size) (OL : Old Z Z.heap.size h0) (O2 : Sta Z Z.heap "java/lang/String" "COMPACT_STRINGS" "Z" (.int G1)) (P5 : ¬ (G1 = (0 : Int32))) :
    MetFree l x (head1 (Jvm.Cond.code x code maxLocals ret :: ws) room_1) (fun a U => a = #[(.int p0), (.int p1), (.int p2), (.int p3)] ∧ Z.Warmed39 U.vm ∧ U.heap = h0 ∧ CHv Z EL U.vm h0) (fun _ _ _ _ _ => True) (fun _ U o U' => ∃ v L, o = .returned v ∧ Q_rm0 Z p0 p1 p2 p3 G1 h0 v U'.heap L ∧ CHr Z EL U.vm U.heap U'.vm U'.heap ∧ ReturnedEndW U o U' L room_1.cells room_1.slots) := by
  refine MetFree.of_bodySF (plainFor_of_name (by first | (simp [plainName, overriddenIn]; done) | decide +kernel)) hisR ?_
  intro p e s m args below meth c s₁ Bd hml0 hP hK
  obtain ⟨rfl, hZ0', hh, hC0⟩ := hP
  have hx := Bd.exec
  have hby := Bd.bytes
  have hml : c.maxLocals = 19 := hml0
  have hZ0 : Z.Warmed39 (s.setVm s.vm).vm := hZ0'
  have hown0 : (s.setVm s.vm).vm.findClass "com/example/treewidth/treewidth/ontology/RoleEqualsPinLaw" = some m.cls := findClass_of_methodNamed Bd.named
  have hnm := (name_of_methodNamed Bd.named Bd.method).1
  have hlk : meth.locks = false := Bd.notSynchronized
  have X0 : Stand p l e room_1 (s.setVm s.vm) m #[(.int p0), (.int p1), (.int p2), (.int p3)] below meth c s₁ [] 0 0 := Stand.of_body Bd
  have e0 : s₁.heap = h0 := by rw [← hh, Bd.state]; rfl
  have hS0 : s.Since s.vm s.heap.size := (State.WarmedH.refl s).since _
  have hk0 : s.heap.size ≤ h0.size := by rw [hh]; exact Nat.le_refl _
  have CR0 : CHr Z EL s.vm s.heap s.vm h0 := by rw [hh]; exact CHr.refl hC0
  have N0 := Fr.nil Z.heap.size
  have KP0 : Keep h0 h0 ([] : List Addr) := Keep.refl _ _
  show Go p e below (fun t o => ∃ v L, o = .returned v ∧ Q_rm0 Z p0 p1 p2 p3 G1 h0 v t.heap L ∧ CHr Z EL s.vm s.heap t.vm t.heap ∧ ReturnedEndW s o t L room_1.cells room_1.slots) (s₁.setTop (entryFrame m #[(.int p0), (.int p1), (.int p2), (.int p3)] maxLocals))
  refine Go.on (w := s₁.setTop (mkF m 0 #[iv p0, iv p1, iv p2, iv p3, .unset, .unset, .unset, .unset, .unset, .unset, .unset, .unset, .unset, .unset, .unset, .unset, .unset, .unset, .unset] [])) (fun t k => castTop (ef_rm0 m p0 p1 p2 p3) k) ?_
  obtain ⟨x0, hx0, lx0, rx0⟩ := own_chr (p1)
  obtain ⟨x1, hx1, lx1, rx1⟩ := own_chr (((p1.toUInt32 >>> ((8 : Int32) &&& 31).toUInt32).toInt32))
  obtain ⟨y00, hy00, ly00, ry00⟩ := own_chr (p2)
  obtain ⟨y10, hy10, ly10, ry10⟩ := own_chr (((p2.toUInt32 >>> ((8 : Int32) &&& 31).toUInt32).toInt32))
  obtain ⟨v83, _, ⟨T83, L83, k83, n83⟩, -, X83, ⟨Lc83, hQ83, l83, y83, z83⟩, st83⟩ := Jvm.LawKit.callS X0 hx (y := (⟨"java/lang/Math", "min", "(II)I"⟩ : MethodName)) hown0 (mvT hZ0 (w_0 hw)) (mvT hZ0 (w_1 hw)) (mvT hZ0 (w_2 hw)) (mvT hZ0 (w_3 hw)) (by decide) (backOf (W := 0) (rmMin l Z a0 hw [] (p0 &&& (3 : Int32)) (2 : Int32) h0 ) hZ0 (w_3 hw) (w_2 hw) (by decide) (by decide)) (g := (mkF m 4 #[iv p0, iv p1, iv p2, iv p3, .unset, .unset, .unset, .unset, .unset, .unset, .unset, .unset, .unset, .unset, .unset, .unset, .unset, .unset, .unset] [(.int 2), (.int (p0 &&& (3 : Int32)))])) rfl (by rw [hml]; rfl) (argsL := [(.int (p0 &&& (3 : Int32))), (.int 2)]) (rest := []) (lenOf pd_8 rfl) rfl (by show 2 * 0 + _ ≤ _; exact Nat.le_of_eq rfl) (hb hby at_4) (fun _ _ => ⟨rfl, e0, (by decide : 0 + 0 ≤ _), (by decide : 0 + 0 ≤ _)⟩)
  dsimp only [Pt.U, Pt.locs, Pt.cells, Pt.slots] at X83 l83 y83 z83 st83 hQ83
  subst l83 y83 z83
  obtain ⟨v_83, rfl, Nq83, eh83, f83_0⟩ := hQ83
  have N83 := Fr.app N0 Nq83
  have sn1 : v_83 = 0 ∨ v_83 = 1 ∨ v_83 = 2 := own_min3 f83_0
  obtain ⟨v84, _, ⟨T84, L84, k84, n84⟩, -, X84, ⟨Lc84, hQ84, l84, y84, z84⟩, st84⟩ := Jvm.LawKit.callS X83 hx (y := (⟨"java/lang/Math", "min", "(II)I"⟩ : MethodName)) hown0 (mvT hZ0 (w_0 hw)) (mvT hZ0 (w_1 hw)) (mvT hZ0 (w_2 hw)) (mvT hZ0 (w_3 hw)) (by decide) (backOf (W := 0) (rmMin l Z a0 hw [] (((p0.toUInt32 >>> ((2 : Int32) &&& 31).toUInt32).toInt32) &&& (3 : Int32)) (2 : Int32) h0 ) hZ0 (w_3 hw) (w_2 hw) (by decide) (by decide)) (g := (mkF m 15 #[iv p0, iv p1, iv p2, iv p3, iv v_83, .unset, .unset, .unset, .unset, .unset, .unset, .unset, .unset, .unset, .unset, .unset, .unset, .unset, .unset] [(.int 2), (.int (((p0.toUInt32 >>> ((2 : Int32) &&& 31).toUInt32).toInt32) &&& (3 : Int32)))])) rfl (by rw [hml]; rfl) (argsL := [(.int (((p0.toUInt32 >>> ((2 : Int32) &&& 31).toUInt32).toInt32) &&& (3 : Int32))), (.int 2)]) (rest := []) (lenOf pd_8 rfl) rfl (by show 2 * 0 + _ ≤ _; exact Nat.le_of_eq rfl) (hb hby at_15) (fun _ _ => ⟨rfl, eh83, (by decide : 0 + 0 ≤ _), (by decide : 0 + 0 ≤ _)⟩)
  dsimp only [Pt.U, Pt.locs, Pt.cells, Pt.slots] at X84 l84 y84 z84 st84 hQ84
  subst l84 y84 z84
  obtain ⟨v_84, rfl, Nq84, eh84, f84_0⟩ := hQ84
  have N84 := Fr.app N83 Nq84
  have sn2 : v_84 = 0 ∨ v_84 = 1 ∨ v_84 = 2 := own_min3 f84_0
  refine Go.on (w := T84.setTop (mkF m 25 #[iv p0, iv p1, iv p2, iv p3, iv v_83, iv v_84, .unset, .unset, .unset, .unset, .unset, .unset, .unset, .unset, .unset, .unset, .unset, .unset, .unset] [(.int (p1 &&& (255 : Int32)))])) (fun t k => XS.iloadN X0.here hx rfl (hb hby at_0) rfl (XS.iconst X0.here hx rfl (hb hby at_1) (XS.iand X0.here hx rfl (hb hby at_2) rfl (XS.iconst X0.here hx rfl (hb hby at_3) (st83 _ (XS.istore X83.here hx rfl (hb hby at_7) rfl (l' := #[iv p0, iv p1, iv p2, iv p3, iv v_83, .unset, .unset, .unset, .unset, .unset, .unset, .unset, .unset, .unset, .unset, .unset, .unset, .unset, .unset]) rfl (XS.iloadN X83.here hx rfl (hb hby at_9) rfl (XS.iconst X83.here hx rfl (hb hby at_10) (XS.iushr X83.here hx rfl (hb hby at_11) rfl (XS.iconst X83.here hx rfl (hb hby at_12) (XS.iand X83.here hx rfl (hb hby at_13) rfl (XS.iconst X83.here hx rfl (hb hby at_14) (st84 _ (XS.istore X84.here hx rfl (hb hby at_18) rfl (l' := #[iv p0, iv p1, iv p2, iv p3, iv v_83, iv v_84, .unset, .unset, .unset, .unset, .unset, .unset, .unset, .unset, .unset, .unset, .unset, .unset, .unset]) rfl (XS.iloadN X84.here hx rfl (hb hby at_20) rfl (XS.sipush X84.here hx rfl (hb hby at_21) (XS.iand X84.here hx rfl (hb hby at_24) rfl k))))))))))))))))) ?_
  refine Go.on (w := T84.setTop (mkF m 26 #[iv p0, iv p1, iv p2, iv p3, iv v_83, iv v_84, .unset, .unset, .unset, .unset, .unset, .unset, .unset, .unset, .unset, .unset, .unset, .unset, .unset] [(.int x0)])) (fun t k => XS.i2c X84.here hx rfl (hb hby at_25) rfl (by rw [(hx0 : ((p1 &&& (255 : Int32)).toUInt32.toUInt16.toUInt32.toInt32) = x0)]; exact k)) ?_
  refine Go.on (w := T84.setTop (mkF m 36 #[iv p0, iv p1, iv p2, iv p3, iv v_83, iv v_84, iv x0, .unset, .unset, .unset, .unset, .unset, .unset, .unset, .unset, .unset, .unset, .unset, .unset] [(.int (((p1.toUInt32 >>> ((8 : Int32) &&& 31).toUInt32).toInt32) &&& (255 : Int32)))])) (fun t k => XS.istore X84.here hx rfl (hb hby at_26) rfl (l' := #[iv p0, iv p1, iv p2, iv p3, iv v_83, iv v_84, iv x0, .unset, .unset, .unset, .unset, .unset, .unset, .unset, .unset, .unset, .unset, .unset, .unset]) rfl (XS.iloadN X84.here hx rfl (hb hby at_28) rfl (XS.bipush X84.here hx rfl (hb hby at_29) (XS.iushr X84.here hx rfl (hb hby at_31) rfl (XS.sipush X84.here hx rfl (hb hby at_32) (XS.iand X84.here hx rfl (hb hby at_35) rfl k)))))) ?_
  refine Go.on (w := T84.setTop (mkF m 37 #[iv p0, iv p1, iv p2, iv p3, iv v_83, iv v_84, iv x0, .unset, .unset, .unset, .unset, .unset, .unset, .unset, .unset, .unset, .unset, .unset, .unset] [(.int x1)])) (fun t k => XS.i2c X84.here hx rfl (hb hby at_36) rfl (by rw [(hx1 : ((((p1.toUInt32 >>> ((8 : Int32) &&& 31).toUInt32).toInt32) &&& (255 : Int32)).toUInt32.toUInt16.toUInt32.toInt32) = x1)]; exact k)) ?_
  refine Go.on (w := T84.setTop (mkF m 42 #[iv p0, iv p1, iv p2, iv p3, iv v_83, iv v_84, iv x0, iv x1, .unset, .unset, .unset, .unset, .unset, .unset, .unset, .unset, .unset, .unset, .unset] [(.int (p3 &&& (4 : Int32)))])) (fun t k => XS.istore X84.here hx rfl (hb hby at_37) rfl (l' := #[iv p0, iv p1, iv p2, iv p3, iv v_83, iv v_84, iv x0, iv x1, .unset, .unset, .unset, .unset, .unset, .unset, .unset, .unset, .unset, .unset, .unset]) rfl (XS.iloadN X84.here hx rfl (hb hby at_39) rfl (XS.iconst X84.here hx rfl (hb hby at_40) (XS.iand X84.here hx rfl (hb hby at_41) rfl k)))) ?_
  obtain ⟨y0, hr_y0⟩ : ∃ z : Int32, (if (p3 &&& (4 : Int32)) = (0 : Int32) then y00 else x0) = z := ⟨_, rfl⟩
  have R85 : ∀ t, Steps p.tables e below (T84.setTop (mkF m 56 #[iv p0, iv p1, iv p2, iv p3, iv v_83, iv v_84, iv x0, iv x1, .unset, .unset, .unset, .unset, .unset, .unset, .unset, .unset, .unset, .unset, .unset] [(.int y0)])) t → Steps p.tables e below (T84.setTop (mkF m 42 #[iv p0, iv p1, iv p2, iv p3, iv v_83, iv v_84, iv x0, iv x1, .unset, .unset, .unset, .unset, .unset, .unset, .unset, .unset, .unset, .unset, .unset] [(.int (p3 &&& (4 : Int32)))])) t := by
    intro t k
    subst hr_y0
    by_cases hc86 : (p3 &&& (4 : Int32)) = (0 : Int32)
    ·
      simp only [if_pos hc86] at k
      refine XS.ifYes X84.here hx rfl (pc0 := 42) (pc' := 50) rfl (hb hby at_42) rfl ((if0 _ _).trans (teq hc86).1) (by decide) (by decide) (?_ : Steps p.tables e below (T84.setTop (mkF m 50 #[iv p0, iv p1, iv p2, iv p3, iv v_83, iv v_84, iv x0, iv x1, .unset, .unset, .unset, .unset, .unset, .unset, .unset, .unset, .unset, .unset, .unset] [])) t)
      refine XS.iloadN X84.here hx rfl (hb hby at_50) rfl (?_ : Steps p.tables e below (T84.setTop (mkF m 51 #[iv p0, iv p1, iv p2, iv p3, iv v_83, iv v_84, iv x0, iv x1, .unset, .unset, .unset, .unset, .unset, .unset, .unset, .unset, .unset, .unset, .unset] [(.int p2)])) t)
      refine XS.sipush X84.here hx rfl (hb hby at_51) (?_ : Steps p.tables e below (T84.setTop (mkF m 54 #[iv p0, iv p1, iv p2, iv p3, iv v_83, iv v_84, iv x0, iv x1, .unset, .unset, .unset, .unset, .unset, .unset, .unset, .unset, .unset, .unset, .unset] [(.int 255), (.int p2)])) t)
      refine XS.iand X84.here hx rfl (hb hby at_54) rfl (?_ : Steps p.tables e below (T84.setTop (mkF m 55 #[iv p0, iv p1, iv p2, iv p3, iv v_83, iv v_84, iv x0, iv x1, .unset, .unset, .unset, .unset, .unset, .unset, .unset, .unset, .unset, .unset, .unset] [(.int (p2 &&& (255 : Int32)))])) t)
      refine XS.i2c X84.here hx rfl (hb hby at_55) rfl ?_
      rw [(hy00 : ((p2 &&& (255 : Int32)).toUInt32.toUInt16.toUInt32.toInt32) = y00)]
      show Steps p.tables e below (T84.setTop (mkF m 56 #[iv p0, iv p1, iv p2, iv p3, iv v_83, iv v_84, iv x0, iv x1, .unset, .unset, .unset, .unset, .unset, .unset, .unset, .unset, .unset, .unset, .unset] [(.int y00)])) t
      exact k
    ·
      simp only [if_neg hc86] at k
      refine XS.ifNo X84.here hx rfl (hb hby at_42) rfl ((if0 _ _).trans (feq hc86).1) (?_ : Steps p.tables e below (T84.setTop (mkF m 45 #[iv p0, iv p1, iv p2, iv p3, iv v_83, iv v_84, iv x0, iv x1, .unset, .unset, .unset, .unset, .unset, .unset, .unset, .unset, .unset, .unset, .unset] [])) t)
      refine XS.iload X84.here hx rfl (hb hby at_45) rfl (?_ : Steps p.tables e below (T84.setTop (mkF m 47 #[iv p0, iv p1, iv p2, iv p3, iv v_83, iv v_84, iv x0, iv x1, .unset, .unset, .unset, .unset, .unset, .unset, .unset, .unset, .unset, .unset, .unset] [(.int x0)])) t)
      refine XS.goto X84.here hx rfl (pc0 := 47) (pc' := 56) rfl (hb hby at_47) (by decide) (by decide) (?_ : Steps p.tables e below (T84.setTop (mkF m 56 #[iv p0, iv p1, iv p2, iv p3, iv v_83, iv v_84, iv x0, iv x1, .unset, .unset, .unset, .unset, .unset, .unset, .unset, .unset, .unset, .unset, .unset] [(.int x0)])) t)
      exact k
  refine Go.on R85 ?_
  have gy0 : ¬ y0 < 0 ∧ ¬ (255 : Int32) < y0 := by
    rw [← hr_y0]; split
    · exact ⟨ly00, ry00⟩
    · exact ⟨lx0, rx0⟩
  refine Go.on (w := T84.setTop (mkF m 62 #[iv p0, iv p1, iv p2, iv p3, iv v_83, iv v_84, iv x0, iv x1, iv y0, .unset, .unset, .unset, .unset, .unset, .unset, .unset, .unset, .unset, .unset] [(.int (p3 &&& (8 : Int32)))])) (fun t k => XS.istore X84.here hx rfl (hb hby at_56) rfl (l' := #[iv p0, iv p1, iv p2, iv p3, iv v_83, iv v_84, iv x0, iv x1, iv y0, .unset, .unset, .unset, .unset, .unset, .unset, .unset, .unset, .unset, .unset]) rfl (XS.iloadN X84.here hx rfl (hb hby at_58) rfl (XS.bipush X84.here hx rfl (hb hby at_59) (XS.iand X84.here hx rfl (hb hby at_61) rfl k)))) ?_
  obtain ⟨y1, hr_y1⟩ : ∃ z : Int32, (if (p3 &&& (8 : Int32)) = (0 : Int32) then y10 else x1) = z := ⟨_, rfl⟩
  have R87 : ∀ t, Steps p.tables e below (T84.setTop (mkF m 79 #[iv p0, iv p1, iv p2, iv p3, iv v_83, iv v_84, iv x0, iv x1, iv y0, .unset, .unset, .unset, .unset, .unset, .unset, .unset, .unset, .unset, .unset] [(.int y1)])) t → Steps p.tables e below (T84.setTop (mkF m 62 #[iv p0, iv p1, iv p2, iv p3, iv v_83, iv v_84, iv x0, iv x1, iv y0, .unset, .unset, .unset, .unset, .unset, .unset, .unset, .unset, .unset, .unset] [(.int (p3 &&& (8 : Int32)))])) t := by
    intro t k
    subst hr_y1
    by_cases hc88 : (p3 &&& (8 : Int32)) = (0 : Int32)
    ·
      simp only [if_pos hc88] at k
      refine XS.ifYes X84.here hx rfl (pc0 := 62) (pc' := 70) rfl (hb hby at_62) rfl ((if0 _ _).trans (teq hc88).1) (by decide) (by decide) (?_ : Steps p.tables e below (T84.setTop (mkF m 70 #[iv p0, iv p1, iv p2, iv p3, iv v_83, iv v_84, iv x0, iv x1, iv y0, .unset, .unset, .unset, .unset, .unset, .unset, .unset, .unset, .unset, .unset] [])) t)
      refine XS.iloadN X84.here hx rfl (hb hby at_70) rfl (?_ : Steps p.tables e below (T84.setTop (mkF m 71 #[iv p0, iv p1, iv p2, iv p3, iv v_83, iv v_84, iv x0, iv x1, iv y0, .unset, .unset, .unset, .unset, .unset, .unset, .unset, .unset, .unset, .unset] [(.int p2)])) t)
      refine XS.bipush X84.here hx rfl (hb hby at_71) (?_ : Steps p.tables e below (T84.setTop (mkF m 73 #[iv p0, iv p1, iv p2, iv p3, iv v_83, iv v_84, iv x0, iv x1, iv y0, .unset, .unset, .unset, .unset, .unset, .unset, .unset, .unset, .unset, .unset] [(.int 8), (.int p2)])) t)
      refine XS.iushr X84.here hx rfl (hb hby at_73) rfl (?_ : Steps p.tables e below (T84.setTop (mkF m 74 #[iv p0, iv p1, iv p2, iv p3, iv v_83, iv v_84, iv x0, iv x1, iv y0, .unset, .unset, .unset, .unset, .unset, .unset, .unset, .unset, .unset, .unset] [(.int ((p2.toUInt32 >>> ((8 : Int32) &&& 31).toUInt32).toInt32))])) t)
      refine XS.sipush X84.here hx rfl (hb hby at_74) (?_ : Steps p.tables e below (T84.setTop (mkF m 77 #[iv p0, iv p1, iv p2, iv p3, iv v_83, iv v_84, iv x0, iv x1, iv y0, .unset, .unset, .unset, .unset, .unset, .unset, .unset, .unset, .unset, .unset] [(.int 255), (.int ((p2.toUInt32 >>> ((8 : Int32) &&& 31).toUInt32).toInt32))])) t)
      refine XS.iand X84.here hx rfl (hb hby at_77) rfl (?_ : Steps p.tables e below (T84.setTop (mkF m 78 #[iv p0, iv p1, iv p2, iv p3, iv v_83, iv v_84, iv x0, iv x1, iv y0, .unset, .unset, .unset, .unset, .unset, .unset, .unset, .unset, .unset, .unset] [(.int (((p2.toUInt32 >>> ((8 : Int32) &&& 31).toUInt32).toInt32) &&& (255 : Int32)))])) t)
      refine XS.i2c X84.here hx rfl (hb hby at_78) rfl ?_
      rw [(hy10 : ((((p2.toUInt32 >>> ((8 : Int32) &&& 31).toUInt32).toInt32) &&& (255 : Int32)).toUInt32.toUInt16.toUInt32.toInt32) = y10)]
      show Steps p.tables e below (T84.setTop (mkF m 79 #[iv p0, iv p1, iv p2, iv p3, iv v_83, iv v_84, iv x0, iv x1, iv y0, .unset, .unset, .unset, .unset, .unset, .unset, .unset, .unset, .unset, .unset] [(.int y10)])) t
      exact k
    ·
      simp only [if_neg hc88] at k
      refine XS.ifNo X84.here hx rfl (hb hby at_62) rfl ((if0 _ _).trans (feq hc88).1) (?_ : Steps p.tables e below (T84.setTop (mkF m 65 #[iv p0, iv p1, iv p2, iv p3, iv v_83, iv v_84, iv x0, iv x1, iv y0, .unset, .unset, .unset, .unset, .unset, .unset, .unset, .unset, .unset, .unset] [])) t)
      refine XS.iload X84.here hx rfl (hb hby at_65) rfl (?_ : Steps p.tables e below (T84.setTop (mkF m 67 #[iv p0, iv p1, iv p2, iv p3, iv v_83, iv v_84, iv x0, iv x1, iv y0, .unset, .unset, .unset, .unset, .unset, .unset, .unset, .unset, .unset, .unset] [(.int x1)])) t)
      refine XS.goto X84.here hx rfl (pc0 := 67) (pc' := 79) rfl (hb hby at_67) (by decide) (by decide) (?_ : Steps p.tables e below (T84.setTop (mkF m 79 #[iv p0, iv p1, iv p2, iv p3, iv v_83, iv v_84, iv x0, iv x1, iv y0, .unset, .unset, .unset, .unset, .unset, .unset, .unset, .unset, .unset, .unset] [(.int x1)])) t)
      exact k
  refine Go.on R87 ?_
  have gy1 : ¬ y1 < 0 ∧ ¬ (255 : Int32) < y1 := by
    rw [← hr_y1]; split
    · exact ⟨ly10, ry10⟩
    · exact ⟨lx1, rx1⟩
  refine Go.on (w := T84.setTop (mkF m 84 #[iv p0, iv p1, iv p2, iv p3, iv v_83, iv v_84, iv x0, iv x1, iv y0, iv y1, .unset, .unset, .unset, .unset, .unset, .unset, .unset, .unset, .unset] [(.int (p3 &&& (1 : Int32)))])) (fun t k => XS.istore X84.here hx rfl (hb hby at_79) rfl (l' := #[iv p0, iv p1, iv p2, iv p3, iv v_83, iv v_84, iv x0, iv x1, iv y0, iv y1, .unset, .unset, .unset, .unset, .unset, .unset, .unset, .unset, .unset]) rfl (XS.iloadN X84.here hx rfl (hb hby at_81) rfl (XS.iconst X84.here hx rfl (hb hby at_82) (XS.iand X84.here hx rfl (hb hby at_83) rfl k)))) ?_
  obtain ⟨i1, hr_i1⟩ : ∃ z : Int32, (if (p3 &&& (1 : Int32)) = (0 : Int32) then (0 : Int32) else (1 : Int32)) = z := ⟨_, rfl⟩
  have R89 : ∀ t, Steps p.tables e below (T84.setTop (mkF m 92 #[iv p0, iv p1, iv p2, iv p3, iv v_83, iv v_84, iv x0, iv x1, iv y0, iv y1, .unset, .unset, .unset, .unset, .unset, .unset, .unset, .unset, .unset] [(.int i1)])) t → Steps p.tables e below (T84.setTop (mkF m 84 #[iv p0, iv p1, iv p2, iv p3, iv v_83, iv v_84, iv x0, iv x1, iv y0, iv y1, .unset, .unset, .unset, .unset, .unset, .unset, .unset, .unset, .unset] [(.int (p3 &&& (1 : Int32)))])) t := by
    intro t k
    subst hr_i1
    by_cases hc90 : (p3 &&& (1 : Int32)) = (0 : Int32)
    ·
      simp only [if_pos hc90] at k
      refine XS.ifYes X84.here hx rfl (pc0 := 84) (pc' := 91) rfl (hb hby at_84) rfl ((if0 _ _).trans (teq hc90).1) (by decide) (by decide) (?_ : Steps p.tables e below (T84.setTop (mkF m 91 #[iv p0, iv p1, iv p2, iv p3, iv v_83, iv v_84, iv x0, iv x1, iv y0, iv y1, .unset, .unset, .unset, .unset, .unset, .unset, .unset, .unset, .unset] [])) t)
      refine XS.iconst X84.here hx rfl (hb hby at_91) (?_ : Steps p.tables e below (T84.setTop (mkF m 92 #[iv p0, iv p1, iv p2, iv p3, iv v_83, iv v_84, iv x0, iv x1, iv y0, iv y1, .unset, .unset, .unset, .unset, .unset, .unset, .unset, .unset, .unset] [(.int 0)])) t)
      exact k
    ·
      simp only [if_neg hc90] at k
      refine XS.ifNo X84.here hx rfl (hb hby at_84) rfl ((if0 _ _).trans (feq hc90).1) (?_ : Steps p.tables e below (T84.setTop (mkF m 87 #[iv p0, iv p1, iv p2, iv p3, iv v_83, iv v_84, iv x0, iv x1, iv y0, iv y1, .unset, .unset, .unset, .unset, .unset, .unset, .unset, .unset, .unset] [])) t)
      refine XS.iconst X84.here hx rfl (hb hby at_87) (?_ : Steps p.tables e below (T84.setTop (mkF m 88 #[iv p0, iv p1, iv p2, iv p3, iv v_83, iv v_84, iv x0, iv x1, iv y0, iv y1, .unset, .unset, .unset, .unset, .unset, .unset, .unset, .unset, .unset] [(.int 1)])) t)
      refine XS.goto X84.here hx rfl (pc0 := 88) (pc' := 92) rfl (hb hby at_88) (by decide) (by decide) (?_ : Steps p.tables e below (T84.setTop (mkF m 92 #[iv p0, iv p1, iv p2, iv p3, iv v_83, iv v_84, iv x0, iv x1, iv y0, iv y1, .unset, .unset, .unset, .unset, .unset, .unset, .unset, .unset, .unset] [(.int 1)])) t)
      exact k
  refine Go.on R89 ?_
  have gi1 : i1 = 0 ∨ i1 = 1 := by rw [← hr_i1]; split <;> simp
  refine Go.on (w := T84.setTop (mkF m 97 #[iv p0, iv p1, iv p2, iv p3, iv v_83, iv v_84, iv x0, iv x1, iv y0, iv y1, iv i1, .unset, .unset, .unset, .unset, .unset, .unset, .unset, .unset] [(.int (p3 &&& (2 : Int32)))])) (fun t k => XS.istore X84.here hx rfl (hb hby at_92) rfl (l' := #[iv p0, iv p1, iv p2, iv p3, iv v_83, iv v_84, iv x0, iv x1, iv y0, iv y1, iv i1, .unset, .unset, .unset, .unset, .unset, .unset, .unset, .unset]) rfl (XS.iloadN X84.here hx rfl (hb hby at_94) rfl (XS.iconst X84.here hx rfl (hb hby at_95) (XS.iand X84.here hx rfl (hb hby at_96) rfl k)))) ?_
  obtain ⟨i2, hr_i2⟩ : ∃ z : Int32, (if (p3 &&& (2 : Int32)) = (0 : Int32) then (0 : Int32) else (1 : Int32)) = z := ⟨_, rfl⟩
  have R91 : ∀ t, Steps p.tables e below (T84.setTop (mkF m 105 #[iv p0, iv p1, iv p2, iv p3, iv v_83, iv v_84, iv x0, iv x1, iv y0, iv y1, iv i1, .unset, .unset, .unset, .unset, .unset, .unset, .unset, .unset] [(.int i2)])) t → Steps p.tables e below (T84.setTop (mkF m 97 #[iv p0, iv p1, iv p2, iv p3, iv v_83, iv v_84, iv x0, iv x1, iv y0, iv y1, iv i1, .unset, .unset, .unset, .unset, .unset, .unset, .unset, .unset] [(.int (p3 &&& (2 : Int32)))])) t := by
    intro t k
    subst hr_i2
    by_cases hc92 : (p3 &&& (2 : Int32)) = (0 : Int32)
    ·
      simp only [if_pos hc92] at k
      refine XS.ifYes X84.here hx rfl (pc0 := 97) (pc' := 104) rfl (hb hby at_97) rfl ((if0 _ _).trans (teq hc92).1) (by decide) (by decide) (?_ : Steps p.tables e below (T84.setTop (mkF m 104 #[iv p0, iv p1, iv p2, iv p3, iv v_83, iv v_84, iv x0, iv x1, iv y0, iv y1, iv i1, .unset, .unset, .unset, .unset, .unset, .unset, .unset, .unset] [])) t)
      refine XS.iconst X84.here hx rfl (hb hby at_104) (?_ : Steps p.tables e below (T84.setTop (mkF m 105 #[iv p0, iv p1, iv p2, iv p3, iv v_83, iv v_84, iv x0, iv x1, iv y0, iv y1, iv i1, .unset, .unset, .unset, .unset, .unset, .unset, .unset, .unset] [(.int 0)])) t)
      exact k
    ·
      simp only [if_neg hc92] at k
      refine XS.ifNo X84.here hx rfl (hb hby at_97) rfl ((if0 _ _).trans (feq hc92).1) (?_ : Steps p.tables e below (T84.setTop (mkF m 100 #[iv p0, iv p1, iv p2, iv p3, iv v_83, iv v_84, iv x0, iv x1, iv y0, iv y1, iv i1, .unset, .unset, .unset, .unset, .unset, .unset, .unset, .unset] [])) t)
      refine XS.iconst X84.here hx rfl (hb hby at_100) (?_ : Steps p.tables e below (T84.setTop (mkF m 101 #[iv p0, iv p1, iv p2, iv p3, iv v_83, iv v_84, iv x0, iv x1, iv y0, iv y1, iv i1, .unset, .unset, .unset, .unset, .unset, .unset, .unset, .unset] [(.int 1)])) t)
      refine XS.goto X84.here hx rfl (pc0 := 101) (pc' := 105) rfl (hb hby at_101) (by decide) (by decide) (?_ : Steps p.tables e below (T84.setTop (mkF m 105 #[iv p0, iv p1, iv p2, iv p3, iv v_83, iv v_84, iv x0, iv x1, iv y0, iv y1, iv i1, .unset, .unset, .unset, .unset, .unset, .unset, .unset, .unset] [(.int 1)])) t)
      exact k
  refine Go.on R91 ?_
  have gi2 : i2 = 0 ∨ i2 = 1 := by rw [← hr_i2]; split <;> simp
  obtain ⟨v93, _, ⟨T93, L93, k93, n93⟩, -, X93', hs93, hg93, ⟨Lc93, hQ93, l93, y93, z93, C93⟩, st93⟩ := callSS X84 hx (y := (⟨"com/example/treewidth/treewidth/ontology/RoleEqualsPinLaw", "str", "(ICC)Ljava/lang/String;"⟩ : MethodName)) hown0 (mvT hZ0 (w_4 hw)) (mvT hZ0 (w_5 hw)) (mvT hZ0 (w_6 hw)) (mvT hZ0 (w_7 hw)) (by decide) (backOfSH (s := s) (W := 0) (rmMk l Z a0 hw [] v_83 x0 x1 G1 h0 hEL (by omega) OL O2 P5 sn1 ⟨lx0, rx0⟩ ⟨lx1, rx1⟩) hZ0 (w_7 hw) (w_6 hw) (by decide) (by decide) hEL CR0.1) (g := (mkF m 120 #[iv p0, iv p1, iv p2, iv p3, iv v_83, iv v_84, iv x0, iv x1, iv y0, iv y1, iv i1, iv i2, iv (((p3.toUInt32 >>> ((4 : Int32) &&& 31).toUInt32).toInt32) &&& 3), .unset, .unset, .unset, .unset, .unset, .unset] [(.int x1), (.int x0), (.int v_83)])) rfl (by rw [hml]; rfl) (argsL := [(.int v_83), (.int x0), (.int x1)]) (rest := []) (lenOf pd_9 rfl) rfl (by show 2 * 0 + _ ≤ _; exact Nat.le_of_eq rfl) (hb hby at_120) (fun _ _ => ⟨rfl, eh84, (by decide : 0 + 6 ≤ _), (by decide : 0 + 12 ≤ _)⟩)
  dsimp only [Pt.U, Pt.locs, Pt.cells, Pt.slots] at X93' l93 y93 z93 st93 hQ93 hs93 hg93 C93
  subst l93 y93 z93
  obtain ⟨X93, hS93, hZ93, hown93⟩ := rebS hS0 (n1 := T84.heap.size) (by rw [eh84]; omega) X93' hs93 hg93 hZ0 hown0
  have hj93 : T93.heap.size ≤ T93.heap.size := Nat.le_refl _
  obtain ⟨r_93, t_93, kb_93, cs_93, rfl, Nq93, K93, f93_0, f93_1, f93_2, f93_3, f93_4, f93_5, f93_6⟩ := hQ93
  have N93 := Fr.app N84 Nq93
  have eK93 : T93.heap = T93.heap := rfl
  have CR93 := CR0.trans C93
  have z93 : h0.size ≤ T93.heap.size := K93.1
  have KP93 : Keep h0 T93.heap ([] : List Addr) := KP0.trans K93 all0
  have u93_3 : T93.heap.size > r_93 := f93_3.lt
  have u93_6 : T93.heap.size > t_93 := f93_6.lt
  have F95 := (OL.keep K93 all0)
  obtain ⟨v94, _, ⟨T94, L94, k94, n94⟩, -, X94', hs94, hg94, ⟨Lc94, hQ94, l94, y94, z94, C94⟩, st94⟩ := callSS X93 hx (y := (⟨"com/example/treewidth/treewidth/ontology/RoleEqualsPinLaw", "str", "(ICC)Ljava/lang/String;"⟩ : MethodName)) hown93 (mvT hZ93 (w_4 hw)) (mvT hZ93 (w_5 hw)) (mvT hZ93 (w_6 hw)) (mvT hZ93 (w_7 hw)) (by decide) (backOfSH (s := s) (W := 0) (rmMk l Z a0 hw [] v_84 y0 y1 G1 T93.heap hEL (by omega) F95 O2 P5 sn2 gy0 gy1) hZ93 (w_7 hw) (w_6 hw) (by decide) (by decide) hEL CR93.1) (g := (mkF m 131 #[iv p0, iv p1, iv p2, iv p3, iv v_83, iv v_84, iv x0, iv x1, iv y0, iv y1, iv i1, iv i2, iv (((p3.toUInt32 >>> ((4 : Int32) &&& 31).toUInt32).toInt32) &&& 3), rv r_93, .unset, .unset, .unset, .unset, .unset] [(.int y1), (.int y0), (.int v_84)])) rfl (by rw [hml]; rfl) (argsL := [(.int v_84), (.int y0), (.int y1)]) (rest := []) (lenOf pd_9 rfl) rfl (by show 2 * 0 + _ ≤ _; exact Nat.le_of_eq rfl) (hb hby at_131) (fun _ _ => ⟨rfl, eK93, (by decide : 6 + 6 ≤ _), (by decide : 12 + 12 ≤ _)⟩)
  dsimp only [Pt.U, Pt.locs, Pt.cells, Pt.slots] at X94' l94 y94 z94 st94 hQ94 hs94 hg94 C94
  subst l94 y94 z94
  obtain ⟨X94, hS94, hZ94, hown94⟩ := rebS hS93 (n1 := T93.heap.size) (by rw [eK93]; omega) X94' hs94 hg94 hZ93 hown93
  have hj94 : T94.heap.size ≤ T94.heap.size := Nat.le_refl _
  obtain ⟨r_94, t_94, kb_94, cs_94, rfl, Nq94, K94, f94_0, f94_1, f94_2, f94_3, f94_4, f94_5, f94_6⟩ := hQ94
  have N94 := Fr.app N93 Nq94
  have eK94 : T94.heap = T94.heap := rfl
  have CR94 := CR93.trans C94
  have z94 : T93.heap.size ≤ T94.heap.size := K94.1
  have KP94 : Keep h0 T94.heap ([] : List Addr) := KP93.trans K94 all0
  have u94_3 : T94.heap.size > r_94 := f94_3.lt
  have u94_6 : T94.heap.size > t_94 := f94_6.lt
  obtain ⟨T96, h96, X96, e96, E96, A96, D96, -, st96⟩ := newO X94 hx hZ94 hown94 (w_30 hw) (w_31 hw) (w_32 hw) eK94 (g := (mkF m 136 #[iv p0, iv p1, iv p2, iv p3, iv v_83, iv v_84, iv x0, iv x1, iv y0, iv y1, iv i1, iv i2, iv (((p3.toUInt32 >>> ((4 : Int32) &&& 31).toUInt32).toInt32) &&& 3), rv r_93, rv r_94, .unset, .unset, .unset, .unset] [])) rfl (hb hby at_136) (by decide) (by decide)
  obtain ⟨b96, g96⟩ : ∃ z, z = T94.heap.size := ⟨_, rfl⟩
  rw [← g96] at A96 D96 st96
  have u96 : h96.size > b96 := A96.lt
  have z96 : T94.heap.size ≤ h96.size := E96.1
  have CR96 := CR94.trans (CHr.ext E96 CR94.1)
  have KP96 : Keep h0 h96 ([] : List Addr) := KP94.ext E96
  have Fn96_44 : Fld Z h96 b96 "com/example/treewidth/treewidth/ontology/Role" "property" "Ljava/lang/String;" .null := D96 (Or.inr (w_44 hw)) (ty := (.object "java/lang/String")) (by decide)
  have Fn96_46 : Fld Z h96 b96 "com/example/treewidth/treewidth/ontology/Role" "inverse" "Z" (.int 0) := D96 (Or.inr (w_46 hw)) (ty := .boolean) (by decide)
  have F98 := ((f93_3.keep K94).ext E96)
  obtain ⟨v97, _, ⟨T97, L97, k97, n97⟩, -, X97', hs97, hg97, ⟨Lc97, hQ97, l97, y97, z97, C97⟩, st97⟩ := X96.specialBackS hx (y := (⟨"com/example/treewidth/treewidth/ontology/Role", "<init>", "(Ljava/lang/String;Z)V"⟩ : MethodName)) rfl hown94 (mvT hZ94 (w_33 hw)) (mvT hZ94 (w_34 hw)) (mvT hZ94 (w_35 hw)) (by decide) (backOfSH (s := s) (W := 1) (rmRole l Z a0 hw [] b96 r_93 i1 h96 hEL (by omega) (by omega) A96 Fn96_44 Fn96_46 F98 gi1) hZ94 (w_35 hw) (w_32 hw) (by decide) (by decide) hEL CR96.1) (g := (mkF m 144 #[iv p0, iv p1, iv p2, iv p3, iv v_83, iv v_84, iv x0, iv x1, iv y0, iv y1, iv i1, iv i2, iv (((p3.toUInt32 >>> ((4 : Int32) &&& 31).toUInt32).toInt32) &&& 3), rv r_93, rv r_94, .unset, .unset, .unset, .unset] [(.int i1), (.ref r_93), (.ref b96), (.ref b96)])) rfl (by rw [hml]; rfl) (Steps.refl _) (a := b96) (argsL := [(.ref r_93), (.int i1)]) (rest := [(.ref b96)]) (lenOf pd_10 rfl) rfl (by show 2 * 0 + _ ≤ _; exact Nat.le_of_eq rfl) (hb hby at_144) (fun _ _ => ⟨rfl, e96, (by decide : 13 + 2 ≤ _), (by decide : 26 + 48 ≤ _)⟩)
  dsimp only [Pt.U, Pt.locs, Pt.cells, Pt.slots] at X97' l97 y97 z97 st97 hQ97 hs97 hg97 C97
  subst l97 y97 z97
  obtain ⟨X97, hS97, hZ97, hown97⟩ := rebS hS94 (n1 := T96.heap.size) (by rw [e96]; omega) X97' hs97 hg97 hZ94 hown94
  have hj97 : T97.heap.size ≤ T97.heap.size := Nat.le_refl _
  obtain ⟨rfl, Nq97, K97, f97_0, f97_1, f97_2⟩ := hQ97
  have N97 := Fr.app N94 Nq97
  have eK97 : T97.heap = T97.heap := rfl
  have CR97 := CR96.trans C97
  have z97 : h96.size ≤ T97.heap.size := K97.1
  have KP97 : Keep h0 T97.heap ([] : List Addr) := KP96.trans K97 (allS (P := fun x => x ∈ ([] : List Addr) ∨ h0.size ≤ x) (Or.inr (by omega)) all0)
  obtain ⟨T99, h99, X99, e99, E99, A99, D99, -, st99⟩ := newO X97 hx hZ97 hown97 (w_30 hw) (w_31 hw) (w_32 hw) eK97 (g := (mkF m 149 #[iv p0, iv p1, iv p2, iv p3, iv v_83, iv v_84, iv x0, iv x1, iv y0, iv y1, iv i1, iv i2, iv (((p3.toUInt32 >>> ((4 : Int32) &&& 31).toUInt32).toInt32) &&& 3), rv r_93, rv r_94, rv b96, .unset, .unset, .unset] [])) rfl (hb hby at_149) (by decide) (by decide)
  obtain ⟨b99, g99⟩ : ∃ z, z = T97.heap.size := ⟨_, rfl⟩
  rw [← g99] at A99 D99 st99
  have u99 : h99.size > b99 := A99.lt
  have z99 : T97.heap.size ≤ h99.size := E99.1
  have CR99 := CR97.trans (CHr.ext E99 CR97.1)
  have KP99 : Keep h0 h99 ([] : List Addr) := KP97.ext E99
  have Fn99_44 : Fld Z h99 b99 "com/example/treewidth/treewidth/ontology/Role" "property" "Ljava/lang/String;" .null := D99 (Or.inr (w_44 hw)) (ty := (.object "java/lang/String")) (by decide)
  have Fn99_46 : Fld Z h99 b99 "com/example/treewidth/treewidth/ontology/Role" "inverse" "Z" (.int 0) := D99 (Or.inr (w_46 hw)) (ty := .boolean) (by decide)
  refine Go.on (w := T99.setTop (mkF m 152 #[iv p0, iv p1, iv p2, iv p3, iv v_83, iv v_84, iv x0, iv x1, iv y0, iv y1, iv i1, iv i2, iv (((p3.toUInt32 >>> ((4 : Int32) &&& 31).toUInt32).toInt32) &&& 3), rv r_93, rv r_94, rv b96, .unset, .unset, .unset] [(.ref b99)])) (fun t k => XS.istore X84.here hx rfl (hb hby at_105) rfl (l' := #[iv p0, iv p1, iv p2, iv p3, iv v_83, iv v_84, iv x0, iv x1, iv y0, iv y1, iv i1, iv i2, .unset, .unset, .unset, .unset, .unset, .unset, .unset]) rfl (XS.iloadN X84.here hx rfl (hb hby at_107) rfl (XS.iconst X84.here hx rfl (hb hby at_108) (XS.iushr X84.here hx rfl (hb hby at_109) rfl (XS.iconst X84.here hx rfl (hb hby at_110) (XS.iand X84.here hx rfl (hb hby at_111) rfl (XS.istore X84.here hx rfl (hb hby at_112) rfl (l' := #[iv p0, iv p1, iv p2, iv p3, iv v_83, iv v_84, iv x0, iv x1, iv y0, iv y1, iv i1, iv i2, iv (((p3.toUInt32 >>> ((4 : Int32) &&& 31).toUInt32).toInt32) &&& 3), .unset, .unset, .unset, .unset, .unset, .unset]) rfl (XS.iload X84.here hx rfl (hb hby at_114) rfl (XS.iload X84.here hx rfl (hb hby at_116) rfl (XS.iload X84.here hx rfl (hb hby at_118) rfl (st93.trans (XS.astore X93.here hx rfl (hb hby at_123) rfl rfl (l' := #[iv p0, iv p1, iv p2, iv p3, iv v_83, iv v_84, iv x0, iv x1, iv y0, iv y1, iv i1, iv i2, iv (((p3.toUInt32 >>> ((4 : Int32) &&& 31).toUInt32).toInt32) &&& 3), rv r_93, .unset, .unset, .unset, .unset, .unset]) rfl (XS.iload X93.here hx rfl (hb hby at_125) rfl (XS.iload X93.here hx rfl (hb hby at_127) rfl (XS.iload X93.here hx rfl (hb hby at_129) rfl (st94.trans (XS.astore X94.here hx rfl (hb hby at_134) rfl rfl (l' := #[iv p0, iv p1, iv p2, iv p3, iv v_83, iv v_84, iv x0, iv x1, iv y0, iv y1, iv i1, iv i2, iv (((p3.toUInt32 >>> ((4 : Int32) &&& 31).toUInt32).toInt32) &&& 3), rv r_93, rv r_94, .unset, .unset, .unset, .unset]) rfl (st96 _ (XS.dup X96.here hx rfl (hb hby at_139) rfl rfl (XS.aload X96.here hx rfl (hb hby at_140) rfl rfl (XS.iload X96.here hx rfl (hb hby at_142) rfl (st97.trans (XS.astore X97.here hx rfl (hb hby at_147) rfl rfl (l' := #[iv p0, iv p1, iv p2, iv p3, iv v_83, iv v_84, iv x0, iv x1, iv y0, iv y1, iv i1, iv i2, iv (((p3.toUInt32 >>> ((4 : Int32) &&& 31).toUInt32).toInt32) &&& 3), rv r_93, rv r_94, rv b96, .unset, .unset, .unset]) rfl (st99 _ k)))))))))))))))))))))))) ?_
  refine Go.on (w := T99.setTop (mkF m 153 #[iv p0, iv p1, iv p2, iv p3, iv v_83, iv v_84, iv x0, iv x1, iv y0, iv y1, iv i1, iv i2, iv (((p3.toUInt32 >>> ((4 : Int32) &&& 31).toUInt32).toInt32) &&& 3), rv r_93, rv r_94, rv b96, .unset, .unset, .unset] [(.ref b99), (.ref b99)])) (fun t k => XS.dup X99.here hx rfl (hb hby at_152) rfl rfl k) ?_
  have F101 := (((f94_3.ext E96).keep K97).ext E99)
  obtain ⟨v100, _, ⟨T100, L100, k100, n100⟩, -, X100', hs100, hg100, ⟨Lc100, hQ100, l100, y100, z100, C100⟩, st100⟩ := X99.specialBackS hx (y := (⟨"com/example/treewidth/treewidth/ontology/Role", "<init>", "(Ljava/lang/String;Z)V"⟩ : MethodName)) rfl hown97 (mvT hZ97 (w_33 hw)) (mvT hZ97 (w_34 hw)) (mvT hZ97 (w_35 hw)) (by decide) (backOfSH (s := s) (W := 1) (rmRole l Z a0 hw [] b99 r_94 i2 h99 hEL (by omega) (by omega) A99 Fn99_44 Fn99_46 F101 gi2) hZ97 (w_35 hw) (w_32 hw) (by decide) (by decide) hEL CR99.1) (g := (mkF m 157 #[iv p0, iv p1, iv p2, iv p3, iv v_83, iv v_84, iv x0, iv x1, iv y0, iv y1, iv i1, iv i2, iv (((p3.toUInt32 >>> ((4 : Int32) &&& 31).toUInt32).toInt32) &&& 3), rv r_93, rv r_94, rv b96, .unset, .unset, .unset] [(.int i2), (.ref r_94), (.ref b99), (.ref b99)])) rfl (by rw [hml]; rfl) (Steps.refl _) (a := b99) (argsL := [(.ref r_94), (.int i2)]) (rest := [(.ref b99)]) (lenOf pd_10 rfl) rfl (by show 2 * 0 + _ ≤ _; exact Nat.le_of_eq rfl) (hb hby at_157) (fun _ _ => ⟨rfl, e99, (by decide : 16 + 2 ≤ _), (by decide : 76 + 48 ≤ _)⟩)
  dsimp only [Pt.U, Pt.locs, Pt.cells, Pt.slots] at X100' l100 y100 z100 st100 hQ100 hs100 hg100 C100
  subst l100 y100 z100
  obtain ⟨X100, hS100, hZ100, hown100⟩ := rebS hS97 (n1 := T99.heap.size) (by rw [e99]; omega) X100' hs100 hg100 hZ97 hown97
  have hj100 : T100.heap.size ≤ T100.heap.size := Nat.le_refl _
  obtain ⟨rfl, Nq100, K100, f100_0, f100_1, f100_2⟩ := hQ100
  have N100 := Fr.app N97 Nq100
  have eK100 : T100.heap = T100.heap := rfl
  have CR100 := CR99.trans C100
  have z100 : h99.size ≤ T100.heap.size := K100.1
  have KP100 : Keep h0 T100.heap ([] : List Addr) := KP99.trans K100 (allS (P := fun x => x ∈ ([] : List Addr) ∨ h0.size ≤ x) (Or.inr (by omega)) all0)
  refine Go.on (w := T100.setTop (mkF m 166 #[iv p0, iv p1, iv p2, iv p3, iv v_83, iv v_84, iv x0, iv x1, iv y0, iv y1, iv i1, iv i2, iv (((p3.toUInt32 >>> ((4 : Int32) &&& 31).toUInt32).toInt32) &&& 3), rv r_93, rv r_94, rv b96, rv b99, .unset, .unset] [(.int v_84), (.int v_83)])) (fun t k => XS.aload X99.here hx rfl (hb hby at_153) rfl rfl (XS.iload X99.here hx rfl (hb hby at_155) rfl (st100.trans (XS.astore X100.here hx rfl (hb hby at_160) rfl rfl (l' := #[iv p0, iv p1, iv p2, iv p3, iv v_83, iv v_84, iv x0, iv x1, iv y0, iv y1, iv i1, iv i2, iv (((p3.toUInt32 >>> ((4 : Int32) &&& 31).toUInt32).toInt32) &&& 3), rv r_93, rv r_94, rv b96, rv b99, .unset, .unset]) rfl (XS.iload X100.here hx rfl (hb hby at_162) rfl (XS.iload X100.here hx rfl (hb hby at_164) rfl k)))))) ?_
  obtain ⟨sm, hr_sm⟩ : ∃ z : Int32, (if v_83 = v_84 then (if v_83 < (1 : Int32) then (if v_83 < (2 : Int32) then (1 : Int32) else (if x1 = y1 then (1 : Int32) else (0 : Int32))) else (if x0 = y0 then (if v_83 < (2 : Int32) then (1 : Int32) else (if x1 = y1 then (1 : Int32) else (0 : Int32))) else (0 : Int32))) else (0 : Int32)) = z := ⟨_, rfl⟩
  have R102 : ∀ t, Steps p.tables e below (T100.setTop (mkF m 200 #[iv p0, iv p1, iv p2, iv p3, iv v_83, iv v_84, iv x0, iv x1, iv y0, iv y1, iv i1, iv i2, iv (((p3.toUInt32 >>> ((4 : Int32) &&& 31).toUInt32).toInt32) &&& 3), rv r_93, rv r_94, rv b96, rv b99, .unset, .unset] [(.int sm)])) t → Steps p.tables e below (T100.setTop (mkF m 166 #[iv p0, iv p1, iv p2, iv p3, iv v_83, iv v_84, iv x0, iv x1, iv y0, iv y1, iv i1, iv i2, iv (((p3.toUInt32 >>> ((4 : Int32) &&& 31).toUInt32).toInt32) &&& 3), rv r_93, rv r_94, rv b96, rv b99, .unset, .unset] [(.int v_84), (.int v_83)])) t := by
    intro t k
    subst hr_sm
    by_cases hc103 : v_83 = v_84
    ·
      simp only [if_pos hc103] at k
      refine XS.icmpNo X100.here hx rfl (hb hby at_166) rfl (teq hc103).2 (?_ : Steps p.tables e below (T100.setTop (mkF m 169 #[iv p0, iv p1, iv p2, iv p3, iv v_83, iv v_84, iv x0, iv x1, iv y0, iv y1, iv i1, iv i2, iv (((p3.toUInt32 >>> ((4 : Int32) &&& 31).toUInt32).toInt32) &&& 3), rv r_93, rv r_94, rv b96, rv b99, .unset, .unset] [])) t)
      refine XS.iload X100.here hx rfl (hb hby at_169) rfl (?_ : Steps p.tables e below (T100.setTop (mkF m 171 #[iv p0, iv p1, iv p2, iv p3, iv v_83, iv v_84, iv x0, iv x1, iv y0, iv y1, iv i1, iv i2, iv (((p3.toUInt32 >>> ((4 : Int32) &&& 31).toUInt32).toInt32) &&& 3), rv r_93, rv r_94, rv b96, rv b99, .unset, .unset] [(.int v_83)])) t)
      refine XS.iconst X100.here hx rfl (hb hby at_171) (?_ : Steps p.tables e below (T100.setTop (mkF m 172 #[iv p0, iv p1, iv p2, iv p3, iv v_83, iv v_84, iv x0, iv x1, iv y0, iv y1, iv i1, iv i2, iv (((p3.toUInt32 >>> ((4 : Int32) &&& 31).toUInt32).toInt32) &&& 3), rv r_93, rv r_94, rv b96, rv b99, .unset, .unset] [(.int 1), (.int v_83)])) t)
      by_cases hc104 : v_83 < (1 : Int32)
      ·
        simp only [if_pos hc104] at k
        refine XS.icmpYes X100.here hx rfl (pc0 := 172) (pc' := 182) rfl (hb hby at_172) rfl (tlt hc104).1 (by decide) (by decide) (?_ : Steps p.tables e below (T100.setTop (mkF m 182 #[iv p0, iv p1, iv p2, iv p3, iv v_83, iv v_84, iv x0, iv x1, iv y0, iv y1, iv i1, iv i2, iv (((p3.toUInt32 >>> ((4 : Int32) &&& 31).toUInt32).toInt32) &&& 3), rv r_93, rv r_94, rv b96, rv b99, .unset, .unset] [])) t)
        refine XS.iload X100.here hx rfl (hb hby at_182) rfl (?_ : Steps p.tables e below (T100.setTop (mkF m 184 #[iv p0, iv p1, iv p2, iv p3, iv v_83, iv v_84, iv x0, iv x1, iv y0, iv y1, iv i1, iv i2, iv (((p3.toUInt32 >>> ((4 : Int32) &&& 31).toUInt32).toInt32) &&& 3), rv r_93, rv r_94, rv b96, rv b99, .unset, .unset] [(.int v_83)])) t)
        refine XS.iconst X100.here hx rfl (hb hby at_184) (?_ : Steps p.tables e below (T100.setTop (mkF m 185 #[iv p0, iv p1, iv p2, iv p3, iv v_83, iv v_84, iv x0, iv x1, iv y0, iv y1, iv i1, iv i2, iv (((p3.toUInt32 >>> ((4 : Int32) &&& 31).toUInt32).toInt32) &&& 3), rv r_93, rv r_94, rv b96, rv b99, .unset, .unset] [(.int 2), (.int v_83)])) t)
        by_cases hc105 : v_83 < (2 : Int32)
        ·
          simp only [if_pos hc105] at k
          refine XS.icmpYes X100.here hx rfl (pc0 := 185) (pc' := 195) rfl (hb hby at_185) rfl (tlt hc105).1 (by decide) (by decide) (?_ : Steps p.tables e below (T100.setTop (mkF m 195 #[iv p0, iv p1, iv p2, iv p3, iv v_83, iv v_84, iv x0, iv x1, iv y0, iv y1, iv i1, iv i2, iv (((p3.toUInt32 >>> ((4 : Int32) &&& 31).toUInt32).toInt32) &&& 3), rv r_93, rv r_94, rv b96, rv b99, .unset, .unset] [])) t)
          refine XS.iconst X100.here hx rfl (hb hby at_195) (?_ : Steps p.tables e below (T100.setTop (mkF m 196 #[iv p0, iv p1, iv p2, iv p3, iv v_83, iv v_84, iv x0, iv x1, iv y0, iv y1, iv i1, iv i2, iv (((p3.toUInt32 >>> ((4 : Int32) &&& 31).toUInt32).toInt32) &&& 3), rv r_93, rv r_94, rv b96, rv b99, .unset, .unset] [(.int 1)])) t)
          refine XS.goto X100.here hx rfl (pc0 := 196) (pc' := 200) rfl (hb hby at_196) (by decide) (by decide) (?_ : Steps p.tables e below (T100.setTop (mkF m 200 #[iv p0, iv p1, iv p2, iv p3, iv v_83, iv v_84, iv x0, iv x1, iv y0, iv y1, iv i1, iv i2, iv (((p3.toUInt32 >>> ((4 : Int32) &&& 31).toUInt32).toInt32) &&& 3), rv r_93, rv r_94, rv b96, rv b99, .unset, .unset] [(.int 1)])) t)
          exact k
        ·
          simp only [if_neg hc105] at k
          refine XS.icmpNo X100.here hx rfl (hb hby at_185) rfl (flt hc105).1 (?_ : Steps p.tables e below (T100.setTop (mkF m 188 #[iv p0, iv p1, iv p2, iv p3, iv v_83, iv v_84, iv x0, iv x1, iv y0, iv y1, iv i1, iv i2, iv (((p3.toUInt32 >>> ((4 : Int32) &&& 31).toUInt32).toInt32) &&& 3), rv r_93, rv r_94, rv b96, rv b99, .unset, .unset] [])) t)
          refine XS.iload X100.here hx rfl (hb hby at_188) rfl (?_ : Steps p.tables e below (T100.setTop (mkF m 190 #[iv p0, iv p1, iv p2, iv p3, iv v_83, iv v_84, iv x0, iv x1, iv y0, iv y1, iv i1, iv i2, iv (((p3.toUInt32 >>> ((4 : Int32) &&& 31).toUInt32).toInt32) &&& 3), rv r_93, rv r_94, rv b96, rv b99, .unset, .unset] [(.int x1)])) t)
          refine XS.iload X100.here hx rfl (hb hby at_190) rfl (?_ : Steps p.tables e below (T100.setTop (mkF m 192 #[iv p0, iv p1, iv p2, iv p3, iv v_83, iv v_84, iv x0, iv x1, iv y0, iv y1, iv i1, iv i2, iv (((p3.toUInt32 >>> ((4 : Int32) &&& 31).toUInt32).toInt32) &&& 3), rv r_93, rv r_94, rv b96, rv b99, .unset, .unset] [(.int y1), (.int x1)])) t)
          by_cases hc106 : x1 = y1
          ·
            simp only [if_pos hc106] at k
            refine XS.icmpNo X100.here hx rfl (hb hby at_192) rfl (teq hc106).2 (?_ : Steps p.tables e below (T100.setTop (mkF m 195 #[iv p0, iv p1, iv p2, iv p3, iv v_83, iv v_84, iv x0, iv x1, iv y0, iv y1, iv i1, iv i2, iv (((p3.toUInt32 >>> ((4 : Int32) &&& 31).toUInt32).toInt32) &&& 3), rv r_93, rv r_94, rv b96, rv b99, .unset, .unset] [])) t)
            refine XS.iconst X100.here hx rfl (hb hby at_195) (?_ : Steps p.tables e below (T100.setTop (mkF m 196 #[iv p0, iv p1, iv p2, iv p3, iv v_83, iv v_84, iv x0, iv x1, iv y0, iv y1, iv i1, iv i2, iv (((p3.toUInt32 >>> ((4 : Int32) &&& 31).toUInt32).toInt32) &&& 3), rv r_93, rv r_94, rv b96, rv b99, .unset, .unset] [(.int 1)])) t)
            refine XS.goto X100.here hx rfl (pc0 := 196) (pc' := 200) rfl (hb hby at_196) (by decide) (by decide) (?_ : Steps p.tables e below (T100.setTop (mkF m 200 #[iv p0, iv p1, iv p2, iv p3, iv v_83, iv v_84, iv x0, iv x1, iv y0, iv y1, iv i1, iv i2, iv (((p3.toUInt32 >>> ((4 : Int32) &&& 31).toUInt32).toInt32) &&& 3), rv r_93, rv r_94, rv b96, rv b99, .unset, .unset] [(.int 1)])) t)
            exact k
          ·
            simp only [if_neg hc106] at k
            refine XS.icmpYes X100.here hx rfl (pc0 := 192) (pc' := 199) rfl (hb hby at_192) rfl (feq hc106).2 (by decide) (by decide) (?_ : Steps p.tables e below (T100.setTop (mkF m 199 #[iv p0, iv p1, iv p2, iv p3, iv v_83, iv v_84, iv x0, iv x1, iv y0, iv y1, iv i1, iv i2, iv (((p3.toUInt32 >>> ((4 : Int32) &&& 31).toUInt32).toInt32) &&& 3), rv r_93, rv r_94, rv b96, rv b99, .unset, .unset] [])) t)
            refine XS.iconst X100.here hx rfl (hb hby at_199) (?_ : Steps p.tables e below (T100.setTop (mkF m 200 #[iv p0, iv p1, iv p2, iv p3, iv v_83, iv v_84, iv x0, iv x1, iv y0, iv y1, iv i1, iv i2, iv (((p3.toUInt32 >>> ((4 : Int32) &&& 31).toUInt32).toInt32) &&& 3), rv r_93, rv r_94, rv b96, rv b99, .unset, .unset] [(.int 0)])) t)
            exact k
      ·
        simp only [if_neg hc104] at k
        refine XS.icmpNo X100.here hx rfl (hb hby at_172) rfl (flt hc104).1 (?_ : Steps p.tables e below (T100.setTop (mkF m 175 #[iv p0, iv p1, iv p2, iv p3, iv v_83, iv v_84, iv x0, iv x1, iv y0, iv y1, iv i1, iv i2, iv (((p3.toUInt32 >>> ((4 : Int32) &&& 31).toUInt32).toInt32) &&& 3), rv r_93, rv r_94, rv b96, rv b99, .unset, .unset] [])) t)
        refine XS.iload X100.here hx rfl (hb hby at_175) rfl (?_ : Steps p.tables e below (T100.setTop (mkF m 177 #[iv p0, iv p1, iv p2, iv p3, iv v_83, iv v_84, iv x0, iv x1, iv y0, iv y1, iv i1, iv i2, iv (((p3.toUInt32 >>> ((4 : Int32) &&& 31).toUInt32).toInt32) &&& 3), rv r_93, rv r_94, rv b96, rv b99, .unset, .unset] [(.int x0)])) t)
        refine XS.iload X100.here hx rfl (hb hby at_177) rfl (?_ : Steps p.tables e below (T100.setTop (mkF m 179 #[iv p0, iv p1, iv p2, iv p3, iv v_83, iv v_84, iv x0, iv x1, iv y0, iv y1, iv i1, iv i2, iv (((p3.toUInt32 >>> ((4 : Int32) &&& 31).toUInt32).toInt32) &&& 3), rv r_93, rv r_94, rv b96, rv b99, .unset, .unset] [(.int y0), (.int x0)])) t)
        by_cases hc107 : x0 = y0
        ·
          simp only [if_pos hc107] at k
          refine XS.icmpNo X100.here hx rfl (hb hby at_179) rfl (teq hc107).2 (?_ : Steps p.tables e below (T100.setTop (mkF m 182 #[iv p0, iv p1, iv p2, iv p3, iv v_83, iv v_84, iv x0, iv x1, iv y0, iv y1, iv i1, iv i2, iv (((p3.toUInt32 >>> ((4 : Int32) &&& 31).toUInt32).toInt32) &&& 3), rv r_93, rv r_94, rv b96, rv b99, .unset, .unset] [])) t)
          refine XS.iload X100.here hx rfl (hb hby at_182) rfl (?_ : Steps p.tables e below (T100.setTop (mkF m 184 #[iv p0, iv p1, iv p2, iv p3, iv v_83, iv v_84, iv x0, iv x1, iv y0, iv y1, iv i1, iv i2, iv (((p3.toUInt32 >>> ((4 : Int32) &&& 31).toUInt32).toInt32) &&& 3), rv r_93, rv r_94, rv b96, rv b99, .unset, .unset] [(.int v_83)])) t)
          refine XS.iconst X100.here hx rfl (hb hby at_184) (?_ : Steps p.tables e below (T100.setTop (mkF m 185 #[iv p0, iv p1, iv p2, iv p3, iv v_83, iv v_84, iv x0, iv x1, iv y0, iv y1, iv i1, iv i2, iv (((p3.toUInt32 >>> ((4 : Int32) &&& 31).toUInt32).toInt32) &&& 3), rv r_93, rv r_94, rv b96, rv b99, .unset, .unset] [(.int 2), (.int v_83)])) t)
          by_cases hc108 : v_83 < (2 : Int32)
          ·
            simp only [if_pos hc108] at k
            refine XS.icmpYes X100.here hx rfl (pc0 := 185) (pc' := 195) rfl (hb hby at_185) rfl (tlt hc108).1 (by decide) (by decide) (?_ : Steps p.tables e below (T100.setTop (mkF m 195 #[iv p0, iv p1, iv p2, iv p3, iv v_83, iv v_84, iv x0, iv x1, iv y0, iv y1, iv i1, iv i2, iv (((p3.toUInt32 >>> ((4 : Int32) &&& 31).toUInt32).toInt32) &&& 3), rv r_93, rv r_94, rv b96, rv b99, .unset, .unset] [])) t)
            refine XS.iconst X100.here hx rfl (hb hby at_195) (?_ : Steps p.tables e below (T100.setTop (mkF m 196 #[iv p0, iv p1, iv p2, iv p3, iv v_83, iv v_84, iv x0, iv x1, iv y0, iv y1, iv i1, iv i2, iv (((p3.toUInt32 >>> ((4 : Int32) &&& 31).toUInt32).toInt32) &&& 3), rv r_93, rv r_94, rv b96, rv b99, .unset, .unset] [(.int 1)])) t)
            refine XS.goto X100.here hx rfl (pc0 := 196) (pc' := 200) rfl (hb hby at_196) (by decide) (by decide) (?_ : Steps p.tables e below (T100.setTop (mkF m 200 #[iv p0, iv p1, iv p2, iv p3, iv v_83, iv v_84, iv x0, iv x1, iv y0, iv y1, iv i1, iv i2, iv (((p3.toUInt32 >>> ((4 : Int32) &&& 31).toUInt32).toInt32) &&& 3), rv r_93, rv r_94, rv b96, rv b99, .unset, .unset] [(.int 1)])) t)
            exact k
          ·
            simp only [if_neg hc108] at k
            refine XS.icmpNo X100.here hx rfl (hb hby at_185) rfl (flt hc108).1 (?_ : Steps p.tables e below (T100.setTop (mkF m 188 #[iv p0, iv p1, iv p2, iv p3, iv v_83, iv v_84, iv x0, iv x1, iv y0, iv y1, iv i1, iv i2, iv (((p3.toUInt32 >>> ((4 : Int32) &&& 31).toUInt32).toInt32) &&& 3), rv r_93, rv r_94, rv b96, rv b99, .unset, .unset] [])) t)
            refine XS.iload X100.here hx rfl (hb hby at_188) rfl (?_ : Steps p.tables e below (T100.setTop (mkF m 190 #[iv p0, iv p1, iv p2, iv p3, iv v_83, iv v_84, iv x0, iv x1, iv y0, iv y1, iv i1, iv i2, iv (((p3.toUInt32 >>> ((4 : Int32) &&& 31).toUInt32).toInt32) &&& 3), rv r_93, rv r_94, rv b96, rv b99, .unset, .unset] [(.int x1)])) t)
            refine XS.iload X100.here hx rfl (hb hby at_190) rfl (?_ : Steps p.tables e below (T100.setTop (mkF m 192 #[iv p0, iv p1, iv p2, iv p3, iv v_83, iv v_84, iv x0, iv x1, iv y0, iv y1, iv i1, iv i2, iv (((p3.toUInt32 >>> ((4 : Int32) &&& 31).toUInt32).toInt32) &&& 3), rv r_93, rv r_94, rv b96, rv b99, .unset, .unset] [(.int y1), (.int x1)])) t)
            by_cases hc109 : x1 = y1
            ·
              simp only [if_pos hc109] at k
              refine XS.icmpNo X100.here hx rfl (hb hby at_192) rfl (teq hc109).2 (?_ : Steps p.tables e below (T100.setTop (mkF m 195 #[iv p0, iv p1, iv p2, iv p3, iv v_83, iv v_84, iv x0, iv x1, iv y0, iv y1, iv i1, iv i2, iv (((p3.toUInt32 >>> ((4 : Int32) &&& 31).toUInt32).toInt32) &&& 3), rv r_93, rv r_94, rv b96, rv b99, .unset, .unset] [])) t)
              refine XS.iconst X100.here hx rfl (hb hby at_195) (?_ : Steps p.tables e below (T100.setTop (mkF m 196 #[iv p0, iv p1, iv p2, iv p3, iv v_83, iv v_84, iv x0, iv x1, iv y0, iv y1, iv i1, iv i2, iv (((p3.toUInt32 >>> ((4 : Int32) &&& 31).toUInt32).toInt32) &&& 3), rv r_93, rv r_94, rv b96, rv b99, .unset, .unset] [(.int 1)])) t)
              refine XS.goto X100.here hx rfl (pc0 := 196) (pc' := 200) rfl (hb hby at_196) (by decide) (by decide) (?_ : Steps p.tables e below (T100.setTop (mkF m 200 #[iv p0, iv p1, iv p2, iv p3, iv v_83, iv v_84, iv x0, iv x1, iv y0, iv y1, iv i1, iv i2, iv (((p3.toUInt32 >>> ((4 : Int32) &&& 31).toUInt32).toInt32) &&& 3), rv r_93, rv r_94, rv b96, rv b99, .unset, .unset] [(.int 1)])) t)
              exact k
            ·
              simp only [if_neg hc109] at k
              refine XS.icmpYes X100.here hx rfl (pc0 := 192) (pc' := 199) rfl (hb hby at_192) rfl (feq hc109).2 (by decide) (by decide) (?_ : Steps p.tables e below (T100.setTop (mkF m 199 #[iv p0, iv p1, iv p2, iv p3, iv v_83, iv v_84, iv x0, iv x1, iv y0, iv y1, iv i1, iv i2, iv (((p3.toUInt32 >>> ((4 : Int32) &&& 31).toUInt32).toInt32) &&& 3), rv r_93, rv r_94, rv b96, rv b99, .unset, .unset] [])) t)
              refine XS.iconst X100.here hx rfl (hb hby at_199) (?_ : Steps p.tables e below (T100.setTop (mkF m 200 #[iv p0, iv p1, iv p2, iv p3, iv v_83, iv v_84, iv x0, iv x1, iv y0, iv y1, iv i1, iv i2, iv (((p3.toUInt32 >>> ((4 : Int32) &&& 31).toUInt32).toInt32) &&& 3), rv r_93, rv r_94, rv b96, rv b99, .unset, .unset] [(.int 0)])) t)
              exact k
        ·
          simp only [if_neg hc107] at k
          refine XS.icmpYes X100.here hx rfl (pc0 := 179) (pc' := 199) rfl (hb hby at_179) rfl (feq hc107).2 (by decide) (by decide) (?_ : Steps p.tables e below (T100.setTop (mkF m 199 #[iv p0, iv p1, iv p2, iv p3, iv v_83, iv v_84, iv x0, iv x1, iv y0, iv y1, iv i1, iv i2, iv (((p3.toUInt32 >>> ((4 : Int32) &&& 31).toUInt32).toInt32) &&& 3), rv r_93, rv r_94, rv b96, rv b99, .unset, .unset] [])) t)
          refine XS.iconst X100.here hx rfl (hb hby at_199) (?_ : Steps p.tables e below (T100.setTop (mkF m 200 #[iv p0, iv p1, iv p2, iv p3, iv v_83, iv v_84, iv x0, iv x1, iv y0, iv y1, iv i1, iv i2, iv (((p3.toUInt32 >>> ((4 : Int32) &&& 31).toUInt32).toInt32) &&& 3), rv r_93, rv r_94, rv b96, rv b99, .unset, .unset] [(.int 0)])) t)
          exact k
    ·
      simp only [if_neg hc103] at k
      refine XS.icmpYes X100.here hx rfl (pc0 := 166) (pc' := 199) rfl (hb hby at_166) rfl (feq hc103).2 (by decide) (by decide) (?_ : Steps p.tables e below (T100.setTop (mkF m 199 #[iv p0, iv p1, iv p2, iv p3, iv v_83, iv v_84, iv x0, iv x1, iv y0, iv y1, iv i1, iv i2, iv (((p3.toUInt32 >>> ((4 : Int32) &&& 31).toUInt32).toInt32) &&& 3), rv r_93, rv r_94, rv b96, rv b99, .unset, .unset] [])) t)
      refine XS.iconst X100.here hx rfl (hb hby at_199) (?_ : Steps p.tables e below (T100.setTop (mkF m 200 #[iv p0, iv p1, iv p2, iv p3, iv v_83, iv v_84, iv x0, iv x1, iv y0, iv y1, iv i1, iv i2, iv (((p3.toUInt32 >>> ((4 : Int32) &&& 31).toUInt32).toInt32) &&& 3), rv r_93, rv r_94, rv b96, rv b99, .unset, .unset] [(.int 0)])) t)
      exact k
  refine Go.on R102 ?_
  refine Go.on (w := T100.setTop (mkF m 205 #[iv p0, iv p1, iv p2, iv p3, iv v_83, iv v_84, iv x0, iv x1, iv y0, iv y1, iv i1, iv i2, iv (((p3.toUInt32 >>> ((4 : Int32) &&& 31).toUInt32).toInt32) &&& 3), rv r_93, rv r_94, rv b96, rv b99, iv sm, .unset] [(.int 2), (.int (((p3.toUInt32 >>> ((4 : Int32) &&& 31).toUInt32).toInt32) &&& (3 : Int32)))])) (fun t k => XS.istore X100.here hx rfl (hb hby at_200) rfl (l' := #[iv p0, iv p1, iv p2, iv p3, iv v_83, iv v_84, iv x0, iv x1, iv y0, iv y1, iv i1, iv i2, iv (((p3.toUInt32 >>> ((4 : Int32) &&& 31).toUInt32).toInt32) &&& 3), rv r_93, rv r_94, rv b96, rv b99, iv sm, .unset]) rfl (XS.iload X100.here hx rfl (hb hby at_202) rfl (XS.iconst X100.here hx rfl (hb hby at_204) k))) ?_
  by_cases hc110 : (((p3.toUInt32 >>> ((4 : Int32) &&& 31).toUInt32).toInt32) &&& (3 : Int32)) = (2 : Int32)
  ·
    have F112 := ((f97_0.ext E99).keep K100)
    obtain ⟨cq111, kq111, q111a, q111b, q111c⟩ := isOf hZ100 eK100 F112
    obtain ⟨v111, _, ⟨T111, L111, k111, n111⟩, -, X111, ⟨Lc111, hQ111, l111, y111, z111⟩, st111⟩ := X100.virtualBack hx (y := (⟨"com/example/treewidth/treewidth/ontology/Role", "equals", "(Ljava/lang/Object;)Z"⟩ : MethodName)) (z := (⟨"com/example/treewidth/treewidth/ontology/Role", "equals", "(Ljava/lang/Object;)Z"⟩ : MethodName)) hown100 (mvT hZ100 (w_47 hw)) (mvT hZ100 (w_48 hw)) (notFace_of_selects (args := #[]) (mvT hZ100 (w_50 hw))) (mvT hZ100 (w_50 hw)) (mvT hZ100 (w_49 hw)) (by decide) (backOf (W := 0) (rmEqN l Z a0 hw [] b96 T100.heap ) hZ100 (w_51 hw) (w_32 hw) (by decide) (by decide)) q111a q111c (g := (mkF m 211 #[iv p0, iv p1, iv p2, iv p3, iv v_83, iv v_84, iv x0, iv x1, iv y0, iv y1, iv i1, iv i2, iv (((p3.toUInt32 >>> ((4 : Int32) &&& 31).toUInt32).toInt32) &&& 3), rv r_93, rv r_94, rv b96, rv b99, iv sm, .unset] [.null, (.ref b96)])) rfl (by rw [hml]; rfl) (Steps.refl _) (argsL := [.null]) (rest := []) (lenOf pd_7 rfl) rfl (by show 2 * 0 + _ ≤ _; exact Nat.le_of_eq rfl) (hb hby at_211) (fun _ _ => ⟨rfl, eK100, (by decide : 18 + 0 ≤ _), (by decide : 124 + 0 ≤ _)⟩)
    dsimp only [Pt.U, Pt.locs, Pt.cells, Pt.slots] at X111 l111 y111 z111 st111 hQ111
    subst l111 y111 z111
    obtain ⟨rfl, Nq111, eh111⟩ := hQ111
    have N111 := Fr.app N100 Nq111
    have F114 := (((((F95.keep K94 all0).ext E96).keep K97 (allS (by omega) all0)).ext E99).keep K100 (allS (by omega) all0))
    have F115 := ((f97_1.ext E99).keep K100 (ninS (show @Ne Nat b96 b99 by omega) nin0))
    have F116 := ((f97_2.ext E99).keep K100 (ninS (show @Ne Nat b96 b99 by omega) nin0))
    have F117 := (((F98.keep K97).ext E99).keep K100)
    have F118 := (((((f93_4.keep K94 nin0).ext E96).keep K97 (ninS (show @Ne Nat r_93 b96 by omega) nin0)).ext E99).keep K100 (ninS (show @Ne Nat r_93 b99 by omega) nin0))
    have F119 := (((((f93_5.keep K94 nin0).ext E96).keep K97 (ninS (show @Ne Nat r_93 b96 by omega) nin0)).ext E99).keep K100 (ninS (show @Ne Nat r_93 b99 by omega) nin0))
    have F120 := (((((f93_6.keep K94 nin0).ext E96).keep K97 (ninS (show @Ne Nat t_93 b96 by omega) nin0)).ext E99).keep K100 (ninS (show @Ne Nat t_93 b99 by omega) nin0))
    obtain ⟨cq113, kq113, q113a, q113b, q113c⟩ := isOf hZ100 eh111 F112
    obtain ⟨v113, _, ⟨T113, L113, k113, n113⟩, -, X113, ⟨Lc113, hQ113, l113, y113, z113⟩, st113⟩ := X111.virtualBack hx (y := (⟨"com/example/treewidth/treewidth/ontology/Role", "equals", "(Ljava/lang/Object;)Z"⟩ : MethodName)) (z := (⟨"com/example/treewidth/treewidth/ontology/Role", "equals", "(Ljava/lang/Object;)Z"⟩ : MethodName)) hown100 (mvT hZ100 (w_47 hw)) (mvT hZ100 (w_48 hw)) (notFace_of_selects (args := #[]) (mvT hZ100 (w_50 hw))) (mvT hZ100 (w_50 hw)) (mvT hZ100 (w_49 hw)) (by decide) (backOf (W := 0) (rmEqR l Z a0 hw [] b96 b96 r_93 t_93 kb_93 cs_93 i1 r_93 t_93 kb_93 cs_93 i1 G1 T100.heap F114 O2 P5 F112 F115 F116 F115 F116 F117 F118 F119 F120 F117 F118 F119 F120 f93_2 f93_2 (own_len f93_1) (own_len f93_1)) hZ100 (w_51 hw) (w_32 hw) (by decide) (by decide)) q113a q113c (g := (mkF m 221 #[iv p0, iv p1, iv p2, iv p3, iv v_83, iv v_84, iv x0, iv x1, iv y0, iv y1, iv i1, iv i2, iv (((p3.toUInt32 >>> ((4 : Int32) &&& 31).toUInt32).toInt32) &&& 3), rv r_93, rv r_94, rv b96, rv b99, iv sm, .unset] [(.ref b96), (.ref b96)])) rfl (by rw [hml]; rfl) (Steps.refl _) (argsL := [(.ref b96)]) (rest := []) (lenOf pd_7 rfl) rfl (by show 2 * 0 + _ ≤ _; exact Nat.le_of_eq rfl) (hb hby at_221) (fun _ _ => ⟨rfl, eh111, (by decide : 18 + 0 ≤ _), (by decide : 124 + 0 ≤ _)⟩)
    dsimp only [Pt.U, Pt.locs, Pt.cells, Pt.slots] at X113 l113 y113 z113 st113 hQ113
    subst l113 y113 z113
    obtain ⟨v_113, rfl, Nq113, eh113, f113_0⟩ := hQ113
    have N113 := Fr.app N111 Nq113
    refine Go.on (w := T113.setTop (mkF m 232 #[iv p0, iv p1, iv p2, iv p3, iv v_83, iv v_84, iv x0, iv x1, iv y0, iv y1, iv i1, iv i2, iv (((p3.toUInt32 >>> ((4 : Int32) &&& 31).toUInt32).toInt32) &&& 3), rv r_93, rv r_94, rv b96, rv b99, iv sm, .unset] [(.int 1)])) (fun t k => XS.icmpNo X100.here hx rfl (hb hby at_205) rfl (teq hc110).2 (XS.aload X100.here hx rfl (hb hby at_208) rfl rfl (XS.aconstNull X100.here hx rfl (hb hby at_210) (st111.trans (XS.ifNo X111.here hx rfl (hb hby at_214) rfl ((if0 _ _).trans (teq (by decide : (0 : Int32) = (0 : Int32))).2) (XS.aload X111.here hx rfl (hb hby at_217) rfl rfl (XS.aload X111.here hx rfl (hb hby at_219) rfl rfl (st113.trans (XS.ifNo X113.here hx rfl (hb hby at_224) rfl ((if0 _ _).trans (feq (own_one (own_yes f113_0 ⟨rfl, rfl⟩))).1) (XS.iconst X113.here hx rfl (hb hby at_227) (XS.goto X113.here hx rfl (pc0 := 228) (pc' := 232) rfl (hb hby at_228) (by decide) (by decide) k))))))))))) ?_
    have CE121 := CR100.trans (CHv.at X113 hZ100 hEL CR100.1)
    refine Go.fin X113 hS100 (by rw [eh113]; omega) hlk (v := some (.int 1)) (fun h => by rw [Bd.returns] at h; cases h) (fun fs hr => ?_) (endP (Q := Q_rm0 Z p0 p1 p2 p3 G1 h0) (by rw [eh113]; exact ⟨rfl, N113, KP100⟩) (by rw [eh113]; exact CE121) (by decide) (by decide))
    exact retN X113 hx (t := .boolean) Bd.returns (by simp) (hb hby at_232) hr
  ·
    refine Go.on (w := T100.setTop (mkF m 236 #[iv p0, iv p1, iv p2, iv p3, iv v_83, iv v_84, iv x0, iv x1, iv y0, iv y1, iv i1, iv i2, iv (((p3.toUInt32 >>> ((4 : Int32) &&& 31).toUInt32).toInt32) &&& 3), rv r_93, rv r_94, rv b96, rv b99, iv sm, .unset] [(.int 3), (.int (((p3.toUInt32 >>> ((4 : Int32) &&& 31).toUInt32).toInt32) &&& (3 : Int32)))])) (fun t k => XS.icmpYes X100.here hx rfl (pc0 := 205) (pc' := 233) rfl (hb hby at_205) rfl (feq hc110).2 (by decide) (by decide) (XS.iload X100.here hx rfl (hb hby at_233) rfl (XS.iconst X100.here hx rfl (hb hby at_235) k))) ?_
    by_cases hc122 : (((p3.toUInt32 >>> ((4 : Int32) &&& 31).toUInt32).toInt32) &&& (3 : Int32)) = (3 : Int32)
    ·
      have F124 := (F101.keep K100)
      have F125 := ((f97_0.ext E99).keep K100)
      obtain ⟨cq123, kq123, q123a, q123b, q123c⟩ := isOf hZ100 eK100 F125
      obtain ⟨v123, _, ⟨T123, L123, k123, n123⟩, -, X123, ⟨Lc123, hQ123, l123, y123, z123⟩, st123⟩ := X100.virtualBack hx (y := (⟨"com/example/treewidth/treewidth/ontology/Role", "equals", "(Ljava/lang/Object;)Z"⟩ : MethodName)) (z := (⟨"com/example/treewidth/treewidth/ontology/Role", "equals", "(Ljava/lang/Object;)Z"⟩ : MethodName)) hown100 (mvT hZ100 (w_47 hw)) (mvT hZ100 (w_48 hw)) (notFace_of_selects (args := #[]) (mvT hZ100 (w_50 hw))) (mvT hZ100 (w_50 hw)) (mvT hZ100 (w_49 hw)) (by decide) (backOf (W := 0) (rmEqS l Z a0 hw [] b96 r_94 T100.heap F124) hZ100 (w_51 hw) (w_32 hw) (by decide) (by decide)) q123a q123c (g := (mkF m 243 #[iv p0, iv p1, iv p2, iv p3, iv v_83, iv v_84, iv x0, iv x1, iv y0, iv y1, iv i1, iv i2, iv (((p3.toUInt32 >>> ((4 : Int32) &&& 31).toUInt32).toInt32) &&& 3), rv r_93, rv r_94, rv b96, rv b99, iv sm, .unset] [(.ref r_94), (.ref b96)])) rfl (by rw [hml]; rfl) (Steps.refl _) (argsL := [(.ref r_94)]) (rest := []) (lenOf pd_7 rfl) rfl (by show 2 * 0 + _ ≤ _; exact Nat.le_of_eq rfl) (hb hby at_243) (fun _ _ => ⟨rfl, eK100, (by decide : 18 + 0 ≤ _), (by decide : 124 + 0 ≤ _)⟩)
      dsimp only [Pt.U, Pt.locs, Pt.cells, Pt.slots] at X123 l123 y123 z123 st123 hQ123
      subst l123 y123 z123
      obtain ⟨rfl, Nq123, eh123⟩ := hQ123
      have N123 := Fr.app N100 Nq123
      have F127 := (((((F95.keep K94 all0).ext E96).keep K97 (allS (by omega) all0)).ext E99).keep K100 (allS (by omega) all0))
      have F128 := ((f97_1.ext E99).keep K100 (ninS (show @Ne Nat b96 b99 by omega) nin0))
      have F129 := ((f97_2.ext E99).keep K100 (ninS (show @Ne Nat b96 b99 by omega) nin0))
      have F130 := (((F98.keep K97).ext E99).keep K100)
      have F131 := (((((f93_4.keep K94 nin0).ext E96).keep K97 (ninS (show @Ne Nat r_93 b96 by omega) nin0)).ext E99).keep K100 (ninS (show @Ne Nat r_93 b99 by omega) nin0))
      have F132 := (((((f93_5.keep K94 nin0).ext E96).keep K97 (ninS (show @Ne Nat r_93 b96 by omega) nin0)).ext E99).keep K100 (ninS (show @Ne Nat r_93 b99 by omega) nin0))
      have F133 := (((((f93_6.keep K94 nin0).ext E96).keep K97 (ninS (show @Ne Nat t_93 b96 by omega) nin0)).ext E99).keep K100 (ninS (show @Ne Nat t_93 b99 by omega) nin0))
      obtain ⟨cq126, kq126, q126a, q126b, q126c⟩ := isOf hZ100 eh123 F125
      obtain ⟨v126, _, ⟨T126, L126, k126, n126⟩, -, X126, ⟨Lc126, hQ126, l126, y126, z126⟩, st126⟩ := X123.virtualBack hx (y := (⟨"com/example/treewidth/treewidth/ontology/Role", "equals", "(Ljava/lang/Object;)Z"⟩ : MethodName)) (z := (⟨"com/example/treewidth/treewidth/ontology/Role", "equals", "(Ljava/lang/Object;)Z"⟩ : MethodName)) hown100 (mvT hZ100 (w_47 hw)) (mvT hZ100 (w_48 hw)) (notFace_of_selects (args := #[]) (mvT hZ100 (w_50 hw))) (mvT hZ100 (w_50 hw)) (mvT hZ100 (w_49 hw)) (by decide) (backOf (W := 0) (rmEqR l Z a0 hw [] b96 b96 r_93 t_93 kb_93 cs_93 i1 r_93 t_93 kb_93 cs_93 i1 G1 T100.heap F127 O2 P5 F125 F128 F129 F128 F129 F130 F131 F132 F133 F130 F131 F132 F133 f93_2 f93_2 (own_len f93_1) (own_len f93_1)) hZ100 (w_51 hw) (w_32 hw) (by decide) (by decide)) q126a q126c (g := (mkF m 253 #[iv p0, iv p1, iv p2, iv p3, iv v_83, iv v_84, iv x0, iv x1, iv y0, iv y1, iv i1, iv i2, iv (((p3.toUInt32 >>> ((4 : Int32) &&& 31).toUInt32).toInt32) &&& 3), rv r_93, rv r_94, rv b96, rv b99, iv sm, .unset] [(.ref b96), (.ref b96)])) rfl (by rw [hml]; rfl) (Steps.refl _) (argsL := [(.ref b96)]) (rest := []) (lenOf pd_7 rfl) rfl (by show 2 * 0 + _ ≤ _; exact Nat.le_of_eq rfl) (hb hby at_253) (fun _ _ => ⟨rfl, eh123, (by decide : 18 + 0 ≤ _), (by decide : 124 + 0 ≤ _)⟩)
      dsimp only [Pt.U, Pt.locs, Pt.cells, Pt.slots] at X126 l126 y126 z126 st126 hQ126
      subst l126 y126 z126
      obtain ⟨v_126, rfl, Nq126, eh126, f126_0⟩ := hQ126
      have N126 := Fr.app N123 Nq126
      refine Go.on (w := T126.setTop (mkF m 264 #[iv p0, iv p1, iv p2, iv p3, iv v_83, iv v_84, iv x0, iv x1, iv y0, iv y1, iv i1, iv i2, iv (((p3.toUInt32 >>> ((4 : Int32) &&& 31).toUInt32).toInt32) &&& 3), rv r_93, rv r_94, rv b96, rv b99, iv sm, .unset] [(.int 1)])) (fun t k => XS.icmpNo X100.here hx rfl (hb hby at_236) rfl (teq hc122).2 (XS.aload X100.here hx rfl (hb hby at_239) rfl rfl (XS.aload X100.here hx rfl (hb hby at_241) rfl rfl (st123.trans (XS.ifNo X123.here hx rfl (hb hby at_246) rfl ((if0 _ _).trans (teq (by decide : (0 : Int32) = (0 : Int32))).2) (XS.aload X123.here hx rfl (hb hby at_249) rfl rfl (XS.aload X123.here hx rfl (hb hby at_251) rfl rfl (st126.trans (XS.ifNo X126.here hx rfl (hb hby at_256) rfl ((if0 _ _).trans (feq (own_one (own_yes f126_0 ⟨rfl, rfl⟩))).1) (XS.iconst X126.here hx rfl (hb hby at_259) (XS.goto X126.here hx rfl (pc0 := 260) (pc' := 264) rfl (hb hby at_260) (by decide) (by decide) k))))))))))) ?_
      have CE134 := CR100.trans (CHv.at X126 hZ100 hEL CR100.1)
      refine Go.fin X126 hS100 (by rw [eh126]; omega) hlk (v := some (.int 1)) (fun h => by rw [Bd.returns] at h; cases h) (fun fs hr => ?_) (endP (Q := Q_rm0 Z p0 p1 p2 p3 G1 h0) (by rw [eh126]; exact ⟨rfl, N126, KP100⟩) (by rw [eh126]; exact CE134) (by decide) (by decide))
      exact retN X126 hx (t := .boolean) Bd.returns (by simp) (hb hby at_264) hr
    ·
      refine Go.on (w := T100.setTop (mkF m 267 #[iv p0, iv p1, iv p2, iv p3, iv v_83, iv v_84, iv x0, iv x1, iv y0, iv y1, iv i1, iv i2, iv (((p3.toUInt32 >>> ((4 : Int32) &&& 31).toUInt32).toInt32) &&& 3), rv r_93, rv r_94, rv b96, rv b99, iv sm, .unset] [(.int sm)])) (fun t k => XS.icmpYes X100.here hx rfl (pc0 := 236) (pc' := 265) rfl (hb hby at_236) rfl (feq hc122).2 (by decide) (by decide) (XS.iload X100.here hx rfl (hb hby at_265) rfl k)) ?_
      obtain ⟨ex, hr_ex⟩ : ∃ z : Int32, (if sm = (0 : Int32) then (0 : Int32) else (if i1 = i2 then (1 : Int32) else (0 : Int32))) = z := ⟨_, rfl⟩
      have R135 : ∀ t, Steps p.tables e below (T100.setTop (mkF m 282 #[iv p0, iv p1, iv p2, iv p3, iv v_83, iv v_84, iv x0, iv x1, iv y0, iv y1, iv i1, iv i2, iv (((p3.toUInt32 >>> ((4 : Int32) &&& 31).toUInt32).toInt32) &&& 3), rv r_93, rv r_94, rv b96, rv b99, iv sm, .unset] [(.int ex)])) t → Steps p.tables e below (T100.setTop (mkF m 267 #[iv p0, iv p1, iv p2, iv p3, iv v_83, iv v_84, iv x0, iv x1, iv y0, iv y1, iv i1, iv i2, iv (((p3.toUInt32 >>> ((4 : Int32) &&& 31).toUInt32).toInt32) &&& 3), rv r_93, rv r_94, rv b96, rv b99, iv sm, .unset] [(.int sm)])) t := by
        intro t k
        subst hr_ex
        by_cases hc136 : sm = (0 : Int32)
        ·
          simp only [if_pos hc136] at k
          refine XS.ifYes X100.here hx rfl (pc0 := 267) (pc' := 281) rfl (hb hby at_267) rfl ((if0 _ _).trans (teq hc136).1) (by decide) (by decide) (?_ : Steps p.tables e below (T100.setTop (mkF m 281 #[iv p0, iv p1, iv p2, iv p3, iv v_83, iv v_84, iv x0, iv x1, iv y0, iv y1, iv i1, iv i2, iv (((p3.toUInt32 >>> ((4 : Int32) &&& 31).toUInt32).toInt32) &&& 3), rv r_93, rv r_94, rv b96, rv b99, iv sm, .unset] [])) t)
          refine XS.iconst X100.here hx rfl (hb hby at_281) (?_ : Steps p.tables e below (T100.setTop (mkF m 282 #[iv p0, iv p1, iv p2, iv p3, iv v_83, iv v_84, iv x0, iv x1, iv y0, iv y1, iv i1, iv i2, iv (((p3.toUInt32 >>> ((4 : Int32) &&& 31).toUInt32).toInt32) &&& 3), rv r_93, rv r_94, rv b96, rv b99, iv sm, .unset] [(.int 0)])) t)
          exact k
        ·
          simp only [if_neg hc136] at k
          refine XS.ifNo X100.here hx rfl (hb hby at_267) rfl ((if0 _ _).trans (feq hc136).1) (?_ : Steps p.tables e below (T100.setTop (mkF m 270 #[iv p0, iv p1, iv p2, iv p3, iv v_83, iv v_84, iv x0, iv x1, iv y0, iv y1, iv i1, iv i2, iv (((p3.toUInt32 >>> ((4 : Int32) &&& 31).toUInt32).toInt32) &&& 3), rv r_93, rv r_94, rv b96, rv b99, iv sm, .unset] [])) t)
          refine XS.iload X100.here hx rfl (hb hby at_270) rfl (?_ : Steps p.tables e below (T100.setTop (mkF m 272 #[iv p0, iv p1, iv p2, iv p3, iv v_83, iv v_84, iv x0, iv x1, iv y0, iv y1, iv i1, iv i2, iv (((p3.toUInt32 >>> ((4 : Int32) &&& 31).toUInt32).toInt32) &&& 3), rv r_93, rv r_94, rv b96, rv b99, iv sm, .unset] [(.int i1)])) t)
          refine XS.iload X100.here hx rfl (hb hby at_272) rfl (?_ : Steps p.tables e below (T100.setTop (mkF m 274 #[iv p0, iv p1, iv p2, iv p3, iv v_83, iv v_84, iv x0, iv x1, iv y0, iv y1, iv i1, iv i2, iv (((p3.toUInt32 >>> ((4 : Int32) &&& 31).toUInt32).toInt32) &&& 3), rv r_93, rv r_94, rv b96, rv b99, iv sm, .unset] [(.int i2), (.int i1)])) t)
          by_cases hc137 : i1 = i2
          ·
            simp only [if_pos hc137] at k
            refine XS.icmpNo X100.here hx rfl (hb hby at_274) rfl (teq hc137).2 (?_ : Steps p.tables e below (T100.setTop (mkF m 277 #[iv p0, iv p1, iv p2, iv p3, iv v_83, iv v_84, iv x0, iv x1, iv y0, iv y1, iv i1, iv i2, iv (((p3.toUInt32 >>> ((4 : Int32) &&& 31).toUInt32).toInt32) &&& 3), rv r_93, rv r_94, rv b96, rv b99, iv sm, .unset] [])) t)
            refine XS.iconst X100.here hx rfl (hb hby at_277) (?_ : Steps p.tables e below (T100.setTop (mkF m 278 #[iv p0, iv p1, iv p2, iv p3, iv v_83, iv v_84, iv x0, iv x1, iv y0, iv y1, iv i1, iv i2, iv (((p3.toUInt32 >>> ((4 : Int32) &&& 31).toUInt32).toInt32) &&& 3), rv r_93, rv r_94, rv b96, rv b99, iv sm, .unset] [(.int 1)])) t)
            refine XS.goto X100.here hx rfl (pc0 := 278) (pc' := 282) rfl (hb hby at_278) (by decide) (by decide) (?_ : Steps p.tables e below (T100.setTop (mkF m 282 #[iv p0, iv p1, iv p2, iv p3, iv v_83, iv v_84, iv x0, iv x1, iv y0, iv y1, iv i1, iv i2, iv (((p3.toUInt32 >>> ((4 : Int32) &&& 31).toUInt32).toInt32) &&& 3), rv r_93, rv r_94, rv b96, rv b99, iv sm, .unset] [(.int 1)])) t)
            exact k
          ·
            simp only [if_neg hc137] at k
            refine XS.icmpYes X100.here hx rfl (pc0 := 274) (pc' := 281) rfl (hb hby at_274) rfl (feq hc137).2 (by decide) (by decide) (?_ : Steps p.tables e below (T100.setTop (mkF m 281 #[iv p0, iv p1, iv p2, iv p3, iv v_83, iv v_84, iv x0, iv x1, iv y0, iv y1, iv i1, iv i2, iv (((p3.toUInt32 >>> ((4 : Int32) &&& 31).toUInt32).toInt32) &&& 3), rv r_93, rv r_94, rv b96, rv b99, iv sm, .unset] [])) t)
            refine XS.iconst X100.here hx rfl (hb hby at_281) (?_ : Steps p.tables e below (T100.setTop (mkF m 282 #[iv p0, iv p1, iv p2, iv p3, iv v_83, iv v_84, iv x0, iv x1, iv y0, iv y1, iv i1, iv i2, iv (((p3.toUInt32 >>> ((4 : Int32) &&& 31).toUInt32).toInt32) &&& 3), rv r_93, rv r_94, rv b96, rv b99, iv sm, .unset] [(.int 0)])) t)
            exact k
      refine Go.on R135 ?_
      have F139 := (((((F95.keep K94 all0).ext E96).keep K97 (allS (by omega) all0)).ext E99).keep K100 (allS (by omega) all0))
      have F140 := ((f97_1.ext E99).keep K100 (ninS (show @Ne Nat b96 b99 by omega) nin0))
      have F141 := ((f97_2.ext E99).keep K100 (ninS (show @Ne Nat b96 b99 by omega) nin0))
      have F142 := (((F98.keep K97).ext E99).keep K100)
      have F143 := (((((f93_4.keep K94 nin0).ext E96).keep K97 (ninS (show @Ne Nat r_93 b96 by omega) nin0)).ext E99).keep K100 (ninS (show @Ne Nat r_93 b99 by omega) nin0))
      have F144 := (((((f93_5.keep K94 nin0).ext E96).keep K97 (ninS (show @Ne Nat r_93 b96 by omega) nin0)).ext E99).keep K100 (ninS (show @Ne Nat r_93 b99 by omega) nin0))
      have F145 := (((((f93_6.keep K94 nin0).ext E96).keep K97 (ninS (show @Ne Nat t_93 b96 by omega) nin0)).ext E99).keep K100 (ninS (show @Ne Nat t_93 b99 by omega) nin0))
      have F146 := (F101.keep K100)
      have F147 := ((((f94_4.ext E96).keep K97 (ninS (show @Ne Nat r_94 b96 by omega) nin0)).ext E99).keep K100 (ninS (show @Ne Nat r_94 b99 by omega) nin0))
      have F148 := ((((f94_5.ext E96).keep K97 (ninS (show @Ne Nat r_94 b96 by omega) nin0)).ext E99).keep K100 (ninS (show @Ne Nat r_94 b99 by omega) nin0))
      have F149 := ((((f94_6.ext E96).keep K97 (ninS (show @Ne Nat t_94 b96 by omega) nin0)).ext E99).keep K100 (ninS (show @Ne Nat t_94 b99 by omega) nin0))
      have F150 := ((f97_0.ext E99).keep K100)
      obtain ⟨cq138, kq138, q138a, q138b, q138c⟩ := isOf hZ100 eK100 F150
      obtain ⟨v138, _, ⟨T138, L138, k138, n138⟩, -, X138, ⟨Lc138, hQ138, l138, y138, z138⟩, st138⟩ := X100.virtualBack hx (y := (⟨"com/example/treewidth/treewidth/ontology/Role", "equals", "(Ljava/lang/Object;)Z"⟩ : MethodName)) (z := (⟨"com/example/treewidth/treewidth/ontology/Role", "equals", "(Ljava/lang/Object;)Z"⟩ : MethodName)) hown100 (mvT hZ100 (w_47 hw)) (mvT hZ100 (w_48 hw)) (notFace_of_selects (args := #[]) (mvT hZ100 (w_50 hw))) (mvT hZ100 (w_50 hw)) (mvT hZ100 (w_49 hw)) (by decide) (backOf (W := 0) (rmEqR l Z a0 hw [] b96 b99 r_93 t_93 kb_93 cs_93 i1 r_94 t_94 kb_94 cs_94 i2 G1 T100.heap F139 O2 P5 f100_0 F140 F141 f100_1 f100_2 F142 F143 F144 F145 F146 F147 F148 F149 f93_2 f94_2 (own_len f93_1) (own_len f94_1)) hZ100 (w_51 hw) (w_32 hw) (by decide) (by decide)) q138a q138c (g := (mkF m 288 #[iv p0, iv p1, iv p2, iv p3, iv v_83, iv v_84, iv x0, iv x1, iv y0, iv y1, iv i1, iv i2, iv (((p3.toUInt32 >>> ((4 : Int32) &&& 31).toUInt32).toInt32) &&& 3), rv r_93, rv r_94, rv b96, rv b99, iv sm, iv ex] [(.ref b99), (.ref b96)])) rfl (by rw [hml]; rfl) (Steps.refl _) (argsL := [(.ref b99)]) (rest := []) (lenOf pd_7 rfl) rfl (by show 2 * 0 + _ ≤ _; exact Nat.le_of_eq rfl) (hb hby at_288) (fun _ _ => ⟨rfl, eK100, (by decide : 18 + 0 ≤ _), (by decide : 124 + 0 ≤ _)⟩)
      dsimp only [Pt.U, Pt.locs, Pt.cells, Pt.slots] at X138 l138 y138 z138 st138 hQ138
      subst l138 y138 z138
      obtain ⟨v_138, rfl, Nq138, eh138, f138_0⟩ := hQ138
      have N138 := Fr.app N100 Nq138
      have hg1 : v_138 = ex := (own_if01 f138_0 (own_rIff f93_1 f94_1 sn1 sn2)).trans ((own_exp hr_sm).symm.trans hr_ex)
      obtain ⟨cq151, kq151, q151a, q151b, q151c⟩ := isOf hZ100 eh138 f100_0
      obtain ⟨v151, _, ⟨T151, L151, k151, n151⟩, -, X151, ⟨Lc151, hQ151, l151, y151, z151⟩, st151⟩ := X138.virtualBack hx (y := (⟨"com/example/treewidth/treewidth/ontology/Role", "equals", "(Ljava/lang/Object;)Z"⟩ : MethodName)) (z := (⟨"com/example/treewidth/treewidth/ontology/Role", "equals", "(Ljava/lang/Object;)Z"⟩ : MethodName)) hown100 (mvT hZ100 (w_47 hw)) (mvT hZ100 (w_48 hw)) (notFace_of_selects (args := #[]) (mvT hZ100 (w_50 hw))) (mvT hZ100 (w_50 hw)) (mvT hZ100 (w_49 hw)) (by decide) (backOf (W := 0) (rmEqR l Z a0 hw [] b99 b96 r_94 t_94 kb_94 cs_94 i2 r_93 t_93 kb_93 cs_93 i1 G1 T100.heap F139 O2 P5 F150 f100_1 f100_2 F140 F141 F146 F147 F148 F149 F142 F143 F144 F145 f94_2 f93_2 (own_len f94_1) (own_len f93_1)) hZ100 (w_51 hw) (w_32 hw) (by decide) (by decide)) q151a q151c (g := (mkF m 300 #[iv p0, iv p1, iv p2, iv p3, iv v_83, iv v_84, iv x0, iv x1, iv y0, iv y1, iv i1, iv i2, iv (((p3.toUInt32 >>> ((4 : Int32) &&& 31).toUInt32).toInt32) &&& 3), rv r_93, rv r_94, rv b96, rv b99, iv sm, iv ex] [(.ref b96), (.ref b99)])) rfl (by rw [hml]; rfl) (Steps.refl _) (argsL := [(.ref b96)]) (rest := []) (lenOf pd_7 rfl) rfl (by show 2 * 0 + _ ≤ _; exact Nat.le_of_eq rfl) (hb hby at_300) (fun _ _ => ⟨rfl, eh138, (by decide : 18 + 0 ≤ _), (by decide : 124 + 0 ≤ _)⟩)
      dsimp only [Pt.U, Pt.locs, Pt.cells, Pt.slots] at X151 l151 y151 z151 st151 hQ151
      subst l151 y151 z151
      obtain ⟨v_151, rfl, Nq151, eh151, f151_0⟩ := hQ151
      have N151 := Fr.app N138 Nq151
      have hg2 : v_151 = ex := (own_if01 f151_0 (own_rIff' f93_1 f94_1 sn1 sn2)).trans ((own_exp hr_sm).symm.trans hr_ex)
      refine Go.on (w := T151.setTop (mkF m 313 #[iv p0, iv p1, iv p2, iv p3, iv v_83, iv v_84, iv x0, iv x1, iv y0, iv y1, iv i1, iv i2, iv (((p3.toUInt32 >>> ((4 : Int32) &&& 31).toUInt32).toInt32) &&& 3), rv r_93, rv r_94, rv b96, rv b99, iv sm, iv ex] [(.int 1)])) (fun t k => XS.istore X100.here hx rfl (hb hby at_282) rfl (l' := #[iv p0, iv p1, iv p2, iv p3, iv v_83, iv v_84, iv x0, iv x1, iv y0, iv y1, iv i1, iv i2, iv (((p3.toUInt32 >>> ((4 : Int32) &&& 31).toUInt32).toInt32) &&& 3), rv r_93, rv r_94, rv b96, rv b99, iv sm, iv ex]) rfl (XS.aload X100.here hx rfl (hb hby at_284) rfl rfl (XS.aload X100.here hx rfl (hb hby at_286) rfl rfl (st138.trans (XS.iload X138.here hx rfl (hb hby at_291) rfl (XS.icmpNo X138.here hx rfl (hb hby at_293) rfl (teq hg1).2 (XS.aload X138.here hx rfl (hb hby at_296) rfl rfl (XS.aload X138.here hx rfl (hb hby at_298) rfl rfl (st151.trans (XS.iload X151.here hx rfl (hb hby at_303) rfl (XS.icmpNo X151.here hx rfl (hb hby at_305) rfl (teq hg2).2 (XS.iconst X151.here hx rfl (hb hby at_308) (XS.goto X151.here hx rfl (pc0 := 309) (pc' := 313) rfl (hb hby at_309) (by decide) (by decide) k))))))))))))) ?_
      have CE152 := CR100.trans (CHv.at X151 hZ100 hEL CR100.1)
      refine Go.fin X151 hS100 (by rw [eh151]; omega) hlk (v := some (.int 1)) (fun h => by rw [Bd.returns] at h; cases h) (fun fs hr => ?_) (endP (Q := Q_rm0 Z p0 p1 p2 p3 G1 h0) (by rw [eh151]; exact ⟨rfl, N151, KP100⟩) (by rw [eh151]; exact CE152) (by decide) (by decide))
      exact retN X151 hx (t := .boolean) Bd.returns (by simp) (hb hby at_313) hr
set_option maxRecDepth 65536 in
set_option maxHeartbeats 40000000 in
theorem comes_1 {Post : Tables → Env → Array Value → State → Outcome → State → Prop} (hpost : ∀ tb e args s v u, (limb_1_1.after args s (.returned v) u = true ∧ limb_1_2.after args s (.returned v) u = true ∧ True) → ReturnedEndW s (.returned v) u (Jvm.fieldLocs frame_1_writes args s ++ Jvm.arrayLocs frame_1_arrays args s ++ Jvm.staticLocs frame_1_statics s) 32 2176 → Post tb e args s (.returned v) u) :
    ArmFor flags0 classFile x code maxLocals ret World_1 tables_1 room_1 Calls_1 rest_1 Pre_1 Post := by
  intro l hfl _ _ p e ha hc hk s m args below hf hA hF happ hP
  obtain ⟨hcalls, hrest, hpre⟩ := hP
  obtain ⟨-, -, -, hnamed, -, -, -, hat⟩ := (Spec.applies_iff hf).mp happ
  obtain ⟨hg, hn⟩ := and_e (Cond.before_iff.mp (show (Jvm.Cond.and given_1 narrow_1).before args s = true from hpre))
  obtain ⟨gh0, gt0⟩ := and_e hg
  obtain ⟨gh1, gt1⟩ := and_e gt0
  obtain ⟨gh2, gt2⟩ := and_e gt1
  obtain ⟨gh3, gt3⟩ := and_e gt2
  obtain ⟨v0, v1, v2, v3, rfl⟩ : ∃ v0 v1 v2 v3 : Value, args = #[v0, v1, v2, v3] := by
    have hs : args.size = 4 := by simpa [Cond.value, given_1] using gh0
    obtain ⟨L⟩ := args
    match L, hs with
    | [v0, v1, v2, v3], _ => exact ⟨v0, v1, v2, v3, rfl⟩
  have hw := fun d (hd : d ∈ tables_1) => atoms_spec (ws := Jvm.Cond.code x code maxLocals ret :: tables_1) hat d (List.mem_cons_of_mem _ hd)
  have hfit : Fit s := fun {y c} hc i hi => by
    obtain ⟨ha, rfl⟩ := Array.getElem?_eq_some_iff.mp hc
    have q := List.all_eq_true.mp ((Array.all_eq_true_iff_forall_mem.mp hF) _ (Array.getElem_mem ha)) i (List.mem_range.mpr hi)
    simpa [Array.getElem?_eq_getElem hi] using q
  obtain ⟨i0, ei0⟩ := is_v gh1
  obtain rfl : v0 = (.int i0) := Option.some.inj ei0
  obtain ⟨i1, ei1⟩ := is_v gh2
  obtain rfl : v1 = (.int i1) := Option.some.inj ei1
  obtain ⟨i2, ei2⟩ := is_v gh3
  obtain rfl : v2 = (.int i2) := Option.some.inj ei2
  obtain ⟨i3, ei3⟩ := is_v gt3
  obtain rfl : v3 = (.int i3) := Option.some.inj ei3
  obtain ⟨hsets, hown0⟩ := atoms_of _ (rest_1_c_eq ▸ (show rest_1_c.before _ s = true from hrest))
  have n5 := not_v (Cond.before_iff.mp (hsets _ (List.mem_of_getElem? (i := 2) rfl)))
  obtain ⟨G1, e10⟩ := is_v (Cond.before_iff.mp (hsets _ (List.mem_of_getElem? (i := 1) rfl)))
  have O2 : Sta s s.heap "java/lang/String" "COMPACT_STRINGS" "Z" (.int G1) := Sta.start e10 (Or.inl (hsets _ (List.mem_of_getElem? (i := 0) rfl)))
  have P5 : ¬ (G1 = (0 : Int32)) := gotF (Cond.eq_ints e10 (Term.int_eval (0))) n5
  have hEL : EW s _ EL := (EW.cons (w_22 hw) (by decide) EW.nil)
  have hC : CHv s EL s.vm s.heap := CHv.start hEL (fun p hp => hcalls.1 p ((by decide : ∀ p ∈ EL, p ∈ consts_1) p hp)) (hsets _ (List.mem_of_getElem? (i := 2) rfl)) (w_23 hw) (w_9 hw)
  obtain ⟨n, o, h1, h2, h3, _, L, rfl, ⟨rfl, N, -⟩, -, hq⟩ := rm0 l s _ hw tables_1 i0 i1 i2 i3 G1 s.heap hEL (Nat.le_refl _) (Old.start s) O2 P5 p e ha hc hk s m _ below hf ((Spec.applies_iff_loose hf).mp happ).1 ⟨rfl, State.Warmed39.refl s, rfl, hC⟩ trivial
  refine ⟨n, _, h1, h2, h3, hpost _ _ _ _ _ _ ⟨Cond.after_iff.mpr rfl, Cond.after_iff.mpr (eq_i res_at (Term.int_eval (1)) rfl), trivial⟩ ⟨hq.1, hq.2.1, hq.2.2.1, (hq.2.2.2.sift fun y hy => Or.inr (N y hy)).mono (by decide) (by decide)⟩⟩
theorem main_1_1 : Claimed_1_1 := comes_1 fun _ _ _ _ _ _ h hF => ⟨h.1, hF⟩
theorem main_1_2 : Claimed_1_2 := comes_1 fun _ _ _ _ _ _ h hF => ⟨h.2.1, hF⟩
end Jvm.Pilot.@@N@@
namespace Jvm.Pilot.@@N@@
open Jvm Jvm.ClassFile Sem Op Lib Jvm.Free Jvm.Stand Jvm.Pilot.@@N@@.Jvm.D
/-! MADE BY PROGRAM (witnessworld.py) out of the Statement's table words and the real class files: 22 classes; the members and pool entries that the words name. The judged class is class 1, her method 2. -/
namespace start1
open Jvm.ClassFile
def u (s : String) : CpInfo := .utf8 (stringToUtf16 s)
/-- a pool by its gaps: so many unusable entries, then the entry; so many at the end -/
def gap : Nat → List CpInfo → List CpInfo
  | 0, r => r
  | n + 1, r => .unusable :: gap n r
def poolList (es : List (Nat × CpInfo)) (last : Nat) : List CpInfo := es.foldr (fun e r => gap e.1 (e.2 :: r)) (gap last [])
def pool (es : List (Nat × CpInfo)) (last : Nat) : Array CpInfo := ⟨poolList es last⟩
def fileOf (pool : Array CpInfo) (this : Nat) (attrs : Array Attribute := #[]) (ms : Array MethodInfo := #[]) (fl : Nat := 33) (sup : Nat := 0) (ifs : Array Nat := #[]) (fds : Array FieldInfo := #[]) : ClassFile where
  minorVersion := 0
  majorVersion := 65
  constantPool := pool
  accessFlags := fl
  thisClass := this
  superClass := sup
  interfaces := ifs
  fields := fds
  methods := ms
  attributes := attrs
def plain (name : String) (sup : Option ClassId) : Class where
  name := name
  kind := .ordinary
  loader := none
  accessFlags := 33
  super := sup
  interfaces := #[]
  cf := none
  fields := #[]
  methods := #[]
  instanceTypes := #[]
  staticTypes := #[]
  resolved := #[]
  callSites := []
  init := .initialized
  statics := none
  mirror := none

def pool0 : Array CpInfo := pool [(5, u "<init>"), (0, u "()V"), (1, .class_ 10), (1, u "java/lang/Object")] 113

def k0c0 : Code := { maxStack := 0, maxLocals := 1, code := object_method_1_code, exceptionTable := #[], attributes := #[] }
def k0m0 : Method := { name := "<init>", desc := "()V", sig := { parameters := [], returnType := none }, accessFlags := 1, code := some k0c0 }
/-- java/lang/Object -/
def k0 : Class := { plain "java/lang/Object" none with
  accessFlags := 33
  interfaces := #[]
  cf := some (fileOf pool0 8 #[] #[{ accessFlags := 1, nameIndex := 5, descriptorIndex := 6, attributes := #[] }] 33 0 #[] #[])
  fields := #[]
  methods := #[k0m0]
  instanceTypes := #[]
  staticTypes := #[]
  resolved := Array.replicate 124 none
  statics := none }

def pool1 : Array CpInfo := pool [(2, .class_ 4), (1, u "java/lang/Object"), (0, u "<init>"), (0, u "()V"), (0, .class_ 8), (0, u "java/lang/String"), (0, .methodref 7 10), (0, .nameAndType 5 11), (0, u "([C)V"), (0, .methodref 7 13), (0, .nameAndType 14 15), (0, u "valueOf"), (0, u "(C)Ljava/lang/String;"), (0, .methodref 17 18), (0, .class_ 19), (0, .nameAndType 20 21), (0, u "java/lang/Math"), (0, u "min"), (0, u "(II)I"), (0, .methodref 23 24), (0, .class_ 25), (0, .nameAndType 26 27), (0, u "com/example/treewidth/treewidth/ontology/RoleEqualsPinLaw"), (0, u "str"), (0, u "(ICC)Ljava/lang/String;"), (0, .class_ 29), (0, u "com/example/treewidth/treewidth/ontology/Role"), (0, .methodref 28 31), (0, .nameAndType 5 32), (0, u "(Ljava/lang/String;Z)V"), (0, .methodref 28 34), (0, .nameAndType 35 36), (0, u "equals"), (0, u "(Ljava/lang/Object;)Z"), (3, u "law"), (0, u "(IIII)Z")] 2

def k1m0 : Method := { name := "<init>", desc := "()V", sig := { parameters := [], returnType := none }, accessFlags := 1, code := none }
def k1c1 : Code := { maxStack := 6, maxLocals := 3, code := method_2_code, exceptionTable := #[], attributes := #[] }
def k1m1 : Method := { name := "str", desc := "(ICC)Ljava/lang/String;", sig := { parameters := [.int, .char, .char], returnType := some (.object "java/lang/String") }, accessFlags := 10, code := some k1c1 }
def k1c2 : Code := { maxStack := 4, maxLocals := 19, code := code, exceptionTable := #[], attributes := #[] }
def k1m2 : Method := { name := "law", desc := "(IIII)Z", sig := { parameters := [.int, .int, .int, .int], returnType := some .boolean }, accessFlags := 9, code := some k1c2 }
/-- com/example/treewidth/treewidth/ontology/RoleEqualsPinLaw -/
def k1 : Class := { plain "com/example/treewidth/treewidth/ontology/RoleEqualsPinLaw" (some 0) with
  accessFlags := 49
  interfaces := #[]
  cf := some (fileOf pool1 23 #[] #[{ accessFlags := 1, nameIndex := 5, descriptorIndex := 6, attributes := #[] }, { accessFlags := 10, nameIndex := 26, descriptorIndex := 27, attributes := #[] }, { accessFlags := 9, nameIndex := 40, descriptorIndex := 41, attributes := #[] }] 49 2 #[] #[])
  fields := #[]
  methods := #[k1m0, k1m1, k1m2]
  instanceTypes := #[]
  staticTypes := #[]
  resolved := Array.replicate 44 none
  statics := none }

def pool2 : Array CpInfo := pool [(1, .class_ 2), (0, u "java/lang/Math"), (1, .class_ 6), (1, u "java/lang/Object"), (0, u "<init>"), (0, u "()V"), (89, .class_ 100), (1, u "java/lang/Math$RandomNumberGeneratorHolder"), (71, u "negativeZeroFloatBits"), (0, u "J"), (2, u "negativeZeroDoubleBits"), (24, u "min"), (43, u "$assertionsDisabled"), (0, u "Z"), (88, u "(II)I"), (2, u "twoToTheDoubleScaleDown"), (0, u "D"), (4, u "twoToTheDoubleScaleUp"), (9, u "E"), (3, u "PI"), (2, u "TAU"), (2, u "DEGREES_TO_RADIANS"), (0, u "RADIANS_TO_DEGREES")] 94

def k2m0 : Method := { name := "<init>", desc := "()V", sig := { parameters := [], returnType := none }, accessFlags := 2, code := none }
def k2c1 : Code := { maxStack := 2, maxLocals := 2, code := jdk_29_method_69_code, exceptionTable := #[], attributes := #[] }
def k2m1 : Method := { name := "min", desc := "(II)I", sig := { parameters := [.int, .int], returnType := some .int }, accessFlags := 9, code := some k2c1 }
/-- java/lang/Math -/
def k2 : Class := { plain "java/lang/Math" (some 0) with
  accessFlags := 49
  interfaces := #[]
  cf := some (fileOf pool2 1 #[.nestMembers #[98]] #[{ accessFlags := 2, nameIndex := 7, descriptorIndex := 8, attributes := #[] }, { accessFlags := 9, nameIndex := 201, descriptorIndex := 335, attributes := #[] }] 49 4 #[] #[{ accessFlags := 25, nameIndex := 354, descriptorIndex := 339, attributes := #[] }, { accessFlags := 25, nameIndex := 358, descriptorIndex := 339, attributes := #[] }, { accessFlags := 25, nameIndex := 361, descriptorIndex := 339, attributes := #[] }, { accessFlags := 26, nameIndex := 364, descriptorIndex := 339, attributes := #[] }, { accessFlags := 26, nameIndex := 365, descriptorIndex := 339, attributes := #[] }, { accessFlags := 26, nameIndex := 172, descriptorIndex := 173, attributes := #[] }, { accessFlags := 26, nameIndex := 176, descriptorIndex := 173, attributes := #[] }, { accessFlags := 8, nameIndex := 344, descriptorIndex := 339, attributes := #[] }, { accessFlags := 8, nameIndex := 338, descriptorIndex := 339, attributes := #[] }, { accessFlags := 4120, nameIndex := 245, descriptorIndex := 246, attributes := #[] }])
  fields := #[{ name := "E", type := .double, accessFlags := 25, slot := 0, constantValue := 0 }, { name := "PI", type := .double, accessFlags := 25, slot := 1, constantValue := 0 }, { name := "TAU", type := .double, accessFlags := 25, slot := 2, constantValue := 0 }, { name := "DEGREES_TO_RADIANS", type := .double, accessFlags := 26, slot := 3, constantValue := 0 }, { name := "RADIANS_TO_DEGREES", type := .double, accessFlags := 26, slot := 4, constantValue := 0 }, { name := "negativeZeroFloatBits", type := .long, accessFlags := 26, slot := 5, constantValue := 0 }, { name := "negativeZeroDoubleBits", type := .long, accessFlags := 26, slot := 6, constantValue := 0 }, { name := "twoToTheDoubleScaleUp", type := .double, accessFlags := 8, slot := 7, constantValue := 0 }, { name := "twoToTheDoubleScaleDown", type := .double, accessFlags := 8, slot := 8, constantValue := 0 }, { name := "$assertionsDisabled", type := .boolean, accessFlags := 4120, slot := 9, constantValue := 0 }]
  methods := #[k2m0, k2m1]
  instanceTypes := #[]
  staticTypes := #[.double, .double, .double, .double, .double, .long, .long, .double, .double, .boolean]
  resolved := Array.replicate 460 none
  statics := none }

def pool3 : Array CpInfo := pool [(1, .class_ 2), (0, u "java/io/Serializable"), (0, .class_ 4), (0, u "java/lang/Object")] 2

/-- java/io/Serializable -/
def k3 : Class := { plain "java/io/Serializable" (some 0) with
  accessFlags := 1537
  interfaces := #[]
  cf := some (fileOf pool3 1 #[] #[] 1537 3 #[] #[])
  fields := #[]
  methods := #[]
  instanceTypes := #[]
  staticTypes := #[]
  resolved := Array.replicate 7 none
  statics := none }

def pool4 : Array CpInfo := pool [(1, .class_ 2), (0, u "java/lang/Comparable"), (0, .class_ 4), (0, u "java/lang/Object")] 7

/-- java/lang/Comparable -/
def k4 : Class := { plain "java/lang/Comparable" (some 0) with
  accessFlags := 1537
  interfaces := #[]
  cf := some (fileOf pool4 1 #[] #[] 1537 3 #[] #[])
  fields := #[]
  methods := #[]
  instanceTypes := #[]
  staticTypes := #[]
  resolved := Array.replicate 12 none
  statics := none }

def pool5 : Array CpInfo := pool [(2, .class_ 4), (1, u "java/lang/CharSequence"), (42, .class_ 48), (0, u "java/lang/CharSequence$1CodePointIterator"), (10, .class_ 60), (0, u "java/lang/CharSequence$1CharIterator"), (5, .class_ 67), (0, u "java/lang/Object")] 63

/-- java/lang/CharSequence -/
def k5 : Class := { plain "java/lang/CharSequence" (some 0) with
  accessFlags := 1537
  interfaces := #[]
  cf := some (fileOf pool5 2 #[.nestMembers #[47, 59]] #[] 1537 66 #[] #[])
  fields := #[]
  methods := #[]
  instanceTypes := #[]
  staticTypes := #[]
  resolved := Array.replicate 131 none
  statics := none }

def pool6 : Array CpInfo := pool [(1, .class_ 2), (0, u "java/lang/constant/Constable"), (0, .class_ 4), (0, u "java/lang/Object")] 6

/-- java/lang/constant/Constable -/
def k6 : Class := { plain "java/lang/constant/Constable" (some 0) with
  accessFlags := 1537
  interfaces := #[]
  cf := some (fileOf pool6 1 #[] #[] 1537 3 #[] #[])
  fields := #[]
  methods := #[]
  instanceTypes := #[]
  staticTypes := #[]
  resolved := Array.replicate 11 none
  statics := none }

def pool7 : Array CpInfo := pool [(1, .class_ 2), (0, u "java/lang/constant/ConstantDesc"), (0, .class_ 4), (0, u "java/lang/Object")] 32

/-- java/lang/constant/ConstantDesc -/
def k7 : Class := { plain "java/lang/constant/ConstantDesc" (some 0) with
  accessFlags := 1537
  interfaces := #[]
  cf := some (fileOf pool7 1 #[] #[] 1537 3 #[] #[])
  fields := #[]
  methods := #[]
  instanceTypes := #[]
  staticTypes := #[]
  resolved := Array.replicate 37 none
  statics := none }

def pool8 : Array CpInfo := pool [(1, .methodref 2 3), (0, .class_ 4), (0, .nameAndType 5 6), (0, u "java/lang/Object"), (0, u "<init>"), (0, u "()V"), (0, .string 8), (0, u ""), (0, .fieldref 10 11), (0, .class_ 12), (0, .nameAndType 13 14), (0, u "java/lang/String"), (0, u "value"), (0, u "[B"), (0, .fieldref 10 16), (0, .nameAndType 17 18), (0, u "coder"), (0, u "B"), (2, u "hash"), (0, u "I"), (2, u "hashIsZero"), (0, u "Z"), (0, .methodref 10 28), (0, .nameAndType 5 29), (0, u "([CIILjava/lang/Void;)V"), (8, .fieldref 10 39), (0, .nameAndType 40 26), (0, u "COMPACT_STRINGS"), (1, .class_ 44), (1, u "java/lang/StringUTF16"), (0, u "compress"), (1, .methodref 42 48), (0, .nameAndType 49 50), (0, u "coderFromArrayLen"), (0, u "([BI)B"), (2, u "toBytes"), (53, .class_ 109), (1, u "java/lang/StringLatin1"), (67, .methodref 42 178), (0, .nameAndType 45 179), (0, u "([CII)[B"), (29, .methodref 10 210), (0, .nameAndType 5 211), (0, u "([BB)V"), (157, u "(C)Z"), (171, .methodref 107 542), (0, .nameAndType 543 544), (0, u "equals"), (0, u "([B[B)Z"), (28, u "(Ljava/lang/Object;)Z"), (1, .class_ 576), (0, u "java/lang/CharSequence"), (22, u "CASE_INSENSITIVE_ORDER"), (0, u "Ljava/util/Comparator;"), (181, u "valueOf"), (0, u "(C)Ljava/lang/String;"), (226, u "([C)V"), (4, .methodref 107 1016), (0, .nameAndType 1017 369), (0, u "canEncode"), (0, .methodref 107 1019), (0, .nameAndType 53 1020), (0, u "(C)[B"), (80, u "serialPersistentFields"), (0, u "[Ljava/io/ObjectStreamField;"), (0, .class_ 1104), (0, u "java/lang/String$CaseInsensitiveComparator"), (1, .class_ 1107), (0, u "java/io/Serializable"), (0, .class_ 1109), (0, u "java/lang/Comparable"), (0, .class_ 1111), (0, u "java/lang/constant/Constable"), (0, .class_ 1113), (0, u "java/lang/constant/ConstantDesc"), (2, u "serialVersionUID"), (0, u "J"), (3, u "REPL"), (0, u "C"), (2, u "LATIN1"), (1, u "UTF16")] 323

def k8m0 : Method := { name := "<init>", desc := "()V", sig := { parameters := [], returnType := none }, accessFlags := 1, code := none }
def k8c1 : Code := { maxStack := 5, maxLocals := 2, code := jdk_42_method_3_code, exceptionTable := #[], attributes := #[] }
def k8m1 : Method := { name := "<init>", desc := "([C)V", sig := { parameters := [(.array .char)], returnType := none }, accessFlags := 1, code := some k8c1 }
def k8c2 : Code := { maxStack := 2, maxLocals := 3, code := jdk_42_method_66_code, exceptionTable := #[], attributes := #[] }
def k8m2 : Method := { name := "equals", desc := "(Ljava/lang/Object;)Z", sig := { parameters := [(.object "java/lang/Object")], returnType := some .boolean }, accessFlags := 1, code := some k8c2 }
def k8c3 : Code := { maxStack := 4, maxLocals := 1, code := jdk_42_method_139_code, exceptionTable := #[], attributes := #[] }
def k8m3 : Method := { name := "valueOf", desc := "(C)Ljava/lang/String;", sig := { parameters := [.char], returnType := some (.object "java/lang/String") }, accessFlags := 9, code := some k8c3 }
def k8c4 : Code := { maxStack := 4, maxLocals := 6, code := jdk_42_method_149_code, exceptionTable := #[], attributes := #[] }
def k8m4 : Method := { name := "<init>", desc := "([CIILjava/lang/Void;)V", sig := { parameters := [(.array .char), .int, .int, (.object "java/lang/Void")], returnType := none }, accessFlags := 2, code := some k8c4 }
def k8c5 : Code := { maxStack := 2, maxLocals := 3, code := jdk_42_method_151_code, exceptionTable := #[], attributes := #[] }
def k8m5 : Method := { name := "<init>", desc := "([BB)V", sig := { parameters := [(.array .byte), .byte], returnType := none }, accessFlags := 0, code := some k8c5 }
/-- java/lang/String -/
def k8 : Class := { plain "java/lang/String" (some 0) with
  accessFlags := 49
  interfaces := #[3, 4, 5, 6, 7]
  cf := some (fileOf pool8 10 #[.nestMembers #[1103]] #[{ accessFlags := 1, nameIndex := 5, descriptorIndex := 6, attributes := #[] }, { accessFlags := 1, nameIndex := 5, descriptorIndex := 1010, attributes := #[] }, { accessFlags := 1, nameIndex := 543, descriptorIndex := 573, attributes := #[] }, { accessFlags := 9, nameIndex := 782, descriptorIndex := 783, attributes := #[] }, { accessFlags := 2, nameIndex := 5, descriptorIndex := 29, attributes := #[] }, { accessFlags := 0, nameIndex := 5, descriptorIndex := 211, attributes := #[] }] 49 2 #[1106, 1108, 575, 1110, 1112] #[{ accessFlags := 18, nameIndex := 13, descriptorIndex := 14, attributes := #[] }, { accessFlags := 18, nameIndex := 17, descriptorIndex := 18, attributes := #[] }, { accessFlags := 2, nameIndex := 21, descriptorIndex := 22, attributes := #[] }, { accessFlags := 2, nameIndex := 25, descriptorIndex := 26, attributes := #[] }, { accessFlags := 26, nameIndex := 1116, descriptorIndex := 1117, attributes := #[] }, { accessFlags := 24, nameIndex := 40, descriptorIndex := 26, attributes := #[] }, { accessFlags := 26, nameIndex := 1101, descriptorIndex := 1102, attributes := #[] }, { accessFlags := 26, nameIndex := 1121, descriptorIndex := 1122, attributes := #[] }, { accessFlags := 25, nameIndex := 599, descriptorIndex := 600, attributes := #[] }, { accessFlags := 24, nameIndex := 1125, descriptorIndex := 18, attributes := #[] }, { accessFlags := 24, nameIndex := 1127, descriptorIndex := 18, attributes := #[] }])
  fields := #[{ name := "value", type := (.array .byte), accessFlags := 18, slot := 0, constantValue := 0 }, { name := "coder", type := .byte, accessFlags := 18, slot := 1, constantValue := 0 }, { name := "hash", type := .int, accessFlags := 2, slot := 2, constantValue := 0 }, { name := "hashIsZero", type := .boolean, accessFlags := 2, slot := 3, constantValue := 0 }, { name := "serialVersionUID", type := .long, accessFlags := 26, slot := 0, constantValue := 0 }, { name := "COMPACT_STRINGS", type := .boolean, accessFlags := 24, slot := 1, constantValue := 0 }, { name := "serialPersistentFields", type := (.array (.object "java/io/ObjectStreamField")), accessFlags := 26, slot := 2, constantValue := 0 }, { name := "REPL", type := .char, accessFlags := 26, slot := 3, constantValue := 0 }, { name := "CASE_INSENSITIVE_ORDER", type := (.object "java/util/Comparator"), accessFlags := 25, slot := 4, constantValue := 0 }, { name := "LATIN1", type := .byte, accessFlags := 24, slot := 5, constantValue := 0 }, { name := "UTF16", type := .byte, accessFlags := 24, slot := 6, constantValue := 0 }]
  methods := #[k8m0, k8m1, k8m2, k8m3, k8m4, k8m5]
  instanceTypes := #[(.array .byte), .byte, .int, .boolean]
  staticTypes := #[.long, .boolean, (.array (.object "java/io/ObjectStreamField")), .char, (.object "java/util/Comparator"), .byte, .byte]
  resolved := Array.replicate 1451 none
  statics := some 0 }

def pool9 : Array CpInfo := pool [(1, .methodref 2 3), (0, .class_ 4), (0, .nameAndType 5 6), (0, u "java/lang/Object"), (0, u "<init>"), (0, u "()V"), (0, .string 8), (0, u "propertyIri"), (0, .methodref 10 11), (0, .class_ 12), (0, .nameAndType 13 14), (0, u "java/util/Objects"), (0, u "requireNonNull"), (0, u "(Ljava/lang/Object;Ljava/lang/String;)Ljava/lang/Object;"), (0, .class_ 16), (0, u "java/lang/String"), (0, .fieldref 18 19), (0, .class_ 20), (0, .nameAndType 21 22), (0, u "com/example/treewidth/treewidth/ontology/Role"), (0, u "property"), (0, u "Ljava/lang/String;"), (0, .fieldref 18 24), (0, .nameAndType 25 26), (0, u "inverse"), (0, u "Z"), (2, u "(Ljava/lang/String;Z)V"), (0, .methodref 15 31), (0, .nameAndType 32 33), (0, u "equals"), (0, u "(Ljava/lang/Object;)Z")] 36

def k9c0 : Code := { maxStack := 3, maxLocals := 3, code := prog_10_method_1_code, exceptionTable := #[], attributes := #[] }
def k9m0 : Method := { name := "<init>", desc := "(Ljava/lang/String;Z)V", sig := { parameters := [(.object "java/lang/String"), .boolean], returnType := none }, accessFlags := 1, code := some k9c0 }
def k9c1 : Code := { maxStack := 2, maxLocals := 3, code := prog_10_method_5_code, exceptionTable := #[], attributes := #[] }
def k9m1 : Method := { name := "equals", desc := "(Ljava/lang/Object;)Z", sig := { parameters := [(.object "java/lang/Object")], returnType := some .boolean }, accessFlags := 1, code := some k9c1 }
/-- com/example/treewidth/treewidth/ontology/Role -/
def k9 : Class := { plain "com/example/treewidth/treewidth/ontology/Role" (some 0) with
  accessFlags := 49
  interfaces := #[]
  cf := some (fileOf pool9 18 #[] #[{ accessFlags := 1, nameIndex := 5, descriptorIndex := 29, attributes := #[] }, { accessFlags := 1, nameIndex := 32, descriptorIndex := 33, attributes := #[] }] 49 2 #[] #[{ accessFlags := 18, nameIndex := 21, descriptorIndex := 22, attributes := #[] }, { accessFlags := 18, nameIndex := 25, descriptorIndex := 26, attributes := #[] }])
  fields := #[{ name := "property", type := (.object "java/lang/String"), accessFlags := 18, slot := 0, constantValue := 0 }, { name := "inverse", type := .boolean, accessFlags := 18, slot := 1, constantValue := 0 }]
  methods := #[k9m0, k9m1]
  instanceTypes := #[(.object "java/lang/String"), .boolean]
  staticTypes := #[]
  resolved := Array.replicate 70 none
  statics := none }

def pool10 : Array CpInfo := pool [(2, .class_ 4), (1, u "java/lang/Object"), (0, u "<init>"), (0, u "()V"), (35, .class_ 44), (1, u "java/util/Objects"), (0, u "requireNonNull"), (48, u "(Ljava/lang/Object;Ljava/lang/String;)Ljava/lang/Object;")] 89

def k10m0 : Method := { name := "<init>", desc := "()V", sig := { parameters := [], returnType := none }, accessFlags := 2, code := none }
def k10c1 : Code := { maxStack := 3, maxLocals := 2, code := jdk_31_method_11_code, exceptionTable := #[], attributes := #[] }
def k10m1 : Method := { name := "requireNonNull", desc := "(Ljava/lang/Object;Ljava/lang/String;)Ljava/lang/Object;", sig := { parameters := [(.object "java/lang/Object"), (.object "java/lang/String")], returnType := some (.object "java/lang/Object") }, accessFlags := 9, code := some k10c1 }
/-- java/util/Objects -/
def k10 : Class := { plain "java/util/Objects" (some 0) with
  accessFlags := 49
  interfaces := #[]
  cf := some (fileOf pool10 42 #[] #[{ accessFlags := 2, nameIndex := 5, descriptorIndex := 6, attributes := #[] }, { accessFlags := 9, nameIndex := 45, descriptorIndex := 94, attributes := #[] }] 49 2 #[] #[])
  fields := #[]
  methods := #[k10m0, k10m1]
  instanceTypes := #[]
  staticTypes := #[]
  resolved := Array.replicate 184 none
  statics := none }

def pool11 : Array CpInfo := pool [(4, .class_ 6), (1, u "java/lang/Object"), (0, u "<init>"), (0, u "()V"), (5, .class_ 16), (1, u "java/lang/StringLatin1"), (73, u "canEncode"), (14, u "(C)Z"), (15, u "$assertionsDisabled"), (0, u "Z"), (98, .class_ 223), (1, u "java/lang/StringLatin1$LinesSpliterator"), (57, u "equals"), (0, u "([B[B)Z"), (97, u "toBytes"), (1, u "(C)[B"), (7, .class_ 391), (0, u "java/lang/StringLatin1$CharsSpliterator")] 3

def k11m0 : Method := { name := "<init>", desc := "()V", sig := { parameters := [], returnType := none }, accessFlags := 0, code := none }
def k11c1 : Code := { maxStack := 2, maxLocals := 1, code := jdk_43_method_3_code, exceptionTable := #[], attributes := #[] }
def k11m1 : Method := { name := "canEncode", desc := "(C)Z", sig := { parameters := [.char], returnType := some .boolean }, accessFlags := 9, code := some k11c1 }
def k11c2 : Code := { maxStack := 3, maxLocals := 3, code := jdk_43_method_13_code, exceptionTable := #[], attributes := #[] }
def k11m2 : Method := { name := "equals", desc := "([B[B)Z", sig := { parameters := [(.array .byte), (.array .byte)], returnType := some .boolean }, accessFlags := 9, code := some k11c2 }
def k11c3 : Code := { maxStack := 4, maxLocals := 1, code := jdk_43_method_46_code, exceptionTable := #[], attributes := #[] }
def k11m3 : Method := { name := "toBytes", desc := "(C)[B", sig := { parameters := [.char], returnType := some (.array .byte) }, accessFlags := 9, code := some k11c3 }
/-- java/lang/StringLatin1 -/
def k11 : Class := { plain "java/lang/StringLatin1" (some 0) with
  accessFlags := 48
  interfaces := #[]
  cf := some (fileOf pool11 14 #[.nestMembers #[390, 221]] #[{ accessFlags := 0, nameIndex := 7, descriptorIndex := 8, attributes := #[] }, { accessFlags := 9, nameIndex := 90, descriptorIndex := 105, attributes := #[] }, { accessFlags := 9, nameIndex := 281, descriptorIndex := 282, attributes := #[] }, { accessFlags := 9, nameIndex := 380, descriptorIndex := 382, attributes := #[] }] 48 4 #[] #[{ accessFlags := 4120, nameIndex := 121, descriptorIndex := 122, attributes := #[] }])
  fields := #[{ name := "$assertionsDisabled", type := .boolean, accessFlags := 4120, slot := 0, constantValue := 0 }]
  methods := #[k11m0, k11m1, k11m2, k11m3]
  instanceTypes := #[]
  staticTypes := #[.boolean]
  resolved := Array.replicate 395 none
  statics := none }

def pool12 : Array CpInfo := pool [(6, .class_ 8), (1, u "java/lang/Object"), (0, u "<init>"), (0, u "()V"), (1, .class_ 14), (1, u "java/lang/StringUTF16"), (31, u "$assertionsDisabled"), (0, u "Z"), (13, u "HI_BYTE_SHIFT"), (0, u "I"), (2, u "LO_BYTE_SHIFT"), (49, .methodref 12 116), (0, .nameAndType 117 118), (0, u "compress"), (0, u "([CI[BII)I"), (3, u "([CII)[B"), (138, u "coderFromArrayLen"), (0, u "([BI)B"), (106, .class_ 371), (1, u "java/lang/StringUTF16$LinesSpliterator"), (58, u "MAX_LENGTH"), (196, .class_ 628), (0, u "java/lang/StringUTF16$CodePointsSpliterator"), (0, .class_ 630), (0, u "java/lang/StringUTF16$CharsSpliterator")] 4

def k12m0 : Method := { name := "<init>", desc := "()V", sig := { parameters := [], returnType := none }, accessFlags := 0, code := none }
def k12c1 : Code := { maxStack := 2, maxLocals := 2, code := jdk_52_method_15_code, exceptionTable := #[], attributes := #[] }
def k12m1 : Method := { name := "coderFromArrayLen", desc := "([BI)B", sig := { parameters := [(.array .byte), .int], returnType := some .byte }, accessFlags := 8, code := some k12c1 }
def k12c2 : Code := { maxStack := 5, maxLocals := 6, code := jdk_52_method_16_code, exceptionTable := #[], attributes := #[] }
def k12m2 : Method := { name := "compress", desc := "([CII)[B", sig := { parameters := [(.array .char), .int, .int], returnType := some (.array .byte) }, accessFlags := 9, code := some k12c2 }
def k12c3 : Code := { maxStack := 3, maxLocals := 7, code := jdk_52_method_21_code, exceptionTable := #[], attributes := #[] }
def k12m3 : Method := { name := "compress", desc := "([CI[BII)I", sig := { parameters := [(.array .char), .int, (.array .byte), .int, .int], returnType := some .int }, accessFlags := 9, code := some k12c3 }
/-- java/lang/StringUTF16 -/
def k12 : Class := { plain "java/lang/StringUTF16" (some 0) with
  accessFlags := 48
  interfaces := #[]
  cf := some (fileOf pool12 12 #[.nestMembers #[627, 629, 369]] #[{ accessFlags := 0, nameIndex := 9, descriptorIndex := 10, attributes := #[] }, { accessFlags := 8, nameIndex := 261, descriptorIndex := 262, attributes := #[] }, { accessFlags := 9, nameIndex := 117, descriptorIndex := 122, attributes := #[] }, { accessFlags := 9, nameIndex := 117, descriptorIndex := 118, attributes := #[] }] 48 6 #[] #[{ accessFlags := 26, nameIndex := 61, descriptorIndex := 62, attributes := #[] }, { accessFlags := 26, nameIndex := 65, descriptorIndex := 62, attributes := #[] }, { accessFlags := 24, nameIndex := 430, descriptorIndex := 62, attributes := #[] }, { accessFlags := 4120, nameIndex := 46, descriptorIndex := 47, attributes := #[] }])
  fields := #[{ name := "HI_BYTE_SHIFT", type := .int, accessFlags := 26, slot := 0, constantValue := 0 }, { name := "LO_BYTE_SHIFT", type := .int, accessFlags := 26, slot := 1, constantValue := 0 }, { name := "MAX_LENGTH", type := .int, accessFlags := 24, slot := 2, constantValue := 0 }, { name := "$assertionsDisabled", type := .boolean, accessFlags := 4120, slot := 3, constantValue := 0 }]
  methods := #[k12m0, k12m1, k12m2, k12m3]
  instanceTypes := #[]
  staticTypes := #[.int, .int, .int, .boolean]
  resolved := Array.replicate 635 none
  statics := none }

def pool13 : Array CpInfo := pool [(2, .class_ 4), (1, u "java/lang/Object"), (0, u "<init>"), (0, u "()V"), (17, .class_ 26), (1, u "jdk/internal/util/Preconditions"), (28, .class_ 56), (0, u "jdk/internal/util/Preconditions$4"), (57, .class_ 115), (0, u "jdk/internal/util/Preconditions$1"), (7, u "SIOOBE_FORMATTER"), (0, u "Ljava/util/function/BiFunction;"), (0, .class_ 126), (0, u "jdk/internal/util/Preconditions$2"), (3, u "AIOOBE_FORMATTER"), (0, .class_ 132), (0, u "jdk/internal/util/Preconditions$3"), (3, u "IOOBE_FORMATTER")] 57

def k13m0 : Method := { name := "<init>", desc := "()V", sig := { parameters := [], returnType := none }, accessFlags := 1, code := none }
/-- jdk/internal/util/Preconditions -/
def k13 : Class := { plain "jdk/internal/util/Preconditions" (some 0) with
  accessFlags := 33
  interfaces := #[]
  cf := some (fileOf pool13 24 #[.nestMembers #[55, 131, 125, 114]] #[{ accessFlags := 1, nameIndex := 5, descriptorIndex := 6, attributes := #[] }] 33 2 #[] #[{ accessFlags := 25, nameIndex := 123, descriptorIndex := 124, attributes := #[] }, { accessFlags := 25, nameIndex := 130, descriptorIndex := 124, attributes := #[] }, { accessFlags := 25, nameIndex := 136, descriptorIndex := 124, attributes := #[] }])
  fields := #[{ name := "SIOOBE_FORMATTER", type := (.object "java/util/function/BiFunction"), accessFlags := 25, slot := 0, constantValue := 0 }, { name := "AIOOBE_FORMATTER", type := (.object "java/util/function/BiFunction"), accessFlags := 25, slot := 1, constantValue := 0 }, { name := "IOOBE_FORMATTER", type := (.object "java/util/function/BiFunction"), accessFlags := 25, slot := 2, constantValue := 0 }]
  methods := #[k13m0]
  instanceTypes := #[]
  staticTypes := #[(.object "java/util/function/BiFunction"), (.object "java/util/function/BiFunction"), (.object "java/util/function/BiFunction")]
  resolved := Array.replicate 194 none
  statics := some 1 }

def pool14 : Array CpInfo := pool [(9, u "<init>"), (6, .class_ 18), (1, u "java/lang/Object"), (0, u "()V"), (1, .class_ 23), (1, u "jdk/internal/util/ArraysSupport"), (0, u "LOG2_ARRAY_LONG_INDEX_SCALE"), (0, u "I"), (2, u "U"), (0, u "Ljdk/internal/misc/Unsafe;"), (8, u "BIG_ENDIAN"), (0, u "Z"), (8, u "LOG2_BYTE_BIT_SIZE"), (4, u "LOG2_ARRAY_INT_INDEX_SCALE"), (54, u "JLA"), (0, u "Ljdk/internal/access/JavaLangAccess;"), (11, u "LOG2_ARRAY_BOOLEAN_INDEX_SCALE"), (9, u "LOG2_ARRAY_BYTE_INDEX_SCALE"), (5, u "LOG2_ARRAY_CHAR_INDEX_SCALE"), (5, u "LOG2_ARRAY_SHORT_INDEX_SCALE"), (18, u "LOG2_ARRAY_FLOAT_INDEX_SCALE"), (24, u "LOG2_ARRAY_DOUBLE_INDEX_SCALE"), (89, u "T_BOOLEAN"), (2, u "T_CHAR"), (1, u "T_FLOAT"), (1, u "T_DOUBLE"), (1, u "T_BYTE"), (1, u "T_SHORT"), (1, u "T_INT"), (1, u "T_LONG"), (1, u "SOFT_MAX_ARRAY_LENGTH")] 83

def k14m0 : Method := { name := "<init>", desc := "()V", sig := { parameters := [], returnType := none }, accessFlags := 2, code := none }
/-- jdk/internal/util/ArraysSupport -/
def k14 : Class := { plain "jdk/internal/util/ArraysSupport" (some 0) with
  accessFlags := 33
  interfaces := #[]
  cf := some (fileOf pool14 21 #[] #[{ accessFlags := 2, nameIndex := 9, descriptorIndex := 19, attributes := #[] }] 33 16 #[] #[{ accessFlags := 24, nameIndex := 28, descriptorIndex := 29, attributes := #[] }, { accessFlags := 26, nameIndex := 38, descriptorIndex := 39, attributes := #[] }, { accessFlags := 25, nameIndex := 121, descriptorIndex := 25, attributes := #[] }, { accessFlags := 25, nameIndex := 131, descriptorIndex := 25, attributes := #[] }, { accessFlags := 25, nameIndex := 137, descriptorIndex := 25, attributes := #[] }, { accessFlags := 25, nameIndex := 143, descriptorIndex := 25, attributes := #[] }, { accessFlags := 25, nameIndex := 53, descriptorIndex := 25, attributes := #[] }, { accessFlags := 25, nameIndex := 24, descriptorIndex := 25, attributes := #[] }, { accessFlags := 25, nameIndex := 162, descriptorIndex := 25, attributes := #[] }, { accessFlags := 25, nameIndex := 187, descriptorIndex := 25, attributes := #[] }, { accessFlags := 26, nameIndex := 48, descriptorIndex := 25, attributes := #[] }, { accessFlags := 25, nameIndex := 277, descriptorIndex := 25, attributes := #[] }, { accessFlags := 25, nameIndex := 280, descriptorIndex := 25, attributes := #[] }, { accessFlags := 25, nameIndex := 282, descriptorIndex := 25, attributes := #[] }, { accessFlags := 25, nameIndex := 284, descriptorIndex := 25, attributes := #[] }, { accessFlags := 25, nameIndex := 286, descriptorIndex := 25, attributes := #[] }, { accessFlags := 25, nameIndex := 288, descriptorIndex := 25, attributes := #[] }, { accessFlags := 25, nameIndex := 290, descriptorIndex := 25, attributes := #[] }, { accessFlags := 25, nameIndex := 292, descriptorIndex := 25, attributes := #[] }, { accessFlags := 26, nameIndex := 108, descriptorIndex := 109, attributes := #[] }, { accessFlags := 25, nameIndex := 294, descriptorIndex := 25, attributes := #[] }])
  fields := #[{ name := "U", type := (.object "jdk/internal/misc/Unsafe"), accessFlags := 24, slot := 0, constantValue := 0 }, { name := "BIG_ENDIAN", type := .boolean, accessFlags := 26, slot := 1, constantValue := 0 }, { name := "LOG2_ARRAY_BOOLEAN_INDEX_SCALE", type := .int, accessFlags := 25, slot := 2, constantValue := 0 }, { name := "LOG2_ARRAY_BYTE_INDEX_SCALE", type := .int, accessFlags := 25, slot := 3, constantValue := 0 }, { name := "LOG2_ARRAY_CHAR_INDEX_SCALE", type := .int, accessFlags := 25, slot := 4, constantValue := 0 }, { name := "LOG2_ARRAY_SHORT_INDEX_SCALE", type := .int, accessFlags := 25, slot := 5, constantValue := 0 }, { name := "LOG2_ARRAY_INT_INDEX_SCALE", type := .int, accessFlags := 25, slot := 6, constantValue := 0 }, { name := "LOG2_ARRAY_LONG_INDEX_SCALE", type := .int, accessFlags := 25, slot := 7, constantValue := 0 }, { name := "LOG2_ARRAY_FLOAT_INDEX_SCALE", type := .int, accessFlags := 25, slot := 8, constantValue := 0 }, { name := "LOG2_ARRAY_DOUBLE_INDEX_SCALE", type := .int, accessFlags := 25, slot := 9, constantValue := 0 }, { name := "LOG2_BYTE_BIT_SIZE", type := .int, accessFlags := 26, slot := 10, constantValue := 0 }, { name := "T_BOOLEAN", type := .int, accessFlags := 25, slot := 11, constantValue := 0 }, { name := "T_CHAR", type := .int, accessFlags := 25, slot := 12, constantValue := 0 }, { name := "T_FLOAT", type := .int, accessFlags := 25, slot := 13, constantValue := 0 }, { name := "T_DOUBLE", type := .int, accessFlags := 25, slot := 14, constantValue := 0 }, { name := "T_BYTE", type := .int, accessFlags := 25, slot := 15, constantValue := 0 }, { name := "T_SHORT", type := .int, accessFlags := 25, slot := 16, constantValue := 0 }, { name := "T_INT", type := .int, accessFlags := 25, slot := 17, constantValue := 0 }, { name := "T_LONG", type := .int, accessFlags := 25, slot := 18, constantValue := 0 }, { name := "JLA", type := (.object "jdk/internal/access/JavaLangAccess"), accessFlags := 26, slot := 19, constantValue := 0 }, { name := "SOFT_MAX_ARRAY_LENGTH", type := .int, accessFlags := 25, slot := 20, constantValue := 0 }]
  methods := #[k14m0]
  instanceTypes := #[]
  staticTypes := #[(.object "jdk/internal/misc/Unsafe"), .boolean, .int, .int, .int, .int, .int, .int, .int, .int, .int, .int, .int, .int, .int, .int, .int, .int, .int, (.object "jdk/internal/access/JavaLangAccess"), .int]
  resolved := Array.replicate 378 none
  statics := none }

def pool15 : Array CpInfo := pool [(1, u "java/lang/Cloneable"), (0, .class_ 1), (0, u "java/lang/Object"), (0, .class_ 3)] 3

/-- java/lang/Cloneable -/
def k15 : Class := { plain "java/lang/Cloneable" (some 0) with
  accessFlags := 1537
  interfaces := #[]
  cf := some (fileOf pool15 2 #[] #[] 1537 4 #[] #[])
  fields := #[]
  methods := #[]
  instanceTypes := #[]
  staticTypes := #[]
  resolved := Array.replicate 8 none
  statics := none }

/-- the primitive byte -/
def k16 : Class := { plain "byte" none with kind := .primitive 'B', accessFlags := 0x411 }
/-- [B -/
def k17 : Class := { plain "[B" (some 0) with kind := .array 16 .byte, interfaces := #[15, 3], accessFlags := 1041 }

/-- the primitive char -/
def k18 : Class := { plain "char" none with kind := .primitive 'C', accessFlags := 0x411 }
/-- [C -/
def k19 : Class := { plain "[C" (some 0) with kind := .array 18 .char, interfaces := #[15, 3], accessFlags := 1041 }

/-- the primitive int -/
def k20 : Class := { plain "int" none with kind := .primitive 'I', accessFlags := 0x411 }
/-- [I -/
def k21 : Class := { plain "[I" (some 0) with kind := .array 20 .int, interfaces := #[15, 3], accessFlags := 1041 }

def heap : Heap := #[{ cls := 8, slots := #[.long 0, .int 1, .null, .int 0, .null, .int 0, .int 0], vm := .statics 8 },
  { cls := 13, slots := #[.null, .null, .null], vm := .statics 13 }]
def classes : Array Class := #[k0, k1, k2, k3, k4, k5, k6, k7, k8, k9, k10, k11, k12, k13, k14, k15, k16, k17, k18, k19, k20, k21]
def interned : List (Array UInt16 × Addr) := []
def slotsUsed : Nat := 10
def theMethod : MethodId := ⟨1, 2⟩
def args0 : Array Value := #[.int 5, .int 6, .int 7, .int 8]
def aboutOver (below : List Frame) : State where
  vm := { classes := classes, interned := interned.toArray }
  heap := heap
  slotsUsed := slotsUsed
  threads := #[{ frames := .invoking theMethod args0 :: below }]
def below0 : List Frame := [.native { method := ⟨0, 0⟩, args := #[] }]
def about1 : State := aboutOver below0
def p0 : Program := .bare "" "" ""
def e0 : Env := launch0.env 0 0 0
theorem w_frames : about1.frames = Frame.invoking theMethod args0 :: below0 := rfl
set_option maxRecDepth 65536 in
theorem w_args : argsFit about1.vm theMethod args0 = true := by decide +kernel
set_option maxRecDepth 65536 in
theorem w_heap : heapFits about1 = true := by decide +kernel
set_option maxRecDepth 65536 in
theorem w_runnable : about1.curStatus? = some .runnable := by decide +kernel
set_option maxRecDepth 65536 in
theorem w_alone : about1.alone = true := by decide +kernel
set_option maxRecDepth 65536 in
theorem w_named : about1.methodNamed? x = some theMethod := by decide +kernel
set_option maxRecDepth 65536 in
theorem w_hears : about1.hears theMethod below0 = true := by decide +kernel
set_option maxRecDepth 65536 in
theorem w_ripe : about1.ripe theMethod args0 below0 = true := by decide +kernel
theorem w_running : about1.status = .running := rfl
set_option maxRecDepth 65536 in
theorem w_room : about1.hasRoom e0.platform room_1 = true :=
  launch0.hasRoom_least _ room_1 (by decide +kernel) (by decide +kernel) (by decide +kernel) (by decide +kernel) (by decide +kernel) (by decide +kernel)
theorem allAtoms_all (ts : List Jvm.Cond) (a : Array Jvm.Value) (st : Jvm.State) : (allAtoms ts).before a st = ts.all (fun c => c.before a st) := by
  induction ts with
  | nil => rfl
  | cons c t ih =>
    show (Jvm.Cond.and c (allAtoms t)).before a st = _
    rw [Jvm.Cond.before_and, ih, List.all_cons]
def words1 : List Jvm.Cond := Jvm.Cond.code x code maxLocals ret :: tables_1
/-- a 'code' word, met by the world's own term for the bytes: nothing is compared byte by byte -/
theorem code_word {y : MethodName} {bytes : ByteArray} {mx : Nat} {rt : Option FieldType} {a : Array Value} {s : State} {m : MethodId} {meth : Method} {c : Code} (h1 : s.methodNamed? y = some m) (h2 : s.vm.method? m = some meth) (h3 : meth.code = some c) (h4 : c.code = bytes)
    (h5 : (c.maxLocals == mx && c.exceptionTable.isEmpty && decide (c.maxStack ≤ mostOperands) && decide (meth.sig.returnType = rt) && !meth.locks && decide (parseMethodDescriptor y.desc = some meth.sig)) = true) : (Jvm.Cond.code y bytes mx rt).before a s = true := by
  simp only [Bool.and_eq_true, beq_iff_eq, Bool.not_eq_true', decide_eq_true_eq] at h5
  obtain ⟨⟨⟨⟨⟨g1, g2⟩, g3⟩, g4⟩, g5⟩, g6⟩ := h5
  simp [Cond.before, Cond.holds, Cond.value, h1, h2, h3, h4, g1, g2, g3, g4, g5, g6]
def isCode : Jvm.Cond → Bool
  | .code _ _ _ _ => true
  | _ => false
theorem all_split {L : List Jvm.Cond} {P : Jvm.Cond → Bool} (h1 : L.all (fun c => isCode c || P c) = true) (h2 : ∀ c ∈ L.filter isCode, P c = true) : L.all P = true := by
  refine List.all_eq_true.mpr fun c hc => ?_
  have h := List.all_eq_true.mp h1 c hc
  rcases Bool.eq_false_or_eq_true (isCode c) with hi | hi
  · exact h2 c (List.mem_filter.mpr ⟨hc, hi⟩)
  · simpa [hi] using h
set_option maxRecDepth 65536 in
theorem w_c0 : (Jvm.Cond.code x code maxLocals ret).before args0 about1 = true := code_word (m := ⟨1, 2⟩) (meth := k1m2) (c := k1c2) (by decide +kernel) rfl rfl rfl (by decide +kernel)
set_option maxRecDepth 65536 in
theorem w_c1 : (Jvm.Cond.code ({ cls := "java/lang/Math", name := "min", desc := "(II)I" } : Jvm.MethodName) jdk_29_method_69_code (2 : Nat) (Option.some Jvm.ClassFile.FieldType.int)).before args0 about1 = true := code_word (m := ⟨2, 1⟩) (meth := k2m1) (c := k2c1) (by decide +kernel) rfl rfl rfl (by decide +kernel)
set_option maxRecDepth 65536 in
theorem w_c2 : (Jvm.Cond.code ({ cls := "com/example/treewidth/treewidth/ontology/RoleEqualsPinLaw", name := "str", desc := "(ICC)Ljava/lang/String;" } : Jvm.MethodName) method_2_code (3 : Nat) (Option.some (Jvm.ClassFile.FieldType.object "java/lang/String"))).before args0 about1 = true := code_word (m := ⟨1, 1⟩) (meth := k1m1) (c := k1c1) (by decide +kernel) rfl rfl rfl (by decide +kernel)
set_option maxRecDepth 65536 in
theorem w_c3 : (Jvm.Cond.code ({ cls := "java/lang/String", name := "<init>", desc := "([C)V" } : Jvm.MethodName) jdk_42_method_3_code (2 : Nat) (Option.none : Option Jvm.ClassFile.FieldType)).before args0 about1 = true := code_word (m := ⟨8, 1⟩) (meth := k8m1) (c := k8c1) (by decide +kernel) rfl rfl rfl (by decide +kernel)
set_option maxRecDepth 65536 in
theorem w_c4 : (Jvm.Cond.code ({ cls := "java/lang/String", name := "<init>", desc := "([CIILjava/lang/Void;)V" } : Jvm.MethodName) jdk_42_method_149_code (6 : Nat) (Option.none : Option Jvm.ClassFile.FieldType)).before args0 about1 = true := code_word (m := ⟨8, 4⟩) (meth := k8m4) (c := k8c4) (by decide +kernel) rfl rfl rfl (by decide +kernel)
set_option maxRecDepth 65536 in
theorem w_c5 : (Jvm.Cond.code ({ cls := "java/lang/Object", name := "<init>", desc := "()V" } : Jvm.MethodName) object_method_1_code (1 : Nat) (Option.none : Option Jvm.ClassFile.FieldType)).before args0 about1 = true := code_word (m := ⟨0, 0⟩) (meth := k0m0) (c := k0c0) (by decide +kernel) rfl rfl rfl (by decide +kernel)
set_option maxRecDepth 65536 in
theorem w_c6 : (Jvm.Cond.code ({ cls := "com/example/treewidth/treewidth/ontology/Role", name := "<init>", desc := "(Ljava/lang/String;Z)V" } : Jvm.MethodName) prog_10_method_1_code (3 : Nat) (Option.none : Option Jvm.ClassFile.FieldType)).before args0 about1 = true := code_word (m := ⟨9, 0⟩) (meth := k9m0) (c := k9c0) (by decide +kernel) rfl rfl rfl (by decide +kernel)
set_option maxRecDepth 65536 in
theorem w_c7 : (Jvm.Cond.code ({ cls := "java/util/Objects", name := "requireNonNull", desc := "(Ljava/lang/Object;Ljava/lang/String;)Ljava/lang/Object;" } : Jvm.MethodName) jdk_31_method_11_code (2 : Nat) (Option.some (Jvm.ClassFile.FieldType.object "java/lang/Object"))).before args0 about1 = true := code_word (m := ⟨10, 1⟩) (meth := k10m1) (c := k10c1) (by decide +kernel) rfl rfl rfl (by decide +kernel)
set_option maxRecDepth 65536 in
theorem w_c8 : (Jvm.Cond.code ({ cls := "com/example/treewidth/treewidth/ontology/Role", name := "equals", desc := "(Ljava/lang/Object;)Z" } : Jvm.MethodName) prog_10_method_5_code (3 : Nat) (Option.some Jvm.ClassFile.FieldType.boolean)).before args0 about1 = true := code_word (m := ⟨9, 1⟩) (meth := k9m1) (c := k9c1) (by decide +kernel) rfl rfl rfl (by decide +kernel)
set_option maxRecDepth 65536 in
theorem w_c9 : (Jvm.Cond.code ({ cls := "java/lang/String", name := "equals", desc := "(Ljava/lang/Object;)Z" } : Jvm.MethodName) jdk_42_method_66_code (3 : Nat) (Option.some Jvm.ClassFile.FieldType.boolean)).before args0 about1 = true := code_word (m := ⟨8, 2⟩) (meth := k8m2) (c := k8c2) (by decide +kernel) rfl rfl rfl (by decide +kernel)
set_option maxRecDepth 65536 in
theorem w_c10 : (Jvm.Cond.code ({ cls := "java/lang/StringLatin1", name := "equals", desc := "([B[B)Z" } : Jvm.MethodName) jdk_43_method_13_code (3 : Nat) (Option.some Jvm.ClassFile.FieldType.boolean)).before args0 about1 = true := code_word (m := ⟨11, 2⟩) (meth := k11m2) (c := k11c2) (by decide +kernel) rfl rfl rfl (by decide +kernel)
set_option maxRecDepth 65536 in
theorem w_c11 : (Jvm.Cond.code ({ cls := "java/lang/StringUTF16", name := "compress", desc := "([CII)[B" } : Jvm.MethodName) jdk_52_method_16_code (6 : Nat) (Option.some (Jvm.ClassFile.FieldType.array Jvm.ClassFile.FieldType.byte))).before args0 about1 = true := code_word (m := ⟨12, 2⟩) (meth := k12m2) (c := k12c2) (by decide +kernel) rfl rfl rfl (by decide +kernel)
set_option maxRecDepth 65536 in
theorem w_c12 : (Jvm.Cond.code ({ cls := "java/lang/StringUTF16", name := "compress", desc := "([CI[BII)I" } : Jvm.MethodName) jdk_52_method_21_code (7 : Nat) (Option.some Jvm.ClassFile.FieldType.int)).before args0 about1 = true := code_word (m := ⟨12, 3⟩) (meth := k12m3) (c := k12c3) (by decide +kernel) rfl rfl rfl (by decide +kernel)
set_option maxRecDepth 65536 in
theorem w_c13 : (Jvm.Cond.code ({ cls := "java/lang/StringUTF16", name := "coderFromArrayLen", desc := "([BI)B" } : Jvm.MethodName) jdk_52_method_15_code (2 : Nat) (Option.some Jvm.ClassFile.FieldType.byte)).before args0 about1 = true := code_word (m := ⟨12, 1⟩) (meth := k12m1) (c := k12c1) (by decide +kernel) rfl rfl rfl (by decide +kernel)
set_option maxRecDepth 65536 in
theorem w_c14 : (Jvm.Cond.code ({ cls := "java/lang/String", name := "valueOf", desc := "(C)Ljava/lang/String;" } : Jvm.MethodName) jdk_42_method_139_code (1 : Nat) (Option.some (Jvm.ClassFile.FieldType.object "java/lang/String"))).before args0 about1 = true := code_word (m := ⟨8, 3⟩) (meth := k8m3) (c := k8c3) (by decide +kernel) rfl rfl rfl (by decide +kernel)
set_option maxRecDepth 65536 in
theorem w_c15 : (Jvm.Cond.code ({ cls := "java/lang/StringLatin1", name := "canEncode", desc := "(C)Z" } : Jvm.MethodName) jdk_43_method_3_code (1 : Nat) (Option.some Jvm.ClassFile.FieldType.boolean)).before args0 about1 = true := code_word (m := ⟨11, 1⟩) (meth := k11m1) (c := k11c1) (by decide +kernel) rfl rfl rfl (by decide +kernel)
set_option maxRecDepth 65536 in
theorem w_c16 : (Jvm.Cond.code ({ cls := "java/lang/StringLatin1", name := "toBytes", desc := "(C)[B" } : Jvm.MethodName) jdk_43_method_46_code (1 : Nat) (Option.some (Jvm.ClassFile.FieldType.array Jvm.ClassFile.FieldType.byte))).before args0 about1 = true := code_word (m := ⟨11, 3⟩) (meth := k11m3) (c := k11c3) (by decide +kernel) rfl rfl rfl (by decide +kernel)
set_option maxRecDepth 65536 in
theorem w_c17 : (Jvm.Cond.code ({ cls := "java/lang/String", name := "<init>", desc := "([BB)V" } : Jvm.MethodName) jdk_42_method_151_code (3 : Nat) (Option.none : Option Jvm.ClassFile.FieldType)).before args0 about1 = true := code_word (m := ⟨8, 5⟩) (meth := k8m5) (c := k8c5) (by decide +kernel) rfl rfl rfl (by decide +kernel)
def codes1 : List Jvm.Cond := [Jvm.Cond.code x code maxLocals ret, Jvm.Cond.code ({ cls := "java/lang/Math", name := "min", desc := "(II)I" } : Jvm.MethodName) jdk_29_method_69_code (2 : Nat) (Option.some Jvm.ClassFile.FieldType.int), Jvm.Cond.code ({ cls := "com/example/treewidth/treewidth/ontology/RoleEqualsPinLaw", name := "str", desc := "(ICC)Ljava/lang/String;" } : Jvm.MethodName) method_2_code (3 : Nat) (Option.some (Jvm.ClassFile.FieldType.object "java/lang/String")), Jvm.Cond.code ({ cls := "java/lang/String", name := "<init>", desc := "([C)V" } : Jvm.MethodName) jdk_42_method_3_code (2 : Nat) (Option.none : Option Jvm.ClassFile.FieldType), Jvm.Cond.code ({ cls := "java/lang/String", name := "<init>", desc := "([CIILjava/lang/Void;)V" } : Jvm.MethodName) jdk_42_method_149_code (6 : Nat) (Option.none : Option Jvm.ClassFile.FieldType), Jvm.Cond.code ({ cls := "java/lang/Object", name := "<init>", desc := "()V" } : Jvm.MethodName) object_method_1_code (1 : Nat) (Option.none : Option Jvm.ClassFile.FieldType), Jvm.Cond.code ({ cls := "com/example/treewidth/treewidth/ontology/Role", name := "<init>", desc := "(Ljava/lang/String;Z)V" } : Jvm.MethodName) prog_10_method_1_code (3 : Nat) (Option.none : Option Jvm.ClassFile.FieldType), Jvm.Cond.code ({ cls := "java/util/Objects", name := "requireNonNull", desc := "(Ljava/lang/Object;Ljava/lang/String;)Ljava/lang/Object;" } : Jvm.MethodName) jdk_31_method_11_code (2 : Nat) (Option.some (Jvm.ClassFile.FieldType.object "java/lang/Object")), Jvm.Cond.code ({ cls := "com/example/treewidth/treewidth/ontology/Role", name := "equals", desc := "(Ljava/lang/Object;)Z" } : Jvm.MethodName) prog_10_method_5_code (3 : Nat) (Option.some Jvm.ClassFile.FieldType.boolean), Jvm.Cond.code ({ cls := "java/lang/String", name := "equals", desc := "(Ljava/lang/Object;)Z" } : Jvm.MethodName) jdk_42_method_66_code (3 : Nat) (Option.some Jvm.ClassFile.FieldType.boolean), Jvm.Cond.code ({ cls := "java/lang/StringLatin1", name := "equals", desc := "([B[B)Z" } : Jvm.MethodName) jdk_43_method_13_code (3 : Nat) (Option.some Jvm.ClassFile.FieldType.boolean), Jvm.Cond.code ({ cls := "java/lang/StringUTF16", name := "compress", desc := "([CII)[B" } : Jvm.MethodName) jdk_52_method_16_code (6 : Nat) (Option.some (Jvm.ClassFile.FieldType.array Jvm.ClassFile.FieldType.byte)), Jvm.Cond.code ({ cls := "java/lang/StringUTF16", name := "compress", desc := "([CI[BII)I" } : Jvm.MethodName) jdk_52_method_21_code (7 : Nat) (Option.some Jvm.ClassFile.FieldType.int), Jvm.Cond.code ({ cls := "java/lang/StringUTF16", name := "coderFromArrayLen", desc := "([BI)B" } : Jvm.MethodName) jdk_52_method_15_code (2 : Nat) (Option.some Jvm.ClassFile.FieldType.byte), Jvm.Cond.code ({ cls := "java/lang/String", name := "valueOf", desc := "(C)Ljava/lang/String;" } : Jvm.MethodName) jdk_42_method_139_code (1 : Nat) (Option.some (Jvm.ClassFile.FieldType.object "java/lang/String")), Jvm.Cond.code ({ cls := "java/lang/StringLatin1", name := "canEncode", desc := "(C)Z" } : Jvm.MethodName) jdk_43_method_3_code (1 : Nat) (Option.some Jvm.ClassFile.FieldType.boolean), Jvm.Cond.code ({ cls := "java/lang/StringLatin1", name := "toBytes", desc := "(C)[B" } : Jvm.MethodName) jdk_43_method_46_code (1 : Nat) (Option.some (Jvm.ClassFile.FieldType.array Jvm.ClassFile.FieldType.byte)), Jvm.Cond.code ({ cls := "java/lang/String", name := "<init>", desc := "([BB)V" } : Jvm.MethodName) jdk_42_method_151_code (3 : Nat) (Option.none : Option Jvm.ClassFile.FieldType)]
set_option maxRecDepth 65536 in
theorem codes_eq : words1.filter isCode = codes1 := rfl
theorem w_codes : ∀ c ∈ words1.filter isCode, c.before args0 about1 = true := by
  rw [codes_eq]
  intro c hc
  simp only [codes1, List.mem_cons, List.not_mem_nil, or_false] at hc
  rcases hc with rfl | rfl | rfl | rfl | rfl | rfl | rfl | rfl | rfl | rfl | rfl | rfl | rfl | rfl | rfl | rfl | rfl | rfl
  · exact w_c0
  · exact w_c1
  · exact w_c2
  · exact w_c3
  · exact w_c4
  · exact w_c5
  · exact w_c6
  · exact w_c7
  · exact w_c8
  · exact w_c9
  · exact w_c10
  · exact w_c11
  · exact w_c12
  · exact w_c13
  · exact w_c14
  · exact w_c15
  · exact w_c16
  · exact w_c17
set_option maxRecDepth 65536 in
theorem w_t1 : (words1.take 24).all (fun c => isCode c || c.before args0 about1) = true := by decide +kernel
set_option maxRecDepth 65536 in
theorem w_t2 : ((words1.drop 24).take 24).all (fun c => isCode c || c.before args0 about1) = true := by decide +kernel
set_option maxRecDepth 65536 in
theorem w_t3 : (((words1.drop 24).drop 24).take 24).all (fun c => isCode c || c.before args0 about1) = true := by decide +kernel
set_option maxRecDepth 65536 in
theorem w_t4 : (((words1.drop 24).drop 24).drop 24).all (fun c => isCode c || c.before args0 about1) = true := by decide +kernel
theorem w_tables : (allAtoms (Jvm.Cond.code x code maxLocals ret :: tables_1)).before args0 about1 = true := by
  rw [allAtoms_all]
  show words1.all (fun c => c.before args0 about1) = true
  refine all_split ?_ w_codes
  rw [← List.take_append_drop 24 words1, List.all_append, w_t1, ← List.take_append_drop 24 (words1.drop 24), List.all_append, w_t2, ← List.take_append_drop 24 ((words1.drop 24).drop 24), List.all_append, w_t3, w_t4]
  rfl
set_option maxRecDepth 65536 in
theorem w_rest : rest_1_c.before args0 about1 = true := by decide +kernel
set_option maxRecDepth 65536 in
theorem w_case : (Jvm.Cond.and given_1 narrow_1).before args0 about1 = true := by decide +kernel
set_option maxRecDepth 65536 in
theorem w_consts : constsHeld consts_1 about1 := Jvm.Lit.constsHeldB_iff.mp (by decide +kernel)
theorem w_applies : (headSpec (Jvm.Cond.code x code maxLocals ret :: tables_1) room_1).applies x e0.platform about1 = true :=
  (Spec.applies_iff w_frames).mpr ⟨w_running, w_runnable, w_alone, w_named, w_hears, w_ripe, w_room, w_tables⟩
theorem atStart : AtStart classFile x code maxLocals ret World_1 tables_1 room_1 Calls_1 rest_1 Pre_1 launch0 p0 e0 about1 theMethod args0 below0 :=
  ⟨lists_1, trivial, launch0.admits_env _ _ _, launch0.least_env, fairChoices_fair.cas, fairChoices_fair.clock, w_frames, w_args, w_heap, w_applies, ⟨w_consts, trivial⟩, w_rest, w_case⟩
end start1
theorem witness_1 : WitnessClaimed_1 := ⟨start1.p0, start1.e0, start1.about1, start1.theMethod, start1.args0, start1.below0, start1.atStart⟩
end Jvm.Pilot.@@N@@
