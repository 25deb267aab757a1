import JvmDerived
import JvmDerived.Pilot.@@N@@Statement
import JvmDerived.Pilot.@@N@@Code
set_option linter.unusedVariables false
set_option linter.unusedSimpArgs false
/- laws to paste: Road.backV, Road.eqW, Road.codOf, Road.chN (cut by pick.py; bodies as the Statement names them) -/
namespace Jvm.Pilot.@@N@@
namespace StrChars
open Jvm Sem ClassFile Op Lib Jvm.Stand Jvm.Free.XT Jvm.Free.ALB Jvm.Free.JM Jvm.Free
open Jvm.Lib.Cold (StaticIs)
/-- a char array whose places are chars -/
def Ch (a : Addr) (A : Cell) (U : State) : Prop := Arr .char a A U ∧ Typed .char A
theorem Ch.mv {a : Addr} {A : Cell} {U U' : State} (h : Ch a A U) (hal : U.vm.Alike U'.vm) (hh : U'.heap = U.heap) : Ch a A U' := ⟨h.1.mv hal hh, h.2⟩
theorem Ch.keep {a : Addr} {A : Cell} {U U' : State} (h : Ch a A U) (hal : U.vm.Alike U'.vm) (hk : U'.heap[a]? = some A) : Ch a A U' := ⟨h.1.keep hal hk, h.2⟩
/-- what place i of a char[]'s cell holds -/
def cv (A : Cell) (i : Nat) : Int32 := match A.slots[i]? with | some (.int x) => x | _ => 0
theorem Ch.get {a : Addr} {A : Cell} {U : State} (h : Ch a A U) {i : Nat} (hi : i < A.slots.size) : A.slots[i]? = some (.int (cv A i)) := by
  have e := Array.getElem?_eq_getElem hi
  have f := h.2 i _ e
  unfold cv; rw [e]
  generalize A.slots[i] = v at f
  cases v <;> simp [fits] at f ⊢
/-- the byte that i2b leaves of a char -/
def lo8 (x : Int32) : Int32 := x.toInt8.toInt32
theorem fits_lo8 (y : Int32) : fits .byte (.int (lo8 y)) = true := by
  have h1 := y.toInt8.le_toInt
  have h2 := y.toInt8.toInt_lt
  simp only [lo8, fits, Bool.and_eq_true, decide_eq_true_eq, Int32.le_iff_toInt_le, Int8.toInt_toInt32, show (-128 : Int32).toInt = -128 from by decide, show (127 : Int32).toInt = 127 from by decide]
  omega
/-- A' is A but that each place j of lo .. hi - 1 holds f j -/
def Laid (A A' : Cell) (lo hi : Nat) (f : Nat → Value) : Prop := A'.cls = A.cls ∧ A'.vm = A.vm ∧ A'.slots.size = A.slots.size ∧ ∀ i, A'.slots[i]? = if lo ≤ i ∧ i < hi then some (f i) else A.slots[i]?
theorem Laid.zero (A : Cell) (lo : Nat) (f : Nat → Value) : Laid A A lo (lo + 0) f := ⟨rfl, rfl, rfl, fun i => by rw [if_neg (by omega)]⟩
theorem Laid.step {A Ak : Cell} {lo k : Nat} {f : Nat → Value} {v : Value} (h : Laid A Ak lo k f) (hlo : lo ≤ k) (hk : k < Ak.slots.size) (hv : v = f k) : Laid A (Ak.setSlot k v) lo (k + 1) f := by
  refine ⟨h.1, h.2.1, by simpa [Cell.setSlot] using h.2.2.1, fun i => ?_⟩
  by_cases e : k = i
  · subst e; rw [Cell.slots_setSlot_self v hk, if_pos (by omega), hv]
  · rw [Cell.slots_setSlot_ne v e, h.2.2.2 i]
    by_cases q : lo ≤ i ∧ i < k
    · rw [if_pos q, if_pos (by omega)]
    · rw [if_neg q, if_neg (by omega)]
def U16 : String := "java/lang/StringUTF16"
namespace Cmp5
def yN : MethodName := ⟨"java/lang/StringUTF16", "compress", "([CI[BII)I"⟩
abbrev yB : ByteArray := jdk_52_method_21_code
theorem d0 : decode yB 0 = .ok (.iconst 0, 1) := by decide +kernel
theorem d1 : decode yB 1 = .ok (.istore 5, 2) := by decide +kernel
theorem d3 : decode yB 3 = .ok (.iload 5, 2) := by decide +kernel
theorem d5 : decode yB 5 = .ok (.iload 4, 2) := by decide +kernel
theorem d7 : decode yB 7 = .ok (.if_icmp (.ge) 37, 3) := by decide +kernel
theorem d10 : decode yB 10 = .ok (.aload_n 0, 1) := by decide +kernel
theorem d11 : decode yB 11 = .ok (.iload_n 1, 1) := by decide +kernel
theorem d12 : decode yB 12 = .ok (.caload, 1) := by decide +kernel
theorem d13 : decode yB 13 = .ok (.istore 6, 2) := by decide +kernel
theorem d15 : decode yB 15 = .ok (.iload 6, 2) := by decide +kernel
theorem d17 : decode yB 17 = .ok (.sipush 255, 3) := by decide +kernel
theorem d20 : decode yB 20 = .ok (.if_icmp (.le) 6, 3) := by decide +kernel
theorem d26 : decode yB 26 = .ok (.aload_n 2, 1) := by decide +kernel
theorem d27 : decode yB 27 = .ok (.iload_n 3, 1) := by decide +kernel
theorem d28 : decode yB 28 = .ok (.iload 6, 2) := by decide +kernel
theorem d30 : decode yB 30 = .ok (.i2b, 1) := by decide +kernel
theorem d31 : decode yB 31 = .ok (.bastore, 1) := by decide +kernel
theorem d32 : decode yB 32 = .ok (.iinc 1 1, 3) := by decide +kernel
theorem d35 : decode yB 35 = .ok (.iinc 3 1, 3) := by decide +kernel
theorem d38 : decode yB 38 = .ok (.iinc 5 1, 3) := by decide +kernel
theorem d41 : decode yB 41 = .ok (.goto (-38), 3) := by decide +kernel
theorem d44 : decode yB 44 = .ok (.iload 4, 2) := by decide +kernel
theorem d46 : decode yB 46 = .ok (.ireturn, 1) := by decide +kernel
def site : List Cond := []
def tab : Cond := tabOf yN yB 7 (some .int) site
def P (b : Addr) (A : Cell) (d : Addr) (B : Cell) (o q len : Nat) (args : Array Value) (s : State) : Prop := args = #[.ref b, .int (Int32.ofNat o), .ref d, .int (Int32.ofNat q), .int (Int32.ofNat len)] ∧ Ch b A s ∧ Arr .byte d B s ∧ b ≠ d ∧ o + len ≤ A.slots.size ∧ q + len ≤ B.slots.size ∧ ∀ i, i < len → ¬ 255 < cv A (o + i)
def E (b : Addr) (A : Cell) (d : Addr) (B : Cell) (o q len : Nat) (r : Option Value) (s u : State) : Prop := r = some (.int (Int32.ofNat len)) ∧ ∃ B', Put d B' s u ∧ Laid B B' q (q + len) (fun j => Value.int (lo8 (cv A (o + (j - q)))))
/-- no char of the range above 255: len; the places written hold each char's low byte -/
theorem law (l : Launch) (b : Addr) (A : Cell) (d : Addr) (B : Cell) (o q len : Nat) : Law l yN 5 5 0 0 yB 7 (some .int) site (P b A d B o q len) (E b A d B o q len) (copyLocs d q len) 0 0 := by
  refine Law.of_walk (plainFor_of_name (by decide +kernel)) (by decide +kernel) (by decide +kernel) (by decide) (fun _ _ h => by rw [h.1]; rfl) (fun _ U U' hal hh h => ⟨h.1, h.2.1.mv hal hh, h.2.2.1.mv hal hh, h.2.2.2⟩) (fun r U U' V V' h1 hal h2 h => ⟨h.1, h.2.elim fun B' q => ⟨B', q.1.mv h1 h2, q.2⟩⟩) ?_
  intro p e s m args below meth c s₁ X0 hexec hbytes hml hret hlk hnm hown hh0 W hP
  obtain ⟨rfl, hA, hB, hne, l1, l2, hp⟩ := hP
  have c1 : Steps p.tables e below (s₁.setTop (entryFrame m #[.ref b, .int (Int32.ofNat o), .ref d, .int (Int32.ofNat q), .int (Int32.ofNat len)] 7)) (s₁.setTop (mkF m 0 #[.val (.ref b), .val (.int (Int32.ofNat o)), .val (.ref d), .val (.int (Int32.ofNat q)), .val (.int (Int32.ofNat len)), .unset, .unset] [])) := entry rfl
  have hA0 := hA.1.mv X0.warmed.alike hh0
  have hB0 := hB.mv X0.warmed.alike hh0
  have a31 := hA.1.2.2.2
  have c2 : Steps p.tables e below (s₁.setTop (entryFrame m #[.ref b, .int (Int32.ofNat o), .ref d, .int (Int32.ofNat q), .int (Int32.ofNat len)] 7)) (s₁.setTop (mkF m 3 #[.val (.ref b), .val (.int (Int32.ofNat o)), .val (.ref d), .val (.int (Int32.ofNat q)), .val (.int (Int32.ofNat len)), .val (.int 0), .unset] [])) := c1.trans (by
    refine iconstV X0.here hexec rfl 0 (hb hbytes d0) (by decide) ?_
    refine XS.istore X0.here hexec rfl (hb hbytes d1) rfl rfl ?_
    exact Steps.refl _)
  have loop : ∀ (r i : Nat), i + r = len → ∀ (z : Slot), (z = .unset ∨ ∃ w, z = .val w ∧ w.category = 1) → ∀ (Tl : State) (Bk : Cell), Stand p l e { frames := 0, locals := 0, cells := 0, slots := 0 } s m #[.ref b, .int (Int32.ofNat o), .ref d, .int (Int32.ofNat q), .int (Int32.ofNat len)] below meth c Tl ([] ++ copyLocs d q i) 0 0 → Put d Bk s₁ Tl → Laid B Bk q (q + i) (fun j => Value.int (lo8 (cv A (o + (j - q))))) →
      Steps p.tables e below (s₁.setTop (entryFrame m #[.ref b, .int (Int32.ofNat o), .ref d, .int (Int32.ofNat q), .int (Int32.ofNat len)] 7)) (Tl.setTop (mkF m 3 #[.val (.ref b), .val (.int (Int32.ofNat (o + i))), .val (.ref d), .val (.int (Int32.ofNat (q + i))), .val (.int (Int32.ofNat len)), .val (.int (Int32.ofNat i)), z] [])) → ∃ (T' : State) (B' : Cell) (z' : Slot), Stand p l e { frames := 0, locals := 0, cells := 0, slots := 0 } s m #[.ref b, .int (Int32.ofNat o), .ref d, .int (Int32.ofNat q), .int (Int32.ofNat len)] below meth c T' ([] ++ copyLocs d q len) 0 0 ∧ Put d B' s₁ T' ∧ Laid B B' q (q + len) (fun j => Value.int (lo8 (cv A (o + (j - q))))) ∧
      Steps p.tables e below (s₁.setTop (entryFrame m #[.ref b, .int (Int32.ofNat o), .ref d, .int (Int32.ofNat q), .int (Int32.ofNat len)] 7)) (T'.setTop (mkF m 3 #[.val (.ref b), .val (.int (Int32.ofNat (o + len))), .val (.ref d), .val (.int (Int32.ofNat (q + len))), .val (.int (Int32.ofNat len)), .val (.int (Int32.ofNat len)), z'] [])) := by
    intro r
    induction r with
    | zero =>
      intro i hi z hz Tl Bk Xl pl fl cl
      have hil : i = len := by omega
      rw [hil] at Xl fl cl
      exact ⟨Tl, Bk, z, Xl, pl, fl, cl⟩
    | succ r ih =>
      intro i hi z hz Tl Bk Xl pl fl cl
      have all := X0.warmed.alike.symm.trans Xl.warmed.alike
      have hAl := hA0.keep all (pl.other hne hA0.1)
      have hBk := hB0.like all pl.1 fl.1 fl.2.1 fl.2.2.1
      have hlt : q + i < Bk.slots.size := by rw [fl.2.2.1]; omega
      have c3 : Steps p.tables e below (s₁.setTop (entryFrame m #[.ref b, .int (Int32.ofNat o), .ref d, .int (Int32.ofNat q), .int (Int32.ofNat len)] 7)) (Tl.setTop (mkF m 12 #[.val (.ref b), .val (.int (Int32.ofNat (o + i))), .val (.ref d), .val (.int (Int32.ofNat (q + i))), .val (.int (Int32.ofNat len)), .val (.int (Int32.ofNat i)), z] [.int (Int32.ofNat (o + i)), .ref b])) := cl.trans (by
        refine XS.iload Xl.here hexec rfl (hb hbytes d3) rfl ?_
        refine XS.iload Xl.here hexec rfl (hb hbytes d5) rfl ?_
        refine XS.icmpNo Xl.here hexec rfl (hb hbytes d7) rfl (ii_ge_f (lt32 (by omega) (by omega))) ?_
        refine XS.aloadN Xl.here hexec rfl (hb hbytes d10) rfl rfl ?_
        refine XS.iloadN Xl.here hexec rfl (hb hbytes d11) rfl ?_
        exact Steps.refl _)
      have c4 : Steps p.tables e below (s₁.setTop (entryFrame m #[.ref b, .int (Int32.ofNat o), .ref d, .int (Int32.ofNat q), .int (Int32.ofNat len)] 7)) (Tl.setTop (mkF m 13 #[.val (.ref b), .val (.int (Int32.ofNat (o + i))), .val (.ref d), .val (.int (Int32.ofNat (q + i))), .val (.int (Int32.ofNat len)), .val (.int (Int32.ofNat i)), z] [.int (cv A (o + i))])) := c3.trans (by
        refine Xl.aget hexec hAl rfl (hA.get (i := o + i) (by omega)) rfl rfl (hb hbytes d12) ?_
        exact Steps.refl _)
      have c5 : Steps p.tables e below (s₁.setTop (entryFrame m #[.ref b, .int (Int32.ofNat o), .ref d, .int (Int32.ofNat q), .int (Int32.ofNat len)] 7)) (Tl.setTop (mkF m 15 #[.val (.ref b), .val (.int (Int32.ofNat (o + i))), .val (.ref d), .val (.int (Int32.ofNat (q + i))), .val (.int (Int32.ofNat len)), .val (.int (Int32.ofNat i)), .val (.int (cv A (o + i)))] [])) := c4.trans (by
        refine XS.istoreS Xl.here hexec rfl (hb hbytes d13) rfl rfl hz ?_
        exact Steps.refl _)
      have c6 : Steps p.tables e below (s₁.setTop (entryFrame m #[.ref b, .int (Int32.ofNat o), .ref d, .int (Int32.ofNat q), .int (Int32.ofNat len)] 7)) (Tl.setTop (mkF m 31 #[.val (.ref b), .val (.int (Int32.ofNat (o + i))), .val (.ref d), .val (.int (Int32.ofNat (q + i))), .val (.int (Int32.ofNat len)), .val (.int (Int32.ofNat i)), .val (.int (cv A (o + i)))] [.int (lo8 (cv A (o + i))), .int (Int32.ofNat (q + i)), .ref d])) := c5.trans (by
        refine XS.iload Xl.here hexec rfl (hb hbytes d15) rfl ?_
        refine sipushV Xl.here hexec rfl 255 (hb hbytes d17) (by decide) ?_
        refine XS.icmpYes Xl.here hexec rfl (pc0 := 20) rfl (hb hbytes d20) rfl (ii_le_t (hp i (by omega))) (by decide) rfl ?_
        refine XS.aloadN Xl.here hexec rfl (hb hbytes d26) rfl rfl ?_
        refine XS.iloadN Xl.here hexec rfl (hb hbytes d27) rfl ?_
        refine XS.iload Xl.here hexec rfl (hb hbytes d28) rfl ?_
        refine i2b Xl.here hexec rfl (hb hbytes d30) rfl ?_
        exact Steps.refl _)
      obtain ⟨T7, X7, p7, st7⟩ := Xl.aput hexec hBk rfl hlt rfl (fits_lo8 (cv A (o + i))) (g := (mkF m 31 #[.val (.ref b), .val (.int (Int32.ofNat (o + i))), .val (.ref d), .val (.int (Int32.ofNat (q + i))), .val (.int (Int32.ofNat len)), .val (.int (Int32.ofNat i)), .val (.int (cv A (o + i)))] [.int (lo8 (cv A (o + i))), .int (Int32.ofNat (q + i)), .ref d])) rfl (rest := []) rfl (hb hbytes d31)
      have c8 : Steps p.tables e below (s₁.setTop (entryFrame m #[.ref b, .int (Int32.ofNat o), .ref d, .int (Int32.ofNat q), .int (Int32.ofNat len)] 7)) (T7.setTop (mkF m 32 #[.val (.ref b), .val (.int (Int32.ofNat (o + i))), .val (.ref d), .val (.int (Int32.ofNat (q + i))), .val (.int (Int32.ofNat len)), .val (.int (Int32.ofNat i)), .val (.int (cv A (o + i)))] [])) := c6.trans (st7 _ (Steps.refl _))
      have c9 : Steps p.tables e below (s₁.setTop (entryFrame m #[.ref b, .int (Int32.ofNat o), .ref d, .int (Int32.ofNat q), .int (Int32.ofNat len)] 7)) (T7.setTop (mkF m 3 #[.val (.ref b), .val (.int (Int32.ofNat (o + i) + 1)), .val (.ref d), .val (.int (Int32.ofNat (q + i) + 1)), .val (.int (Int32.ofNat len)), .val (.int (Int32.ofNat i + 1)), .val (.int (cv A (o + i)))] [])) := c8.trans (by
        refine iincV X7.here hexec rfl 1 (hb hbytes d32) (by decide) rfl rfl ?_
        refine iincV X7.here hexec rfl 1 (hb hbytes d35) (by decide) rfl rfl ?_
        refine iincV X7.here hexec rfl 1 (hb hbytes d38) (by decide) rfl rfl ?_
        refine XS.goto X7.here hexec rfl (pc0 := 41) rfl (hb hbytes d41) (by decide) rfl ?_
        exact Steps.refl _)
      have c10 : Steps p.tables e below (s₁.setTop (entryFrame m #[.ref b, .int (Int32.ofNat o), .ref d, .int (Int32.ofNat q), .int (Int32.ofNat len)] 7)) (T7.setTop (mkF m 3 #[.val (.ref b), .val (.int (Int32.ofNat (o + (i + 1)))), .val (.ref d), .val (.int (Int32.ofNat (q + (i + 1)))), .val (.int (Int32.ofNat len)), .val (.int (Int32.ofNat (i + 1))), .val (.int (cv A (o + i)))] [])) := by
        have := c9
        rw [succ32, succ32, succ32] at this
        exact this
      exact ih (i + 1) (by omega) _ (Or.inr ⟨_, rfl, rfl⟩) T7 _ (by rw [copyLocs_step, ← List.append_assoc]; exact X7) (pl.trans p7) (fl.step (by omega) hlt (by simp)) c10
  obtain ⟨T9, B9, z9, X9, p9, f9, g9⟩ := loop len 0 (by omega) .unset (Or.inl rfl) s₁ B (by simpa [copyLocs] using X0) ⟨hB0.1, fun _ _ => rfl, rfl⟩ (Laid.zero _ _ _) c2
  have c11 : Steps p.tables e below (s₁.setTop (entryFrame m #[.ref b, .int (Int32.ofNat o), .ref d, .int (Int32.ofNat q), .int (Int32.ofNat len)] 7)) (T9.setTop (mkF m 46 #[.val (.ref b), .val (.int (Int32.ofNat (o + len))), .val (.ref d), .val (.int (Int32.ofNat (q + len))), .val (.int (Int32.ofNat len)), .val (.int (Int32.ofNat len)), z9] [.int (Int32.ofNat len)])) := g9.trans (by
    refine XS.iload X9.here hexec rfl (hb hbytes d3) rfl ?_
    refine XS.iload X9.here hexec rfl (hb hbytes d5) rfl ?_
    refine XS.icmpYes X9.here hexec rfl (pc0 := 7) rfl (hb hbytes d7) rfl (ii_ge_t (nlt32 (by omega) (Nat.le_refl _))) (by decide) rfl ?_
    refine XS.iload X9.here hexec rfl (hb hbytes d44) rfl ?_
    exact Steps.refl _)
  exact ⟨T9, some (.int (Int32.ofNat len)), _, _, _, X9, by simp, rfl, rfl, (fun h => by cases h), ⟨rfl, B9, p9.from hh0, f9⟩, fun fs hl => c11.trans (X9.ireturnOut hexec hret rfl (Or.inl rfl) (hb hbytes d46) hl)⟩
end Cmp5
namespace Cmp3
def yN : MethodName := ⟨"java/lang/StringUTF16", "compress", "([CII)[B"⟩
abbrev yB : ByteArray := jdk_52_method_16_code
theorem d0 : decode yB 0 = .ok (.iload_n 2, 1) := by decide +kernel
theorem d1 : decode yB 1 = .ok (.newarray .byte, 2) := by decide +kernel
theorem d3 : decode yB 3 = .ok (.astore_n 3, 1) := by decide +kernel
theorem d4 : decode yB 4 = .ok (.aload_n 0, 1) := by decide +kernel
theorem d5 : decode yB 5 = .ok (.iload_n 1, 1) := by decide +kernel
theorem d6 : decode yB 6 = .ok (.aload_n 3, 1) := by decide +kernel
theorem d7 : decode yB 7 = .ok (.iconst 0, 1) := by decide +kernel
theorem d8 : decode yB 8 = .ok (.iload_n 2, 1) := by decide +kernel
theorem d9 : decode yB 9 = .ok (.invokestatic 115, 3) := by decide +kernel
theorem d12 : decode yB 12 = .ok (.istore 4, 2) := by decide +kernel
theorem d14 : decode yB 14 = .ok (.iload 4, 2) := by decide +kernel
theorem d16 : decode yB 16 = .ok (.iload_n 2, 1) := by decide +kernel
theorem d17 : decode yB 17 = .ok (.if_icmp (.eq) 40, 3) := by decide +kernel
theorem d57 : decode yB 57 = .ok (.aload_n 3, 1) := by decide +kernel
theorem d58 : decode yB 58 = .ok (.areturn, 1) := by decide +kernel
def site : List Cond := [.arrayClass .byte, Cmp5.tab] ++ staticW U16 115 Cmp5.yN
def tab : Cond := tabOf yN yB 6 (some (.array .byte)) site
def P (b : Addr) (A : Cell) (o len : Nat) (args : Array Value) (s : State) : Prop := args = #[.ref b, .int (Int32.ofNat o), .int (Int32.ofNat len)] ∧ Ch b A s ∧ o + len ≤ A.slots.size ∧ len ≤ 536870912 ∧ ∀ i, i < len → ¬ 255 < cv A (o + i)
def E (b : Addr) (A : Cell) (o len : Nat) (r : Option Value) (s u : State) : Prop := NewArr .byte "[B" len (fun j => .int (lo8 (cv A (o + j)))) r s u ∧ u.heap.size = s.heap.size + 1
/-- no char of the range above 255: a new byte[] of their low bytes -/
theorem law (l : Launch) (b : Addr) (A : Cell) (o len : Nat) : Law l yN 3 3 1 18 yB 6 (some (.array .byte)) site (P b A o len) (E b A o len) [] 1 len := by
  refine Law.of_walk (plainFor_of_name (by decide +kernel)) (by decide +kernel) (by decide +kernel) (by decide) (fun _ _ h => by rw [h.1]; rfl) (fun _ U U' hal hh h => ⟨h.1, h.2.1.mv hal hh, h.2.2⟩) (fun r U U' V V' h1 hal h2 h => ⟨NewArr.mv r U U' V V' h1 hal h2 h.1, by rw [h1, h2]; exact h.2⟩) ?_
  intro p e s m args below meth c s₁ X0 hexec hbytes hml hret hlk hnm hown hh0 W hP
  obtain ⟨rfl, hA, l1, l2, hp⟩ := hP
  have a31 := hA.1.2.2.2
  have c1 : Steps p.tables e below (s₁.setTop (entryFrame m #[.ref b, .int (Int32.ofNat o), .int (Int32.ofNat len)] 6)) (s₁.setTop (mkF m 0 #[.val (.ref b), .val (.int (Int32.ofNat o)), .val (.int (Int32.ofNat len)), .unset, .unset, .unset] [])) := entry rfl
  have c2 : Steps p.tables e below (s₁.setTop (entryFrame m #[.ref b, .int (Int32.ofNat o), .int (Int32.ofNat len)] 6)) (s₁.setTop (mkF m 1 #[.val (.ref b), .val (.int (Int32.ofNat o)), .val (.int (Int32.ofNat len)), .unset, .unset, .unset] [.int (Int32.ofNat len)])) := c1.trans (by
    refine XS.iloadN X0.here hexec rfl (hb hbytes d0) rfl ?_
    exact Steps.refl _)
  obtain ⟨T3, B3, X3, ba3, bs3, bv3, bh3, bf3, st3⟩ := X0.anew hexec (atype := .byte) (wk W (.arrayClass .byte)) rfl (by show len * 1 ≤ _; omega) (by omega) (g := (mkF m 1 #[.val (.ref b), .val (.int (Int32.ofNat o)), .val (.int (Int32.ofNat len)), .unset, .unset, .unset] [.int (Int32.ofNat len)])) rfl (hb hbytes d1) (rest := []) rfl (Nat.le_refl _) (by show 0 + len ≤ len; omega)
  rw [hh0] at ba3 st3
  have kp3 : XT.Kept s T3 := (XT.Kept.of_eq hh0).push bh3
  have hA3 := hA.keep X3.warmed.alike (kp3 _ _ hA.1.1)
  have hne : b ≠ s.heap.size := hA.1.ne
  have c4 : Steps p.tables e below (s₁.setTop (entryFrame m #[.ref b, .int (Int32.ofNat o), .int (Int32.ofNat len)] 6)) (T3.setTop (mkF m 3 #[.val (.ref b), .val (.int (Int32.ofNat o)), .val (.int (Int32.ofNat len)), .unset, .unset, .unset] [.ref s.heap.size])) := c2.trans (st3 _ (Steps.refl _))
  have c5 : Steps p.tables e below (s₁.setTop (entryFrame m #[.ref b, .int (Int32.ofNat o), .int (Int32.ofNat len)] 6)) (T3.setTop (mkF m 9 #[.val (.ref b), .val (.int (Int32.ofNat o)), .val (.int (Int32.ofNat len)), .val (.ref s.heap.size), .unset, .unset] [.int (Int32.ofNat len), .int 0, .ref s.heap.size, .int (Int32.ofNat o), .ref b])) := c4.trans (by
    refine XS.astoreN X3.here hexec rfl (hb hbytes d3) rfl rfl rfl ?_
    refine XS.aloadN X3.here hexec rfl (hb hbytes d4) rfl rfl ?_
    refine XS.iloadN X3.here hexec rfl (hb hbytes d5) rfl ?_
    refine XS.aloadN X3.here hexec rfl (hb hbytes d6) rfl rfl ?_
    refine iconstV X3.here hexec rfl 0 (hb hbytes d7) (by decide) ?_
    refine XS.iloadN X3.here hexec rfl (hb hbytes d8) rfl ?_
    exact Steps.refl _)
  obtain ⟨v6, T6, X6, E6, g6⟩ := X3.callS hexec (Cmp5.law l b A s.heap.size B3 o 0 len) hown (wks W (staticW U16 115 Cmp5.yN)) (wk W Cmp5.tab) (W := 0) (Nat.le_of_ble_eq_true rfl) (Nat.le_of_ble_eq_true rfl) (Nat.le_refl _) (by show 0 + len + 0 ≤ len; omega) (g := (mkF m 9 #[.val (.ref b), .val (.int (Int32.ofNat o)), .val (.int (Int32.ofNat len)), .val (.ref s.heap.size), .unset, .unset] [.int (Int32.ofNat len), .int (Int32.ofNat 0), .ref s.heap.size, .int (Int32.ofNat o), .ref b])) rfl (by rw [hml]; rfl) c5 (argsL := [.ref b, .int (Int32.ofNat o), .ref s.heap.size, .int (Int32.ofNat 0), .int (Int32.ofNat len)]) (rest := []) rfl rfl (by show 2 * 0 + 0 ≤ _; decide) (hb hbytes d9) (⟨rfl, hA3, ba3, hne, l1, by rw [bs3]; simp, hp⟩)
  obtain ⟨rfl, B6, p6, f6⟩ := E6
  have c7 : Steps p.tables e below (s₁.setTop (entryFrame m #[.ref b, .int (Int32.ofNat o), .int (Int32.ofNat len)] 6)) (T6.setTop (mkF m 12 #[.val (.ref b), .val (.int (Int32.ofNat o)), .val (.int (Int32.ofNat len)), .val (.ref s.heap.size), .unset, .unset] [.int (Int32.ofNat len)])) := g6
  have c8 : Steps p.tables e below (s₁.setTop (entryFrame m #[.ref b, .int (Int32.ofNat o), .int (Int32.ofNat len)] 6)) (T6.setTop (mkF m 58 #[.val (.ref b), .val (.int (Int32.ofNat o)), .val (.int (Int32.ofNat len)), .val (.ref s.heap.size), .val (.int (Int32.ofNat len)), .unset] [.ref s.heap.size])) := c7.trans (by
    refine XS.istore X6.here hexec rfl (hb hbytes d12) rfl rfl ?_
    refine XS.iload X6.here hexec rfl (hb hbytes d14) rfl ?_
    refine XS.iloadN X6.here hexec rfl (hb hbytes d16) rfl ?_
    refine XS.icmpYes X6.here hexec rfl (pc0 := 17) rfl (hb hbytes d17) rfl (ii_eq_t rfl) (by decide) rfl ?_
    refine XS.aloadN X6.here hexec rfl (hb hbytes d57) rfl rfl ?_
    exact Steps.refl _)
  have X8 := X6.wide (L' := []) (cells' := 1) (slots' := len) (fun x hx hlt => by
    simp only [List.nil_append, copyLocs, List.mem_map, List.mem_range] at hx
    obtain ⟨i, -, rfl⟩ := hx
    exact absurd hlt (Nat.lt_irrefl _)) (Nat.le_refl _) (by omega)
  exact ⟨T6, some (.ref s.heap.size), _, _, _, X8, rfl, rfl, rfl, (fun h => by cases h), ⟨⟨rfl, B6, ba3.like (X3.warmed.alike.symm.trans X6.warmed.alike) p6.1 f6.1 f6.2.1 f6.2.2.1, f6.2.1.trans bv3, by rw [X6.warmed.alike.findClass, f6.1]; exact bf3, by rw [f6.2.2.1, bs3]; simp, fun j hj => by rw [f6.2.2.2 j, if_pos (by omega)]; rfl, kp3.put p6 (Nat.le_refl _)⟩, by rw [p6.2.2, bh3, hh0]; simp⟩, fun fs hl => c8.trans (X8.areturnOut hexec rfl hret rfl (hb hbytes d58) hl)⟩
end Cmp3
namespace CodL
def yN : MethodName := ⟨"java/lang/StringUTF16", "coderFromArrayLen", "([BI)B"⟩
abbrev yB : ByteArray := jdk_52_method_15_code
theorem d0 : decode yB 0 = .ok (.iload_n 1, 1) := by decide +kernel
theorem d1 : decode yB 1 = .ok (.aload_n 0, 1) := by decide +kernel
theorem d2 : decode yB 2 = .ok (.arraylength, 1) := by decide +kernel
theorem d3 : decode yB 3 = .ok (.isub, 1) := by decide +kernel
theorem d4 : decode yB 4 = .ok (.bipush 31, 2) := by decide +kernel
theorem d6 : decode yB 6 = .ok (.iushr, 1) := by decide +kernel
theorem d7 : decode yB 7 = .ok (.i2b, 1) := by decide +kernel
theorem d8 : decode yB 8 = .ok (.ireturn, 1) := by decide +kernel
def site : List Cond := []
def tab : Cond := tabOf yN yB 2 (some .byte) site
def P (d : Addr) (B : Cell) (args : Array Value) (s : State) : Prop := args = #[.ref d, .int (Int32.ofNat B.slots.size)] ∧ Arr .byte d B s
def E (r : Option Value) (s u : State) : Prop := XT.PureE (some (.int 0)) r s u
/-- an array as long as the number of chars: LATIN1 -/
theorem law (l : Launch) (d : Addr) (B : Cell) : Law l yN 2 2 0 0 yB 2 (some .byte) site (P d B) E [] 0 0 := by
  refine Law.of_walk (plainFor_of_name (by decide +kernel)) (by decide +kernel) (by decide +kernel) (by decide) (fun _ _ h => by rw [h.1]; rfl) (fun _ U U' hal hh h => ⟨h.1, h.2.mv hal hh⟩) (fun r U U' V V' h1 hal h2 h => XT.PureE.mv r U U' V V' h1 hal h2 h) ?_
  intro p e s m args below meth c s₁ X0 hexec hbytes hml hret hlk hnm hown hh0 W hP
  obtain ⟨rfl, hB⟩ := hP
  have hB0 := hB.mv X0.warmed.alike hh0
  have c1 : Steps p.tables e below (s₁.setTop (entryFrame m #[.ref d, .int (Int32.ofNat B.slots.size)] 2)) (s₁.setTop (mkF m 0 #[.val (.ref d), .val (.int (Int32.ofNat B.slots.size))] [])) := entry rfl
  have c2 : Steps p.tables e below (s₁.setTop (entryFrame m #[.ref d, .int (Int32.ofNat B.slots.size)] 2)) (s₁.setTop (mkF m 2 #[.val (.ref d), .val (.int (Int32.ofNat B.slots.size))] [.ref d, .int (Int32.ofNat B.slots.size)])) := c1.trans (by
    refine XS.iloadN X0.here hexec rfl (hb hbytes d0) rfl ?_
    refine XS.aloadN X0.here hexec rfl (hb hbytes d1) rfl rfl ?_
    exact Steps.refl _)
  have c3 : Steps p.tables e below (s₁.setTop (entryFrame m #[.ref d, .int (Int32.ofNat B.slots.size)] 2)) (s₁.setTop (mkF m 8 #[.val (.ref d), .val (.int (Int32.ofNat B.slots.size))] [.int (lo8 (ushr (Int32.ofNat B.slots.size - Int32.ofNat B.slots.size) 31))])) := c2.trans (by
    refine X0.alen hexec hB0 rfl rfl (hb hbytes d2) ?_
    refine XS.isub X0.here hexec rfl (hb hbytes d3) rfl ?_
    refine bipushV X0.here hexec rfl 31 (hb hbytes d4) (by decide) ?_
    refine iushr X0.here hexec rfl (hb hbytes d6) rfl ?_
    refine i2b X0.here hexec rfl (hb hbytes d7) rfl ?_
    exact Steps.refl _)
  have e0 : lo8 (ushr (Int32.ofNat B.slots.size - Int32.ofNat B.slots.size) 31) = 0 := by rw [Int32.sub_self]; decide
  rw [e0] at c3
  exact ⟨s₁, some (.int 0), _, _, _, X0, rfl, rfl, rfl, (fun h => by cases h), ⟨rfl, hh0⟩, fun fs hl => c3.trans (X0.ireturnOut hexec hret rfl (Or.inr (Or.inr (Or.inl rfl))) (hb hbytes d8) hl)⟩
end CodL
/-- the String at a is Latin-1 over a new byte[] (the heap's one new cell): the low bytes of the len chars of A from o on; every cell but a is kept -/
def Got (a : Addr) (D : Cell) (fV fC : Field) (A : Cell) (o len : Nat) (r : Option Value) (s u : State) : Prop := r = none ∧ ∃ D' V : Cell, Blank "java/lang/String" a D' u ∧ Same D D' [fV.slot, fC.slot] ∧ D'.slots[fV.slot]? = some (.ref s.heap.size) ∧ D'.slots[fC.slot]? = some (.int 0) ∧ Arr .byte s.heap.size V u ∧ V.vm = .none ∧ u.vm.findClass "[B" = some V.cls ∧ V.slots.size = len ∧ (∀ j, j < len → V.slots[j]? = some (.int (lo8 (cv A (o + j))))) ∧ (∀ (y : Addr) (c : Cell), y ≠ a → s.heap[y]? = some c → u.heap[y]? = some c) ∧ u.heap.size = s.heap.size + 1
theorem Got.mv {a : Addr} {D A : Cell} {fV fC : Field} {o len : Nat} : ∀ r (U U' V V' : State), U'.heap = U.heap → V.vm.Alike V'.vm → V'.heap = V.heap → Got a D fV fC A o len r U V → Got a D fV fC A o len r U' V' :=
  fun r U U' V V' h1 hal h2 ⟨e0, D', X, a1, a2, a3, a4, a5, a6, a7, a8, a9, a10, a11⟩ => ⟨e0, D', X, a1.mv hal h2, a2, by rw [h1]; exact a3, a4, by rw [h1]; exact a5.mv hal h2, a6, by rw [hal.findClass]; exact a7, a8, a9, by rw [h1, h2]; exact a10, by rw [h1, h2]; exact a11⟩
namespace New4
def yN : MethodName := ⟨"java/lang/String", "<init>", "([CIILjava/lang/Void;)V"⟩
abbrev yB : ByteArray := jdk_42_method_149_code
theorem d0 : decode yB 0 = .ok (.aload_n 0, 1) := by decide +kernel
theorem d1 : decode yB 1 = .ok (.invokespecial 1, 3) := by decide +kernel
theorem d4 : decode yB 4 = .ok (.iload_n 3, 1) := by decide +kernel
theorem d5 : decode yB 5 = .ok (.ifCond (.ne) 22, 3) := by decide +kernel
theorem d27 : decode yB 27 = .ok (.getstatic 38, 3) := by decide +kernel
theorem d30 : decode yB 30 = .ok (.ifCond (.eq) 28, 3) := by decide +kernel
theorem d33 : decode yB 33 = .ok (.aload_n 1, 1) := by decide +kernel
theorem d34 : decode yB 34 = .ok (.iload_n 2, 1) := by decide +kernel
theorem d35 : decode yB 35 = .ok (.iload_n 3, 1) := by decide +kernel
theorem d36 : decode yB 36 = .ok (.invokestatic 177, 3) := by decide +kernel
theorem d39 : decode yB 39 = .ok (.astore 5, 2) := by decide +kernel
theorem d41 : decode yB 41 = .ok (.aload_n 0, 1) := by decide +kernel
theorem d42 : decode yB 42 = .ok (.aload 5, 2) := by decide +kernel
theorem d44 : decode yB 44 = .ok (.iload_n 3, 1) := by decide +kernel
theorem d45 : decode yB 45 = .ok (.invokestatic 47, 3) := by decide +kernel
theorem d48 : decode yB 48 = .ok (.putfield 15, 3) := by decide +kernel
theorem d51 : decode yB 51 = .ok (.aload_n 0, 1) := by decide +kernel
theorem d52 : decode yB 52 = .ok (.aload 5, 2) := by decide +kernel
theorem d54 : decode yB 54 = .ok (.putfield 9, 3) := by decide +kernel
theorem d57 : decode yB 57 = .ok (.return_, 1) := by decide +kernel
def site : List Cond := [.fieldLink "java/lang/String" 38 "java/lang/String" "COMPACT_STRINGS" "Z", Cmp3.tab, CodL.tab, .laysFinal "java/lang/String" "java/lang/String" "value" "[B", .fieldLink "java/lang/String" 9 "java/lang/String" "value" "[B", .laysFinal "java/lang/String" "java/lang/String" "coder" "B", .fieldLink "java/lang/String" 15 "java/lang/String" "coder" "B"] ++ objW "java/lang/String" 1 ++ staticW "java/lang/String" 177 Cmp3.yN ++ staticW "java/lang/String" 47 CodL.yN
def tab : Cond := tabOf yN yB 6 none site
def P (a : Addr) (D : Cell) (fV fC : Field) (b : Addr) (A : Cell) (z : Int32) (o len : Nat) (args : Array Value) (s : State) : Prop := args = #[.ref a, .ref b, .int (Int32.ofNat o), .int (Int32.ofNat len), .null] ∧ Blank "java/lang/String" a D s ∧ Found "java/lang/String" "value" "[B" fV s ∧ Found "java/lang/String" "coder" "B" fC s ∧ Ch b A s ∧ StaticIs s "java/lang/String" "COMPACT_STRINGS" "Z" (.int z) ∧ ¬ z = 0 ∧ 0 < len ∧ o + len ≤ A.slots.size ∧ len ≤ 536870912 ∧ ∀ i, i < len → ¬ 255 < cv A (o + i)
def E (a : Addr) (D : Cell) (fV fC : Field) (A : Cell) (o len : Nat) (r : Option Value) (s u : State) : Prop := Got a D fV fC A o len r s u
/-- len > 0, no char of the range above 255: a Latin-1 String of their low bytes -/
theorem law (l : Launch) (a : Addr) (D : Cell) (fV fC : Field) (b : Addr) (A : Cell) (z : Int32) (o len : Nat) : Law l yN 5 4 2 35 yB 6 none site (P a D fV fC b A z o len) (E a D fV fC A o len) [⟨a, fC.slot⟩, ⟨a, fV.slot⟩] 1 len := by
  refine Law.of_walk (plainFor_of_name (by decide +kernel)) (by decide +kernel) (by decide +kernel) (by decide) (fun _ _ h => by rw [h.1]; rfl) (fun _ U U' hal hh h => ⟨h.1, h.2.1.mv hal hh, h.2.2.1.al hal, h.2.2.2.1.al hal, h.2.2.2.2.1.mv hal hh, h.2.2.2.2.2.1.there hal hh, h.2.2.2.2.2.2⟩) (fun r U U' V V' h1 hal h2 h => Got.mv r U U' V V' h1 hal h2 h) ?_
  intro p e s m args below meth c s₁ X0 hexec hbytes hml hret hlk hnm hown hh0 W hP
  obtain ⟨rfl, hB, f1, f2, hA, s1, hz, l0, l1, l2, hp⟩ := hP
  have a31 := hA.1.2.2.2
  have c1 : Steps p.tables e below (s₁.setTop (entryFrame m #[.ref a, .ref b, .int (Int32.ofNat o), .int (Int32.ofNat len), .null] 6)) (s₁.setTop (mkF m 0 #[.val (.ref a), .val (.ref b), .val (.int (Int32.ofNat o)), .val (.int (Int32.ofNat len)), .val .null, .unset] [])) := entry rfl
  have c2 : Steps p.tables e below (s₁.setTop (entryFrame m #[.ref a, .ref b, .int (Int32.ofNat o), .int (Int32.ofNat len), .null] 6)) (s₁.setTop (mkF m 1 #[.val (.ref a), .val (.ref b), .val (.int (Int32.ofNat o)), .val (.int (Int32.ofNat len)), .val .null, .unset] [.ref a])) := c1.trans (by
    refine XS.aloadN X0.here hexec rfl (hb hbytes d0) rfl rfl ?_
    exact Steps.refl _)
  obtain ⟨T3, X3, q3, st3⟩ := X0.oinit hexec hown (wks W (objW "java/lang/String" 1)) (g := (mkF m 1 #[.val (.ref a), .val (.ref b), .val (.int (Int32.ofNat o)), .val (.int (Int32.ofNat len)), .val .null, .unset] [.ref a])) rfl (by rw [hml]; rfl) (rest := []) rfl (hb hbytes d1) (W := 0) (by show 2 * 0 + 0 ≤ _; decide) (Nat.le_of_ble_eq_true rfl) (Nat.le_of_ble_eq_true rfl)
  have hh3 := q3.trans hh0
  have c4 : Steps p.tables e below (s₁.setTop (entryFrame m #[.ref a, .ref b, .int (Int32.ofNat o), .int (Int32.ofNat len), .null] 6)) (T3.setTop (mkF m 27 #[.val (.ref a), .val (.ref b), .val (.int (Int32.ofNat o)), .val (.int (Int32.ofNat len)), .val .null, .unset] [])) := (c2.trans (st3 _ (Steps.refl _))).trans (by
    refine XS.iloadN X3.here hexec rfl (hb hbytes d4) rfl ?_
    refine XS.ifYes X3.here hexec rfl (pc0 := 5) rfl (hb hbytes d5) rfl (i0_ne_t (nz32 (by omega) l0)) (by decide) rfl ?_
    exact Steps.refl _)
  obtain ⟨T5, X5, q5, st5⟩ := X3.sget hexec hown (wk W (.fieldLink "java/lang/String" 38 "java/lang/String" "COMPACT_STRINGS" "Z")) s1 (fun _ _ h => by rw [hh3]; exact h) (g := (mkF m 27 #[.val (.ref a), .val (.ref b), .val (.int (Int32.ofNat o)), .val (.int (Int32.ofNat len)), .val .null, .unset] [])) rfl (hb hbytes d27)
  have hh5 := q5.trans hh3
  have c6 : Steps p.tables e below (s₁.setTop (entryFrame m #[.ref a, .ref b, .int (Int32.ofNat o), .int (Int32.ofNat len), .null] 6)) (T5.setTop (mkF m 30 #[.val (.ref a), .val (.ref b), .val (.int (Int32.ofNat o)), .val (.int (Int32.ofNat len)), .val .null, .unset] [.int z])) := c4.trans (st5 _ (Steps.refl _))
  have c7 : Steps p.tables e below (s₁.setTop (entryFrame m #[.ref a, .ref b, .int (Int32.ofNat o), .int (Int32.ofNat len), .null] 6)) (T5.setTop (mkF m 36 #[.val (.ref a), .val (.ref b), .val (.int (Int32.ofNat o)), .val (.int (Int32.ofNat len)), .val .null, .unset] [.int (Int32.ofNat len), .int (Int32.ofNat o), .ref b])) := c6.trans (by
    refine XS.ifNo X5.here hexec rfl (hb hbytes d30) rfl (i0_eq_f hz) ?_
    refine XS.aloadN X5.here hexec rfl (hb hbytes d33) rfl rfl ?_
    refine XS.iloadN X5.here hexec rfl (hb hbytes d34) rfl ?_
    refine XS.iloadN X5.here hexec rfl (hb hbytes d35) rfl ?_
    exact Steps.refl _)
  obtain ⟨v8, T8, X8, E8, g8⟩ := X5.callS hexec (Cmp3.law l b A o len) hown (wks W (staticW "java/lang/String" 177 Cmp3.yN)) (wk W Cmp3.tab) (W := 0) (Nat.le_of_ble_eq_true rfl) (Nat.le_of_ble_eq_true rfl) (Nat.le_refl _) (by show 0 + len ≤ len; omega) (g := (mkF m 36 #[.val (.ref a), .val (.ref b), .val (.int (Int32.ofNat o)), .val (.int (Int32.ofNat len)), .val .null, .unset] [.int (Int32.ofNat len), .int (Int32.ofNat o), .ref b])) rfl (by rw [hml]; rfl) c7 (argsL := [.ref b, .int (Int32.ofNat o), .int (Int32.ofNat len)]) (rest := []) rfl rfl (by show 2 * 0 + 0 ≤ _; decide) (hb hbytes d36) (⟨rfl, hA.mv X5.warmed.alike hh5, l1, l2, hp⟩)
  obtain ⟨e8, z8⟩ := E8
  obtain ⟨rfl, N, n1, n2, n3, n4, n5, n6⟩ := NewArr.mv _ T5 s _ _ hh5.symm (Vm.Alike.refl _) rfl e8
  rw [hh5] at z8
  have hB1 := hB.keep X8.warmed.alike (n6 _ _ hB.1)
  have hne : s.heap.size ≠ a := (Nat.ne_of_lt (Array.getElem?_eq_some_iff.mp hB.1).1).symm
  have c9 : Steps p.tables e below (s₁.setTop (entryFrame m #[.ref a, .ref b, .int (Int32.ofNat o), .int (Int32.ofNat len), .null] 6)) (T8.setTop (mkF m 39 #[.val (.ref a), .val (.ref b), .val (.int (Int32.ofNat o)), .val (.int (Int32.ofNat len)), .val .null, .unset] [.ref s.heap.size])) := g8
  have c10 : Steps p.tables e below (s₁.setTop (entryFrame m #[.ref a, .ref b, .int (Int32.ofNat o), .int (Int32.ofNat len), .null] 6)) (T8.setTop (mkF m 45 #[.val (.ref a), .val (.ref b), .val (.int (Int32.ofNat o)), .val (.int (Int32.ofNat len)), .val .null, .val (.ref s.heap.size)] [.int (Int32.ofNat N.slots.size), .ref s.heap.size, .ref a])) := by
    have hc : Steps p.tables e below (s₁.setTop (entryFrame m #[.ref a, .ref b, .int (Int32.ofNat o), .int (Int32.ofNat len), .null] 6)) (T8.setTop (mkF m 45 #[.val (.ref a), .val (.ref b), .val (.int (Int32.ofNat o)), .val (.int (Int32.ofNat len)), .val .null, .val (.ref s.heap.size)] [.int (Int32.ofNat len), .ref s.heap.size, .ref a])) := c9.trans (by
      refine XS.astore X8.here hexec rfl (hb hbytes d39) rfl rfl rfl ?_
      refine XS.aloadN X8.here hexec rfl (hb hbytes d41) rfl rfl ?_
      refine XS.aload X8.here hexec rfl (hb hbytes d42) rfl rfl ?_
      refine XS.iloadN X8.here hexec rfl (hb hbytes d44) rfl ?_
      exact Steps.refl _)
    rw [n4]; exact hc
  obtain ⟨v11, T11, X11, E11, g11⟩ := X8.callS hexec (CodL.law l s.heap.size N) hown (wks W (staticW "java/lang/String" 47 CodL.yN)) (wk W CodL.tab) (W := 1) (Nat.le_of_ble_eq_true rfl) (Nat.le_of_ble_eq_true rfl) (Nat.le_refl _) (by show 0 + len + 0 ≤ len; omega) (g := (mkF m 45 #[.val (.ref a), .val (.ref b), .val (.int (Int32.ofNat o)), .val (.int (Int32.ofNat len)), .val .null, .val (.ref s.heap.size)] [.int (Int32.ofNat N.slots.size), .ref s.heap.size, .ref a])) rfl (by rw [hml]; rfl) c10 (argsL := [.ref s.heap.size, .int (Int32.ofNat N.slots.size)]) (rest := [.ref a]) rfl rfl (by show 2 * 0 + (1 + 0) ≤ _; decide) (hb hbytes d45) (⟨rfl, n1⟩)
  obtain ⟨rfl, q11⟩ := E11
  have hB11 := hB1.mv (X8.warmed.alike.symm.trans X11.warmed.alike) q11
  have c12 : Steps p.tables e below (s₁.setTop (entryFrame m #[.ref a, .ref b, .int (Int32.ofNat o), .int (Int32.ofNat len), .null] 6)) (T11.setTop (mkF m 48 #[.val (.ref a), .val (.ref b), .val (.int (Int32.ofNat o)), .val (.int (Int32.ofNat len)), .val .null, .val (.ref s.heap.size)] [.int 0, .ref a])) := g11
  obtain ⟨T13, X13, p13, bl13, sl13, st13⟩ := X11.finit hexec hown (wk W (.fieldLink "java/lang/String" 15 "java/lang/String" "coder" "B")) (Or.inr ⟨_, (wk W (.laysFinal "java/lang/String" "java/lang/String" "coder" "B"))⟩) (Or.inl ⟨rfl, hnm⟩) f2 (Or.inl rfl) hB11 (t := .byte) (by decide +kernel) rfl (g := (mkF m 48 #[.val (.ref a), .val (.ref b), .val (.int (Int32.ofNat o)), .val (.int (Int32.ofNat len)), .val .null, .val (.ref s.heap.size)] [.int 0, .ref a])) rfl (rest := []) rfl (hb hbytes d48)
  have c14 : Steps p.tables e below (s₁.setTop (entryFrame m #[.ref a, .ref b, .int (Int32.ofNat o), .int (Int32.ofNat len), .null] 6)) (T13.setTop (mkF m 54 #[.val (.ref a), .val (.ref b), .val (.int (Int32.ofNat o)), .val (.int (Int32.ofNat len)), .val .null, .val (.ref s.heap.size)] [.ref s.heap.size, .ref a])) := (c12.trans (st13 _ (Steps.refl _))).trans (by
    refine XS.aloadN X13.here hexec rfl (hb hbytes d51) rfl rfl ?_
    refine XS.aload X13.here hexec rfl (hb hbytes d52) rfl rfl ?_
    exact Steps.refl _)
  obtain ⟨T15, X15, p15, bl15, sl15, st15⟩ := X13.finit hexec hown (wk W (.fieldLink "java/lang/String" 9 "java/lang/String" "value" "[B")) (Or.inr ⟨_, (wk W (.laysFinal "java/lang/String" "java/lang/String" "value" "[B"))⟩) (Or.inl ⟨rfl, hnm⟩) f1 (Or.inl rfl) bl13 (t := (.array .byte)) (by decide +kernel) rfl (g := (mkF m 54 #[.val (.ref a), .val (.ref b), .val (.int (Int32.ofNat o)), .val (.int (Int32.ofNat len)), .val .null, .val (.ref s.heap.size)] [.ref s.heap.size, .ref a])) rfl (rest := []) rfl (hb hbytes d54)
  have c16 : Steps p.tables e below (s₁.setTop (entryFrame m #[.ref a, .ref b, .int (Int32.ofNat o), .int (Int32.ofNat len), .null] 6)) (T15.setTop (mkF m 57 #[.val (.ref a), .val (.ref b), .val (.int (Int32.ofNat o)), .val (.int (Int32.ofNat len)), .val .null, .val (.ref s.heap.size)] [])) := c14.trans (st15 _ (Steps.refl _))
  have ap := apart (Or.inr ⟨_, (wk W (.laysFinal "java/lang/String" "java/lang/String" "value" "[B"))⟩) (Or.inr ⟨_, (wk W (.laysFinal "java/lang/String" "java/lang/String" "coder" "B"))⟩) f1 f2 (t₁ := .array .byte) (t₂ := .byte) (by decide +kernel) (by decide +kernel) (by decide)
  have al := X8.warmed.alike.symm.trans X15.warmed.alike
  have n7 : T11.heap[s.heap.size]? = some N := by rw [q11]; exact n1.1
  exact ⟨T15, none, _, _, _, X15, by simp, rfl, by omega, (fun _ => rfl), ⟨rfl, _, N, bl15, ((Same.refl D _).set _ (by simp)).set _ (by simp), sl15, (Cell.slots_setSlot_ne _ ap).trans sl13, n1.keep al (p15.other hne (p13.other hne n7)), n2, by rw [al.findClass]; exact n3, n4, n5, fun y c h1 h2 => p15.other h1 (p13.other h1 (by rw [q11]; exact n6 y c h2)), by rw [p15.2.2, p13.2.2, q11]; exact z8⟩, fun fs hl => c16.trans (X15.returnOut hexec hret (hb hbytes d57) hl)⟩
end New4
namespace New1
def yN : MethodName := ⟨"java/lang/String", "<init>", "([C)V"⟩
abbrev yB : ByteArray := jdk_42_method_3_code
theorem d0 : decode yB 0 = .ok (.aload_n 0, 1) := by decide +kernel
theorem d1 : decode yB 1 = .ok (.aload_n 1, 1) := by decide +kernel
theorem d2 : decode yB 2 = .ok (.iconst 0, 1) := by decide +kernel
theorem d3 : decode yB 3 = .ok (.aload_n 1, 1) := by decide +kernel
theorem d4 : decode yB 4 = .ok (.arraylength, 1) := by decide +kernel
theorem d5 : decode yB 5 = .ok (.aconst_null, 1) := by decide +kernel
theorem d6 : decode yB 6 = .ok (.invokespecial 27, 3) := by decide +kernel
theorem d9 : decode yB 9 = .ok (.return_, 1) := by decide +kernel
def site : List Cond := [New4.tab] ++ initW "java/lang/String" 27 New4.yN
def tab : Cond := tabOf yN yB 2 none site
def P (a : Addr) (D : Cell) (fV fC : Field) (b : Addr) (A : Cell) (z : Int32) (args : Array Value) (s : State) : Prop := args = #[.ref a, .ref b] ∧ Blank "java/lang/String" a D s ∧ Found "java/lang/String" "value" "[B" fV s ∧ Found "java/lang/String" "coder" "B" fC s ∧ Ch b A s ∧ StaticIs s "java/lang/String" "COMPACT_STRINGS" "Z" (.int z) ∧ ¬ z = 0 ∧ 0 < A.slots.size ∧ A.slots.size ≤ 536870912 ∧ ∀ i, i < A.slots.size → ¬ 255 < cv A i
def E (a : Addr) (D : Cell) (fV fC : Field) (A : Cell) (r : Option Value) (s u : State) : Prop := Got a D fV fC A 0 A.slots.size r s u
/-- new String(chars), not empty, no char above 255: a Latin-1 String of their low bytes -/
theorem law (l : Launch) (a : Addr) (D : Cell) (fV fC : Field) (b : Addr) (A : Cell) (z : Int32) : Law l yN 2 1 3 52 yB 2 none site (P a D fV fC b A z) (E a D fV fC A) [⟨a, fC.slot⟩, ⟨a, fV.slot⟩] 1 A.slots.size := by
  refine Law.of_walk (plainFor_of_name (by decide +kernel)) (by decide +kernel) (by decide +kernel) (by decide) (fun _ _ h => by rw [h.1]; rfl) (fun _ U U' hal hh h => ⟨h.1, h.2.1.mv hal hh, h.2.2.1.al hal, h.2.2.2.1.al hal, h.2.2.2.2.1.mv hal hh, h.2.2.2.2.2.1.there hal hh, h.2.2.2.2.2.2⟩) (fun r U U' V V' h1 hal h2 h => Got.mv r U U' V V' h1 hal h2 h) ?_
  intro p e s m args below meth c s₁ X0 hexec hbytes hml hret hlk hnm hown hh0 W hP
  obtain ⟨rfl, hB, f1, f2, hA, s1, hz, l0, l2, hp⟩ := hP
  have c1 : Steps p.tables e below (s₁.setTop (entryFrame m #[.ref a, .ref b] 2)) (s₁.setTop (mkF m 0 #[.val (.ref a), .val (.ref b)] [])) := entry rfl
  have c2 : Steps p.tables e below (s₁.setTop (entryFrame m #[.ref a, .ref b] 2)) (s₁.setTop (mkF m 6 #[.val (.ref a), .val (.ref b)] [.null, .int (Int32.ofNat A.slots.size), .int 0, .ref b, .ref a])) := c1.trans (by
    refine XS.aloadN X0.here hexec rfl (hb hbytes d0) rfl rfl ?_
    refine XS.aloadN X0.here hexec rfl (hb hbytes d1) rfl rfl ?_
    refine iconstV X0.here hexec rfl 0 (hb hbytes d2) (by decide) ?_
    refine XS.aloadN X0.here hexec rfl (hb hbytes d3) rfl rfl ?_
    refine X0.alen hexec (hA.1.mv X0.warmed.alike hh0) rfl rfl (hb hbytes d4) ?_
    refine XS.aconstNull X0.here hexec rfl (hb hbytes d5) ?_
    exact Steps.refl _)
  obtain ⟨v3, T3, X3, E3, g3⟩ := X0.callN hexec (New4.law l a D fV fC b A z 0 A.slots.size) rfl hown (wks W (initW "java/lang/String" 27 New4.yN)) (W New4.tab (by simp only [site, List.mem_cons, List.mem_append, true_or, or_true])) (W := 0) (Nat.le_of_ble_eq_true rfl) (Nat.le_of_ble_eq_true rfl) (Nat.le_refl _) (by show 0 + A.slots.size ≤ A.slots.size; omega) (g := (mkF m 6 #[.val (.ref a), .val (.ref b)] [.null, .int (Int32.ofNat A.slots.size), .int (Int32.ofNat 0), .ref b, .ref a])) rfl (by rw [hml]; rfl) c2 (argsL := [.ref b, .int (Int32.ofNat 0), .int (Int32.ofNat A.slots.size), .null]) (rest := []) rfl rfl (by show 2 * 0 + 0 ≤ _; decide) (hb hbytes d6) (⟨rfl, hB.mv X0.warmed.alike hh0, f1.al X0.warmed.alike, f2.al X0.warmed.alike, hA.mv X0.warmed.alike hh0, s1.there X0.warmed.alike hh0, hz, l0, by omega, l2, fun i hi => by rw [Nat.zero_add]; exact hp i hi⟩)
  have e0 := Got.mv _ s₁ s _ _ hh0.symm (Vm.Alike.refl _) rfl E3
  obtain rfl := e0.1
  have c4 : Steps p.tables e below (s₁.setTop (entryFrame m #[.ref a, .ref b] 2)) (T3.setTop (mkF m 9 #[.val (.ref a), .val (.ref b)] [])) := g3
  exact ⟨T3, none, _, _, _, X3, by simp, rfl, by omega, (fun _ => rfl), e0, fun fs hl => c4.trans (X3.returnOut hexec hret (hb hbytes d9) hl)⟩
theorem pays {l : Launch} {R : Room} {p : Program} {e : Env} {below : List Frame} {s : State} {sargs : Array Value} {len W : Nat} (a : Addr) (D : Cell) (fV fC : Field) (b : Addr) (A : Cell) (z : Int32) (htab : tab.before sargs s = true) (hfr : 4 ≤ R.frames) (hlo : W + 65 ≤ R.locals) :
    Back l R p e below s sargs yN len W (fun A₁ a₁ => A₁.cells + 1 ≤ R.cells ∧ A₁.slots + A.slots.size ≤ R.slots ∧ P a D fV fC b A z a₁ A₁.U) (fun A₁ _ v₁ B₁ => E a D fV fC A v₁ A₁.U B₁.U ∧ B₁.locs = A₁.locs ++ [⟨a, fC.slot⟩, ⟨a, fV.slot⟩] ∧ B₁.cells = A₁.cells + 1 ∧ B₁.slots = A₁.slots + A.slots.size) :=
  (law l a D fV fC b A z).pays htab hfr (by omega)
end New1
/-- the byte, read back as charAt reads it, is the char -/
theorem lo8_mask {x : Int32} (h0 : ¬ x < 0) (h1 : ¬ 255 < x) : lo8 x &&& 255 = x := by
  have t : ∀ k : Fin 256, lo8 (Int32.ofNat k.val) &&& 255 = Int32.ofNat k.val := by decide +kernel
  rw [Int32.lt_iff_toInt_lt] at h0 h1
  have e0 : (0 : Int32).toInt = 0 := rfl
  have e1 : (255 : Int32).toInt = 255 := rfl
  obtain ⟨k, hk⟩ : ∃ k : Nat, x.toInt = k := ⟨x.toInt.toNat, by omega⟩
  have hx : x = Int32.ofNat k := Int32.toInt_inj.mp (by rw [hk, Int32.toInt_ofNat_small (by omega)])
  rw [hx]
  exact t ⟨k, by omega⟩
end StrChars
namespace StrChars.Road
open Jvm Sem ClassFile Op Lib Jvm.Stand Jvm.Free Jvm.Free.XT
open Jvm.Lib.Cold (StaticIs)
abbrev ST : String := "java/lang/String"
/-- every table word that New1's law asks, flat -/
abbrev words : List Jvm.Cond := [.code New1.yN New1.yB 2 none, .initialized ST, .methodLink ST 27 New4.yN, .instanceMethod New4.yN,
  .code New4.yN New4.yB 6 none, .fieldLink ST 38 ST "COMPACT_STRINGS" "Z", .laysFinal ST ST "value" "[B", .fieldLink ST 9 ST "value" "[B", .laysFinal ST ST "coder" "B", .fieldLink ST 15 ST "coder" "B",
  .methodLink ST 1 Lib.objectInit, .instanceMethod Lib.objectInit, .code Lib.objectInit ⟨#[0xb1]⟩ 1 none, .methodLink ST 177 Cmp3.yN, .static Cmp3.yN, .methodLink ST 47 CodL.yN, .static CodL.yN,
  .code Cmp3.yN Cmp3.yB 6 (some (.array .byte)), .initialized U16, .arrayClass .byte, .methodLink U16 115 Cmp5.yN, .static Cmp5.yN, .code Cmp5.yN Cmp5.yB 7 (some .int), .code CodL.yN CodL.yB 2 (some .byte)]
theorem tab_of {a : Array Value} {s : State} (h : ∀ w ∈ words, w.before a s = true) : New1.tab.before a s = true := by
  have h5 : Cmp5.tab.before a s = true := unparts (wk h (.code Cmp5.yN Cmp5.yB 7 (some .int))) (wks h (.initialized Cmp5.yN.cls :: Cmp5.site))
  have hc : CodL.tab.before a s = true := unparts (wk h (.code CodL.yN CodL.yB 2 (some .byte))) (wks h (.initialized CodL.yN.cls :: CodL.site))
  have q5 : ∀ w ∈ Cmp5.tab :: words, w.before a s = true := fun w hw => (List.mem_cons.mp hw).elim (fun e => e ▸ h5) (h w)
  have h3 : Cmp3.tab.before a s = true := unparts (wk q5 (.code Cmp3.yN Cmp3.yB 6 (some (.array .byte)))) (wks q5 (.initialized Cmp3.yN.cls :: Cmp3.site))
  have q3 : ∀ w ∈ Cmp3.tab :: CodL.tab :: words, w.before a s = true := fun w hw => (List.mem_cons.mp hw).elim (fun e => e ▸ h3) fun hw => (List.mem_cons.mp hw).elim (fun e => e ▸ hc) (h w)
  have h4 : New4.tab.before a s = true := unparts (wk q3 (.code New4.yN New4.yB 6 none)) (wks q3 (.initialized New4.yN.cls :: New4.site))
  have q4 : ∀ w ∈ New4.tab :: words, w.before a s = true := fun w hw => (List.mem_cons.mp hw).elim (fun e => e ▸ h4) (h w)
  exact unparts (wk q4 (.code New1.yN New1.yB 2 none)) (wks q4 (.initialized New1.yN.cls :: New1.site))
/-- the words ride from the start Z to the walk's own state -/
theorem moved {Z s : State} {a0 args : Array Value} (hZ : Z.Warmed39 s.vm) (hw : ∀ d ∈ words, d.before a0 Z = true) : ∀ d ∈ words, d.before args s = true := fun d hd => by
  have q := hw d hd
  have t : ∀ d ∈ words, d = .arrayClass .byte ∨ (d.onTables && d.keepsFace) = true := by decide +kernel
  rcases t d hd with rfl | t
  · exact RoadKit.mvA hZ q
  · exact RoadKit.mv hZ q t
/-- WHAT COMES BACK, over the tables of the start Z: h the heap at the call, h' behind it -/
def Q (Z : State) (x : Addr) (A : Cell) (h : Heap) (v : Option Value) (h' : Heap) (L : List Loc) : Prop := v = none ∧ (∀ y ∈ L, y.base = x) ∧ RoadKit.Keep h h' [x] ∧ h'.size = h.size + 1 ∧ RoadKit.Exa Z h' x ST ∧ RoadKit.Fld Z h' x ST "value" "[B" (.ref h.size) ∧ RoadKit.Fld Z h' x ST "coder" "B" (.int 0) ∧
  (∃ V : Cell, RoadKit.Arr Z h' h.size V .byte ∧ V.vm = .none ∧ Z.vm.findClass "[B" = some V.cls ∧ V.slots.size = A.slots.size ∧ ∀ j, j < A.slots.size → V.slots[j]? = some (.int (lo8 (cv A j)))) ∧
  ∀ (O n d : String) (w : Value), RoadKit.Fld Z h x O n d w → RoadKit.slotOf Z O n d ≠ RoadKit.slotOf Z ST "value" "[B" → RoadKit.slotOf Z O n d ≠ RoadKit.slotOf Z ST "coder" "B" → RoadKit.Fld Z h' x O n d w
/-- **new String(chars) AT A CALL, IN THE ROAD'S FORM**: for specialBack behind newO: x the fresh String, b the char[] with the cell A -/
theorem back {p : Program} {l : Launch} {e : Env} {R : Room} {s : State} {args : Array Value} {below : List Frame} {len W : Nat} {Z : State} {a0 : Array Value} {h : Heap} (hZ : Z.Warmed39 s.vm) (hw : ∀ d ∈ words, d.before a0 Z = true) {kI : Nat} (wi : (Jvm.Cond.instantiable ST kI).before a0 Z = true)
    {x b : Addr} {A : Cell} {z : Int32} {v0 c0 : Value} (E : RoadKit.Exa Z h x ST) (V : RoadKit.Fld Z h x ST "value" "[B" v0) (C : RoadKit.Fld Z h x ST "coder" "B" c0) (K : RoadKit.Arr Z h b A .char) (hty : Typed .char A) (S : RoadKit.Sta Z h ST "COMPACT_STRINGS" "Z" (.int z)) (hz : ¬ z = 0)
    (l0 : 0 < A.slots.size) (l2 : A.slots.size ≤ 536870912) (hp : ∀ i, i < A.slots.size → ¬ 255 < cv A i) (hfr : 4 ≤ R.frames) (hlo : W + 65 ≤ R.locals) :
    Back l R p e below s args New1.yN len W (fun P a => a = #[.ref x, .ref b] ∧ P.U.heap = h ∧ P.cells + 1 ≤ R.cells ∧ P.slots + A.slots.size ≤ R.slots)
      (fun P _ v B => ∃ L, Q Z x A h v B.U.heap L ∧ B.locs = P.locs ++ L ∧ B.cells = P.cells + 1 ∧ B.slots = P.slots + A.slots.size) := by
  intro m meth c P g ig mk a X hg hsize hdg hW hn hp'
  obtain ⟨rfl, rfl, r1, r2⟩ := hp'
  have al : Z.vm.Alike P.U.vm := hZ.alike.trans X.warmed.alike
  obtain ⟨D, cfV, kV, iV, fV, hD, gV, stV, knV, obV, asV, slV⟩ := id V
  obtain ⟨D', cfC, kC, iC, fC, hD', gC, stC, -, -, asC, slC⟩ := id C
  cases hD.symm.trans hD'
  obtain ⟨D2, kD, e1, e2, e3, e4, e5⟩ := id E
  cases hD.symm.trans e1
  obtain ⟨c2, k2, i1, i2, i3, -⟩ := Cond.instantiable_spec wi
  cases e2.symm.trans i1
  cases e3.symm.trans i2
  obtain ⟨kU, u1, u2⟩ := al.2.2 _ _ e3
  have hB : Blank ST x D P.U := ⟨hD, ⟨knV, fun q hq => by rw [hq] at obV; cases obV⟩, by rw [al.findClass]; exact e2, kU, u1, by rw [u2]; exact i3, by rw [u2]; exact e5 i3⟩
  have F1 : Found ST "value" "[B" fV P.U := ⟨SBG.found_only al ⟨cfV, kV, iV, gV⟩, stV⟩
  have F2 : Found ST "coder" "B" fC P.U := ⟨SBG.found_only al ⟨cfC, kC, iC, gC⟩, stC⟩
  have hA : Ch b A P.U := ⟨⟨K.1, State.isArrayOf_alike al K.2.1, K.2.2, by omega⟩, hty⟩
  have hS : StaticIs P.U ST "COMPACT_STRINGS" "Z" (.int z) := by
    obtain ⟨cfS, iS, kS, fS, st, cS, t1, t2, t3, t4, t5, t6, t7⟩ := S
    exact StaticIs.there (s := { Z with heap := P.U.heap }) ⟨cfS, iS, kS, fS, st, cS, t1, t2, t3, t4, t5, (fun q => by rw [q] at t6; cases t6), t7⟩ al rfl
  obtain ⟨v, B, X', ⟨⟨hv, E', V', q1, q2, q3, q4, q5, q6, q7, q8, q9, q10, q11⟩, hl, hc, hs⟩, st⟩ := New1.pays x D fV fC b A z (tab_of (moved hZ hw)) hfr hlo m meth c P g ig mk _ X hg hsize hdg hW hn ⟨r1, r2, rfl, hB, F1, F2, hA, hS, hz, l0, l2, hp⟩
  have al' : Z.vm.Alike B.U.vm := hZ.alike.trans X'.warmed.alike
  have hsz : E'.slots.size = D.slots.size := by
    obtain ⟨-, -, -, kB, w1, w2, w3⟩ := q1
    obtain ⟨kB', y1, y2⟩ := al'.2.2 _ _ e3
    rw [q2.2.1] at w1
    cases w1.symm.trans y1
    rw [w3, e5 i3, y2]
  refine ⟨v, B, X', ⟨_, ⟨hv, ?_, ⟨by omega, fun y cy hy hn' => q10 y cy (by simpa using hn') hy, fun y cy hy => ?_⟩, q11, ⟨E', _, q1.1, by rw [q2.2.1]; exact e2, by rw [q2.2.1]; exact e3, by rw [q2.1]; exact obV, fun _ => by rw [hsz]; exact e5 i3⟩,
    ⟨E', cfV, kV, iV, fV, q1.1, gV, stV, by rw [q2.1]; exact knV, by rw [q2.1]; exact obV, by rw [q2.2.1]; exact asV, q3⟩, ⟨E', cfC, kC, iC, fC, q1.1, gC, stC, by rw [q2.1]; exact knV, by rw [q2.1]; exact obV, by rw [q2.2.1]; exact asC, q4⟩,
    ⟨V', ⟨q5.1, State.isArrayOf_alike al'.symm q5.2.1, q5.2.2.1⟩, q6, by rw [← al'.findClass]; exact q7, q8, fun j hj => by have := q9 j hj; rwa [Nat.zero_add] at this⟩, fun O n d w F n1 n2 => ?_⟩, hl, hc, hs⟩, st⟩
  · intro y hy
    simp only [List.mem_cons, List.not_mem_nil, or_false] at hy
    rcases hy with rfl | rfl <;> rfl
  · by_cases q : y = x
    · subst q
      cases hD.symm.trans hy
      exact ⟨E', q1.1, q2.2.1, q2.1, hsz⟩
    · exact ⟨cy, q10 y cy q hy, rfl, rfl, rfl⟩
  · obtain ⟨D3, cf, k, i, f, g1, g2, g3, g4, g5, g6, g7⟩ := F
    cases hD.symm.trans g1
    simp only [RoadKit.slotOf, g2, gV, gC, Option.map_some, Option.getD_some] at n1 n2
    exact ⟨E', cf, k, i, f, q1.1, g2, g3, by rw [q2.1]; exact g4, by rw [q2.1]; exact g5, by rw [q2.2.1]; exact g6, by rw [q2.2.2 f.slot (by simp [n1, n2])]; exact g7⟩
end StrChars.Road
namespace StrChars.Road
open Jvm Sem ClassFile Op Lib Jvm.Stand Jvm.Free Jvm.Free.XT
/-- WHAT COMES BACK, the byte[] as a list of values -/
def QA (Z : State) (x : Addr) (zn : Int32) (cs : List Int32) (h : Heap) (v : Option Value) (h' : Heap) (L : List Loc) : Prop := v = none ∧ (∀ y ∈ L, y.base = x) ∧ RoadKit.Keep h h' [x] ∧ h'.size = h.size + 1 ∧ RoadKit.Exa Z h' x ST ∧ RoadKit.Fld Z h' x ST "value" "[B" (.ref h.size) ∧ RoadKit.Fld Z h' x ST "coder" "B" (.int 0) ∧
  (∃ kb, Z.vm.findClass "[B" = some kb ∧ RoadKit.Arv Z h' h.size kb .byte zn (cs.map fun c => .int (lo8 c)) (.int 0)) ∧
  ∀ (O n d : String) (w : Value), RoadKit.Fld Z h x O n d w → RoadKit.slotOf Z O n d ≠ RoadKit.slotOf Z ST "value" "[B" → RoadKit.slotOf Z O n d ≠ RoadKit.slotOf Z ST "coder" "B" → RoadKit.Fld Z h' x O n d w
/-- **new String(chars) AT A CALL, THE ARRAYS AS LISTS**: the char[] at b holds cs, not empty, no char above 255 -/
theorem backArv {p : Program} {l : Launch} {e : Env} {R : Room} {s : State} {args : Array Value} {below : List Frame} {len W : Nat} {Z : State} {a0 : Array Value} {h : Heap} (hZ : Z.Warmed39 s.vm) (hw : ∀ d ∈ words, d.before a0 Z = true) {kI : Nat} (wi : (Jvm.Cond.instantiable ST kI).before a0 Z = true)
    {x b : Addr} {k : ClassId} {zn z : Int32} {cs : List Int32} {dv v0 c0 : Value} (E : RoadKit.Exa Z h x ST) (V : RoadKit.Fld Z h x ST "value" "[B" v0) (C : RoadKit.Fld Z h x ST "coder" "B" c0) (K : RoadKit.Arv Z h b k .char zn (cs.map Value.int) dv) (S : RoadKit.Sta Z h ST "COMPACT_STRINGS" "Z" (.int z)) (hz : ¬ z = 0)
    (hlen : zn.toNatClampNeg = cs.length) (h0 : 0 < cs.length) (hbig : cs.length ≤ 536870912) (hall : ∀ c ∈ cs, ¬ 255 < c) (hfr : 4 ≤ R.frames) (hlo : W + 65 ≤ R.locals) :
    Back l R p e below s args New1.yN len W (fun P a => a = #[.ref x, .ref b] ∧ P.U.heap = h ∧ P.cells + 1 ≤ R.cells ∧ P.slots + cs.length ≤ R.slots)
      (fun P _ v B => ∃ L, QA Z x zn cs h v B.U.heap L ∧ B.locs = P.locs ++ L ∧ B.cells = P.cells + 1 ∧ B.slots = P.slots + cs.length) := by
  obtain ⟨A, K1, K2, K3, K4, K5, K6⟩ := K
  have e : A.slots.size = cs.length := K3.trans hlen
  have hat : ∀ (i : Nat) (hi : i < cs.length), A.slots[i]? = some (.int cs[i]) := fun i hi => by rw [K5 i (by omega)]; simp [List.getD_eq_getElem?_getD, hi]
  have hcv : ∀ (i : Nat) (hi : i < cs.length), cv A i = cs[i] := fun i hi => by unfold cv; rw [hat i hi]
  have hty : Typed .char A := fun i v hv => by
    have hi : i < A.slots.size := (Array.getElem?_eq_some_iff.mp hv).1
    have q := K5 i hi
    rw [hv] at q
    rw [Option.some.inj q]
    exact K6 i hi
  refine Back.mono (back hZ hw wi E V C K1 hty S hz (by omega) (by omega) (fun i hi => by rw [hcv i (by omega)]; exact hall _ (List.getElem_mem _)) hfr hlo) (fun P a hp => ⟨hp.1, hp.2.1, hp.2.2.1, by rw [e]; exact hp.2.2.2⟩) (fun P a v B hp hq => ?_)
  obtain ⟨L, ⟨q1, q2, q3, q4, q5, q6, q7, ⟨V', v1, v2, v3, v4, v5⟩, q9⟩, hl, hc, hs⟩ := hq
  refine ⟨L, ⟨q1, q2, q3, q4, q5, q6, q7, ⟨V'.cls, v3, V', v1, rfl, by rw [v4, e, hlen], K4, fun i hi => ?_, fun i hi => ?_⟩, q9⟩, hl, hc, by rw [hs, e]⟩
  · have hi' : i < cs.length := by omega
    rw [v5 i (by omega), hcv i hi']; simp [List.getD_eq_getElem?_getD, hi']
  · have hi' : i < cs.length := by omega
    simp only [List.getD_eq_getElem?_getD, List.getElem?_map, List.getElem?_eq_getElem hi', Option.map_some, Option.getD_some]
    exact fits_lo8 _
end StrChars.Road
namespace StrChars.Road
open Jvm Sem ClassFile Op Lib Jvm.Stand Jvm.Free Jvm.Free.XT
/-- WHAT COMES BACK, in the writer's own shape -/
def QV (Z : State) (x : Addr) (N : Int32) (bs : List Int32) (h : Heap) (n0 : Nat) (v : Option Value) (h' : Heap) (L : List Loc) : Prop := v = none ∧ RoadKit.Fr n0 L ∧ RoadKit.Keep h h' [x] ∧ RoadKit.Exa Z h' x ST ∧ RoadKit.Fld Z h' x ST "coder" "B" (.int 0) ∧
  ∃ (t : Addr) (kb : ClassId), n0 ≤ t ∧ h.size ≤ t ∧ ¬ t = x ∧ RoadKit.Fld Z h' x ST "value" "[B" (.ref t) ∧ RoadKit.Arv Z h' t kb .byte N (bs.map Value.int) (.int 0)
/-- **new String(chars) AT A CALL, FOR THE WRITER**: a char[] of n known ints, each 0 to 255 -/
theorem backV {p : Program} {l : Launch} {e : Env} {R : Room} {s : State} {args : Array Value} {below : List Frame} {len W : Nat} {Z : State} {a0 : Array Value} {h : Heap} (hZ : Z.Warmed39 s.vm) (hw : ∀ d ∈ words, d.before a0 Z = true) {kI : Nat} (wi : (Jvm.Cond.instantiable ST kI).before a0 Z = true)
    {x b : Addr} {kC : ClassId} {cs bs : List Int32} {d v0 c0 : Value} {z N : Int32} {n n0 : Nat} (hx0 : n0 ≤ x) (hh0 : n0 ≤ h.size) (E : RoadKit.Exa Z h x ST) (V : RoadKit.Fld Z h x ST "value" "[B" v0) (C : RoadKit.Fld Z h x ST "coder" "B" c0) (K : RoadKit.Arv Z h b kC .char N (cs.map Value.int) d) (S : RoadKit.Sta Z h ST "COMPACT_STRINGS" "Z" (.int z)) (hz : ¬ z = 0)
    (hn : cs.length = n) (hN : N = Int32.ofNat n) (l0 : 0 < n) (l2 : n ≤ 4000) (hp : ∀ c ∈ cs, ¬ c < 0 ∧ ¬ (255 : Int32) < c) (hb : bs = cs.map (fun c => c.toInt8.toInt32)) (hfr : 4 ≤ R.frames) (hlo : W + 65 ≤ R.locals) :
    Back l R p e below s args (⟨"java/lang/String", "<init>", "([C)V"⟩ : MethodName) len W (fun P a => a = #[.ref x, .ref b] ∧ P.U.heap = h ∧ P.cells + 1 ≤ R.cells ∧ P.slots + n ≤ R.slots)
      (fun P _ v B => ∃ L, QV Z x N bs h n0 v B.U.heap L ∧ B.locs = P.locs ++ L ∧ B.cells = P.cells + 1 ∧ B.slots = P.slots + n) := by
  subst hn hN hb
  refine Back.mono (backArv hZ hw wi E V C K S hz (n32 (by omega)) l0 (by omega) (fun c hc => (hp c hc).2) hfr hlo) (fun P a hp => hp) (fun P a v B hp hq => ?_)
  obtain ⟨L, ⟨q1, q2, q3, q4, q5, q6, q7, ⟨kb, v1, v2⟩, q9⟩, hl, hc, hs⟩ := hq
  exact ⟨L, ⟨q1, fun y hy => by rw [q2 y hy]; exact hx0, q3, q5, q7, h.size, kb, hh0, Nat.le_refl _, Nat.ne_of_gt E.lt, q6, by rw [List.map_map]; exact v2⟩, hl, hc, hs⟩
end StrChars.Road
namespace StrChars
open Jvm Sem ClassFile Op Lib Jvm.Stand Jvm.Free.XT Jvm.Free.ALB Jvm.Free.JM Jvm.Free
open Jvm.Lib.Cold (StaticIs)
def hi8 (x : Int32) : Int32 := lo8 (x >>> ((8 : Int32) &&& 31))
/-- what StringUTF16.getChar makes of two bytes -/
def pairCh (u v : Int32) : Int32 := (((u &&& 255) <<< ((0 : Int32) &&& 31)) ||| ((v &&& 255) <<< ((8 : Int32) &&& 31))).toUInt32.toUInt16.toUInt32.toInt32
theorem lo8_and (x : Int32) : (lo8 x &&& 255).toBitVec.toNat = x.toBitVec.toNat % 256 := by
  have h : (lo8 x).toBitVec = (x.toBitVec.signExtend 8).signExtend 32 := by rw [lo8, Int8.toBitVec_toInt32, Int32.toBitVec_toInt8]
  rw [Int32.toBitVec_and, BitVec.toNat_and, h]
  have e : ((x.toBitVec.signExtend 8).signExtend 32).toNat % 256 = x.toBitVec.toNat % 256 := by
    rw [BitVec.toNat_signExtend]
    have hlt := x.toBitVec.isLt
    simp only [BitVec.toNat_setWidth, BitVec.toNat_signExtend]
    split <;> split <;> omega
  rw [← e]
  exact Nat.and_two_pow_sub_one_eq_mod _ 8
theorem pair_says {c : Int32} (h0 : ¬ c < 0) (h1 : ¬ 65535 < c) : pairCh (lo8 c) (hi8 c) = c := by
  rw [Int32.lt_iff_toInt_lt] at h0 h1
  have e0 : (0 : Int32).toInt = 0 := rfl
  have e1 : (65535 : Int32).toInt = 65535 := rfl
  have hc : c.toInt = c.toBitVec.toNat := by
    have := c.toBitVec.isLt
    have e : c.toInt = c.toBitVec.toInt := rfl
    rw [e] at h0 h1
    rw [e]
    rw [BitVec.toInt_eq_toNat_cond] at h0 h1 ⊢
    split at h0 <;> split <;> omega
  have hn : c.toBitVec.toNat < 65536 := by omega
  have a1 := lo8_and c
  have a2 : (hi8 c &&& 255).toBitVec.toNat = c.toBitVec.toNat / 256 := by
    rw [hi8, lo8_and]
    have e : ((8 : Int32) &&& 31) = 8 := by decide
    rw [e, Int32.toBitVec_shiftRight]
    have e2 : ((8 : Int32).toBitVec.smod 32) = 8#32 := by decide
    rw [e2, BitVec.sshiftRight_eq', BitVec.toNat_sshiftRight_of_msb_false (by rw [BitVec.msb_eq_false_iff_two_mul_lt]; omega)]
    show c.toBitVec.toNat >>> 8 % 256 = _
    rw [Nat.shiftRight_eq_div_pow]
    omega
  unfold pairCh
  apply Int32.toBitVec_inj.mp
  apply BitVec.eq_of_toNat_eq
  have f0 : ((0 : Int32) &&& 31) = 0 := by decide
  have f8 : ((8 : Int32) &&& 31) = 8 := by decide
  rw [f0, f8]
  have g : (((lo8 c &&& 255) <<< (0 : Int32)) ||| ((hi8 c &&& 255) <<< (8 : Int32))).toBitVec.toNat = c.toBitVec.toNat := by
    rw [Int32.toBitVec_or, Int32.toBitVec_shiftLeft, Int32.toBitVec_shiftLeft]
    have s0 : ((0 : Int32).toBitVec.smod 32) = 0#32 := by decide
    have s8 : ((8 : Int32).toBitVec.smod 32) = 8#32 := by decide
    rw [s0, s8, BitVec.toNat_or]
    simp only [BitVec.shiftLeft_eq', BitVec.toNat_shiftLeft, a1, a2]
    show (c.toBitVec.toNat % 256) <<< 0 % 2 ^ 32 ||| (c.toBitVec.toNat / 256) <<< 8 % 2 ^ 32 = _
    rw [Nat.shiftLeft_zero, Nat.mod_eq_of_lt (show c.toBitVec.toNat % 256 < 2 ^ 32 by omega), Nat.mod_eq_of_lt (show (c.toBitVec.toNat / 256) <<< 8 < 2 ^ 32 by rw [Nat.shiftLeft_eq]; omega), Nat.or_comm, ← Nat.shiftLeft_add_eq_or_of_lt (by omega), Nat.shiftLeft_eq]
    omega
  show BitVec.toNat (((((lo8 c &&& 255) <<< (0 : Int32)) ||| ((hi8 c &&& 255) <<< (8 : Int32))).toBitVec.setWidth 16).setWidth 32) = _
  rw [BitVec.toNat_setWidth, BitVec.toNat_setWidth, g]
  omega
end StrChars
namespace StrChars
open Jvm Sem ClassFile Op Lib Jvm.Stand Jvm.Free.XT Jvm.Free.ALB Jvm.Free.JM Jvm.Free
open Jvm.Lib.Cold (StaticIs)
/-- charAt's cast of a byte read back -/
def chr8 (u : Int32) : Int32 := (u &&& 255).toUInt32.toUInt16.toUInt32.toInt32
theorem chr8_lo8 {c : Int32} (h0 : ¬ c < 0) (h1 : ¬ 255 < c) : chr8 (lo8 c) = c := by
  have t : ∀ k : Fin 256, (Int32.ofNat k.val).toUInt32.toUInt16.toUInt32.toInt32 = Int32.ofNat k.val := by decide +kernel
  unfold chr8
  rw [lo8_mask h0 h1]
  rw [Int32.lt_iff_toInt_lt] at h0 h1
  have e0 : (0 : Int32).toInt = 0 := rfl
  have e1 : (255 : Int32).toInt = 255 := rfl
  obtain ⟨k, hk⟩ : ∃ k : Nat, c.toInt = k := ⟨c.toInt.toNat, by omega⟩
  have hx : c = Int32.ofNat k := Int32.toInt_inj.mp (by rw [hk, Int32.toInt_ofNat_small (by omega)])
  rw [hx]
  exact t ⟨k, by omega⟩
theorem narrow_ch {c : Int32} (h0 : ¬ c < 0) (h1 : ¬ 65535 < c) : narrow .char (.int c) = .int c := by
  have q : narrow .char (.int (pairCh (lo8 c) (hi8 c))) = .int (pairCh (lo8 c) (hi8 c)) := narrow_c _
  rwa [pair_says h0 h1] at q
/-- the array's cell V codes the n chars f 0 .. f (n - 1) by the coder cd, as the JDK does: coder 1 just where some char is above 255 -/
def Cod (cd : Int32) (n : Nat) (f : Nat → Int32) (V : Cell) : Prop := (cd = 0 ∧ V.slots.size = n ∧ ∀ j, j < n → V.slots[j]? = some (.int (lo8 (f j))) ∧ ¬ 255 < f j) ∨ (cd = 1 ∧ V.slots.size = 2 * n ∧ (∀ j, j < n → V.slots[2 * j]? = some (.int (lo8 (f j))) ∧ V.slots[2 * j + 1]? = some (.int (hi8 (f j)))) ∧ ∃ j, j < n ∧ 255 < f j)
theorem Cod.cd {cd : Int32} {n : Nat} {f : Nat → Int32} {V : Cell} (h : Cod cd n f V) : cd = 0 ∨ cd = 1 := h.imp (fun q => q.1) fun q => q.1
/-- **x is a String of the n chars f 0 .. f (n - 1)**, Latin-1 or UTF-16; its array at t has the cell V -/
def Txt (x t : Addr) (V : Cell) (cd : Int32) (n : Nat) (f : Nat → Int32) (U : State) : Prop := Exact "java/lang/String" x U ∧ Has x "java/lang/String" "value" "[B" (.ref t) U ∧ Has x "java/lang/String" "coder" "B" (.int cd) U ∧ XT.Arr .byte t V U ∧ Cod cd n f V ∧ ∀ j, j < n → ¬ f j < 0 ∧ ¬ 65535 < f j
theorem Txt.mv {x t : Addr} {V : Cell} {cd : Int32} {n : Nat} {f : Nat → Int32} {U U' : State} (h : Txt x t V cd n f U) (hal : U.vm.Alike U'.vm) (hh : U'.heap = U.heap) : Txt x t V cd n f U' := ⟨h.1.mv hal hh, h.2.1.mv hal hh, h.2.2.1.mv hal hh, h.2.2.2.1.mv hal hh, h.2.2.2.2⟩
namespace IsL
def yN : MethodName := ⟨"java/lang/String", "isLatin1", "()Z"⟩
abbrev yB : ByteArray := jdk_42_method_154_code
theorem d0 : decode yB 0 = .ok (.getstatic 38, 3) := by decide +kernel
theorem d3 : decode yB 3 = .ok (.ifCond (.eq) 14, 3) := by decide +kernel
theorem d6 : decode yB 6 = .ok (.aload_n 0, 1) := by decide +kernel
theorem d7 : decode yB 7 = .ok (.getfield 15, 3) := by decide +kernel
theorem d10 : decode yB 10 = .ok (.ifCond (.ne) 7, 3) := by decide +kernel
theorem d13 : decode yB 13 = .ok (.iconst 1, 1) := by decide +kernel
theorem d14 : decode yB 14 = .ok (.goto 4, 3) := by decide +kernel
theorem d17 : decode yB 17 = .ok (.iconst 0, 1) := by decide +kernel
theorem d18 : decode yB 18 = .ok (.ireturn, 1) := by decide +kernel
def site : List Cond := [.fieldLink "java/lang/String" 38 "java/lang/String" "COMPACT_STRINGS" "Z", .fieldLink "java/lang/String" 15 "java/lang/String" "coder" "B"]
def tab : Cond := tabOf yN yB 1 (some .boolean) site
def P (x : Addr) (cd z : Int32) (args : Array Value) (s : State) : Prop := args = #[.ref x] ∧ Has x "java/lang/String" "coder" "B" (.int cd) s ∧ (cd = 0 ∨ cd = 1) ∧ StaticIs s "java/lang/String" "COMPACT_STRINGS" "Z" (.int z) ∧ ¬ z = 0
def E (cd : Int32) (r : Option Value) (s u : State) : Prop := XT.PureE (some (.int (1 - cd))) r s u
theorem law (l : Launch) (x : Addr) (cd z : Int32) : Law l yN 1 0 0 0 yB 1 (some .boolean) site (P x cd z) (E cd) [] 0 0 := by
  refine Law.of_walk (plainFor_of_name (by decide +kernel)) (by decide +kernel) (by decide +kernel) (by decide) (fun _ _ h => by rw [h.1]; rfl) (fun _ U U' hal hh h => ⟨h.1, h.2.1.mv hal hh, h.2.2.1, h.2.2.2.1.there hal hh, h.2.2.2.2⟩) (fun r U U' V V' h1 hal h2 h => XT.PureE.mv r U U' V V' h1 hal h2 h) ?_
  intro p e s m args below meth c s₁ X0 hexec hbytes hml hret hlk hnm hown hh0 W hP
  obtain ⟨rfl, hx, hc, s1, hz⟩ := hP
  have c1 : Steps p.tables e below (s₁.setTop (entryFrame m #[.ref x] 1)) (s₁.setTop (mkF m 0 #[.val (.ref x)] [])) := entry rfl
  obtain ⟨T2, X2, q2, st2⟩ := X0.sget hexec hown (wk W (.fieldLink "java/lang/String" 38 "java/lang/String" "COMPACT_STRINGS" "Z")) s1 (fun _ _ h => by rw [hh0]; exact h) (g := (mkF m 0 #[.val (.ref x)] [])) rfl (hb hbytes d0)
  have hh2 := q2.trans hh0
  have c3 : Steps p.tables e below (s₁.setTop (entryFrame m #[.ref x] 1)) (T2.setTop (mkF m 7 #[.val (.ref x)] [.ref x])) := (c1.trans (st2 _ (Steps.refl _))).trans (by
    refine XS.ifNo X2.here hexec rfl (hb hbytes d3) rfl (i0_eq_f hz) ?_
    refine XS.aloadN X2.here hexec rfl (hb hbytes d6) rfl rfl ?_
    exact Steps.refl _)
  obtain ⟨T4, X4, q4, st4⟩ := X2.hget hexec hown (wk W (.fieldLink "java/lang/String" 15 "java/lang/String" "coder" "B")) (hx.mv X2.warmed.alike hh2) (g := (mkF m 7 #[.val (.ref x)] [.ref x])) rfl (rest := []) rfl (hb hbytes d7)
  have c5 : Steps p.tables e below (s₁.setTop (entryFrame m #[.ref x] 1)) (T4.setTop (mkF m 10 #[.val (.ref x)] [.int cd])) := c3.trans (st4 _ (Steps.refl _))
  have c6 : Steps p.tables e below (s₁.setTop (entryFrame m #[.ref x] 1)) (T4.setTop (mkF m 18 #[.val (.ref x)] [.int (1 - cd)])) := by
    rcases hc with rfl | rfl
    · exact c5.trans (by
        refine XS.ifNo X4.here hexec rfl (hb hbytes d10) rfl (i0_ne_f rfl) ?_
        refine iconstV X4.here hexec rfl 1 (hb hbytes d13) (by decide) ?_
        refine XS.goto X4.here hexec rfl (pc0 := 14) rfl (hb hbytes d14) (by decide) rfl ?_
        exact Steps.refl _)
    · exact c5.trans (by
        refine XS.ifYes X4.here hexec rfl (pc0 := 10) rfl (hb hbytes d10) rfl (i0_ne_t (by decide)) (by decide) rfl ?_
        refine iconstV X4.here hexec rfl 0 (hb hbytes d17) (by decide) ?_
        exact Steps.refl _)
  exact ⟨T4, some (.int (1 - cd)), _, _, _, X4, rfl, rfl, rfl, (fun h => by cases h), ⟨rfl, q4.trans hh2⟩, fun fs hl => c6.trans (X4.ireturnOut hexec hret (by rcases hc with rfl | rfl <;> rfl) (Or.inr (Or.inl rfl)) (hb hbytes d18) hl)⟩
end IsL
namespace LChA
def yN : MethodName := ⟨"java/lang/StringLatin1", "charAt", "([BI)C"⟩
abbrev yB : ByteArray := jdk_43_method_2_code
theorem d0 : decode yB 0 = .ok (.iload_n 1, 1) := by decide +kernel
theorem d1 : decode yB 1 = .ok (.aload_n 0, 1) := by decide +kernel
theorem d2 : decode yB 2 = .ok (.arraylength, 1) := by decide +kernel
theorem d3 : decode yB 3 = .ok (.invokestatic 9, 3) := by decide +kernel
theorem d6 : decode yB 6 = .ok (.aload_n 0, 1) := by decide +kernel
theorem d7 : decode yB 7 = .ok (.iload_n 1, 1) := by decide +kernel
theorem d8 : decode yB 8 = .ok (.baload, 1) := by decide +kernel
theorem d9 : decode yB 9 = .ok (.sipush 255, 3) := by decide +kernel
theorem d12 : decode yB 12 = .ok (.iand, 1) := by decide +kernel
theorem d13 : decode yB 13 = .ok (.i2c, 1) := by decide +kernel
theorem d14 : decode yB 14 = .ok (.ireturn, 1) := by decide +kernel
def site : List Cond := [JO.Str_checkIndex.tab] ++ staticW "java/lang/StringLatin1" 9 JO.Str_checkIndex.yN
def tab : Cond := tabOf yN yB 2 (some .char) site
def P (t : Addr) (V : Cell) (i : Nat) (u : Int32) (fm : Value) (args : Array Value) (s : State) : Prop := args = #[.ref t, .int (Int32.ofNat i)] ∧ XT.Arr .byte t V s ∧ V.slots[i]? = some (.int u) ∧ (StaticIs s "jdk/internal/util/Preconditions" "SIOOBE_FORMATTER" "Ljava/util/function/BiFunction;" fm ∧ fm.isRef = true)
def E (u : Int32) (r : Option Value) (s w : State) : Prop := XT.PureE (some (.int (chr8 u))) r s w
theorem law (l : Launch) (t : Addr) (V : Cell) (i : Nat) (u : Int32) (fm : Value) : Law l yN 2 2 2 27 yB 2 (some .char) site (P t V i u fm) (E u) [] 0 0 := by
  refine Law.of_walk (plainFor_of_name (by decide +kernel)) (by decide +kernel) (by decide +kernel) (by decide) (fun _ _ h => by rw [h.1]; rfl) (fun _ U U' hal hh h => ⟨h.1, h.2.1.mv hal hh, h.2.2.1, h.2.2.2.1.there hal hh, h.2.2.2.2⟩) (fun r U U' V V' h1 hal h2 h => XT.PureE.mv r U U' V V' h1 hal h2 h) ?_
  intro p e s m args below meth c s₁ X0 hexec hbytes hml hret hlk hnm hown hh0 W hP
  obtain ⟨rfl, hV, hu, s1, rf⟩ := hP
  have v31 := hV.2.2.2
  have hi : i < V.slots.size := (Array.getElem?_eq_some_iff.mp hu).1
  have c1 : Steps p.tables e below (s₁.setTop (entryFrame m #[.ref t, .int (Int32.ofNat i)] 2)) (s₁.setTop (mkF m 0 #[.val (.ref t), .val (.int (Int32.ofNat i))] [])) := entry rfl
  have c2 : Steps p.tables e below (s₁.setTop (entryFrame m #[.ref t, .int (Int32.ofNat i)] 2)) (s₁.setTop (mkF m 3 #[.val (.ref t), .val (.int (Int32.ofNat i))] [.int (Int32.ofNat V.slots.size), .int (Int32.ofNat i)])) := c1.trans (by
    refine XS.iloadN X0.here hexec rfl (hb hbytes d0) rfl ?_
    refine XS.aloadN X0.here hexec rfl (hb hbytes d1) rfl rfl ?_
    refine X0.alen hexec (hV.mv X0.warmed.alike hh0) rfl rfl (hb hbytes d2) ?_
    exact Steps.refl _)
  obtain ⟨v3, T3, X3, E3, g3⟩ := X0.callS hexec (JO.Str_checkIndex.law l (Int32.ofNat i) (Int32.ofNat V.slots.size) fm) hown (wks W (staticW "java/lang/StringLatin1" 9 JO.Str_checkIndex.yN)) (wk W JO.Str_checkIndex.tab) (W := 0) (Nat.le_of_ble_eq_true rfl) (Nat.le_of_ble_eq_true rfl) (Nat.le_refl _) (Nat.le_refl _) (g := (mkF m 3 #[.val (.ref t), .val (.int (Int32.ofNat i))] [.int (Int32.ofNat V.slots.size), .int (Int32.ofNat i)])) rfl (by rw [hml]; rfl) c2 (argsL := [.int (Int32.ofNat i), .int (Int32.ofNat V.slots.size)]) (rest := []) rfl rfl (by show 2 * 0 + 0 ≤ _; decide) (hb hbytes d3) (⟨rfl, rf, s1.there X0.warmed.alike hh0, Int32.ofNat_not_neg (by omega), lt32 v31 hi⟩)
  obtain ⟨rfl, q3⟩ := E3
  have hh3 := q3.trans hh0
  have c4 : Steps p.tables e below (s₁.setTop (entryFrame m #[.ref t, .int (Int32.ofNat i)] 2)) (T3.setTop (mkF m 14 #[.val (.ref t), .val (.int (Int32.ofNat i))] [.int (chr8 u)])) := Steps.trans g3 (by
    refine XS.aloadN X3.here hexec rfl (hb hbytes d6) rfl rfl ?_
    refine XS.iloadN X3.here hexec rfl (hb hbytes d7) rfl ?_
    refine X3.aget hexec (hV.mv X3.warmed.alike hh3) rfl hu rfl rfl (hb hbytes d8) ?_
    refine sipushV X3.here hexec rfl 255 (hb hbytes d9) (by decide) ?_
    refine XS.iand X3.here hexec rfl (hb hbytes d12) rfl ?_
    refine i2c X3.here hexec rfl (hb hbytes d13) rfl ?_
    exact Steps.refl _)
  exact ⟨T3, some (.int (chr8 u)), _, _, _, X3, rfl, rfl, rfl, (fun h => by cases h), ⟨rfl, hh3⟩, fun fs hl => c4.trans (X3.ireturnOut hexec hret (narrow_c _) (Or.inr (Or.inr (Or.inr (Or.inl rfl)))) (hb hbytes d14) hl)⟩
end LChA
end StrChars
namespace StrChars.Road
open Jvm Sem ClassFile Op Lib Jvm.Stand Jvm.Free Jvm.Free.XT
open Jvm.Lib.Cold (StaticIs)
theorem consq {a : Array Value} {s : State} {c : Jvm.Cond} {L : List Jvm.Cond} (h0 : c.before a s = true) (h : ∀ w ∈ L, w.before a s = true) : ∀ w ∈ c :: L, w.before a s = true := fun w hw => (List.mem_cons.mp hw).elim (fun e => e ▸ h0) (h w)
/-- the bytes of the chars cs, low before high -/
def wideBytes : List Int32 → List Value
  | [] => []
  | c :: cs => .int (lo8 c) :: .int (hi8 c) :: wideBytes cs
theorem wide_lo (d : Value) : ∀ (cs : List Int32) (j : Nat), j < cs.length → (wideBytes cs).getD (2 * j) d = .int (lo8 (cs.getD j 0))
  | [], j, h => absurd h (Nat.not_lt_zero j)
  | c :: cs, 0, _ => rfl
  | c :: cs, j + 1, h => by
    have q := wide_lo d cs j (by simpa using h)
    rw [show 2 * (j + 1) = 2 * j + 1 + 1 from by omega]
    simpa [wideBytes] using q
theorem wide_hi (d : Value) : ∀ (cs : List Int32) (j : Nat), j < cs.length → (wideBytes cs).getD (2 * j + 1) d = .int (hi8 (cs.getD j 0))
  | [], j, h => absurd h (Nat.not_lt_zero j)
  | c :: cs, 0, _ => rfl
  | c :: cs, j + 1, h => by
    have q := wide_hi d cs j (by simpa using h)
    rw [show 2 * (j + 1) + 1 = 2 * j + 1 + 1 + 1 from by omega]
    simpa [wideBytes] using q
theorem low_at (d : Value) (cs : List Int32) (j : Nat) (h : j < cs.length) : (cs.map fun c => Value.int (lo8 c)).getD j d = .int (lo8 (cs.getD j 0)) := by
  simp [List.getD_eq_getElem?_getD, h]
/-- an array of N2 bytes vs codes the chars cs by the coder cd -/
def CodA (cs : List Int32) (cd N2 : Int32) (vs : List Value) : Prop := (cd = 0 ∧ N2 = Int32.ofNat cs.length ∧ vs = (cs.map fun c => Value.int (lo8 c)) ∧ ∀ c ∈ cs, ¬ 255 < c) ∨ (cd = 1 ∧ N2 = Int32.ofNat (2 * cs.length) ∧ vs = wideBytes cs ∧ ∃ c ∈ cs, 255 < c)
theorem CodA.cod {cs : List Int32} {cd N2 : Int32} {vs : List Value} {V : Cell} (h : CodA cs cd N2 vs) (hn : 2 * cs.length < 2 ^ 31) (hs : V.slots.size = N2.toNatClampNeg) (hv : RoadKit.Has V vs (.int 0)) : Cod cd cs.length (fun j => cs.getD j 0) V := by
  rcases h with ⟨rfl, rfl, rfl, h⟩ | ⟨rfl, rfl, rfl, c, hc, hw⟩
  · rw [n32 (by omega)] at hs
    exact Or.inl ⟨rfl, hs, fun j hj => ⟨by rw [hv j (by omega), low_at _ _ _ hj], by
      have e : cs.getD j 0 = cs[j] := by simp [List.getD_eq_getElem?_getD, hj]
      show ¬ 255 < cs.getD j 0
      rw [e]; exact h _ (List.getElem_mem _)⟩⟩
  · rw [n32 (by omega)] at hs
    obtain ⟨j, hj, rfl⟩ := List.getElem_of_mem hc
    exact Or.inr ⟨rfl, hs, fun j hj => ⟨by rw [hv _ (by omega), wide_lo _ _ _ hj], by rw [hv _ (by omega), wide_hi _ _ _ hj]⟩, j, hj, by
      have e : cs.getD j 0 = cs[j] := by simp [List.getD_eq_getElem?_getD, hj]
      show 255 < cs.getD j 0
      rw [e]; exact hw⟩
/-- an object of exactly java/lang/String, its two fields found: as the laws ask it -/
theorem strObj {Z U : State} {a0 : Array Value} {kI : Nat} (wi : (Jvm.Cond.instantiable ST kI).before a0 Z = true) (al : Z.vm.Alike U.vm) {x : Addr} {v0 c0 : Value} (E : RoadKit.Exa Z U.heap x ST) (V : RoadKit.Fld Z U.heap x ST "value" "[B" v0) (C : RoadKit.Fld Z U.heap x ST "coder" "B" c0) :
    ∃ (D : Cell) (fV fC : Field), Blank ST x D U ∧ Found ST "value" "[B" fV U ∧ Found ST "coder" "B" fC U ∧ D.slots[fV.slot]? = some v0 ∧ D.slots[fC.slot]? = some c0 ∧ RoadKit.slotOf Z ST "value" "[B" = fV.slot ∧ RoadKit.slotOf Z ST "coder" "B" = fC.slot := by
  obtain ⟨D, cfV, kV, iV, fV, hD, gV, stV, knV, obV, asV, slV⟩ := V
  obtain ⟨D', cfC, kC, iC, fC, hD', gC, stC, -, -, asC, slC⟩ := C
  cases hD.symm.trans hD'
  obtain ⟨D2, kD, e1, e2, e3, e4, e5⟩ := E
  cases hD.symm.trans e1
  obtain ⟨c2, k2, i1, i2, i3, -⟩ := Cond.instantiable_spec wi
  cases e2.symm.trans i1
  cases e3.symm.trans i2
  obtain ⟨kU, u1, u2⟩ := al.2.2 _ _ e3
  exact ⟨D, fV, fC, ⟨hD, ⟨knV, fun q hq => by rw [hq] at obV; cases obV⟩, by rw [al.findClass]; exact e2, kU, u1, by rw [u2]; exact i3, by rw [u2]; exact e5 i3⟩, ⟨SBG.found_only al ⟨cfV, kV, iV, gV⟩, stV⟩, ⟨SBG.found_only al ⟨cfC, kC, iC, gC⟩, stC⟩, slV, slC, by simp [RoadKit.slotOf, gV], by simp [RoadKit.slotOf, gC]⟩
theorem sta_is {Z U : State} (al : Z.vm.Alike U.vm) {C n d : String} {v : Value} (S : RoadKit.Sta Z U.heap C n d v) : StaticIs U C n d v := by
  obtain ⟨cfS, iS, kS, fS, st, cS, t1, t2, t3, t4, t5, t6, t7⟩ := S
  exact StaticIs.there (s := { Z with heap := U.heap }) ⟨cfS, iS, kS, fS, st, cS, t1, t2, t3, t4, t5, (fun q => by rw [q] at t6; cases t6), t7⟩ al rfl
end StrChars.Road
namespace StrChars
open Jvm Sem ClassFile Op Lib Jvm.Stand Jvm.Free.XT Jvm.Free.ALB Jvm.Free.JM Jvm.Free
open Jvm.Lib.Cold (StaticIs)
/-- what place i of a byte[]'s cell holds -/
def yv (A : Cell) (i : Nat) : Int32 := match A.slots[i]? with | some (.int x) => x | _ => 0
theorem yv_get {a : Addr} {A : Cell} {U : State} (h : XT.Arr .byte a A U) (ht : Typed .byte A) {i : Nat} (hi : i < A.slots.size) : A.slots[i]? = some (.int (yv A i)) := by
  have e := Array.getElem?_eq_getElem hi
  have f := ht i _ e
  unfold yv; rw [e]
  generalize A.slots[i] = v at f
  cases v <;> simp [fits] at f ⊢
/-- the two arrays are equal, place for place -/
def EqC (A B : Cell) : Prop := A.slots.size = B.slots.size ∧ ∀ i, i < A.slots.size → yv A i = yv B i
/-- a boolean that says whether p -/
def Says01 (q : Prop) (r : Option Value) (s u : State) : Prop := ∃ v : Int32, r = some (.int v) ∧ u.heap = s.heap ∧ ((v = 1 ∧ q) ∨ (v = 0 ∧ ¬ q))
theorem Says01.mv {q : Prop} : ∀ r (U U' V V' : State), U'.heap = U.heap → V.vm.Alike V'.vm → V'.heap = V.heap → Says01 q r U V → Says01 q r U' V' :=
  fun r U U' V V' h1 _ h2 ⟨v, a, b, c⟩ => ⟨v, a, by rw [h1, h2]; exact b, c⟩
namespace LEq
def yN : MethodName := ⟨"java/lang/StringLatin1", "equals", "([B[B)Z"⟩
abbrev yB : ByteArray := jdk_43_method_13_code
theorem d0 : decode yB 0 = .ok (.aload_n 0, 1) := by decide +kernel
theorem d1 : decode yB 1 = .ok (.arraylength, 1) := by decide +kernel
theorem d2 : decode yB 2 = .ok (.aload_n 1, 1) := by decide +kernel
theorem d3 : decode yB 3 = .ok (.arraylength, 1) := by decide +kernel
theorem d4 : decode yB 4 = .ok (.if_icmp (.ne) 30, 3) := by decide +kernel
theorem d7 : decode yB 7 = .ok (.iconst 0, 1) := by decide +kernel
theorem d8 : decode yB 8 = .ok (.istore_n 2, 1) := by decide +kernel
theorem d9 : decode yB 9 = .ok (.iload_n 2, 1) := by decide +kernel
theorem d10 : decode yB 10 = .ok (.aload_n 0, 1) := by decide +kernel
theorem d11 : decode yB 11 = .ok (.arraylength, 1) := by decide +kernel
theorem d12 : decode yB 12 = .ok (.if_icmp (.ge) 20, 3) := by decide +kernel
theorem d15 : decode yB 15 = .ok (.aload_n 0, 1) := by decide +kernel
theorem d16 : decode yB 16 = .ok (.iload_n 2, 1) := by decide +kernel
theorem d17 : decode yB 17 = .ok (.baload, 1) := by decide +kernel
theorem d18 : decode yB 18 = .ok (.aload_n 1, 1) := by decide +kernel
theorem d19 : decode yB 19 = .ok (.iload_n 2, 1) := by decide +kernel
theorem d20 : decode yB 20 = .ok (.baload, 1) := by decide +kernel
theorem d21 : decode yB 21 = .ok (.if_icmp (.eq) 5, 3) := by decide +kernel
theorem d24 : decode yB 24 = .ok (.iconst 0, 1) := by decide +kernel
theorem d25 : decode yB 25 = .ok (.ireturn, 1) := by decide +kernel
theorem d26 : decode yB 26 = .ok (.iinc 2 1, 3) := by decide +kernel
theorem d29 : decode yB 29 = .ok (.goto (-20), 3) := by decide +kernel
theorem d32 : decode yB 32 = .ok (.iconst 1, 1) := by decide +kernel
theorem d33 : decode yB 33 = .ok (.ireturn, 1) := by decide +kernel
theorem d34 : decode yB 34 = .ok (.iconst 0, 1) := by decide +kernel
theorem d35 : decode yB 35 = .ok (.ireturn, 1) := by decide +kernel
def site : List Cond := []
def tab : Cond := tabOf yN yB 3 (some .boolean) site
def P (a : Addr) (A : Cell) (b : Addr) (B : Cell) (args : Array Value) (s : State) : Prop := args = #[.ref a, .ref b] ∧ XT.Arr .byte a A s ∧ Typed .byte A ∧ XT.Arr .byte b B s ∧ Typed .byte B
/-- whether two byte[] are equal, place for place -/
theorem law (l : Launch) (a : Addr) (A : Cell) (b : Addr) (B : Cell) : Law l yN 2 2 0 0 yB 3 (some .boolean) site (P a A b B) (Says01 (EqC A B)) [] 0 0 := by
  refine Law.of_walk (plainFor_of_name (by decide +kernel)) (by decide +kernel) (by decide +kernel) (by decide) (fun _ _ h => by rw [h.1]; rfl) (fun _ U U' hal hh h => ⟨h.1, h.2.1.mv hal hh, h.2.2.1, h.2.2.2.1.mv hal hh, h.2.2.2.2⟩) (fun r U U' V V' h1 hal h2 h => Says01.mv r U U' V V' h1 hal h2 h) ?_
  intro p e s m args below meth c s₁ X0 hexec hbytes hml hret hlk hnm hown hh0 W hP
  obtain ⟨rfl, hA, tA, hB, tB⟩ := hP
  have a31 := hA.2.2.2
  have b31 := hB.2.2.2
  have hA0 := hA.mv X0.warmed.alike hh0
  have hB0 := hB.mv X0.warmed.alike hh0
  have c1 : Steps p.tables e below (s₁.setTop (entryFrame m #[.ref a, .ref b] 3)) (s₁.setTop (mkF m 0 #[.val (.ref a), .val (.ref b), .unset] [])) := entry rfl
  have c2 : Steps p.tables e below (s₁.setTop (entryFrame m #[.ref a, .ref b] 3)) (s₁.setTop (mkF m 4 #[.val (.ref a), .val (.ref b), .unset] [.int (Int32.ofNat B.slots.size), .int (Int32.ofNat A.slots.size)])) := c1.trans (by
    refine XS.aloadN X0.here hexec rfl (hb hbytes d0) rfl rfl ?_
    refine X0.alen hexec hA0 rfl rfl (hb hbytes d1) ?_
    refine XS.aloadN X0.here hexec rfl (hb hbytes d2) rfl rfl ?_
    refine X0.alen hexec hB0 rfl rfl (hb hbytes d3) ?_
    exact Steps.refl _)
  by_cases hs : A.slots.size = B.slots.size
  · have c3 : Steps p.tables e below (s₁.setTop (entryFrame m #[.ref a, .ref b] 3)) (s₁.setTop (mkF m 9 #[.val (.ref a), .val (.ref b), .val (.int 0)] [])) := c2.trans (by
      refine XS.icmpNo X0.here hexec rfl (hb hbytes d4) rfl (ii_ne_f (by rw [hs])) ?_
      refine iconstV X0.here hexec rfl 0 (hb hbytes d7) (by decide) ?_
      refine XS.istoreN X0.here hexec rfl (hb hbytes d8) rfl rfl ?_
      exact Steps.refl _)
    have loop : ∀ (r i : Nat), i + r = A.slots.size → (∀ j, j < i → yv A j = yv B j) → Steps p.tables e below (s₁.setTop (entryFrame m #[.ref a, .ref b] 3)) (s₁.setTop (mkF m 9 #[.val (.ref a), .val (.ref b), .val (.int (Int32.ofNat i))] [])) → ∃ (pc : Nat) (Ls : Array Slot) (v : Int32), (pc = 25 ∨ pc = 33) ∧ ((v = 1 ∧ EqC A B) ∨ (v = 0 ∧ ¬ EqC A B)) ∧ Steps p.tables e below (s₁.setTop (entryFrame m #[.ref a, .ref b] 3)) (s₁.setTop (mkF m pc Ls [.int v])) := by
      intro r
      induction r with
      | zero =>
        intro i hi he cl
        exact ⟨33, _, 1, Or.inr rfl, Or.inl ⟨rfl, hs, fun j hj => he j (by omega)⟩, cl.trans (by
          refine XS.iloadN X0.here hexec rfl (hb hbytes d9) rfl ?_
          refine XS.aloadN X0.here hexec rfl (hb hbytes d10) rfl rfl ?_
          refine X0.alen hexec hA0 rfl rfl (hb hbytes d11) ?_
          refine XS.icmpYes X0.here hexec rfl (pc0 := 12) rfl (hb hbytes d12) rfl (ii_ge_t (nlt32 (by omega) (by omega))) (by decide) rfl ?_
          refine iconstV X0.here hexec rfl 1 (hb hbytes d32) (by decide) ?_
          exact Steps.refl _)⟩
      | succ r ih =>
        intro i hi he cl
        have c4 : Steps p.tables e below (s₁.setTop (entryFrame m #[.ref a, .ref b] 3)) (s₁.setTop (mkF m 21 #[.val (.ref a), .val (.ref b), .val (.int (Int32.ofNat i))] [.int (yv B i), .int (yv A i)])) := cl.trans (by
          refine XS.iloadN X0.here hexec rfl (hb hbytes d9) rfl ?_
          refine XS.aloadN X0.here hexec rfl (hb hbytes d10) rfl rfl ?_
          refine X0.alen hexec hA0 rfl rfl (hb hbytes d11) ?_
          refine XS.icmpNo X0.here hexec rfl (hb hbytes d12) rfl (ii_ge_f (lt32 (by omega) (by omega))) ?_
          refine XS.aloadN X0.here hexec rfl (hb hbytes d15) rfl rfl ?_
          refine XS.iloadN X0.here hexec rfl (hb hbytes d16) rfl ?_
          refine X0.aget hexec hA0 rfl (yv_get hA tA (i := i) (by omega)) rfl rfl (hb hbytes d17) ?_
          refine XS.aloadN X0.here hexec rfl (hb hbytes d18) rfl rfl ?_
          refine XS.iloadN X0.here hexec rfl (hb hbytes d19) rfl ?_
          refine X0.aget hexec hB0 rfl (yv_get hB tB (i := i) (by omega)) rfl rfl (hb hbytes d20) ?_
          exact Steps.refl _)
        by_cases hv : yv A i = yv B i
        · have c5 : Steps p.tables e below (s₁.setTop (entryFrame m #[.ref a, .ref b] 3)) (s₁.setTop (mkF m 9 #[.val (.ref a), .val (.ref b), .val (.int (Int32.ofNat i + 1))] [])) := c4.trans (by
            refine XS.icmpYes X0.here hexec rfl (pc0 := 21) rfl (hb hbytes d21) rfl (ii_eq_t hv) (by decide) rfl ?_
            refine iincV X0.here hexec rfl 1 (hb hbytes d26) (by decide) rfl rfl ?_
            refine XS.goto X0.here hexec rfl (pc0 := 29) rfl (hb hbytes d29) (by decide) rfl ?_
            exact Steps.refl _)
          rw [succ32] at c5
          exact ih (i + 1) (by omega) (fun j hj => by
            by_cases e : j = i
            · rw [e]; exact hv
            · exact he j (by omega)) c5
        · exact ⟨25, _, 0, Or.inl rfl, Or.inr ⟨rfl, fun q => hv (q.2 i (by omega))⟩, c4.trans (by
            refine XS.icmpNo X0.here hexec rfl (hb hbytes d21) rfl (ii_eq_f hv) ?_
            refine iconstV X0.here hexec rfl 0 (hb hbytes d24) (by decide) ?_
            exact Steps.refl _)⟩
    obtain ⟨pc, Ls, v, hpc, hv, cz⟩ := loop A.slots.size 0 (by omega) (fun j hj => absurd hj (Nat.not_lt_zero j)) c3
    have nv : narrow .boolean (.int v) = .int v := by rcases hv with ⟨rfl, -⟩ | ⟨rfl, -⟩ <;> rfl
    rcases hpc with rfl | rfl
    · exact ⟨s₁, some (.int v), _, _, _, X0, rfl, rfl, rfl, (fun h => by cases h), ⟨v, rfl, hh0, hv⟩, fun fs hl => cz.trans (X0.ireturnOut hexec hret nv (Or.inr (Or.inl rfl)) (hb hbytes d25) hl)⟩
    · exact ⟨s₁, some (.int v), _, _, _, X0, rfl, rfl, rfl, (fun h => by cases h), ⟨v, rfl, hh0, hv⟩, fun fs hl => cz.trans (X0.ireturnOut hexec hret nv (Or.inr (Or.inl rfl)) (hb hbytes d33) hl)⟩
  · have c3 : Steps p.tables e below (s₁.setTop (entryFrame m #[.ref a, .ref b] 3)) (s₁.setTop (mkF m 35 #[.val (.ref a), .val (.ref b), .unset] [.int 0])) := c2.trans (by
      refine XS.icmpYes X0.here hexec rfl (pc0 := 4) rfl (hb hbytes d4) rfl (ii_ne_t (ne32 a31 b31 hs)) (by decide) rfl ?_
      refine iconstV X0.here hexec rfl 0 (hb hbytes d34) (by decide) ?_
      exact Steps.refl _)
    exact ⟨s₁, some (.int 0), _, _, _, X0, rfl, rfl, rfl, (fun h => by cases h), ⟨0, rfl, hh0, Or.inr ⟨rfl, fun q => hs q.1⟩⟩, fun fs hl => c3.trans (X0.ireturnOut hexec hret rfl (Or.inr (Or.inl rfl)) (hb hbytes d35) hl)⟩
end LEq
theorem Cod.ty {cd : Int32} {n : Nat} {f : Nat → Int32} {V : Cell} (h : Cod cd n f V) : Typed .byte V := fun i v hv => by
  have hi : i < V.slots.size := (Array.getElem?_eq_some_iff.mp hv).1
  rcases h with ⟨-, k1, k2⟩ | ⟨-, k1, k2, -⟩
  · rw [(k2 i (by omega)).1] at hv; cases hv; exact fits_lo8 _
  · rcases Nat.mod_two_eq_zero_or_one i with e | e
    · obtain ⟨j, rfl⟩ : ∃ j, i = 2 * j := ⟨i / 2, by omega⟩
      rw [(k2 j (by omega)).1] at hv; cases hv; exact fits_lo8 _
    · obtain ⟨j, rfl⟩ : ∃ j, i = 2 * j + 1 := ⟨i / 2, by omega⟩
      rw [(k2 j (by omega)).2] at hv; cases hv; exact fits_lo8 _
/-- the same text -/
def SameT (n : Nat) (f : Nat → Int32) (k : Nat) (g : Nat → Int32) : Prop := n = k ∧ ∀ j, j < n → f j = g j
theorem lo8_inj {x y : Int32} (h0 : ¬ x < 0) (h1 : ¬ 255 < x) (k0 : ¬ y < 0) (k1 : ¬ 255 < y) (h : lo8 x = lo8 y) : x = y := by
  rw [← lo8_mask h0 h1, ← lo8_mask k0 k1, h]
/-- arrays coded by one coder are equal just where the texts are -/
theorem Cod.eqv {cd : Int32} {n k : Nat} {f g : Nat → Int32} {V V' : Cell} (h : Cod cd n f V) (h' : Cod cd k g V') (hf : ∀ j, j < n → ¬ f j < 0 ∧ ¬ 65535 < f j) (hg : ∀ j, j < k → ¬ g j < 0 ∧ ¬ 65535 < g j) : EqC V V' ↔ SameT n f k g := by
  have yvv : ∀ {W : Cell} {i : Nat} {x : Int32}, W.slots[i]? = some (.int x) → yv W i = x := fun q => by unfold yv; rw [q]
  rcases h with ⟨rfl, k1, k2⟩ | ⟨rfl, k1, k2, -⟩
  · rcases h' with ⟨-, m1, m2⟩ | ⟨e, -⟩
    · constructor
      · rintro ⟨e1, e2⟩
        refine ⟨by omega, fun j hj => ?_⟩
        have q := e2 j (by omega)
        rw [yvv (k2 j hj).1, yvv (m2 j (by omega)).1] at q
        exact lo8_inj (hf j hj).1 (k2 j hj).2 (hg j (by omega)).1 (m2 j (by omega)).2 q
      · rintro ⟨rfl, e2⟩
        refine ⟨by omega, fun j hj => ?_⟩
        rw [yvv (k2 j (by omega)).1, yvv (m2 j (by omega)).1, e2 j (by omega)]
    · exact absurd e (by decide)
  · rcases h' with ⟨e, -⟩ | ⟨-, m1, m2, -⟩
    · exact absurd e (by decide)
    · constructor
      · rintro ⟨e1, e2⟩
        refine ⟨by omega, fun j hj => ?_⟩
        have q1 := e2 (2 * j) (by omega)
        have q2 := e2 (2 * j + 1) (by omega)
        rw [yvv (k2 j hj).1, yvv (m2 j (by omega)).1] at q1
        rw [yvv (k2 j hj).2, yvv (m2 j (by omega)).2] at q2
        rw [← pair_says (hf j hj).1 (hf j hj).2, ← pair_says (hg j (by omega)).1 (hg j (by omega)).2, q1, q2]
      · rintro ⟨rfl, e2⟩
        refine ⟨by omega, fun i hi => ?_⟩
        rcases Nat.mod_two_eq_zero_or_one i with e | e
        · obtain ⟨j, rfl⟩ : ∃ j, i = 2 * j := ⟨i / 2, by omega⟩
          rw [yvv (k2 j (by omega)).1, yvv (m2 j (by omega)).1, e2 j (by omega)]
        · obtain ⟨j, rfl⟩ : ∃ j, i = 2 * j + 1 := ⟨i / 2, by omega⟩
          rw [yvv (k2 j (by omega)).2, yvv (m2 j (by omega)).2, e2 j (by omega)]
/-- two codings differ: so do the texts -/
theorem Cod.dif {cd cd' : Int32} {n k : Nat} {f g : Nat → Int32} {V V' : Cell} (h : Cod cd n f V) (h' : Cod cd' k g V') (hne : ¬ cd = cd') : ¬ SameT n f k g := by
  rintro ⟨rfl, e⟩
  rcases h with ⟨rfl, -, k2⟩ | ⟨rfl, -, -, j, hj, hw⟩
  · rcases h' with ⟨rfl, -⟩ | ⟨-, -, -, j, hj, hw⟩
    · exact hne rfl
    · exact (k2 j hj).2 (by rw [e j hj]; exact hw)
  · rcases h' with ⟨-, -, m2⟩ | ⟨rfl, -⟩
    · exact (m2 j hj).2 (by rw [← e j hj]; exact hw)
    · exact hne rfl
/-- an object of exactly C is an instance of C -/
theorem cinst {p : Program} {l : Launch} {e : Env} {R : Room} {s : State} {m : MethodId} {args : Array Value} {below : List Frame} {meth : Method} {c : Code} {T : State} {locs : List Loc} {cells slots : Nat} (X : Stand p l e R s m args below meth c T locs cells slots) (hexec : p.tables.exec = Jvm.exec) {own C : String} {index : Nat} (hown : s.vm.findClass own = some m.cls) (hlink : (Cond.classLink own index C).before args s = true) {a : Addr} (hE : Exact C a T)
    {g : JFrame} (hg : g.method = m) {rest : List Value} (hstack : g.stack = .ref a :: rest) (hdg : decode c.code g.pc = .ok (.instanceof index, 3)) :
    ∃ T', Stand p l e R s m args below meth c T' locs cells slots ∧ T'.heap = T.heap ∧ ∀ target, Steps p.tables e below (T'.setTop { g with pc := g.pc + 3, stack := .int 1 :: rest }) target → Steps p.tables e below (T.setTop g) target := by
  obtain ⟨cB, h1, D, h2, h3, h4⟩ := hE
  have h1' : s.vm.findClass C = some cB := by rw [← X.warmed.alike.findClass]; exact h1
  obtain ⟨vm', X', st⟩ := X.instanceofYes hexec hown hlink h2 h4 h1' (by rw [h3]; exact Jvm.Free.SB.assignable_self _ _) hg hstack hdg
  exact ⟨_, X', rfl, st⟩
theorem cself {p : Program} {l : Launch} {e : Env} {R : Room} {s : State} {m : MethodId} {args : Array Value} {below : List Frame} {meth : Method} {c : Code} {T : State} {locs : List Loc} {cells slots : Nat} (X : Stand p l e R s m args below meth c T locs cells slots) (hexec : p.tables.exec = Jvm.exec) {own C : String} {index : Nat} (hown : s.vm.findClass own = some m.cls) (hlink : (Cond.classLink own index C).before args s = true) {a : Addr} (hE : Exact C a T)
    {g : JFrame} (hg : g.method = m) {rest : List Value} (hstack : g.stack = .ref a :: rest) (hdg : decode c.code g.pc = .ok (.checkcast index, 3)) :
    ∃ T', Stand p l e R s m args below meth c T' locs cells slots ∧ T'.heap = T.heap ∧ ∀ target, Steps p.tables e below (T'.setTop { g with pc := g.pc + 3, stack := .ref a :: rest }) target → Steps p.tables e below (T.setTop g) target := by
  obtain ⟨cB, h1, D, h2, h3, h4⟩ := hE
  have h1' : s.vm.findClass C = some cB := by rw [← X.warmed.alike.findClass]; exact h1
  obtain ⟨vm', X', st⟩ := X.checkcastYes hexec hown hlink h2 h4 h1' (by rw [h3]; exact Jvm.Free.SB.assignable_self _ _) hg hstack hdg
  exact ⟨_, X', rfl, fun t h => st t (by rw [← hstack] at h; exact h)⟩
namespace SEq
def yN : MethodName := ⟨"java/lang/String", "equals", "(Ljava/lang/Object;)Z"⟩
abbrev yB : ByteArray := jdk_42_method_66_code
theorem d0 : decode yB 0 = .ok (.aload_n 0, 1) := by decide +kernel
theorem d1 : decode yB 1 = .ok (.aload_n 1, 1) := by decide +kernel
theorem d2 : decode yB 2 = .ok (.if_acmp (.ne) 5, 3) := by decide +kernel
theorem d5 : decode yB 5 = .ok (.iconst 1, 1) := by decide +kernel
theorem d6 : decode yB 6 = .ok (.ireturn, 1) := by decide +kernel
theorem d7 : decode yB 7 = .ok (.aload_n 1, 1) := by decide +kernel
theorem d8 : decode yB 8 = .ok (.instanceof 10, 3) := by decide +kernel
theorem d11 : decode yB 11 = .ok (.ifCond (.eq) 43, 3) := by decide +kernel
theorem d14 : decode yB 14 = .ok (.aload_n 1, 1) := by decide +kernel
theorem d15 : decode yB 15 = .ok (.checkcast 10, 3) := by decide +kernel
theorem d18 : decode yB 18 = .ok (.astore_n 2, 1) := by decide +kernel
theorem d19 : decode yB 19 = .ok (.getstatic 38, 3) := by decide +kernel
theorem d22 : decode yB 22 = .ok (.ifCond (.eq) 14, 3) := by decide +kernel
theorem d25 : decode yB 25 = .ok (.aload_n 0, 1) := by decide +kernel
theorem d26 : decode yB 26 = .ok (.getfield 15, 3) := by decide +kernel
theorem d29 : decode yB 29 = .ok (.aload_n 2, 1) := by decide +kernel
theorem d30 : decode yB 30 = .ok (.getfield 15, 3) := by decide +kernel
theorem d33 : decode yB 33 = .ok (.if_icmp (.ne) 21, 3) := by decide +kernel
theorem d36 : decode yB 36 = .ok (.aload_n 0, 1) := by decide +kernel
theorem d37 : decode yB 37 = .ok (.getfield 9, 3) := by decide +kernel
theorem d40 : decode yB 40 = .ok (.aload_n 2, 1) := by decide +kernel
theorem d41 : decode yB 41 = .ok (.getfield 9, 3) := by decide +kernel
theorem d44 : decode yB 44 = .ok (.invokestatic 541, 3) := by decide +kernel
theorem d47 : decode yB 47 = .ok (.ifCond (.eq) 7, 3) := by decide +kernel
theorem d50 : decode yB 50 = .ok (.iconst 1, 1) := by decide +kernel
theorem d51 : decode yB 51 = .ok (.goto 4, 3) := by decide +kernel
theorem d54 : decode yB 54 = .ok (.iconst 0, 1) := by decide +kernel
theorem d55 : decode yB 55 = .ok (.ireturn, 1) := by decide +kernel
def site : List Cond := [.classLink "java/lang/String" 10 "java/lang/String", .fieldLink "java/lang/String" 38 "java/lang/String" "COMPACT_STRINGS" "Z", .fieldLink "java/lang/String" 15 "java/lang/String" "coder" "B", .fieldLink "java/lang/String" 9 "java/lang/String" "value" "[B", LEq.tab] ++ staticW "java/lang/String" 541 LEq.yN
def tab : Cond := tabOf yN yB 3 (some .boolean) site
def P (x t : Addr) (V : Cell) (cd : Int32) (n : Nat) (f : Nat → Int32) (y t' : Addr) (V' : Cell) (cd' : Int32) (k : Nat) (g : Nat → Int32) (z : Int32) (args : Array Value) (s : State) : Prop := args = #[.ref x, .ref y] ∧ Txt x t V cd n f s ∧ Txt y t' V' cd' k g s ∧ StaticIs s "java/lang/String" "COMPACT_STRINGS" "Z" (.int z) ∧ ¬ z = 0
/-- equals(Object) of two Strings: whether the texts are the same -/
theorem law (l : Launch) (x t : Addr) (V : Cell) (cd : Int32) (n : Nat) (f : Nat → Int32) (y t' : Addr) (V' : Cell) (cd' : Int32) (k : Nat) (g : Nat → Int32) (z : Int32) : Law l yN 2 1 1 14 yB 3 (some .boolean) site (P x t V cd n f y t' V' cd' k g z) (Says01 (SameT n f k g)) [] 0 0 := by
  refine Law.of_walk (plainFor_of_name (by decide +kernel)) (by decide +kernel) (by decide +kernel) (by decide) (fun _ _ h => by rw [h.1]; rfl) (fun _ U U' hal hh h => ⟨h.1, h.2.1.mv hal hh, h.2.2.1.mv hal hh, h.2.2.2.1.there hal hh, h.2.2.2.2⟩) (fun r U U' V V' h1 hal h2 h => Says01.mv r U U' V V' h1 hal h2 h) ?_
  intro p e s m args below meth c s₁ X0 hexec hbytes hml hret hlk hnm hown hh0 W hP
  obtain ⟨rfl, hx, hy, s1, hz⟩ := hP
  have c1 : Steps p.tables e below (s₁.setTop (entryFrame m #[.ref x, .ref y] 3)) (s₁.setTop (mkF m 2 #[.val (.ref x), .val (.ref y), .unset] [.ref y, .ref x])) := Steps.trans (entry rfl) (by
    show Steps p.tables e below (s₁.setTop (mkF m 0 #[.val (.ref x), .val (.ref y), .unset] [])) _
    refine XS.aloadN X0.here hexec rfl (hb hbytes d0) rfl rfl ?_
    refine XS.aloadN X0.here hexec rfl (hb hbytes d1) rfl rfl ?_
    exact Steps.refl _)
  by_cases hxy : x = y
  · have c2 : Steps p.tables e below (s₁.setTop (entryFrame m #[.ref x, .ref y] 3)) (s₁.setTop (mkF m 6 #[.val (.ref x), .val (.ref y), .unset] [.int 1])) := c1.trans (by
      refine acmpNo X0.here hexec rfl (hb hbytes d2) rfl rfl rfl (by simp [acmp, hxy]) ?_
      refine iconstV X0.here hexec rfl 1 (hb hbytes d5) (by decide) ?_
      exact Steps.refl _)
    subst hxy
    have ec : cd = cd' := by
      obtain ⟨D, fd, a1, a2, a3⟩ := hx.2.2.1
      obtain ⟨D', fd', b1, b2, b3⟩ := hy.2.2.1
      cases a1.symm.trans b1
      obtain ⟨q1, q2, q3, q4⟩ := a2.1
      obtain ⟨r1, r2, r3, r4⟩ := b2.1
      cases q4.symm.trans r4
      cases a3.symm.trans b3; rfl
    have et : t = t' := by
      obtain ⟨D, fd, a1, a2, a3⟩ := hx.2.1
      obtain ⟨D', fd', b1, b2, b3⟩ := hy.2.1
      cases a1.symm.trans b1
      obtain ⟨q1, q2, q3, q4⟩ := a2.1
      obtain ⟨r1, r2, r3, r4⟩ := b2.1
      cases q4.symm.trans r4
      cases a3.symm.trans b3; rfl
    subst ec et
    have ev : V = V' := by cases hx.2.2.2.1.1.symm.trans hy.2.2.2.1.1; rfl
    subst ev
    have hs : SameT n f k g := (Cod.eqv hx.2.2.2.2.1 hy.2.2.2.2.1 hx.2.2.2.2.2 hy.2.2.2.2.2).mp ⟨rfl, fun _ _ => rfl⟩
    exact ⟨s₁, some (.int 1), _, _, _, X0, rfl, rfl, rfl, (fun h => by cases h), ⟨1, rfl, hh0, Or.inl ⟨rfl, hs⟩⟩, fun fs hl => c2.trans (X0.ireturnOut hexec hret rfl (Or.inr (Or.inl rfl)) (hb hbytes d6) hl)⟩
  · have c2 : Steps p.tables e below (s₁.setTop (entryFrame m #[.ref x, .ref y] 3)) (s₁.setTop (mkF m 8 #[.val (.ref x), .val (.ref y), .unset] [.ref y])) := c1.trans (by
      refine acmpYes X0.here hexec rfl (pc0 := 2) rfl (hb hbytes d2) rfl rfl rfl (by simp [acmp, hxy]) (by decide) rfl ?_
      refine XS.aloadN X0.here hexec rfl (hb hbytes d7) rfl rfl ?_
      exact Steps.refl _)
    obtain ⟨T3, X3, q3, st3⟩ := cinst X0 hexec hown (wk W (.classLink "java/lang/String" 10 "java/lang/String")) (hy.mv X0.warmed.alike hh0).1 (g := (mkF m 8 #[.val (.ref x), .val (.ref y), .unset] [.ref y])) rfl (rest := []) rfl (hb hbytes d8)
    have hh3 := q3.trans hh0
    have c4 : Steps p.tables e below (s₁.setTop (entryFrame m #[.ref x, .ref y] 3)) (T3.setTop (mkF m 15 #[.val (.ref x), .val (.ref y), .unset] [.ref y])) := (c2.trans (st3 _ (Steps.refl _))).trans (by
      refine XS.ifNo X3.here hexec rfl (hb hbytes d11) rfl (i0_eq_f (by decide)) ?_
      refine XS.aloadN X3.here hexec rfl (hb hbytes d14) rfl rfl ?_
      exact Steps.refl _)
    obtain ⟨T5, X5, q5, st5⟩ := cself X3 hexec hown (wk W (.classLink "java/lang/String" 10 "java/lang/String")) (hy.mv X3.warmed.alike hh3).1 (g := (mkF m 15 #[.val (.ref x), .val (.ref y), .unset] [.ref y])) rfl (rest := []) rfl (hb hbytes d15)
    have hh5 := q5.trans hh3
    have c6 : Steps p.tables e below (s₁.setTop (entryFrame m #[.ref x, .ref y] 3)) (T5.setTop (mkF m 19 #[.val (.ref x), .val (.ref y), .val (.ref y)] [])) := (c4.trans (st5 _ (Steps.refl _))).trans (by
      refine XS.astoreN X5.here hexec rfl (hb hbytes d18) rfl rfl rfl ?_
      exact Steps.refl _)
    obtain ⟨T7, X7, q7, st7⟩ := X5.sget hexec hown (wk W (.fieldLink "java/lang/String" 38 "java/lang/String" "COMPACT_STRINGS" "Z")) s1 (fun _ _ h => by rw [hh5]; exact h) (g := (mkF m 19 #[.val (.ref x), .val (.ref y), .val (.ref y)] [])) rfl (hb hbytes d19)
    have hh7 := q7.trans hh5
    have c8 : Steps p.tables e below (s₁.setTop (entryFrame m #[.ref x, .ref y] 3)) (T7.setTop (mkF m 26 #[.val (.ref x), .val (.ref y), .val (.ref y)] [.ref x])) := (c6.trans (st7 _ (Steps.refl _))).trans (by
      refine XS.ifNo X7.here hexec rfl (hb hbytes d22) rfl (i0_eq_f hz) ?_
      refine XS.aloadN X7.here hexec rfl (hb hbytes d25) rfl rfl ?_
      exact Steps.refl _)
    obtain ⟨T9, X9, q9, st9⟩ := X7.hget hexec hown (wk W (.fieldLink "java/lang/String" 15 "java/lang/String" "coder" "B")) (hx.mv X7.warmed.alike hh7).2.2.1 (g := (mkF m 26 #[.val (.ref x), .val (.ref y), .val (.ref y)] [.ref x])) rfl (rest := []) rfl (hb hbytes d26)
    have hh9 := q9.trans hh7
    have c10 : Steps p.tables e below (s₁.setTop (entryFrame m #[.ref x, .ref y] 3)) (T9.setTop (mkF m 30 #[.val (.ref x), .val (.ref y), .val (.ref y)] [.ref y, .int cd])) := (c8.trans (st9 _ (Steps.refl _))).trans (by
      refine XS.aloadN X9.here hexec rfl (hb hbytes d29) rfl rfl ?_
      exact Steps.refl _)
    obtain ⟨T11, X11, q11, st11⟩ := X9.hget hexec hown (wk W (.fieldLink "java/lang/String" 15 "java/lang/String" "coder" "B")) (hy.mv X9.warmed.alike hh9).2.2.1 (g := (mkF m 30 #[.val (.ref x), .val (.ref y), .val (.ref y)] [.ref y, .int cd])) rfl (rest := [.int cd]) rfl (hb hbytes d30)
    have hh11 := q11.trans hh9
    have c12 : Steps p.tables e below (s₁.setTop (entryFrame m #[.ref x, .ref y] 3)) (T11.setTop (mkF m 33 #[.val (.ref x), .val (.ref y), .val (.ref y)] [.int cd', .int cd])) := c10.trans (st11 _ (Steps.refl _))
    by_cases hcd : cd = cd'
    · subst hcd
      have c13 : Steps p.tables e below (s₁.setTop (entryFrame m #[.ref x, .ref y] 3)) (T11.setTop (mkF m 37 #[.val (.ref x), .val (.ref y), .val (.ref y)] [.ref x])) := c12.trans (by
        refine XS.icmpNo X11.here hexec rfl (hb hbytes d33) rfl (ii_ne_f rfl) ?_
        refine XS.aloadN X11.here hexec rfl (hb hbytes d36) rfl rfl ?_
        exact Steps.refl _)
      obtain ⟨T14, X14, q14, st14⟩ := X11.hget hexec hown (wk W (.fieldLink "java/lang/String" 9 "java/lang/String" "value" "[B")) (hx.mv X11.warmed.alike hh11).2.1 (g := (mkF m 37 #[.val (.ref x), .val (.ref y), .val (.ref y)] [.ref x])) rfl (rest := []) rfl (hb hbytes d37)
      have hh14 := q14.trans hh11
      have c15 : Steps p.tables e below (s₁.setTop (entryFrame m #[.ref x, .ref y] 3)) (T14.setTop (mkF m 41 #[.val (.ref x), .val (.ref y), .val (.ref y)] [.ref y, .ref t])) := (c13.trans (st14 _ (Steps.refl _))).trans (by
        refine XS.aloadN X14.here hexec rfl (hb hbytes d40) rfl rfl ?_
        exact Steps.refl _)
      obtain ⟨T16, X16, q16, st16⟩ := X14.hget hexec hown (wk W (.fieldLink "java/lang/String" 9 "java/lang/String" "value" "[B")) (hy.mv X14.warmed.alike hh14).2.1 (g := (mkF m 41 #[.val (.ref x), .val (.ref y), .val (.ref y)] [.ref y, .ref t])) rfl (rest := [.ref t]) rfl (hb hbytes d41)
      have hh16 := q16.trans hh14
      have c17 : Steps p.tables e below (s₁.setTop (entryFrame m #[.ref x, .ref y] 3)) (T16.setTop (mkF m 44 #[.val (.ref x), .val (.ref y), .val (.ref y)] [.ref t', .ref t])) := c15.trans (st16 _ (Steps.refl _))
      obtain ⟨v18, T18, X18, E18, g18⟩ := X16.callS hexec (LEq.law l t V t' V') hown (wks W (staticW "java/lang/String" 541 LEq.yN)) (wk W LEq.tab) (W := 0) (Nat.le_of_ble_eq_true rfl) (Nat.le_of_ble_eq_true rfl) (Nat.le_refl _) (Nat.le_refl _) (g := (mkF m 44 #[.val (.ref x), .val (.ref y), .val (.ref y)] [.ref t', .ref t])) rfl (by rw [hml]; rfl) c17 (argsL := [.ref t, .ref t']) (rest := []) rfl rfl (by show 2 * 0 + 0 ≤ _; decide) (hb hbytes d44) (⟨rfl, hx.2.2.2.1.mv X16.warmed.alike hh16, hx.2.2.2.2.1.ty, hy.2.2.2.1.mv X16.warmed.alike hh16, hy.2.2.2.2.1.ty⟩)
      obtain ⟨v, rfl, q18, hv⟩ := E18
      have iff := Cod.eqv hx.2.2.2.2.1 hy.2.2.2.2.1 hx.2.2.2.2.2 hy.2.2.2.2.2
      rcases hv with ⟨rfl, he⟩ | ⟨rfl, he⟩
      · have c19 : Steps p.tables e below (s₁.setTop (entryFrame m #[.ref x, .ref y] 3)) (T18.setTop (mkF m 55 #[.val (.ref x), .val (.ref y), .val (.ref y)] [.int 1])) := Steps.trans g18 (by
          refine XS.ifNo X18.here hexec rfl (hb hbytes d47) rfl (i0_eq_f (by decide)) ?_
          refine iconstV X18.here hexec rfl 1 (hb hbytes d50) (by decide) ?_
          refine XS.goto X18.here hexec rfl (pc0 := 51) rfl (hb hbytes d51) (by decide) rfl ?_
          exact Steps.refl _)
        exact ⟨T18, some (.int 1), _, _, _, X18, rfl, rfl, rfl, (fun h => by cases h), ⟨1, rfl, q18.trans hh16, Or.inl ⟨rfl, iff.mp he⟩⟩, fun fs hl => c19.trans (X18.ireturnOut hexec hret rfl (Or.inr (Or.inl rfl)) (hb hbytes d55) hl)⟩
      · have c19 : Steps p.tables e below (s₁.setTop (entryFrame m #[.ref x, .ref y] 3)) (T18.setTop (mkF m 55 #[.val (.ref x), .val (.ref y), .val (.ref y)] [.int 0])) := Steps.trans g18 (by
          refine XS.ifYes X18.here hexec rfl (pc0 := 47) rfl (hb hbytes d47) rfl (i0_eq_t rfl) (by decide) rfl ?_
          refine iconstV X18.here hexec rfl 0 (hb hbytes d54) (by decide) ?_
          exact Steps.refl _)
        exact ⟨T18, some (.int 0), _, _, _, X18, rfl, rfl, rfl, (fun h => by cases h), ⟨0, rfl, q18.trans hh16, Or.inr ⟨rfl, fun q => he (iff.mpr q)⟩⟩, fun fs hl => c19.trans (X18.ireturnOut hexec hret rfl (Or.inr (Or.inl rfl)) (hb hbytes d55) hl)⟩
    · have c13 : Steps p.tables e below (s₁.setTop (entryFrame m #[.ref x, .ref y] 3)) (T11.setTop (mkF m 55 #[.val (.ref x), .val (.ref y), .val (.ref y)] [.int 0])) := c12.trans (by
        refine XS.icmpYes X11.here hexec rfl (pc0 := 33) rfl (hb hbytes d33) rfl (ii_ne_t hcd) (by decide) rfl ?_
        refine iconstV X11.here hexec rfl 0 (hb hbytes d54) (by decide) ?_
        exact Steps.refl _)
      exact ⟨T11, some (.int 0), _, _, _, X11, rfl, rfl, rfl, (fun h => by cases h), ⟨0, rfl, hh11, Or.inr ⟨rfl, Cod.dif hx.2.2.2.2.1 hy.2.2.2.2.1 hcd⟩⟩, fun fs hl => c13.trans (X11.ireturnOut hexec hret rfl (Or.inr (Or.inl rfl)) (hb hbytes d55) hl)⟩
theorem pays {l : Launch} {R : Room} {p : Program} {e : Env} {below : List Frame} {s : State} {sargs : Array Value} {len W : Nat} (x t : Addr) (V : Cell) (cd : Int32) (n : Nat) (f : Nat → Int32) (y t' : Addr) (V' : Cell) (cd' : Int32) (k : Nat) (g : Nat → Int32) (z : Int32) (htab : tab.before sargs s = true) (hfr : 2 ≤ R.frames) (hlo : W + 28 ≤ R.locals) :
    Back l R p e below s sargs yN len W (fun A₁ a₁ => A₁.cells + 0 ≤ R.cells ∧ A₁.slots + 0 ≤ R.slots ∧ P x t V cd n f y t' V' cd' k g z a₁ A₁.U) (fun A₁ _ v₁ B₁ => Says01 (SameT n f k g) v₁ A₁.U B₁.U ∧ B₁.locs = A₁.locs ++ [] ∧ B₁.cells = A₁.cells + 0 ∧ B₁.slots = A₁.slots + 0) :=
  (law l x t V cd n f y t' V' cd' k g z).pays htab hfr (by omega)
end SEq
end StrChars
namespace StrChars.Road
open Jvm Sem ClassFile Op Lib Jvm.Stand Jvm.Free Jvm.Free.XT
open Jvm.Lib.Cold (StaticIs)
/-- the words of String.equals(Object) -/
abbrev wordsEq : List Jvm.Cond := [.code SEq.yN SEq.yB 3 (some .boolean), .initialized ST, .classLink ST 10 ST, .fieldLink ST 38 ST "COMPACT_STRINGS" "Z", .fieldLink ST 15 ST "coder" "B", .fieldLink ST 9 ST "value" "[B", .methodLink ST 541 LEq.yN, .static LEq.yN, .code LEq.yN LEq.yB 3 (some .boolean), .initialized "java/lang/StringLatin1"]
theorem tabEq_of {a : Array Value} {s : State} (h : ∀ w ∈ wordsEq, w.before a s = true) : SEq.tab.before a s = true := by
  have hl : LEq.tab.before a s = true := unparts (wk h (.code LEq.yN LEq.yB 3 (some .boolean))) (wks h (.initialized LEq.yN.cls :: LEq.site))
  have q := consq hl h
  exact unparts (wk q (.code SEq.yN SEq.yB 3 (some .boolean))) (wks q (.initialized SEq.yN.cls :: SEq.site))
theorem movedEq {Z s : State} {a0 args : Array Value} (hZ : Z.Warmed39 s.vm) (hw : ∀ d ∈ wordsEq, d.before a0 Z = true) : ∀ d ∈ wordsEq, d.before args s = true := fun d hd => by
  have t : ∀ d ∈ wordsEq, (d.onTables && d.keepsFace) = true := by decide +kernel
  exact RoadKit.mv hZ (hw d hd) (t d hd)
/-- the road's facts of a String, as the laws ask it -/
theorem txt_of {Z U : State} {a0 : Array Value} {kI : Nat} (wi : (Jvm.Cond.instantiable ST kI).before a0 Z = true) (al : Z.vm.Alike U.vm) {x t : Addr} {kb : ClassId} {cs : List Int32} {cd N2 : Int32} {vs : List Value} (E : RoadKit.Exa Z U.heap x ST) (V : RoadKit.Fld Z U.heap x ST "value" "[B" (.ref t)) (C : RoadKit.Fld Z U.heap x ST "coder" "B" (.int cd)) (K : RoadKit.Arv Z U.heap t kb .byte N2 vs (.int 0)) (hc : CodA cs cd N2 vs) (hb : ∀ c ∈ cs, ¬ c < 0 ∧ ¬ (65535 : Int32) < c) (l2 : cs.length ≤ 4000) :
    ∃ A, Txt x t A cd cs.length (fun j => cs.getD j 0) U := by
  obtain ⟨A, K1, K2, K3, K4, K5, K6⟩ := K
  have hcod := hc.cod (by omega) K3 K5
  obtain ⟨D, fV, fC, hB, F1, F2, g1, g2, -, -⟩ := strObj wi al E V C
  exact ⟨A, ⟨_, hB.2.2.1, D, hB.1, rfl, by cases q : D.vm <;> first | rfl | exact absurd q (hB.2.1.2 _)⟩, Has.of hB F1 g1, Has.of hB F2 g2, ⟨K1.1, State.isArrayOf_alike al K1.2.1, K1.2.2, by rcases hcod with ⟨-, q, -⟩ | ⟨-, q, -⟩ <;> omega⟩, hcod, fun j hj => by
    have e : cs.getD j 0 = cs[j] := by simp [List.getD_eq_getElem?_getD, hj]
    show ¬ cs.getD j 0 < 0 ∧ ¬ 65535 < cs.getD j 0
    rw [e]; exact hb _ (List.getElem_mem _)⟩
theorem same_list (cs ds : List Int32) : SameT cs.length (fun j => cs.getD j 0) ds.length (fun j => ds.getD j 0) ↔ cs = ds := by
  constructor
  · rintro ⟨e, q⟩
    refine List.ext_getElem e fun j h1 h2 => ?_
    have := q j h1
    simpa [List.getD_eq_getElem?_getD, h1, h2] using this
  · rintro rfl
    exact ⟨rfl, fun _ _ => rfl⟩
/-- **equals(Object) OF TWO SUCH STRINGS**: 1 just where the chars are the same -/
theorem eqW {p : Program} {l : Launch} {e : Env} {R : Room} {s : State} {args : Array Value} {below : List Frame} {len W : Nat} {Z : State} {a0 : Array Value} {h : Heap} (hZ : Z.Warmed39 s.vm) (hw : ∀ d ∈ wordsEq, d.before a0 Z = true) {kI : Nat} (wi : (Jvm.Cond.instantiable ST kI).before a0 Z = true)
    {x t : Addr} {kb : ClassId} {cs : List Int32} {cd N2 : Int32} {vs : List Value} (E : RoadKit.Exa Z h x ST) (V : RoadKit.Fld Z h x ST "value" "[B" (.ref t)) (C : RoadKit.Fld Z h x ST "coder" "B" (.int cd)) (K : RoadKit.Arv Z h t kb .byte N2 vs (.int 0)) (hc : CodA cs cd N2 vs) (hb : ∀ c ∈ cs, ¬ c < 0 ∧ ¬ (65535 : Int32) < c) (l2 : cs.length ≤ 4000)
    {y t' : Addr} {kb' : ClassId} {ds : List Int32} {cd' N2' : Int32} {vs' : List Value} (E' : RoadKit.Exa Z h y ST) (V' : RoadKit.Fld Z h y ST "value" "[B" (.ref t')) (C' : RoadKit.Fld Z h y ST "coder" "B" (.int cd')) (K' : RoadKit.Arv Z h t' kb' .byte N2' vs' (.int 0)) (hc' : CodA ds cd' N2' vs') (hb' : ∀ c ∈ ds, ¬ c < 0 ∧ ¬ (65535 : Int32) < c) (l2' : ds.length ≤ 4000)
    {z : Int32} (S : RoadKit.Sta Z h ST "COMPACT_STRINGS" "Z" (.int z)) (hz : ¬ z = 0) (hfr : 2 ≤ R.frames) (hlo : W + 28 ≤ R.locals) :
    Back l R p e below s args (⟨"java/lang/String", "equals", "(Ljava/lang/Object;)Z"⟩ : MethodName) len W (fun P a => a = #[.ref x, .ref y] ∧ P.U.heap = h ∧ P.cells + 0 ≤ R.cells ∧ P.slots + 0 ≤ R.slots)
      (fun P _ v B => ∃ L, (((v = some (.int 1) ∧ cs = ds) ∨ (v = some (.int 0) ∧ ¬ cs = ds)) ∧ L = [] ∧ B.U.heap = h) ∧ B.locs = P.locs ++ L ∧ B.cells = P.cells + 0 ∧ B.slots = P.slots + 0) := by
  intro m meth c P g ig mk a X hg hsize hdg hW hn hp'
  obtain ⟨rfl, rfl, r1, r2⟩ := hp'
  have al : Z.vm.Alike P.U.vm := hZ.alike.trans X.warmed.alike
  obtain ⟨A, hx⟩ := txt_of wi al E V C K hc hb l2
  obtain ⟨A', hy⟩ := txt_of wi al E' V' C' K' hc' hb' l2'
  obtain ⟨v, B, X', ⟨⟨w, hv, hh, hq⟩, hl, hk, hs⟩, st⟩ := SEq.pays x t A cd cs.length (fun j => cs.getD j 0) y t' A' cd' ds.length (fun j => ds.getD j 0) z (tabEq_of (movedEq hZ hw)) hfr hlo m meth c P g ig mk _ X hg hsize hdg hW hn ⟨r1, r2, rfl, hx, hy, sta_is al S, hz⟩
  refine ⟨v, B, X', ⟨[], ⟨?_, rfl, hh⟩, hl, hk, hs⟩, st⟩
  rcases hq with ⟨rfl, q⟩ | ⟨rfl, q⟩
  · exact Or.inl ⟨hv, (same_list cs ds).mp q⟩
  · exact Or.inr ⟨hv, fun e => q ((same_list cs ds).mpr e)⟩
end StrChars.Road
namespace StrChars
open Jvm Sem ClassFile Op Lib Jvm.Stand Jvm.Free.XT Jvm.Free.ALB Jvm.Free.JM Jvm.Free
open Jvm.Lib.Cold (StaticIs)
namespace ChN
def yN : MethodName := ⟨"java/lang/String", "charAt", "(I)C"⟩
abbrev yB : ByteArray := jdk_42_method_56_code
theorem d0 : decode yB 0 = .ok (.aload_n 0, 1) := by decide +kernel
theorem d1 : decode yB 1 = .ok (.invokevirtual 492, 3) := by decide +kernel
theorem d4 : decode yB 4 = .ok (.ifCond (.eq) 12, 3) := by decide +kernel
theorem d7 : decode yB 7 = .ok (.aload_n 0, 1) := by decide +kernel
theorem d8 : decode yB 8 = .ok (.getfield 9, 3) := by decide +kernel
theorem d11 : decode yB 11 = .ok (.iload_n 1, 1) := by decide +kernel
theorem d12 : decode yB 12 = .ok (.invokestatic 495, 3) := by decide +kernel
theorem d15 : decode yB 15 = .ok (.ireturn, 1) := by decide +kernel
def site : List Cond := [.fieldLink "java/lang/String" 9 "java/lang/String" "value" "[B", IsL.tab, LChA.tab] ++ virtW "java/lang/String" 492 "java/lang/String" IsL.yN IsL.yN ++ staticW "java/lang/String" 495 LChA.yN
def tab : Cond := tabOf yN yB 2 (some .char) site
def P (x t : Addr) (V : Cell) (n : Nat) (f : Nat → Int32) (z : Int32) (fm : Value) (i : Nat) (args : Array Value) (s : State) : Prop := args = #[.ref x, .int (Int32.ofNat i)] ∧ Txt x t V 0 n f s ∧ i < n ∧ StaticIs s "java/lang/String" "COMPACT_STRINGS" "Z" (.int z) ∧ ¬ z = 0 ∧ StaticIs s "jdk/internal/util/Preconditions" "SIOOBE_FORMATTER" "Ljava/util/function/BiFunction;" fm ∧ fm.isRef = true
def E (f : Nat → Int32) (i : Nat) (r : Option Value) (s u : State) : Prop := XT.PureE (some (.int (f i))) r s u
/-- charAt(i) of a Latin-1 String of n chars, i < n: f i -/
theorem law (l : Launch) (x t : Addr) (V : Cell) (n : Nat) (f : Nat → Int32) (z : Int32) (fm : Value) (i : Nat) : Law l yN 2 1 3 40 yB 2 (some .char) site (P x t V n f z fm i) (E f i) [] 0 0 := by
  refine Law.of_walk (plainFor_of_name (by decide +kernel)) (by decide +kernel) (by decide +kernel) (by decide) (fun _ _ h => by rw [h.1]; rfl) (fun _ U U' hal hh h => ⟨h.1, h.2.1.mv hal hh, h.2.2.1, h.2.2.2.1.there hal hh, h.2.2.2.2.1, h.2.2.2.2.2.1.there hal hh, h.2.2.2.2.2.2⟩) (fun r U U' V V' h1 hal h2 h => XT.PureE.mv r U U' V V' h1 hal h2 h) ?_
  intro p e s m args below meth c s₁ X0 hexec hbytes hml hret hlk hnm hown hh0 W hP
  obtain ⟨rfl, hx, hi, s1, hz, s3, rf⟩ := hP
  have v31 := hx.2.2.2.1.2.2.2
  have hr := hx.2.2.2.2.2 i hi
  have hx0 := hx.mv X0.warmed.alike hh0
  have c1 : Steps p.tables e below (s₁.setTop (entryFrame m #[.ref x, .int (Int32.ofNat i)] 2)) (s₁.setTop (mkF m 1 #[.val (.ref x), .val (.int (Int32.ofNat i))] [.ref x])) := Steps.trans (entry rfl) (by
    show Steps p.tables e below (s₁.setTop (mkF m 0 #[.val (.ref x), .val (.int (Int32.ofNat i))] [])) _
    refine XS.aloadN X0.here hexec rfl (hb hbytes d0) rfl rfl ?_
    exact Steps.refl _)
  obtain ⟨v2, T2, X2, E2, g2⟩ := X0.callV hexec (IsL.law l x 0 z) hown (wks W (virtW "java/lang/String" 492 "java/lang/String" IsL.yN IsL.yN)) rfl (by decide) (wk W IsL.tab) (W := 0) (Nat.le_of_ble_eq_true rfl) (Nat.le_of_ble_eq_true rfl) (Nat.le_refl _) (Nat.le_refl _) (hx0.1.fc X0.warmed.alike) hx0.1.is (g := (mkF m 1 #[.val (.ref x), .val (.int (Int32.ofNat i))] [.ref x])) rfl (by rw [hml]; rfl) c1 (argsL := []) (rest := []) rfl rfl (by show 2 * 0 + 0 ≤ _; decide) (hb hbytes d1) (⟨rfl, hx0.2.2.1, hx.2.2.2.2.1.cd, s1.there X0.warmed.alike hh0, hz⟩)
  obtain ⟨rfl, q2⟩ := E2
  have hh2 := q2.trans hh0
  have hx2 := hx.mv X2.warmed.alike hh2
  obtain ⟨-, k1, k2⟩ | ⟨k0, -⟩ := hx.2.2.2.2.1
  · have c3 : Steps p.tables e below (s₁.setTop (entryFrame m #[.ref x, .int (Int32.ofNat i)] 2)) (T2.setTop (mkF m 8 #[.val (.ref x), .val (.int (Int32.ofNat i))] [.ref x])) := Steps.trans g2 (by
      refine XS.ifNo X2.here hexec rfl (hb hbytes d4) rfl (i0_eq_f (by decide)) ?_
      refine XS.aloadN X2.here hexec rfl (hb hbytes d7) rfl rfl ?_
      exact Steps.refl _)
    obtain ⟨T4, X4, q4, st4⟩ := X2.hget hexec hown (wk W (.fieldLink "java/lang/String" 9 "java/lang/String" "value" "[B")) hx2.2.1 (g := (mkF m 8 #[.val (.ref x), .val (.int (Int32.ofNat i))] [.ref x])) rfl (rest := []) rfl (hb hbytes d8)
    have hh4 := q4.trans hh2
    have c5 : Steps p.tables e below (s₁.setTop (entryFrame m #[.ref x, .int (Int32.ofNat i)] 2)) (T4.setTop (mkF m 12 #[.val (.ref x), .val (.int (Int32.ofNat i))] [.int (Int32.ofNat i), .ref t])) := (c3.trans (st4 _ (Steps.refl _))).trans (by
      refine XS.iloadN X4.here hexec rfl (hb hbytes d11) rfl ?_
      exact Steps.refl _)
    obtain ⟨v6, T6, X6, E6, g6⟩ := X4.callS hexec (LChA.law l t V i (lo8 (f i)) fm) hown (wks W (staticW "java/lang/String" 495 LChA.yN)) (wk W LChA.tab) (W := 0) (Nat.le_of_ble_eq_true rfl) (Nat.le_of_ble_eq_true rfl) (Nat.le_refl _) (Nat.le_refl _) (g := (mkF m 12 #[.val (.ref x), .val (.int (Int32.ofNat i))] [.int (Int32.ofNat i), .ref t])) rfl (by rw [hml]; rfl) c5 (argsL := [.ref t, .int (Int32.ofNat i)]) (rest := []) rfl rfl (by show 2 * 0 + 0 ≤ _; decide) (hb hbytes d12) (⟨rfl, hx.2.2.2.1.mv X4.warmed.alike hh4, (k2 i hi).1, s3.there X4.warmed.alike hh4, rf⟩)
    obtain ⟨rfl, q6⟩ := E6
    rw [chr8_lo8 hr.1 (k2 i hi).2] at g6
    exact ⟨T6, some (.int (f i)), _, _, _, X6, rfl, rfl, rfl, (fun h => by cases h), ⟨rfl, q6.trans hh4⟩, fun fs hl => Steps.trans g6 (X6.ireturnOut hexec hret (narrow_ch hr.1 hr.2) (Or.inr (Or.inr (Or.inr (Or.inl rfl)))) (hb hbytes d15) hl)⟩
  · exact absurd k0 (by decide)
theorem pays {l : Launch} {R : Room} {p : Program} {e : Env} {below : List Frame} {s : State} {sargs : Array Value} {len W : Nat} (x t : Addr) (V : Cell) (n : Nat) (f : Nat → Int32) (z : Int32) (fm : Value) (i : Nat) (htab : tab.before sargs s = true) (hfr : 4 ≤ R.frames) (hlo : W + 53 ≤ R.locals) :
    Back l R p e below s sargs yN len W (fun A₁ a₁ => A₁.cells + 0 ≤ R.cells ∧ A₁.slots + 0 ≤ R.slots ∧ P x t V n f z fm i a₁ A₁.U) (fun A₁ _ v₁ B₁ => E f i v₁ A₁.U B₁.U ∧ B₁.locs = A₁.locs ++ [] ∧ B₁.cells = A₁.cells + 0 ∧ B₁.slots = A₁.slots + 0) :=
  (law l x t V n f z fm i).pays htab hfr (by omega)
end ChN
end StrChars
namespace StrChars.Road
open Jvm Sem ClassFile Op Lib Jvm.Stand Jvm.Free Jvm.Free.XT
open Jvm.Lib.Cold (StaticIs)
/-- the words of String.charAt(int), the Latin-1 road alone -/
abbrev wordsChN : List Jvm.Cond := [.code ChN.yN ChN.yB 2 (some .char), .initialized ST, .fieldLink ST 9 ST "value" "[B", .fieldLink ST 38 ST "COMPACT_STRINGS" "Z", .fieldLink ST 15 ST "coder" "B", .code IsL.yN IsL.yB 1 (some .boolean), .methodLink ST 492 IsL.yN, .declares IsL.yN, .selects ST IsL.yN IsL.yN, .instanceMethod IsL.yN,
  .methodLink ST 495 LChA.yN, .static LChA.yN, .code LChA.yN LChA.yB 2 (some .char), .initialized "java/lang/StringLatin1", .methodLink "java/lang/StringLatin1" 9 JO.Str_checkIndex.yN, .static JO.Str_checkIndex.yN, .code JO.Str_checkIndex.yN JO.Str_checkIndex.yB 2 none,
  .fieldLink ST 1053 "jdk/internal/util/Preconditions" "SIOOBE_FORMATTER" "Ljava/util/function/BiFunction;", .methodLink ST 1059 JC.PreCheck.yN, .static JC.PreCheck.yN, .code JC.PreCheck.yN JC.PreCheck.yB 3 (some .int), .initialized "jdk/internal/util/Preconditions"]
theorem tabChN_of {a : Array Value} {s : State} (h : ∀ w ∈ wordsChN, w.before a s = true) : ChN.tab.before a s = true := by
  have hp : JC.PreCheck.tab.before a s = true := unparts (wk h (.code JC.PreCheck.yN JC.PreCheck.yB 3 (some .int))) (wks h (.initialized JC.PreCheck.yN.cls :: JC.PreCheck.site))
  have qk := consq hp h
  have hk : JO.Str_checkIndex.tab.before a s = true := unparts (wk qk (.code JO.Str_checkIndex.yN JO.Str_checkIndex.yB 2 none)) (wks qk (.initialized JO.Str_checkIndex.yN.cls :: JO.Str_checkIndex.site))
  have ql := consq hk h
  have hl : LChA.tab.before a s = true := unparts (wk ql (.code LChA.yN LChA.yB 2 (some .char))) (wks ql (.initialized LChA.yN.cls :: LChA.site))
  have hi : IsL.tab.before a s = true := unparts (wk h (.code IsL.yN IsL.yB 1 (some .boolean))) (wks h (.initialized IsL.yN.cls :: IsL.site))
  have q := consq hi (consq hl h)
  exact unparts (wk q (.code ChN.yN ChN.yB 2 (some .char))) (wks q (.initialized ChN.yN.cls :: ChN.site))
theorem movedChN {Z s : State} {a0 args : Array Value} (hZ : Z.Warmed39 s.vm) (hw : ∀ d ∈ wordsChN, d.before a0 Z = true) : ∀ d ∈ wordsChN, d.before args s = true := fun d hd => by
  have t : ∀ d ∈ wordsChN, (d.onTables && d.keepsFace) = true := by decide +kernel
  exact RoadKit.mv hZ (hw d hd) (t d hd)
/-- **charAt(i) OF A LATIN-1 STRING**, i < n: the char -/
theorem chN {p : Program} {l : Launch} {e : Env} {R : Room} {s : State} {args : Array Value} {below : List Frame} {len W : Nat} {Z : State} {a0 : Array Value} {h : Heap} (hZ : Z.Warmed39 s.vm) (hw : ∀ d ∈ wordsChN, d.before a0 Z = true) {kI : Nat} (wi : (Jvm.Cond.instantiable ST kI).before a0 Z = true)
    {x t : Addr} {kb : ClassId} {cs : List Int32} {N2 z : Int32} {vs : List Value} {fm : Value} {i : Nat} {j : Int32} (E : RoadKit.Exa Z h x ST) (V : RoadKit.Fld Z h x ST "value" "[B" (.ref t)) (C : RoadKit.Fld Z h x ST "coder" "B" (.int 0)) (K : RoadKit.Arv Z h t kb .byte N2 vs (.int 0)) (hc : CodA cs 0 N2 vs) (hb : ∀ c ∈ cs, ¬ c < 0 ∧ ¬ (65535 : Int32) < c)
    (S : RoadKit.Sta Z h ST "COMPACT_STRINGS" "Z" (.int z)) (hz : ¬ z = 0) (F : RoadKit.Sta Z h "jdk/internal/util/Preconditions" "SIOOBE_FORMATTER" "Ljava/util/function/BiFunction;" fm) (rf : fm.isRef = true) (l2 : cs.length ≤ 4000) (hi : i < cs.length) (hj : j = Int32.ofNat i) (hfr : 4 ≤ R.frames) (hlo : W + 53 ≤ R.locals) :
    Back l R p e below s args (⟨"java/lang/String", "charAt", "(I)C"⟩ : MethodName) len W (fun P a => a = #[.ref x, .int j] ∧ P.U.heap = h ∧ P.cells + 0 ≤ R.cells ∧ P.slots + 0 ≤ R.slots)
      (fun P _ v B => ∃ L, (v = some (.int (cs.getD i 0)) ∧ L = [] ∧ B.U.heap = h) ∧ B.locs = P.locs ++ L ∧ B.cells = P.cells + 0 ∧ B.slots = P.slots + 0) := by
  subst hj
  intro m meth c P g ig mk a X hg hsize hdg hW hn hp'
  obtain ⟨rfl, rfl, r1, r2⟩ := hp'
  have al : Z.vm.Alike P.U.vm := hZ.alike.trans X.warmed.alike
  obtain ⟨A, hx⟩ := txt_of wi al E V C K hc hb l2
  obtain ⟨v, B, X', ⟨⟨hv, hh⟩, hl, hk, hs⟩, st⟩ := ChN.pays x t A cs.length (fun j => cs.getD j 0) z fm i (tabChN_of (movedChN hZ hw)) hfr hlo m meth c P g ig mk _ X hg hsize hdg hW hn ⟨r1, r2, rfl, hx, hi, sta_is al S, hz, sta_is al F, rf⟩
  exact ⟨v, B, X', ⟨[], ⟨hv, rfl, hh⟩, hl, hk, hs⟩, st⟩
/-- what backV says of its String, as the contracts of this text ask it: cs's low bytes, coder 0 -/
theorem codOf {cs : List Int32} {n : Nat} (hn : cs.length = n) (hb : ∀ c ∈ cs, ¬ 255 < c) : CodA cs 0 (Int32.ofNat n) ((cs.map lo8).map Value.int) := Or.inl ⟨rfl, by rw [hn], by simp [List.map_map, Function.comp_def], hb⟩
end StrChars.Road
end Jvm.Pilot.@@N@@
namespace Jvm.Pilot.@@N@@
open Jvm Jvm.ClassFile Sem Op Lib Jvm.Free Jvm.Stand Jvm.LawKit Jvm.RoadKit Bundle Jvm.Pilot.@@N@@.Jvm.D
/-- the run from u comes to an end that P holds of -/
def Go (p : Program) (e : Env) (below : List Frame) (P : State → Outcome → Prop) (u : State) : Prop := ∃ t o, Steps p.tables e below u t ∧ t.status = .running ∧ Ended t below o ∧ P t o
section Own
variable {p : Program} {l : Launch} {e : Env} {R : Room} {s : State} {m : MethodId} {args : Array Value} {below : List Frame} {meth : Method} {c : Code} {T : State} {locs : List Loc} {cells slots : Nat} {Z : State} {a0 : Array Value} {h h' : Heap} {vm : Vm} {P : State → Outcome → Prop} {u w : State}
theorem Go.on (st : ∀ t, Steps p.tables e below w t → Steps p.tables e below u t) (k : Go p e below P w) : Go p e below P u := by
  obtain ⟨t, o, h, r⟩ := k; exact ⟨t, o, st t h, r⟩
theorem Go.fin {vm1 : Vm} {n : Nat} (X : Stand p l e R (s.setVm vm1) m args below meth c T locs cells slots) (hS : s.Since vm1 n) (hn : n ≤ T.heap.size) (hlk : meth.locks = false) {v : Option Value} (hv : meth.sig.returnType = none → v = none)
    (st : ∀ fs, (∀ (f : JFrame) (acts : List Action), f.method = m → f.locked = none → f.entered = [] → (doReturn e (T.setTop f) acts v).1 = T.setFrames fs) → Steps p.tables e below u (T.setFrames fs))
    (hP : ∀ fs, ReturnedEndW s (.returned v) (T.setFrames fs) locs cells slots → P (T.setFrames fs) (.returned v)) : Go p e below P u := by
  obtain ⟨fs, h1, h2, h3, h4⟩ := X.leaveW hS hn hv (hlocks := hlk)
  exact ⟨_, _, st fs h1, h2, h3, hP fs h4⟩
theorem Go.finH (X : Stand p l e R s m args below meth c T locs cells slots) (hlk : meth.locks = false) {v : Option Value} (hv : meth.sig.returnType = none → v = none)
    (st : ∀ fs, (∀ (f : JFrame) (acts : List Action), f.method = m → f.locked = none → f.entered = [] → (doReturn e (T.setTop f) acts v).1 = T.setFrames fs) → Steps p.tables e below u (T.setFrames fs))
    (hP : ∀ fs, FrameEnd s (.returned v) (T.setFrames fs) locs cells slots → P (T.setFrames fs) (.returned v)) : Go p e below P u := by
  obtain ⟨fs, h1, h2, h3, h4, h5⟩ := X.leave hv (hlocks := hlk)
  exact ⟨_, _, st fs h1, h2, h3, hP fs ⟨⟨v, rfl⟩, h4, h5⟩⟩
theorem endP {Q : Option Value → Heap → List Loc → Prop} {EL : List (String × Nat)} {v : Option Value} {k n : Nat} (q : Q v T.heap locs) (r : CHr Z EL s.vm s.heap T.vm T.heap) (hc : cells ≤ k) (hs : slots ≤ n) :
    ∀ fs, ReturnedEndW s (.returned v) (T.setFrames fs) locs cells slots → ∃ v' L, Outcome.returned v = .returned v' ∧ Q v' (T.setFrames fs).heap L ∧ CHr Z EL s.vm s.heap (T.setFrames fs).vm (T.setFrames fs).heap ∧ ReturnedEndW s (.returned v) (T.setFrames fs) L k n :=
  fun fs h => ⟨v, locs, rfl, q, r, h.1, h.2.1, h.2.2.1, h.2.2.2.mono hc hs⟩
theorem endH {Q : Option Value → Heap → List Loc → Prop} {v : Option Value} {k n : Nat} (q : Q v T.heap locs) (hc : cells ≤ k) (hs : slots ≤ n) :
    ∀ fs, FrameEnd s (.returned v) (T.setFrames fs) locs cells slots → ∃ v' L, Outcome.returned v = .returned v' ∧ Q v' (T.setFrames fs).heap L ∧ FrameEnd s (.returned v) (T.setFrames fs) L k n :=
  fun fs h => ⟨v, locs, rfl, q, h.1, h.2.1, h.2.2.mono hc hs⟩
/-- a String whose value is still null is no booked constant -/
theorem own_safeNull {EL : List (String × Nat)} {x : Addr} (hal : Z.vm.Alike vm) (E : Exa Z h x "java/lang/String") (F : Fld Z h x "java/lang/String" "value" "[B" .null) : Safe Z EL vm h x := fun B => by
  obtain ⟨cell, k, e1, e2, e3, -, -⟩ := E
  obtain ⟨p, -, u, a, -, q, -, G, rfl | rfl⟩ := B
  · obtain ⟨cell', cf, kf, i, f, f1, f2, -, -, -, -, f7⟩ := F
    obtain ⟨cS, ⟨⟨s1, -, -, ⟨c1, k1, i1, v1, -⟩, -, -, -, v2, -⟩, -⟩, -⟩ := G
    obtain ⟨k3, q3, -⟩ := State.fieldFound?_setVm (s := Z) (vm' := vm) hal f2
    have e4 := (show (Wst Z vm h).fieldFound? _ _ _ = _ from q3).symm.trans v1
    simp only [Option.some.injEq, Prod.mk.injEq] at e4
    cases (show h[q.sa]? = some q.sC from s1).symm.trans f1
    rw [← e4.2.2.2, f7] at v2
    cases v2
  · cases (show h[q.sd]? = some q.SA from G.hd).symm.trans e1
    obtain ⟨cS, -, -, f, -⟩ := G
    rw [show (Wst Z vm h).vm.findClass "[B" = Z.vm.findClass "[B" from hal.findClass _ _] at f
    obtain ⟨k1, q1, q2⟩ := Vm.findClass_spec f
    obtain ⟨k2, q3, q4⟩ := Vm.findClass_spec e2
    cases q1.symm.trans q3
    exact absurd (q2.symm.trans q4) (by decide)
end Own
theorem own_chr (x : Int32) : ∃ z : Int32, (x &&& (255 : Int32)).toUInt32.toUInt16.toUInt32.toInt32 = z ∧ ¬ z < 0 ∧ ¬ (255 : Int32) < z := by
  refine ⟨_, rfl, ?_⟩
  have t : ∀ k : Fin 256, ¬ ((Int32.ofNat k.val).toUInt32.toUInt16.toUInt32.toInt32) < 0 ∧ ¬ (255 : Int32) < ((Int32.ofNat k.val).toUInt32.toUInt16.toUInt32.toInt32) := by decide +kernel
  have h : (x &&& 255).toBitVec.toNat < 256 := by
    simp only [Int32.toBitVec_and, BitVec.toNat_and]
    exact Nat.lt_succ_of_le Nat.and_le_right
  have e : (x &&& 255) = Int32.ofNat (x &&& 255).toBitVec.toNat := by
    apply Int32.toBitVec_inj.mp
    show _ = BitVec.ofNat 32 _
    rw [BitVec.ofNat_toNat]; simp
  rw [e]
  exact t ⟨_, h⟩
theorem own_small {z : Int32} (h0 : ¬ z < 0) (h1 : ¬ (255 : Int32) < z) : ∃ k : Fin 256, z = Int32.ofNat k.val := by
  have a : z.toInt ≤ 255 := by rw [Int32.lt_iff_toInt_lt] at h1; have e1 : (255 : Int32).toInt = 255 := rfl; omega
  have b : 0 ≤ z.toInt := by rw [Int32.lt_iff_toInt_lt] at h0; have e1 : (0 : Int32).toInt = 0 := rfl; omega
  refine ⟨⟨z.toInt.toNat, by omega⟩, Int32.toInt_inj.mp ?_⟩
  show z.toInt = (Int32.ofNat z.toInt.toNat).toInt
  rw [Int32.toInt_ofNat_of_lt (by omega)]; omega
theorem own_nar {z : Int32} (h0 : ¬ z < 0) (h1 : ¬ (255 : Int32) < z) : nar .char z = z := by
  have t : ∀ k : Fin 256, nar .char (Int32.ofNat k.val) = Int32.ofNat k.val := by decide +kernel
  obtain ⟨k, rfl⟩ := own_small h0 h1
  exact t k
theorem own_and3 (x : Int32) : x &&& (3 : Int32) = 0 ∨ x &&& (3 : Int32) = 1 ∨ x &&& (3 : Int32) = 2 ∨ x &&& (3 : Int32) = 3 := by
  have t : ∀ k : Fin 4, Int32.ofNat k.val = 0 ∨ Int32.ofNat k.val = 1 ∨ Int32.ofNat k.val = 2 ∨ Int32.ofNat k.val = 3 := by decide +kernel
  have h : (x &&& 3).toBitVec.toNat < 4 := by
    simp only [Int32.toBitVec_and, BitVec.toNat_and]
    exact Nat.lt_succ_of_le Nat.and_le_right
  have e : (x &&& 3) = Int32.ofNat (x &&& 3).toBitVec.toNat := by
    apply Int32.toBitVec_inj.mp
    show _ = BitVec.ofNat 32 _
    rw [BitVec.ofNat_toNat]; simp
  rw [e]
  exact t ⟨_, h⟩
theorem own_up {cs : List Int32} (h : ∀ c ∈ cs, ¬ c < 0 ∧ ¬ (255 : Int32) < c) : ∀ c ∈ cs, ¬ c < 0 ∧ ¬ (65535 : Int32) < c := fun c hc => ⟨(h c hc).1, fun q => (h c hc).2 (by rw [Int32.lt_iff_toInt_lt] at q ⊢; have e1 : (65535 : Int32).toInt = 65535 := rfl; have e2 : (255 : Int32).toInt = 255 := rfl; omega)⟩
theorem own_nar8 (c : Int32) : nar .byte (c.toInt8.toInt32) = c.toInt8.toInt32 := by
  show ((c.toInt8.toInt32).toInt8).toInt32 = _
  rw [Int8.toInt8_toInt32]
/-- the chars of a String of n signs -/
def own_cs (n c0 c1 : Int32) : List Int32 := if n = 0 then [] else if n = 1 then [c0] else [c0, c1]
theorem own_cs0 (c0 c1 : Int32) : own_cs 0 c0 c1 = [] := rfl
theorem own_cs1 (c0 c1 : Int32) : own_cs 1 c0 c1 = [c0] := by simp [own_cs]
theorem own_cs2 (c0 c1 : Int32) : own_cs 2 c0 c1 = [c0, c1] := by simp [own_cs]
theorem own_all1 {a : Int32} (h : ¬ a < 0 ∧ ¬ (255 : Int32) < a) : ∀ c ∈ [a], ¬ c < 0 ∧ ¬ (255 : Int32) < c := fun c hc => by simp only [List.mem_cons, List.not_mem_nil, or_false] at hc; subst hc; exact h
theorem own_all2 {a b : Int32} (h : ¬ a < 0 ∧ ¬ (255 : Int32) < a) (h' : ¬ b < 0 ∧ ¬ (255 : Int32) < b) : ∀ c ∈ [a, b], ¬ c < 0 ∧ ¬ (255 : Int32) < c := fun c hc => by
  simp only [List.mem_cons, List.not_mem_nil, or_false] at hc
  rcases hc with rfl | rfl
  · exact h
  · exact h'
theorem own_len {n c0 c1 : Int32} {cs : List Int32} (e : cs = own_cs n c0 c1) : cs.length ≤ 4000 := by
  subst e; unfold own_cs; split
  · simp
  · split <;> simp
theorem own_eqv {v : Option Value} {A : Prop} (h : (v = some (.int 1) ∧ A) ∨ (v = some (.int 0) ∧ ¬ A)) : ∃ r : Int32, v = some (.int r) ∧ ((r = 1 ∧ A) ∨ (r = 0 ∧ ¬ A)) := by
  rcases h with ⟨h, a⟩ | ⟨h, a⟩
  · exact ⟨1, h, Or.inl ⟨rfl, a⟩⟩
  · exact ⟨0, h, Or.inr ⟨rfl, a⟩⟩
/-- two such Strings are alike just where the law says so -/
theorem own_csEq {n k c0 c1 d0 d1 : Int32} (hn : n = 0 ∨ n = 1 ∨ n = 2) (hk : k = 0 ∨ k = 1 ∨ k = 2) : own_cs n c0 c1 = own_cs k d0 d1 ↔ (n = k ∧ (n < 1 ∨ c0 = d0) ∧ (n < 2 ∨ c1 = d1)) := by
  rcases hn with rfl | rfl | rfl <;> rcases hk with rfl | rfl | rfl <;> simp [own_cs] <;> decide
theorem own_if01 {r : Int32} {A B : Prop} (h : (r = 1 ∧ A) ∨ (r = 0 ∧ ¬ A)) (e : A ↔ B) [Decidable B] : r = if B then 1 else 0 := by
  rcases h with ⟨rfl, a⟩ | ⟨rfl, a⟩
  · rw [if_pos (e.mp a)]
  · rw [if_neg (fun b => a (e.mpr b))]
theorem own_exaRef {args : Array Value} {s : State} {t : Term} {C : String} (h : (Jvm.Cond.exactly t C).value args s none s [] = some true) : ∃ a, t.eval args s none [] s = some (.ref a) := by
  obtain ⟨a, c, cell, k, h1, -⟩ := Cond.exactly_spec (Cond.before_iff.mpr h)
  exact ⟨a, h1⟩
theorem own_ord {args : Array Value} {s : State} {t : Term} {a : Addr} {C f d : String} {i : Int32} (ea : t.eval args s none [] s = some (.ref a)) (h1 : (Jvm.Cond.eq (.field t C f d) (.int i)).value args s none s [] = some true) : s.fieldOf? a C f d = some (.int i) := by
  have e1 : (Term.field t C f d).eval args s none [] s = s.fieldOf? a C f d := by simp [Term.eval, ea]
  simp only [Cond.value, e1, Term.int_eval] at h1
  cases hq : s.fieldOf? a C f d with
  | none => simp [hq] at h1
  | some v =>
    rw [hq] at h1
    cases v <;> simp at h1
    rw [h1]
def EL : List (String × Nat) := [("java/lang/String", 7), ("flatfield/PrimitiveOfPinLaw", 28)]
theorem w_0 {a0 : Array Value} {Z : State} (hw : ∀ d ∈ tables_1, d.before a0 Z = true) : (Jvm.Cond.methodLink "flatfield/PrimitiveOfPinLaw" (7 : Nat) ({ cls := "flatfield/PrimitiveOfPinLaw", name := "draw", desc := "(I)C" } : Jvm.MethodName)).before a0 Z = true := hw _ (List.mem_of_getElem? (i := 0) rfl)
theorem w_1 {a0 : Array Value} {Z : State} (hw : ∀ d ∈ tables_1, d.before a0 Z = true) : (Jvm.Cond.static ({ cls := "flatfield/PrimitiveOfPinLaw", name := "draw", desc := "(I)C" } : Jvm.MethodName)).before a0 Z = true := hw _ (List.mem_of_getElem? (i := 1) rfl)
theorem w_2 {a0 : Array Value} {Z : State} (hw : ∀ d ∈ tables_1, d.before a0 Z = true) : (Jvm.Cond.initialized "flatfield/PrimitiveOfPinLaw").before a0 Z = true := hw _ (List.mem_of_getElem? (i := 2) rfl)
theorem w_3 {a0 : Array Value} {Z : State} (hw : ∀ d ∈ tables_1, d.before a0 Z = true) : (Jvm.Cond.code ({ cls := "flatfield/PrimitiveOfPinLaw", name := "draw", desc := "(I)C" } : Jvm.MethodName) method_3_code (1 : Nat) (Option.some Jvm.ClassFile.FieldType.char)).before a0 Z = true := hw _ (List.mem_of_getElem? (i := 3) rfl)
theorem w_4 {a0 : Array Value} {Z : State} (hw : ∀ d ∈ tables_1, d.before a0 Z = true) : (Jvm.Cond.arrayClass Jvm.ClassFile.FieldType.char).before a0 Z = true := hw _ (List.mem_of_getElem? (i := 4) rfl)
theorem w_5 {a0 : Array Value} {Z : State} (hw : ∀ d ∈ tables_1, d.before a0 Z = true) : (Jvm.Cond.classLink "flatfield/PrimitiveOfPinLaw" (13 : Nat) "java/lang/String").before a0 Z = true := hw _ (List.mem_of_getElem? (i := 5) rfl)
theorem w_6 {a0 : Array Value} {Z : State} (hw : ∀ d ∈ tables_1, d.before a0 Z = true) : (Jvm.Cond.instantiable "java/lang/String" (4 : Nat)).before a0 Z = true := hw _ (List.mem_of_getElem? (i := 6) rfl)
theorem w_7 {a0 : Array Value} {Z : State} (hw : ∀ d ∈ tables_1, d.before a0 Z = true) : (Jvm.Cond.initialized "java/lang/String").before a0 Z = true := hw _ (List.mem_of_getElem? (i := 7) rfl)
theorem w_8 {a0 : Array Value} {Z : State} (hw : ∀ d ∈ tables_1, d.before a0 Z = true) : (Jvm.Cond.methodLink "flatfield/PrimitiveOfPinLaw" (15 : Nat) ({ cls := "java/lang/String", name := "<init>", desc := "([C)V" } : Jvm.MethodName)).before a0 Z = true := hw _ (List.mem_of_getElem? (i := 8) rfl)
theorem w_9 {a0 : Array Value} {Z : State} (hw : ∀ d ∈ tables_1, d.before a0 Z = true) : (Jvm.Cond.instanceMethod ({ cls := "java/lang/String", name := "<init>", desc := "([C)V" } : Jvm.MethodName)).before a0 Z = true := hw _ (List.mem_of_getElem? (i := 9) rfl)
theorem w_10 {a0 : Array Value} {Z : State} (hw : ∀ d ∈ tables_1, d.before a0 Z = true) : (Jvm.Cond.code ({ cls := "java/lang/String", name := "<init>", desc := "([C)V" } : Jvm.MethodName) jdk_42_method_3_code (2 : Nat) (Option.none : Option Jvm.ClassFile.FieldType)).before a0 Z = true := hw _ (List.mem_of_getElem? (i := 10) rfl)
theorem w_11 {a0 : Array Value} {Z : State} (hw : ∀ d ∈ tables_1, d.before a0 Z = true) : (Jvm.Cond.methodLink "java/lang/String" (27 : Nat) ({ cls := "java/lang/String", name := "<init>", desc := "([CIILjava/lang/Void;)V" } : Jvm.MethodName)).before a0 Z = true := hw _ (List.mem_of_getElem? (i := 11) rfl)
theorem w_12 {a0 : Array Value} {Z : State} (hw : ∀ d ∈ tables_1, d.before a0 Z = true) : (Jvm.Cond.instanceMethod ({ cls := "java/lang/String", name := "<init>", desc := "([CIILjava/lang/Void;)V" } : Jvm.MethodName)).before a0 Z = true := hw _ (List.mem_of_getElem? (i := 12) rfl)
theorem w_14 {a0 : Array Value} {Z : State} (hw : ∀ d ∈ tables_1, d.before a0 Z = true) : (Jvm.Cond.code ({ cls := "java/lang/String", name := "<init>", desc := "([CIILjava/lang/Void;)V" } : Jvm.MethodName) jdk_42_method_149_code (6 : Nat) (Option.none : Option Jvm.ClassFile.FieldType)).before a0 Z = true := hw _ (List.mem_of_getElem? (i := 14) rfl)
theorem w_15 {a0 : Array Value} {Z : State} (hw : ∀ d ∈ tables_1, d.before a0 Z = true) : (Jvm.Cond.methodLink "java/lang/String" (1 : Nat) ({ cls := "java/lang/Object", name := "<init>", desc := "()V" } : Jvm.MethodName)).before a0 Z = true := hw _ (List.mem_of_getElem? (i := 15) rfl)
theorem w_16 {a0 : Array Value} {Z : State} (hw : ∀ d ∈ tables_1, d.before a0 Z = true) : (Jvm.Cond.instanceMethod ({ cls := "java/lang/Object", name := "<init>", desc := "()V" } : Jvm.MethodName)).before a0 Z = true := hw _ (List.mem_of_getElem? (i := 16) rfl)
theorem w_17 {a0 : Array Value} {Z : State} (hw : ∀ d ∈ tables_1, d.before a0 Z = true) : (Jvm.Cond.code ({ cls := "java/lang/Object", name := "<init>", desc := "()V" } : Jvm.MethodName) object_method_1_code (1 : Nat) (Option.none : Option Jvm.ClassFile.FieldType)).before a0 Z = true := hw _ (List.mem_of_getElem? (i := 17) rfl)
theorem w_18 {a0 : Array Value} {Z : State} (hw : ∀ d ∈ tables_1, d.before a0 Z = true) : (Jvm.Cond.stringLink "java/lang/String" (7 : Nat) "").before a0 Z = true := hw _ (List.mem_of_getElem? (i := 18) rfl)
theorem w_19 {a0 : Array Value} {Z : State} (hw : ∀ d ∈ tables_1, d.before a0 Z = true) : (Jvm.Cond.arrayClass Jvm.ClassFile.FieldType.byte).before a0 Z = true := hw _ (List.mem_of_getElem? (i := 19) rfl)
theorem w_20 {a0 : Array Value} {Z : State} (hw : ∀ d ∈ tables_1, d.before a0 Z = true) : (Jvm.Cond.laysFinal "java/lang/String" "java/lang/String" "value" "[B").before a0 Z = true := hw _ (List.mem_of_getElem? (i := 20) rfl)
theorem w_21 {a0 : Array Value} {Z : State} (hw : ∀ d ∈ tables_1, d.before a0 Z = true) : (Jvm.Cond.laysFinal "java/lang/String" "java/lang/String" "coder" "B").before a0 Z = true := hw _ (List.mem_of_getElem? (i := 21) rfl)
theorem w_24 {a0 : Array Value} {Z : State} (hw : ∀ d ∈ tables_1, d.before a0 Z = true) : (Jvm.Cond.fieldLink "java/lang/String" (9 : Nat) "java/lang/String" "value" "[B").before a0 Z = true := hw _ (List.mem_of_getElem? (i := 24) rfl)
theorem w_25 {a0 : Array Value} {Z : State} (hw : ∀ d ∈ tables_1, d.before a0 Z = true) : (Jvm.Cond.fieldLink "java/lang/String" (15 : Nat) "java/lang/String" "coder" "B").before a0 Z = true := hw _ (List.mem_of_getElem? (i := 25) rfl)
theorem w_26 {a0 : Array Value} {Z : State} (hw : ∀ d ∈ tables_1, d.before a0 Z = true) : (Jvm.Cond.methodLink "flatfield/PrimitiveOfPinLaw" (18 : Nat) ({ cls := "flatfield/Primitive", name := "of", desc := "(Ljava/lang/String;)Lflatfield/Primitive;" } : Jvm.MethodName)).before a0 Z = true := hw _ (List.mem_of_getElem? (i := 26) rfl)
theorem w_27 {a0 : Array Value} {Z : State} (hw : ∀ d ∈ tables_1, d.before a0 Z = true) : (Jvm.Cond.static ({ cls := "flatfield/Primitive", name := "of", desc := "(Ljava/lang/String;)Lflatfield/Primitive;" } : Jvm.MethodName)).before a0 Z = true := hw _ (List.mem_of_getElem? (i := 27) rfl)
theorem w_28 {a0 : Array Value} {Z : State} (hw : ∀ d ∈ tables_1, d.before a0 Z = true) : (Jvm.Cond.initialized "flatfield/Primitive").before a0 Z = true := hw _ (List.mem_of_getElem? (i := 28) rfl)
theorem w_29 {a0 : Array Value} {Z : State} (hw : ∀ d ∈ tables_1, d.before a0 Z = true) : (Jvm.Cond.code ({ cls := "flatfield/Primitive", name := "of", desc := "(Ljava/lang/String;)Lflatfield/Primitive;" } : Jvm.MethodName) prog_3_method_4_code (5 : Nat) (Option.some (Jvm.ClassFile.FieldType.object "flatfield/Primitive"))).before a0 Z = true := hw _ (List.mem_of_getElem? (i := 29) rfl)
theorem w_30 {a0 : Array Value} {Z : State} (hw : ∀ d ∈ tables_1, d.before a0 Z = true) : (Jvm.Cond.fieldLink "flatfield/Primitive" (69 : Nat) "flatfield/Primitive" "ALL" "[Lflatfield/Primitive;").before a0 Z = true := hw _ (List.mem_of_getElem? (i := 30) rfl)
theorem w_31 {a0 : Array Value} {Z : State} (hw : ∀ d ∈ tables_1, d.before a0 Z = true) : (Jvm.Cond.laysStatic "flatfield/Primitive" "ALL" "[Lflatfield/Primitive;").before a0 Z = true := hw _ (List.mem_of_getElem? (i := 31) rfl)
theorem w_32 {a0 : Array Value} {Z : State} (hw : ∀ d ∈ tables_1, d.before a0 Z = true) : (Jvm.Cond.laysStatic "flatfield/Primitive" "BOOLEAN" "Lflatfield/Primitive;").before a0 Z = true := hw _ (List.mem_of_getElem? (i := 32) rfl)
theorem w_33 {a0 : Array Value} {Z : State} (hw : ∀ d ∈ tables_1, d.before a0 Z = true) : (Jvm.Cond.fieldLink "flatfield/Primitive" (57 : Nat) "flatfield/Primitive" "descriptor" "Ljava/lang/String;").before a0 Z = true := hw _ (List.mem_of_getElem? (i := 33) rfl)
theorem w_35 {a0 : Array Value} {Z : State} (hw : ∀ d ∈ tables_1, d.before a0 Z = true) : (Jvm.Cond.methodLink "flatfield/Primitive" (72 : Nat) ({ cls := "java/lang/String", name := "equals", desc := "(Ljava/lang/Object;)Z" } : Jvm.MethodName)).before a0 Z = true := hw _ (List.mem_of_getElem? (i := 35) rfl)
theorem w_36 {a0 : Array Value} {Z : State} (hw : ∀ d ∈ tables_1, d.before a0 Z = true) : (Jvm.Cond.declares ({ cls := "java/lang/String", name := "equals", desc := "(Ljava/lang/Object;)Z" } : Jvm.MethodName)).before a0 Z = true := hw _ (List.mem_of_getElem? (i := 36) rfl)
theorem w_37 {a0 : Array Value} {Z : State} (hw : ∀ d ∈ tables_1, d.before a0 Z = true) : (Jvm.Cond.instanceMethod ({ cls := "java/lang/String", name := "equals", desc := "(Ljava/lang/Object;)Z" } : Jvm.MethodName)).before a0 Z = true := hw _ (List.mem_of_getElem? (i := 37) rfl)
theorem w_38 {a0 : Array Value} {Z : State} (hw : ∀ d ∈ tables_1, d.before a0 Z = true) : (Jvm.Cond.selects "java/lang/String" ({ cls := "java/lang/String", name := "equals", desc := "(Ljava/lang/Object;)Z" } : Jvm.MethodName) ({ cls := "java/lang/String", name := "equals", desc := "(Ljava/lang/Object;)Z" } : Jvm.MethodName)).before a0 Z = true := hw _ (List.mem_of_getElem? (i := 38) rfl)
theorem w_39 {a0 : Array Value} {Z : State} (hw : ∀ d ∈ tables_1, d.before a0 Z = true) : (Jvm.Cond.code ({ cls := "java/lang/String", name := "equals", desc := "(Ljava/lang/Object;)Z" } : Jvm.MethodName) jdk_42_method_66_code (3 : Nat) (Option.some Jvm.ClassFile.FieldType.boolean)).before a0 Z = true := hw _ (List.mem_of_getElem? (i := 39) rfl)
theorem w_46 {a0 : Array Value} {Z : State} (hw : ∀ d ∈ tables_1, d.before a0 Z = true) : (Jvm.Cond.laysStatic "flatfield/Primitive" "BYTE" "Lflatfield/Primitive;").before a0 Z = true := hw _ (List.mem_of_getElem? (i := 46) rfl)
theorem w_47 {a0 : Array Value} {Z : State} (hw : ∀ d ∈ tables_1, d.before a0 Z = true) : (Jvm.Cond.laysStatic "flatfield/Primitive" "CHAR" "Lflatfield/Primitive;").before a0 Z = true := hw _ (List.mem_of_getElem? (i := 47) rfl)
theorem w_48 {a0 : Array Value} {Z : State} (hw : ∀ d ∈ tables_1, d.before a0 Z = true) : (Jvm.Cond.laysStatic "flatfield/Primitive" "SHORT" "Lflatfield/Primitive;").before a0 Z = true := hw _ (List.mem_of_getElem? (i := 48) rfl)
theorem w_49 {a0 : Array Value} {Z : State} (hw : ∀ d ∈ tables_1, d.before a0 Z = true) : (Jvm.Cond.laysStatic "flatfield/Primitive" "INT" "Lflatfield/Primitive;").before a0 Z = true := hw _ (List.mem_of_getElem? (i := 49) rfl)
theorem w_50 {a0 : Array Value} {Z : State} (hw : ∀ d ∈ tables_1, d.before a0 Z = true) : (Jvm.Cond.laysStatic "flatfield/Primitive" "FLOAT" "Lflatfield/Primitive;").before a0 Z = true := hw _ (List.mem_of_getElem? (i := 50) rfl)
theorem w_51 {a0 : Array Value} {Z : State} (hw : ∀ d ∈ tables_1, d.before a0 Z = true) : (Jvm.Cond.laysStatic "flatfield/Primitive" "LONG" "Lflatfield/Primitive;").before a0 Z = true := hw _ (List.mem_of_getElem? (i := 51) rfl)
theorem w_52 {a0 : Array Value} {Z : State} (hw : ∀ d ∈ tables_1, d.before a0 Z = true) : (Jvm.Cond.laysStatic "flatfield/Primitive" "DOUBLE" "Lflatfield/Primitive;").before a0 Z = true := hw _ (List.mem_of_getElem? (i := 52) rfl)
theorem w_63 {a0 : Array Value} {Z : State} (hw : ∀ d ∈ tables_1, d.before a0 Z = true) : (Jvm.Cond.stringLink "flatfield/PrimitiveOfPinLaw" (28 : Nat) "ZBCSIFJD").before a0 Z = true := hw _ (List.mem_of_getElem? (i := 63) rfl)
theorem w_64 {a0 : Array Value} {Z : State} (hw : ∀ d ∈ tables_1, d.before a0 Z = true) : (Jvm.Cond.methodLink "flatfield/PrimitiveOfPinLaw" (30 : Nat) ({ cls := "java/lang/String", name := "charAt", desc := "(I)C" } : Jvm.MethodName)).before a0 Z = true := hw _ (List.mem_of_getElem? (i := 64) rfl)
theorem w_65 {a0 : Array Value} {Z : State} (hw : ∀ d ∈ tables_1, d.before a0 Z = true) : (Jvm.Cond.declares ({ cls := "java/lang/String", name := "charAt", desc := "(I)C" } : Jvm.MethodName)).before a0 Z = true := hw _ (List.mem_of_getElem? (i := 65) rfl)
theorem w_66 {a0 : Array Value} {Z : State} (hw : ∀ d ∈ tables_1, d.before a0 Z = true) : (Jvm.Cond.instanceMethod ({ cls := "java/lang/String", name := "charAt", desc := "(I)C" } : Jvm.MethodName)).before a0 Z = true := hw _ (List.mem_of_getElem? (i := 66) rfl)
theorem w_67 {a0 : Array Value} {Z : State} (hw : ∀ d ∈ tables_1, d.before a0 Z = true) : (Jvm.Cond.selects "java/lang/String" ({ cls := "java/lang/String", name := "charAt", desc := "(I)C" } : Jvm.MethodName) ({ cls := "java/lang/String", name := "charAt", desc := "(I)C" } : Jvm.MethodName)).before a0 Z = true := hw _ (List.mem_of_getElem? (i := 67) rfl)
theorem w_68 {a0 : Array Value} {Z : State} (hw : ∀ d ∈ tables_1, d.before a0 Z = true) : (Jvm.Cond.code ({ cls := "java/lang/String", name := "charAt", desc := "(I)C" } : Jvm.MethodName) jdk_42_method_56_code (2 : Nat) (Option.some Jvm.ClassFile.FieldType.char)).before a0 Z = true := hw _ (List.mem_of_getElem? (i := 68) rfl)
theorem w_85 {a0 : Array Value} {Z : State} (hw : ∀ d ∈ tables_1, d.before a0 Z = true) : (Jvm.Cond.methodLink "flatfield/PrimitiveOfPinLaw" (24 : Nat) ({ cls := "flatfield/PrimitiveOfPinLaw", name := "expected", desc := "(C)Lflatfield/Primitive;" } : Jvm.MethodName)).before a0 Z = true := hw _ (List.mem_of_getElem? (i := 85) rfl)
theorem w_86 {a0 : Array Value} {Z : State} (hw : ∀ d ∈ tables_1, d.before a0 Z = true) : (Jvm.Cond.static ({ cls := "flatfield/PrimitiveOfPinLaw", name := "expected", desc := "(C)Lflatfield/Primitive;" } : Jvm.MethodName)).before a0 Z = true := hw _ (List.mem_of_getElem? (i := 86) rfl)
theorem w_87 {a0 : Array Value} {Z : State} (hw : ∀ d ∈ tables_1, d.before a0 Z = true) : (Jvm.Cond.code ({ cls := "flatfield/PrimitiveOfPinLaw", name := "expected", desc := "(C)Lflatfield/Primitive;" } : Jvm.MethodName) method_4_code (1 : Nat) (Option.some (Jvm.ClassFile.FieldType.object "flatfield/Primitive"))).before a0 Z = true := hw _ (List.mem_of_getElem? (i := 87) rfl)
theorem w_88 {a0 : Array Value} {Z : State} (hw : ∀ d ∈ tables_1, d.before a0 Z = true) : (Jvm.Cond.fieldLink "flatfield/PrimitiveOfPinLaw" (52 : Nat) "flatfield/Primitive" "LONG" "Lflatfield/Primitive;").before a0 Z = true := hw _ (List.mem_of_getElem? (i := 88) rfl)
theorem w_89 {a0 : Array Value} {Z : State} (hw : ∀ d ∈ tables_1, d.before a0 Z = true) : (Jvm.Cond.fieldLink "flatfield/PrimitiveOfPinLaw" (55 : Nat) "flatfield/Primitive" "DOUBLE" "Lflatfield/Primitive;").before a0 Z = true := hw _ (List.mem_of_getElem? (i := 89) rfl)
theorem w_90 {a0 : Array Value} {Z : State} (hw : ∀ d ∈ tables_1, d.before a0 Z = true) : (Jvm.Cond.fieldLink "flatfield/PrimitiveOfPinLaw" (49 : Nat) "flatfield/Primitive" "FLOAT" "Lflatfield/Primitive;").before a0 Z = true := hw _ (List.mem_of_getElem? (i := 90) rfl)
theorem w_91 {a0 : Array Value} {Z : State} (hw : ∀ d ∈ tables_1, d.before a0 Z = true) : (Jvm.Cond.fieldLink "flatfield/PrimitiveOfPinLaw" (43 : Nat) "flatfield/Primitive" "SHORT" "Lflatfield/Primitive;").before a0 Z = true := hw _ (List.mem_of_getElem? (i := 91) rfl)
theorem w_92 {a0 : Array Value} {Z : State} (hw : ∀ d ∈ tables_1, d.before a0 Z = true) : (Jvm.Cond.fieldLink "flatfield/PrimitiveOfPinLaw" (33 : Nat) "flatfield/Primitive" "BOOLEAN" "Lflatfield/Primitive;").before a0 Z = true := hw _ (List.mem_of_getElem? (i := 92) rfl)
theorem w_93 {a0 : Array Value} {Z : State} (hw : ∀ d ∈ tables_1, d.before a0 Z = true) : (Jvm.Cond.fieldLink "flatfield/PrimitiveOfPinLaw" (37 : Nat) "flatfield/Primitive" "BYTE" "Lflatfield/Primitive;").before a0 Z = true := hw _ (List.mem_of_getElem? (i := 93) rfl)
theorem w_94 {a0 : Array Value} {Z : State} (hw : ∀ d ∈ tables_1, d.before a0 Z = true) : (Jvm.Cond.fieldLink "flatfield/PrimitiveOfPinLaw" (40 : Nat) "flatfield/Primitive" "CHAR" "Lflatfield/Primitive;").before a0 Z = true := hw _ (List.mem_of_getElem? (i := 94) rfl)
theorem w_95 {a0 : Array Value} {Z : State} (hw : ∀ d ∈ tables_1, d.before a0 Z = true) : (Jvm.Cond.fieldLink "flatfield/PrimitiveOfPinLaw" (46 : Nat) "flatfield/Primitive" "INT" "Lflatfield/Primitive;").before a0 Z = true := hw _ (List.mem_of_getElem? (i := 95) rfl)
theorem d0_0 : decode jdk_42_method_149_code 0 = .ok (.aload_n 0, 1) := by decide +kernel
theorem d0_1 : decode jdk_42_method_149_code 1 = .ok (.invokespecial 1, 3) := by decide +kernel
theorem d0_4 : decode jdk_42_method_149_code 4 = .ok (.iload_n 3, 1) := by decide +kernel
theorem d0_5 : decode jdk_42_method_149_code 5 = .ok (.ifCond .ne 22, 3) := by decide +kernel
theorem d0_8 : decode jdk_42_method_149_code 8 = .ok (.aload_n 0, 1) := by decide +kernel
theorem d0_9 : decode jdk_42_method_149_code 9 = .ok (.ldc 7, 2) := by decide +kernel
theorem d0_11 : decode jdk_42_method_149_code 11 = .ok (.getfield 9, 3) := by decide +kernel
theorem d0_14 : decode jdk_42_method_149_code 14 = .ok (.putfield 9, 3) := by decide +kernel
theorem d0_17 : decode jdk_42_method_149_code 17 = .ok (.aload_n 0, 1) := by decide +kernel
theorem d0_18 : decode jdk_42_method_149_code 18 = .ok (.ldc 7, 2) := by decide +kernel
theorem d0_20 : decode jdk_42_method_149_code 20 = .ok (.getfield 15, 3) := by decide +kernel
theorem d0_23 : decode jdk_42_method_149_code 23 = .ok (.putfield 15, 3) := by decide +kernel
theorem d0_26 : decode jdk_42_method_149_code 26 = .ok (.return_, 1) := by decide +kernel
theorem d1_0 : decode jdk_42_method_3_code 0 = .ok (.aload_n 0, 1) := by decide +kernel
theorem d1_1 : decode jdk_42_method_3_code 1 = .ok (.aload_n 1, 1) := by decide +kernel
theorem d1_2 : decode jdk_42_method_3_code 2 = .ok (.iconst 0, 1) := by decide +kernel
theorem d1_3 : decode jdk_42_method_3_code 3 = .ok (.aload_n 1, 1) := by decide +kernel
theorem d1_4 : decode jdk_42_method_3_code 4 = .ok (.arraylength, 1) := by decide +kernel
theorem d1_5 : decode jdk_42_method_3_code 5 = .ok (.aconst_null, 1) := by decide +kernel
theorem d1_6 : decode jdk_42_method_3_code 6 = .ok (.invokespecial 27, 3) := by decide +kernel
theorem d1_9 : decode jdk_42_method_3_code 9 = .ok (.return_, 1) := by decide +kernel
theorem d2_0 : decode method_3_code 0 = .ok (.iload_n 0, 1) := by decide +kernel
theorem d2_1 : decode method_3_code 1 = .ok (.sipush 256, 3) := by decide +kernel
theorem d2_4 : decode method_3_code 4 = .ok (.iand, 1) := by decide +kernel
theorem d2_5 : decode method_3_code 5 = .ok (.ifCond .eq 16, 3) := by decide +kernel
theorem d2_8 : decode method_3_code 8 = .ok (.ldc 28, 2) := by decide +kernel
theorem d2_10 : decode method_3_code 10 = .ok (.iload_n 0, 1) := by decide +kernel
theorem d2_11 : decode method_3_code 11 = .ok (.bipush 9, 2) := by decide +kernel
theorem d2_13 : decode method_3_code 13 = .ok (.iushr, 1) := by decide +kernel
theorem d2_14 : decode method_3_code 14 = .ok (.bipush 7, 2) := by decide +kernel
theorem d2_16 : decode method_3_code 16 = .ok (.iand, 1) := by decide +kernel
theorem d2_17 : decode method_3_code 17 = .ok (.invokevirtual 30, 3) := by decide +kernel
theorem d2_20 : decode method_3_code 20 = .ok (.ireturn, 1) := by decide +kernel
theorem d2_21 : decode method_3_code 21 = .ok (.iload_n 0, 1) := by decide +kernel
theorem d2_22 : decode method_3_code 22 = .ok (.sipush 255, 3) := by decide +kernel
theorem d2_25 : decode method_3_code 25 = .ok (.iand, 1) := by decide +kernel
theorem d2_26 : decode method_3_code 26 = .ok (.i2c, 1) := by decide +kernel
theorem d2_27 : decode method_3_code 27 = .ok (.ireturn, 1) := by decide +kernel
theorem d3_0 : decode method_4_code 0 = .ok (.iload_n 0, 1) := by decide +kernel
theorem d3_1 : decode method_4_code 1 = .ok (.bipush 90, 2) := by decide +kernel
theorem d3_3 : decode method_4_code 3 = .ok (.if_icmp .ne 7, 3) := by decide +kernel
theorem d3_6 : decode method_4_code 6 = .ok (.getstatic 33, 3) := by decide +kernel
theorem d3_9 : decode method_4_code 9 = .ok (.areturn, 1) := by decide +kernel
theorem d3_10 : decode method_4_code 10 = .ok (.iload_n 0, 1) := by decide +kernel
theorem d3_11 : decode method_4_code 11 = .ok (.bipush 66, 2) := by decide +kernel
theorem d3_13 : decode method_4_code 13 = .ok (.if_icmp .ne 7, 3) := by decide +kernel
theorem d3_16 : decode method_4_code 16 = .ok (.getstatic 37, 3) := by decide +kernel
theorem d3_19 : decode method_4_code 19 = .ok (.areturn, 1) := by decide +kernel
theorem d3_20 : decode method_4_code 20 = .ok (.iload_n 0, 1) := by decide +kernel
theorem d3_21 : decode method_4_code 21 = .ok (.bipush 67, 2) := by decide +kernel
theorem d3_23 : decode method_4_code 23 = .ok (.if_icmp .ne 7, 3) := by decide +kernel
theorem d3_26 : decode method_4_code 26 = .ok (.getstatic 40, 3) := by decide +kernel
theorem d3_29 : decode method_4_code 29 = .ok (.areturn, 1) := by decide +kernel
theorem d3_30 : decode method_4_code 30 = .ok (.iload_n 0, 1) := by decide +kernel
theorem d3_31 : decode method_4_code 31 = .ok (.bipush 83, 2) := by decide +kernel
theorem d3_33 : decode method_4_code 33 = .ok (.if_icmp .ne 7, 3) := by decide +kernel
theorem d3_36 : decode method_4_code 36 = .ok (.getstatic 43, 3) := by decide +kernel
theorem d3_39 : decode method_4_code 39 = .ok (.areturn, 1) := by decide +kernel
theorem d3_40 : decode method_4_code 40 = .ok (.iload_n 0, 1) := by decide +kernel
theorem d3_41 : decode method_4_code 41 = .ok (.bipush 73, 2) := by decide +kernel
theorem d3_43 : decode method_4_code 43 = .ok (.if_icmp .ne 7, 3) := by decide +kernel
theorem d3_46 : decode method_4_code 46 = .ok (.getstatic 46, 3) := by decide +kernel
theorem d3_49 : decode method_4_code 49 = .ok (.areturn, 1) := by decide +kernel
theorem d3_50 : decode method_4_code 50 = .ok (.iload_n 0, 1) := by decide +kernel
theorem d3_51 : decode method_4_code 51 = .ok (.bipush 70, 2) := by decide +kernel
theorem d3_53 : decode method_4_code 53 = .ok (.if_icmp .ne 7, 3) := by decide +kernel
theorem d3_56 : decode method_4_code 56 = .ok (.getstatic 49, 3) := by decide +kernel
theorem d3_59 : decode method_4_code 59 = .ok (.areturn, 1) := by decide +kernel
theorem d3_60 : decode method_4_code 60 = .ok (.iload_n 0, 1) := by decide +kernel
theorem d3_61 : decode method_4_code 61 = .ok (.bipush 74, 2) := by decide +kernel
theorem d3_63 : decode method_4_code 63 = .ok (.if_icmp .ne 7, 3) := by decide +kernel
theorem d3_66 : decode method_4_code 66 = .ok (.getstatic 52, 3) := by decide +kernel
theorem d3_69 : decode method_4_code 69 = .ok (.areturn, 1) := by decide +kernel
theorem d3_70 : decode method_4_code 70 = .ok (.iload_n 0, 1) := by decide +kernel
theorem d3_71 : decode method_4_code 71 = .ok (.bipush 68, 2) := by decide +kernel
theorem d3_73 : decode method_4_code 73 = .ok (.if_icmp .ne 7, 3) := by decide +kernel
theorem d3_76 : decode method_4_code 76 = .ok (.getstatic 55, 3) := by decide +kernel
theorem d3_79 : decode method_4_code 79 = .ok (.areturn, 1) := by decide +kernel
theorem d3_80 : decode method_4_code 80 = .ok (.aconst_null, 1) := by decide +kernel
theorem d3_81 : decode method_4_code 81 = .ok (.areturn, 1) := by decide +kernel
theorem d4_0 : decode prog_3_method_4_code 0 = .ok (.getstatic 69, 3) := by decide +kernel
theorem d4_3 : decode prog_3_method_4_code 3 = .ok (.astore_n 1, 1) := by decide +kernel
theorem d4_4 : decode prog_3_method_4_code 4 = .ok (.aload_n 1, 1) := by decide +kernel
theorem d4_5 : decode prog_3_method_4_code 5 = .ok (.arraylength, 1) := by decide +kernel
theorem d4_6 : decode prog_3_method_4_code 6 = .ok (.istore_n 2, 1) := by decide +kernel
theorem d4_7 : decode prog_3_method_4_code 7 = .ok (.iconst 0, 1) := by decide +kernel
theorem d4_8 : decode prog_3_method_4_code 8 = .ok (.istore_n 3, 1) := by decide +kernel
theorem d4_9 : decode prog_3_method_4_code 9 = .ok (.iload_n 3, 1) := by decide +kernel
theorem d4_10 : decode prog_3_method_4_code 10 = .ok (.iload_n 2, 1) := by decide +kernel
theorem d4_11 : decode prog_3_method_4_code 11 = .ok (.if_icmp .ge 29, 3) := by decide +kernel
theorem d4_14 : decode prog_3_method_4_code 14 = .ok (.aload_n 1, 1) := by decide +kernel
theorem d4_15 : decode prog_3_method_4_code 15 = .ok (.iload_n 3, 1) := by decide +kernel
theorem d4_16 : decode prog_3_method_4_code 16 = .ok (.aaload, 1) := by decide +kernel
theorem d4_17 : decode prog_3_method_4_code 17 = .ok (.astore 4, 2) := by decide +kernel
theorem d4_19 : decode prog_3_method_4_code 19 = .ok (.aload 4, 2) := by decide +kernel
theorem d4_21 : decode prog_3_method_4_code 21 = .ok (.getfield 57, 3) := by decide +kernel
theorem d4_24 : decode prog_3_method_4_code 24 = .ok (.aload_n 0, 1) := by decide +kernel
theorem d4_25 : decode prog_3_method_4_code 25 = .ok (.invokevirtual 72, 3) := by decide +kernel
theorem d4_28 : decode prog_3_method_4_code 28 = .ok (.ifCond .eq 6, 3) := by decide +kernel
theorem d4_31 : decode prog_3_method_4_code 31 = .ok (.aload 4, 2) := by decide +kernel
theorem d4_33 : decode prog_3_method_4_code 33 = .ok (.areturn, 1) := by decide +kernel
theorem d4_34 : decode prog_3_method_4_code 34 = .ok (.iinc 3 1, 3) := by decide +kernel
theorem d4_37 : decode prog_3_method_4_code 37 = .ok (.goto (-28), 3) := by decide +kernel
theorem d4_40 : decode prog_3_method_4_code 40 = .ok (.aconst_null, 1) := by decide +kernel
theorem d4_41 : decode prog_3_method_4_code 41 = .ok (.areturn, 1) := by decide +kernel
theorem pd_0 : parseMethodDescriptor "([CIILjava/lang/Void;)V" = some ⟨[(.array .char), .int, .int, (.object "java/lang/Void")], none⟩ := by decide +kernel
theorem pd_1 : parseMethodDescriptor "(I)C" = some ⟨[.int], some .char⟩ := by decide +kernel
theorem pd_2 : parseMethodDescriptor "(Ljava/lang/Object;)Z" = some ⟨[(.object "java/lang/Object")], some .boolean⟩ := by decide +kernel
theorem pd_3 : parseMethodDescriptor "([C)V" = some ⟨[(.array .char)], none⟩ := by decide +kernel
theorem pd_4 : parseMethodDescriptor "(Ljava/lang/String;)Lflatfield/Primitive;" = some ⟨[(.object "java/lang/String")], some (.object "flatfield/Primitive")⟩ := by decide +kernel
theorem pd_5 : parseMethodDescriptor "(C)Lflatfield/Primitive;" = some ⟨[.char], some (.object "flatfield/Primitive")⟩ := by decide +kernel
theorem sAt {a0 : Array Value} {Z : State} (hw : ∀ d ∈ tables_1, d.before a0 Z = true) : ∀ d ∈ Bundle.stringAtoms, d.before a0 Z = true := fun d hd => hw d ((by decide +kernel : ∀ d ∈ Bundle.stringAtoms, d ∈ tables_1) d hd)
theorem hStrW {a0 : Array Value} {Z : State} (hw : ∀ d ∈ tables_1, d.before a0 Z = true) : ∀ d ∈ StrChars.Road.words, d.before a0 Z = true := fun d hd => hw d ((by decide +kernel : ∀ d ∈ StrChars.Road.words, d ∈ tables_1) d hd)
theorem hChW {a0 : Array Value} {Z : State} (hw : ∀ d ∈ tables_1, d.before a0 Z = true) : ∀ d ∈ StrChars.Road.wordsChN, d.before a0 Z = true := fun d hd => hw d ((by decide +kernel : ∀ d ∈ StrChars.Road.wordsChN, d ∈ tables_1) d hd)
theorem hEqW {a0 : Array Value} {Z : State} (hw : ∀ d ∈ tables_1, d.before a0 Z = true) : ∀ d ∈ StrChars.Road.wordsEq, d.before a0 Z = true := fun d hd => hw d ((by decide +kernel : ∀ d ∈ StrChars.Road.wordsEq, d ∈ tables_1) d hd)
theorem own_one {r : Int32} (h : r = 1) : ¬ r = (0 : Int32) := by subst h; decide
def own_of (k0 k1 k2 k3 k4 k5 k6 k7 : Addr) (cs : List Int32) : Value := if [(90 : Int32)] = cs then .ref k0 else if [(66 : Int32)] = cs then .ref k1 else if [(67 : Int32)] = cs then .ref k2 else if [(83 : Int32)] = cs then .ref k3 else if [(73 : Int32)] = cs then .ref k4 else if [(70 : Int32)] = cs then .ref k5 else if [(74 : Int32)] = cs then .ref k6 else if [(68 : Int32)] = cs then .ref k7 else .null
def own_ex (k0 k1 k2 k3 k4 k5 k6 k7 : Addr) (i1 : Int32) : Value := if i1 = (90 : Int32) then .ref k0 else if i1 = (66 : Int32) then .ref k1 else if i1 = (67 : Int32) then .ref k2 else if i1 = (83 : Int32) then .ref k3 else if i1 = (73 : Int32) then .ref k4 else if i1 = (70 : Int32) then .ref k5 else if i1 = (74 : Int32) then .ref k6 else if i1 = (68 : Int32) then .ref k7 else .null
theorem own_ofRef {k0 k1 k2 k3 k4 k5 k6 k7 : Addr} {cs : List Int32} : (own_of k0 k1 k2 k3 k4 k5 k6 k7 cs).isRef = true := by
  unfold own_of; repeat' split
  all_goals rfl
theorem own_ofNull {k0 k1 k2 k3 k4 k5 k6 k7 : Addr} (cs : List Int32) (h : cs.length ≠ 1) : own_of k0 k1 k2 k3 k4 k5 k6 k7 cs = .null := by
  have n : ∀ z : Int32, ¬ [z] = cs := fun z e => h (by rw [← e]; rfl)
  unfold own_of; simp [n]
theorem own_exOf {k0 k1 k2 k3 k4 k5 k6 k7 : Addr} {c : Int32} : own_ex k0 k1 k2 k3 k4 k5 k6 k7 c = own_of k0 k1 k2 k3 k4 k5 k6 k7 [c] := by
  unfold own_ex own_of; simp [eq_comm]
theorem own_and7 (x : Int32) : ∃ i : Nat, i < 8 ∧ x &&& (7 : Int32) = Int32.ofNat i := by
  have h : (x &&& 7).toBitVec.toNat < 8 := by
    simp only [Int32.toBitVec_and, BitVec.toNat_and]
    exact Nat.lt_succ_of_le Nat.and_le_right
  refine ⟨_, h, ?_⟩
  apply Int32.toBitVec_inj.mp
  show _ = BitVec.ofNat 32 _
  rw [BitVec.ofNat_toNat]; simp
theorem own_hpL : ∀ c ∈ ([(90 : Int32), (66 : Int32), (67 : Int32), (83 : Int32), (73 : Int32), (70 : Int32), (74 : Int32), (68 : Int32)] : List Int32), ¬ c < 0 ∧ ¬ (255 : Int32) < c := by decide
theorem own_hpLAt {i : Nat} (h : i < 8) : ¬ ([(90 : Int32), (66 : Int32), (67 : Int32), (83 : Int32), (73 : Int32), (70 : Int32), (74 : Int32), (68 : Int32)] : List Int32).getD i 0 < 0 ∧ ¬ (255 : Int32) < ([(90 : Int32), (66 : Int32), (67 : Int32), (83 : Int32), (73 : Int32), (70 : Int32), (74 : Int32), (68 : Int32)] : List Int32).getD i 0 := by
  have t : ∀ k : Fin 8, ¬ ([(90 : Int32), (66 : Int32), (67 : Int32), (83 : Int32), (73 : Int32), (70 : Int32), (74 : Int32), (68 : Int32)] : List Int32).getD k.val 0 < 0 ∧ ¬ (255 : Int32) < ([(90 : Int32), (66 : Int32), (67 : Int32), (83 : Int32), (73 : Int32), (70 : Int32), (74 : Int32), (68 : Int32)] : List Int32).getD k.val 0 := by decide +kernel
  exact t ⟨i, h⟩
theorem own_eqE {args : Array Value} {s : State} {a b : Term} {y : Value} (h : (Jvm.Cond.eq a b).value args s none s [] = some true) (hb : b.eval args s none [] s = some y) (hy : (∃ z, y = .int z) ∨ y.isRef = true) : a.eval args s none [] s = some y := by
  cases ha : a.eval args s none [] s with
  | none => simp [Cond.value, ha] at h
  | some x =>
    simp only [Cond.value, ha, hb] at h
    cases x <;> cases y <;> simp [Value.isRef] at h hy ⊢ <;> exact h
theorem own_arvS {args : Array Value} {s : State} {t : Term} {x : Addr} {ty : FieldType} {z : Int32} {vs : List Value} {dv : Value} (hf : Fit s) (ht : t.eval args s none [] s = some (.ref x)) (ha : (Jvm.Cond.arrayOf t ty).value args s none s [] = some true) (hl : (Jvm.Cond.eq (.length t) (.int z)).value args s none s [] = some true) (hz : ¬ z < 0) (hn : z.toNatClampNeg = vs.length) (hv : ∀ c : Cell, s.heap[x]? = some c → HasL c 0 vs) : ∃ k, Arv s s.heap x k ty z vs dv := by
  obtain ⟨c, A⟩ := Arr.start ht ha
  have e := own_eqE hl (Term.int_eval z) (Or.inl ⟨_, rfl⟩)
  have aat : s.arrayAt? x = some c := A.fin (Vm.Alike.refl _)
  have q : c.slots.size < 2 ^ 31 := Decidable.byContradiction fun n => by
    have e2 : (Term.length t).eval args s none [] s = none := by simp only [Term.eval, ht, aat, Option.bind_eq_bind, Option.bind_some]; exact if_neg n
    rw [e2] at e; cases e
  have e3 := (len_f ht aat q).symm.trans e
  exact ⟨_, Arv.start hf A q (by simpa using e3) hz hn (hv c A.1)⟩
def Q_rmNew4 (Z : State) (a1 : Addr) (a2 : Addr) (h0 : Heap) (vv : Option Value) (h : Heap) (L : List Loc) : Prop := ∃ (t : Addr) (kb : ClassId), vv = none ∧ Fr Z.heap.size L ∧ Keep h0 h [a1] ∧ Exa Z h a1 "java/lang/String" ∧ Fld Z h a1 "java/lang/String" "coder" "B" (.int 0) ∧ Fld Z h a1 "java/lang/String" "value" "[B" (.ref t) ∧ Arv Z h t kb .byte (0 : Int32) [] (.int 0)
theorem ef_rmNew4 (m : MethodId) (x0 : Addr) (x1 : Addr) (x2 : Int32) (x3 : Int32)   : entryFrame m #[(.ref x0), (.ref x1), (.int x2), (.int x3), .null] 6 = mkF m 0 #[.val (.ref x0), .val (.ref x1), .val (.int x2), .val (.int x3), .val .null, .unset] [] := by first | rfl | (simp [entryFrame, mkF, argsToLocals, Value.category]; done)
set_option maxRecDepth 65536 in
set_option maxHeartbeats 40000000 in
theorem rmNew4 (l : Launch) (Z : State) (a0 : Array Value) (hw : ∀ d ∈ tables_1, d.before a0 Z = true) (ws : List Jvm.Cond) (a1 : Addr) (a2 : Addr) (h0 : Heap) (hEL : EW Z a0 EL) (Z0 : Z.heap.size ≤ h0.size) (lo_a1 : Z.heap.size ≤ a1) (E_a1 : Exa Z h0 a1 "java/lang/String") (Fc : Fld Z h0 a1 "java/lang/String" "coder" "B" (.int 0)) (Fv : Fld Z h0 a1 "java/lang/String" "value" "[B" .null) :
    MetFree l (⟨"java/lang/String", "<init>", "([CIILjava/lang/Void;)V"⟩ : MethodName) (head1 (Jvm.Cond.code (⟨"java/lang/String", "<init>", "([CIILjava/lang/Void;)V"⟩ : MethodName) jdk_42_method_149_code 6 none :: ws) ({ frames := 1, cells := 4, slots := 8, locals := 12 } : Room)) (fun a U => a = #[(.ref a1), (.ref a2), (.int 0), (.int 0), .null] ∧ Z.Warmed39 U.vm ∧ U.heap = h0 ∧ CHv Z EL U.vm h0) (fun _ _ _ _ _ => True) (fun _ U o U' => ∃ v L, o = .returned v ∧ Q_rmNew4 Z a1 a2 h0 v U'.heap L ∧ CHr Z EL U.vm U.heap U'.vm U'.heap ∧ ReturnedEndW U o U' L ({ frames := 1, cells := 4, slots := 8, locals := 12 } : Room).cells ({ frames := 1, cells := 4, slots := 8, locals := 12 } : Room).slots) := by
  refine MetFree.of_bodySF (plainFor_of_name (by first | (simp [plainName, overriddenIn]; done) | decide +kernel)) hisR ?_
  intro p e s m args below meth c s₁ Bd hml0 hP hK
  obtain ⟨rfl, hZ0', hh, hC0⟩ := hP
  have hx := Bd.exec
  have hby := Bd.bytes
  have hml : c.maxLocals = 6 := hml0
  have hZ0 : Z.Warmed39 (s.setVm s.vm).vm := hZ0'
  have hown0 : (s.setVm s.vm).vm.findClass "java/lang/String" = some m.cls := findClass_of_methodNamed Bd.named
  have hnm := (name_of_methodNamed Bd.named Bd.method).1
  have hlk : meth.locks = false := Bd.notSynchronized
  have X0 : Stand p l e ({ frames := 1, cells := 4, slots := 8, locals := 12 } : Room) (s.setVm s.vm) m #[(.ref a1), (.ref a2), (.int 0), (.int 0), .null] below meth c s₁ [] 0 0 := Stand.of_body Bd
  have e0 : s₁.heap = h0 := by rw [← hh, Bd.state]; rfl
  have hS0 : s.Since s.vm s.heap.size := (State.WarmedH.refl s).since _
  have hk0 : s.heap.size ≤ h0.size := by rw [hh]; exact Nat.le_refl _
  have CR0 : CHr Z EL s.vm s.heap s.vm h0 := by rw [hh]; exact CHr.refl hC0
  have N0 := Fr.nil Z.heap.size
  have KP0 : Keep h0 h0 ([a1] : List Addr) := Keep.refl _ _
  show Go p e below (fun t o => ∃ v L, o = .returned v ∧ Q_rmNew4 Z a1 a2 h0 v t.heap L ∧ CHr Z EL s.vm s.heap t.vm t.heap ∧ ReturnedEndW s o t L ({ frames := 1, cells := 4, slots := 8, locals := 12 } : Room).cells ({ frames := 1, cells := 4, slots := 8, locals := 12 } : Room).slots) (s₁.setTop (entryFrame m #[(.ref a1), (.ref a2), (.int 0), (.int 0), .null] 6))
  refine Go.on (w := s₁.setTop (mkF m 0 #[rv a1, rv a2, iv 0, iv 0, .val .null, .unset] [])) (fun t k => castTop (ef_rmNew4 m a1 a2 (0 : Int32) (0 : Int32)) k) ?_
  have u_a1 : h0.size > a1 := E_a1.lt
  have Sf0 : Safe Z EL s.vm h0 a1 := own_safeNull hZ0.alike E_a1 Fv
  obtain ⟨T1, X1, e1, st1⟩ := initO X0 hx hZ0 hown0 (w_15 hw) (w_16 hw) (w_17 hw) e0 (g := (mkF m 1 #[rv a1, rv a2, iv 0, iv 0, .val .null, .unset] [(.ref a1)])) rfl (by rw [hml]; rfl) rfl (hb hby d0_1) (by decide) (W := 0) (by show 2 * 0 + _ ≤ _; exact Nat.le_of_eq rfl) (by decide)
  obtain ⟨b2, T2, h2, j2, t2, k2, X2, e2, E2, hS2, hk2, hZ2, hown2, Ex2, Fc2, Fv2, Av2, ua2, ub2, C2, Li2, sf2, st2⟩ := ldcCH X1 hx hZ0 hown0 (w_18 hw) (sAt hw) e1 hS0 (by omega) hEL (by simp [EL]) CR0.1 (vs := []) (z := (0 : Int32)) (by decide) (by decide) (by decide) (g := (mkF m 9 #[rv a1, rv a2, iv 0, iv 0, .val .null, .unset] [(.ref a1)])) rfl (hb hby d0_9) (n := 0) (by decide) (by decide) (by decide) (by decide)
  have z2 : h0.size ≤ h2.size := E2.1
  have CR2 := CR0.trans C2
  have KP2 : Keep h0 h2 ([a1] : List Addr) := KP0.ext E2
  have va2 : h2.size > b2 := ua2
  have vb2 : h2.size > t2 := ub2
  have F3 := (C2.safe (show @LT.lt Nat _ a1 h0.size by omega) Sf0)
  obtain ⟨T4, X4, e4, st4⟩ := getF X2 hx hZ2 hown2 (host := "") (Or.inl (w_24 hw)) Via.refl e2 Fv2 (g := (mkF m 11 #[rv a1, rv a2, iv 0, iv 0, .val .null, .unset] [(.ref b2), (.ref a1)])) rfl rfl (hb hby d0_11)
  have F5 := (E_a1.ext E2)
  have F6 := (Fv.ext E2)
  obtain ⟨T7, h7, X7, e7, W7, st7⟩ := putF X4 hx hZ2 hown2 (host := "") (Or.inl (w_24 hw)) Via.refl e4 F6 F5 (Or.inr ⟨(w_20 hw), rfl, hnm⟩) (w_6 hw) (ty := (.array .byte)) (by decide) rfl rfl (g := (mkF m 14 #[rv a1, rv a2, iv 0, iv 0, .val .null, .unset] [(.ref t2), (.ref a1)])) rfl rfl (hb hby d0_14)
  have CR7 := CR2.trans (CHr.wr W7 F3 CR2.1)
  have z7 : h2.size ≤ h7.size := Nat.le_of_eq W7.size.symm
  have KP7 : Keep h0 h7 ([a1] : List Addr) := KP2.wr W7 (Or.inl (List.mem_of_getElem? (i := 0) rfl))
  have N7 := Fr.snoc X7 N0 (by omega)
  have Fw7 := F6.same W7
  obtain ⟨b8, T8, h8, j8, t8, k8, X8, e8, E8, hS8, hk8, hZ8, hown8, Ex8, Fc8, Fv8, Av8, ua8, ub8, C8, Li8, sf8, st8⟩ := ldcCH X7 hx hZ2 hown2 (w_18 hw) (sAt hw) e7 hS2 (by omega) hEL (by simp [EL]) CR7.1 (vs := []) (z := (0 : Int32)) (by decide) (by decide) (by decide) (g := (mkF m 18 #[rv a1, rv a2, iv 0, iv 0, .val .null, .unset] [(.ref a1)])) rfl (hb hby d0_18) (n := 0) (by decide) (by decide) (by decide) (by decide)
  have z8 : h7.size ≤ h8.size := E8.1
  have CR8 := CR7.trans C8
  have KP8 : Keep h0 h8 ([a1] : List Addr) := KP7.ext E8
  have va8 : h8.size > b8 := ua8
  have vb8 : h8.size > t8 := ub8
  have F9 := (C8.safe (show @LT.lt Nat _ a1 h7.size by omega) (Safe.wr W7 F3 CR2.1 F3))
  obtain ⟨T10, X10, e10, st10⟩ := getF X8 hx hZ8 hown8 (host := "") (Or.inl (w_25 hw)) Via.refl e8 Fc8 (g := (mkF m 20 #[rv a1, rv a2, iv 0, iv 0, .val .null, .unset] [(.ref b8), (.ref a1)])) rfl rfl (hb hby d0_20)
  have F11 := ((F5.wr W7).ext E8)
  have F12 := (((Fc.ext E2).other W7 (Or.inr (slot_ne (Or.inr (w_21 hw)) (Or.inr (w_20 hw)) (by decide) (t := .byte) (t' := (.array .byte)) (by decide) (by decide)))).ext E8)
  obtain ⟨T13, h13, X13, e13, W13, st13⟩ := putFN X10 hx hZ8 hown8 (w_25 hw) Via.refl e10 F12 F11 (Or.inr ⟨(w_21 hw), rfl, hnm⟩) (w_6 hw) (ty := .byte) (v' := (.int 0)) (by decide) rfl rfl (g := (mkF m 23 #[rv a1, rv a2, iv 0, iv 0, .val .null, .unset] [(.int 0), (.ref a1)])) rfl rfl (hb hby d0_23)
  have CR13 := CR8.trans (CHr.wr W13 F9 CR8.1)
  have z13 : h8.size ≤ h13.size := Nat.le_of_eq W13.size.symm
  have KP13 : Keep h0 h13 ([a1] : List Addr) := KP8.wr W13 (Or.inl (List.mem_of_getElem? (i := 0) rfl))
  have N13 := Fr.snoc X13 N7 (by omega)
  have Fw13 := F12.same W13
  have F14 := (F11.wr W13)
  have F15 := ((Fw7.ext E8).other W13 (Or.inr (slot_ne (Or.inr (w_20 hw)) (Or.inr (w_21 hw)) (by decide) (t := (.array .byte)) (t' := .byte) (by decide) (by decide))))
  have F16 := (((Av2.other W7 (Ne.symm (sf2 _ F3).2)).ext E8).other W13 (Ne.symm (sf2 _ F3).2))
  refine Go.on (w := T13.setTop (mkF m 26 #[rv a1, rv a2, iv 0, iv 0, .val .null, .unset] [])) (fun t k => XS.aloadN X0.here hx rfl (hb hby d0_0) rfl rfl (st1 _ (XS.iloadN X1.here hx rfl (hb hby d0_4) rfl (XS.ifNo X1.here hx rfl (hb hby d0_5) rfl ((if0 _ _).trans (teq (by decide : (0 : Int32) = (0 : Int32))).2) (XS.aloadN X1.here hx rfl (hb hby d0_8) rfl rfl (st2 _ (st4 _ (st7 _ (XS.aloadN X7.here hx rfl (hb hby d0_17) rfl rfl (st8 _ (st10 _ (st13 _ k)))))))))))) ?_
  have CE17 := CR13.trans (CHv.at X13 hZ8 hEL CR13.1)
  refine Go.fin X13 hS8 (by rw [e13]; omega) hlk (v := none) (fun _ => rfl) (fun fs hr => ?_) (endP (Q := Q_rmNew4 Z a1 a2 h0) (by rw [e13]; exact ⟨t2, k2, rfl, N13, KP13, F14, Fw13, F15, F16⟩) (by rw [e13]; exact CE17) (by decide) (by decide))
  exact X13.returnOut hx Bd.returns (hb hby d0_26) hr
def Q_rmNew1 (Z : State) (a1 : Addr) (a2 : Addr) (kc : ClassId) (h0 : Heap) (vv : Option Value) (h : Heap) (L : List Loc) : Prop := ∃ (t : Addr) (kb : ClassId), vv = none ∧ Fr Z.heap.size L ∧ Keep h0 h [a1] ∧ Exa Z h a1 "java/lang/String" ∧ Fld Z h a1 "java/lang/String" "coder" "B" (.int 0) ∧ Fld Z h a1 "java/lang/String" "value" "[B" (.ref t) ∧ Arv Z h t kb .byte (0 : Int32) [] (.int 0)
theorem ef_rmNew1 (m : MethodId) (x0 : Addr) (x1 : Addr)   : entryFrame m #[(.ref x0), (.ref x1)] 2 = mkF m 0 #[.val (.ref x0), .val (.ref x1)] [] := by first | rfl | (simp [entryFrame, mkF, argsToLocals, Value.category]; done)
set_option maxRecDepth 65536 in
set_option maxHeartbeats 40000000 in
theorem rmNew1 (l : Launch) (Z : State) (a0 : Array Value) (hw : ∀ d ∈ tables_1, d.before a0 Z = true) (ws : List Jvm.Cond) (a1 : Addr) (a2 : Addr) (kc : ClassId) (h0 : Heap) (hEL : EW Z a0 EL) (Z0 : Z.heap.size ≤ h0.size) (lo_a1 : Z.heap.size ≤ a1) (E_a1 : Exa Z h0 a1 "java/lang/String") (Fc : Fld Z h0 a1 "java/lang/String" "coder" "B" (.int 0)) (Fv : Fld Z h0 a1 "java/lang/String" "value" "[B" .null) (Va : Arv Z h0 a2 kc .char (0 : Int32) [] (.int 0)) :
    MetFree l (⟨"java/lang/String", "<init>", "([C)V"⟩ : MethodName) (head1 (Jvm.Cond.code (⟨"java/lang/String", "<init>", "([C)V"⟩ : MethodName) jdk_42_method_3_code 2 none :: ws) ({ frames := 2, cells := 4, slots := 8, locals := 29 } : Room)) (fun a U => a = #[(.ref a1), (.ref a2)] ∧ Z.Warmed39 U.vm ∧ U.heap = h0 ∧ CHv Z EL U.vm h0) (fun _ _ _ _ _ => True) (fun _ U o U' => ∃ v L, o = .returned v ∧ Q_rmNew1 Z a1 a2 kc h0 v U'.heap L ∧ CHr Z EL U.vm U.heap U'.vm U'.heap ∧ ReturnedEndW U o U' L ({ frames := 2, cells := 4, slots := 8, locals := 29 } : Room).cells ({ frames := 2, cells := 4, slots := 8, locals := 29 } : Room).slots) := by
  refine MetFree.of_bodySF (plainFor_of_name (by first | (simp [plainName, overriddenIn]; done) | decide +kernel)) hisR ?_
  intro p e s m args below meth c s₁ Bd hml0 hP hK
  obtain ⟨rfl, hZ0', hh, hC0⟩ := hP
  have hx := Bd.exec
  have hby := Bd.bytes
  have hml : c.maxLocals = 2 := hml0
  have hZ0 : Z.Warmed39 (s.setVm s.vm).vm := hZ0'
  have hown0 : (s.setVm s.vm).vm.findClass "java/lang/String" = some m.cls := findClass_of_methodNamed Bd.named
  have hnm := (name_of_methodNamed Bd.named Bd.method).1
  have hlk : meth.locks = false := Bd.notSynchronized
  have X0 : Stand p l e ({ frames := 2, cells := 4, slots := 8, locals := 29 } : Room) (s.setVm s.vm) m #[(.ref a1), (.ref a2)] below meth c s₁ [] 0 0 := Stand.of_body Bd
  have e0 : s₁.heap = h0 := by rw [← hh, Bd.state]; rfl
  have hS0 : s.Since s.vm s.heap.size := (State.WarmedH.refl s).since _
  have hk0 : s.heap.size ≤ h0.size := by rw [hh]; exact Nat.le_refl _
  have CR0 : CHr Z EL s.vm s.heap s.vm h0 := by rw [hh]; exact CHr.refl hC0
  have N0 := Fr.nil Z.heap.size
  have KP0 : Keep h0 h0 ([a1] : List Addr) := Keep.refl _ _
  show Go p e below (fun t o => ∃ v L, o = .returned v ∧ Q_rmNew1 Z a1 a2 kc h0 v t.heap L ∧ CHr Z EL s.vm s.heap t.vm t.heap ∧ ReturnedEndW s o t L ({ frames := 2, cells := 4, slots := 8, locals := 29 } : Room).cells ({ frames := 2, cells := 4, slots := 8, locals := 29 } : Room).slots) (s₁.setTop (entryFrame m #[(.ref a1), (.ref a2)] 2))
  refine Go.on (w := s₁.setTop (mkF m 0 #[rv a1, rv a2] [])) (fun t k => castTop (ef_rmNew1 m a1 a2) k) ?_
  have u_a1 : h0.size > a1 := E_a1.lt
  obtain ⟨cl18, Ar18, q18, S18, M18, H18, U18⟩ := id Va
  refine Go.on (w := s₁.setTop (mkF m 4 #[rv a1, rv a2] [(.ref a2), (.int 0), (.ref a2), (.ref a1)])) (fun t k => XS.aloadN X0.here hx rfl (hb hby d1_0) rfl rfl (XS.aloadN X0.here hx rfl (hb hby d1_1) rfl rfl (XS.iconst X0.here hx rfl (hb hby d1_2) (XS.aloadN X0.here hx rfl (hb hby d1_3) rfl rfl k)))) ?_
  refine Go.on (w := s₁.setTop (mkF m 5 #[rv a1, rv a2] [(.int 0), (.int 0), (.ref a2), (.ref a1)])) (fun t k => X0.arraylength hx (by rw [e0]; exact Ar18.1) (State.isArrayOf_alike hZ0.alike Ar18.2.1) (g := (mkF m 4 #[rv a1, rv a2] [(.ref a2), (.int 0), (.ref a2), (.ref a1)])) rfl rfl (hb hby d1_4) _ (by rw [len_of S18 M18]; exact k)) ?_
  obtain ⟨v19, _, ⟨T19, L19, k19, n19⟩, -, X19', hs19, hg19, ⟨Lc19, hQ19, l19, y19, z19, C19⟩, st19⟩ := X0.specialBackS hx (y := (⟨"java/lang/String", "<init>", "([CIILjava/lang/Void;)V"⟩ : MethodName)) rfl hown0 (mvT hZ0 (w_11 hw)) (mvT hZ0 (w_12 hw)) (mvT hZ0 (w_14 hw)) (by decide) (backOfSH (s := s) (W := 0) (rmNew4 l Z a0 hw [] a1 a2 h0 hEL (by omega) (by omega) E_a1 Fc Fv) hZ0 (w_14 hw) (w_7 hw) (by decide) (by decide) hEL CR0.1) (g := (mkF m 6 #[rv a1, rv a2] [.null, (.int 0), (.int 0), (.ref a2), (.ref a1)])) rfl (by rw [hml]; rfl) (Steps.refl _) (a := a1) (argsL := [(.ref a2), (.int 0), (.int 0), .null]) (rest := []) (lenOf pd_0 rfl) rfl (by show 2 * 0 + _ ≤ _; exact Nat.le_of_eq rfl) (hb hby d1_6) (fun _ _ => ⟨rfl, e0, (by decide : 0 + 4 ≤ _), (by decide : 0 + 8 ≤ _)⟩)
  dsimp only [Pt.U, Pt.locs, Pt.cells, Pt.slots] at X19' l19 y19 z19 st19 hQ19 hs19 hg19 C19
  subst l19 y19 z19
  obtain ⟨X19, hS19, hZ19, hown19⟩ := rebS hS0 (n1 := s₁.heap.size) (by rw [e0]; omega) X19' hs19 hg19 hZ0 hown0
  have hj19 : T19.heap.size ≤ T19.heap.size := Nat.le_refl _
  obtain ⟨t_19, kb_19, rfl, Nq19, K19, f19_0, f19_1, f19_2, f19_3⟩ := hQ19
  have N19 := Fr.app N0 Nq19
  have eK19 : T19.heap = T19.heap := rfl
  have CR19 := CR0.trans C19
  have z19 : h0.size ≤ T19.heap.size := K19.1
  have KP19 : Keep h0 T19.heap ([a1] : List Addr) := KP0.trans K19 (allS (P := fun x => x ∈ ([a1] : List Addr) ∨ h0.size ≤ x) (Or.inl (List.mem_of_getElem? (i := 0) rfl)) all0)
  have u19_3 : T19.heap.size > t_19 := f19_3.lt
  refine Go.on (w := T19.setTop (mkF m 9 #[rv a1, rv a2] [])) (fun t k => XS.aconstNull X0.here hx rfl (hb hby d1_5) (st19.trans k)) ?_
  have CE20 := CR19.trans (CHv.at X19 hZ19 hEL CR19.1)
  refine Go.fin X19 hS19 (by rw [eK19]; omega) hlk (v := none) (fun _ => rfl) (fun fs hr => ?_) (endP (Q := Q_rmNew1 Z a1 a2 kc h0) (by rw [eK19]; exact ⟨t_19, kb_19, rfl, N19, KP19, f19_0, f19_1, f19_2, f19_3⟩) (by rw [eK19]; exact CE20) (by decide) (by decide))
  exact X19.returnOut hx Bd.returns (hb hby d1_9) hr
def Q_rmDraw (Z : State) (i1 : Int32) (G1 : Int32) (G3 : Value) (h0 : Heap) (vv : Option Value) (h : Heap) (L : List Loc) : Prop := ∃ (v : Int32), vv = some (.int v) ∧ Fr Z.heap.size L ∧ Keep h0 h [] ∧ (¬ v < 0 ∧ ¬ (255 : Int32) < v)
theorem ef_rmDraw (m : MethodId) (x0 : Int32)   : entryFrame m #[(.int x0)] 1 = mkF m 0 #[.val (.int x0)] [] := by first | rfl | (simp [entryFrame, mkF, argsToLocals, Value.category]; done)
set_option maxRecDepth 65536 in
set_option maxHeartbeats 40000000 in
theorem rmDraw (l : Launch) (Z : State) (a0 : Array Value) (hw : ∀ d ∈ tables_1, d.before a0 Z = true) (ws : List Jvm.Cond) (i1 : Int32) (G1 : Int32) (G3 : Value) (h0 : Heap) (hEL : EW Z a0 EL) (Z0 : Z.heap.size ≤ h0.size) (OL : Old Z Z.heap.size h0) (O2 : Sta Z Z.heap "java/lang/String" "COMPACT_STRINGS" "Z" (.int G1)) (P5 : ¬ (G1 = (0 : Int32))) (O4 : Sta Z Z.heap "jdk/internal/util/Preconditions" "SIOOBE_FORMATTER" "Ljava/util/function/BiFunction;" G3) (rG3 : G3.isRef = true) :
    MetFree l (⟨"flatfield/PrimitiveOfPinLaw", "draw", "(I)C"⟩ : MethodName) (head1 (Jvm.Cond.code (⟨"flatfield/PrimitiveOfPinLaw", "draw", "(I)C"⟩ : MethodName) method_3_code 1 (some .char) :: ws) ({ frames := 4, cells := 2, slots := 36, locals := 53 } : Room)) (fun a U => a = #[(.int i1)] ∧ Z.Warmed39 U.vm ∧ U.heap = h0 ∧ CHv Z EL U.vm h0) (fun _ _ _ _ _ => True) (fun _ U o U' => ∃ v L, o = .returned v ∧ Q_rmDraw Z i1 G1 G3 h0 v U'.heap L ∧ CHr Z EL U.vm U.heap U'.vm U'.heap ∧ ReturnedEndW U o U' L ({ frames := 4, cells := 2, slots := 36, locals := 53 } : Room).cells ({ frames := 4, cells := 2, slots := 36, locals := 53 } : Room).slots) := by
  refine MetFree.of_bodySF (plainFor_of_name (by first | (simp [plainName, overriddenIn]; done) | decide +kernel)) hisR ?_
  intro p e s m args below meth c s₁ Bd hml0 hP hK
  obtain ⟨rfl, hZ0', hh, hC0⟩ := hP
  have hx := Bd.exec
  have hby := Bd.bytes
  have hml : c.maxLocals = 1 := hml0
  have hZ0 : Z.Warmed39 (s.setVm s.vm).vm := hZ0'
  have hown0 : (s.setVm s.vm).vm.findClass "flatfield/PrimitiveOfPinLaw" = some m.cls := findClass_of_methodNamed Bd.named
  have hnm := (name_of_methodNamed Bd.named Bd.method).1
  have hlk : meth.locks = false := Bd.notSynchronized
  have X0 : Stand p l e ({ frames := 4, cells := 2, slots := 36, locals := 53 } : Room) (s.setVm s.vm) m #[(.int i1)] below meth c s₁ [] 0 0 := Stand.of_body Bd
  have e0 : s₁.heap = h0 := by rw [← hh, Bd.state]; rfl
  have hS0 : s.Since s.vm s.heap.size := (State.WarmedH.refl s).since _
  have hk0 : s.heap.size ≤ h0.size := by rw [hh]; exact Nat.le_refl _
  have CR0 : CHr Z EL s.vm s.heap s.vm h0 := by rw [hh]; exact CHr.refl hC0
  have N0 := Fr.nil Z.heap.size
  have KP0 : Keep h0 h0 ([] : List Addr) := Keep.refl _ _
  show Go p e below (fun t o => ∃ v L, o = .returned v ∧ Q_rmDraw Z i1 G1 G3 h0 v t.heap L ∧ CHr Z EL s.vm s.heap t.vm t.heap ∧ ReturnedEndW s o t L ({ frames := 4, cells := 2, slots := 36, locals := 53 } : Room).cells ({ frames := 4, cells := 2, slots := 36, locals := 53 } : Room).slots) (s₁.setTop (entryFrame m #[(.int i1)] 1))
  refine Go.on (w := s₁.setTop (mkF m 0 #[iv i1] [])) (fun t k => castTop (ef_rmDraw m i1) k) ?_
  obtain ⟨c1, hc1, l1, r1⟩ := own_chr i1
  obtain ⟨q1, hq1, hq2⟩ := own_and7 (((i1.toUInt32 >>> ((9 : Int32) &&& 31).toUInt32).toInt32))
  refine Go.on (w := s₁.setTop (mkF m 5 #[iv i1] [(.int (i1 &&& (256 : Int32)))])) (fun t k => XS.iloadN X0.here hx rfl (hb hby d2_0) rfl (XS.sipush X0.here hx rfl (hb hby d2_1) (XS.iand X0.here hx rfl (hb hby d2_4) rfl k))) ?_
  by_cases hc21 : (i1 &&& (256 : Int32)) = (0 : Int32)
  ·
    refine Go.on (w := s₁.setTop (mkF m 26 #[iv i1] [(.int (i1 &&& (255 : Int32)))])) (fun t k => XS.ifYes X0.here hx rfl (pc0 := 5) (pc' := 21) rfl (hb hby d2_5) rfl ((if0 _ _).trans (teq hc21).1) (by decide) (by decide) (XS.iloadN X0.here hx rfl (hb hby d2_21) rfl (XS.sipush X0.here hx rfl (hb hby d2_22) (XS.iand X0.here hx rfl (hb hby d2_25) rfl k)))) ?_
    refine Go.on (w := s₁.setTop (mkF m 27 #[iv i1] [(.int c1)])) (fun t k => XS.i2c X0.here hx rfl (hb hby d2_26) rfl (by rw [(hc1 : ((i1 &&& (255 : Int32)).toUInt32.toUInt16.toUInt32.toInt32) = c1)]; exact k)) ?_
    have dr : ¬ c1 < 0 ∧ ¬ (255 : Int32) < c1 := ⟨l1, r1⟩
    have CE22 := CR0.trans (CHv.at X0 hZ0 hEL CR0.1)
    refine Go.fin X0 hS0 (by rw [e0]; omega) hlk (v := some (.int c1)) (fun h => by rw [Bd.returns] at h; cases h) (fun fs hr => ?_) (endP (Q := Q_rmDraw Z i1 G1 G3 h0) (by rw [e0]; exact ⟨c1, rfl, N0, KP0, dr⟩) (by rw [e0]; exact CE22) (by decide) (by decide))
    exact retN X0 hx (t := .char) Bd.returns (by simp) (hb hby d2_27) (by rw [own_nar dr.1 dr.2]; exact hr)
  ·
    obtain ⟨b23, T23, h23, j23, t23, k23, X23, e23, E23, hS23, hk23, hZ23, hown23, Ex23, Fc23, Fv23, Av23, ua23, ub23, C23, Li23, sf23, st23⟩ := ldcCH X0 hx hZ0 hown0 (w_63 hw) (sAt hw) e0 hS0 (by omega) hEL (by simp [EL]) CR0.1 (vs := [.int (90 : Int32), .int (66 : Int32), .int (67 : Int32), .int (83 : Int32), .int (73 : Int32), .int (70 : Int32), .int (74 : Int32), .int (68 : Int32)]) (z := (8 : Int32)) (by decide) (by decide) (by decide) (g := (mkF m 8 #[iv i1] [])) rfl (hb hby d2_8) (n := 32) (by decide) (by decide) (by decide) (by decide)
    have z23 : h0.size ≤ h23.size := E23.1
    have CR23 := CR0.trans C23
    have KP23 : Keep h0 h23 ([] : List Addr) := KP0.ext E23
    have va23 : h23.size > b23 := ua23
    have vb23 : h23.size > t23 := ub23
    have F24 := (OL.ext E23)
    obtain ⟨cq25, kq25, q25a, q25b, q25c⟩ := isOf hZ23 e23 Ex23
    obtain ⟨v25, _, ⟨T25, L25, k25, n25⟩, -, X25, ⟨Lc25, hQ25, l25, y25, z25⟩, st25⟩ := X23.virtualBack hx (y := (⟨"java/lang/String", "charAt", "(I)C"⟩ : MethodName)) (z := (⟨"java/lang/String", "charAt", "(I)C"⟩ : MethodName)) hown23 (mvT hZ23 (w_64 hw)) (mvT hZ23 (w_65 hw)) (notFace_of_selects (args := #[]) (mvT hZ23 (w_67 hw))) (mvT hZ23 (w_67 hw)) (mvT hZ23 (w_66 hw)) (by decide) (StrChars.Road.chN (W := 0) hZ23 (hChW hw) (kI := 4) (w_6 hw) Ex23 Fv23 Fc23 Av23 (StrChars.Road.codOf (cs := [(90 : Int32), (66 : Int32), (67 : Int32), (83 : Int32), (73 : Int32), (70 : Int32), (74 : Int32), (68 : Int32)]) rfl (fun c hc => (own_hpL c hc).2)) (own_up own_hpL) (O2.ext F24.2) P5 (O4.ext F24.2) rG3 (by decide) (i := q1) hq1 (j := (((i1.toUInt32 >>> ((9 : Int32) &&& 31).toUInt32).toInt32) &&& (7 : Int32))) hq2 (by decide) (by decide)) q25a q25c (g := (mkF m 17 #[iv i1] [(.int (((i1.toUInt32 >>> ((9 : Int32) &&& 31).toUInt32).toInt32) &&& (7 : Int32))), (.ref b23)])) rfl (by rw [hml]; rfl) (Steps.refl _) (argsL := [(.int (((i1.toUInt32 >>> ((9 : Int32) &&& 31).toUInt32).toInt32) &&& (7 : Int32)))]) (rest := []) (lenOf pd_1 rfl) rfl (by show 2 * 0 + _ ≤ _; exact Nat.le_of_eq rfl) (hb hby d2_17) (fun _ _ => ⟨rfl, e23, (by decide : 2 + 0 ≤ _), (by decide : 36 + 0 ≤ _)⟩)
    dsimp only [Pt.U, Pt.locs, Pt.cells, Pt.slots] at X25 l25 y25 z25 st25 hQ25
    subst l25 y25 z25
    obtain ⟨rfl, rfl, eh25⟩ := hQ25
    have N25 := Fr.app N0 (Fr.nil Z.heap.size)
    obtain ⟨r25, hr25⟩ : ∃ z : Int32, [(90 : Int32), (66 : Int32), (67 : Int32), (83 : Int32), (73 : Int32), (70 : Int32), (74 : Int32), (68 : Int32)].getD q1 0 = z := ⟨_, rfl⟩
    rw [hr25] at st25
    have dr : ¬ r25 < 0 ∧ ¬ (255 : Int32) < r25 := hr25 ▸ own_hpLAt hq1
    refine Go.on (w := T25.setTop (mkF m 20 #[iv i1] [(.int r25)])) (fun t k => XS.ifNo X0.here hx rfl (hb hby d2_5) rfl ((if0 _ _).trans (feq hc21).1) (st23 _ (XS.iloadN X23.here hx rfl (hb hby d2_10) rfl (XS.bipush X23.here hx rfl (hb hby d2_11) (XS.iushr X23.here hx rfl (hb hby d2_13) rfl (XS.bipush X23.here hx rfl (hb hby d2_14) (XS.iand X23.here hx rfl (hb hby d2_16) rfl (st25.trans k)))))))) ?_
    have CE26 := CR23.trans (CHv.at X25 hZ23 hEL CR23.1)
    refine Go.fin X25 hS23 (by rw [eh25]; omega) hlk (v := some (.int r25)) (fun h => by rw [Bd.returns] at h; cases h) (fun fs hr => ?_) (endP (Q := Q_rmDraw Z i1 G1 G3 h0) (by rw [eh25]; exact ⟨r25, rfl, N25, KP23, dr⟩) (by rw [eh25]; exact CE26) (by decide) (by decide))
    exact retN X25 hx (t := .char) Bd.returns (by simp) (hb hby d2_20) (by rw [own_nar dr.1 dr.2]; exact hr)
def Q_rmExp (Z : State) (i1 : Int32) (k0 : Addr) (k1 : Addr) (k2 : Addr) (k3 : Addr) (k4 : Addr) (k5 : Addr) (k6 : Addr) (k7 : Addr) (h0 : Heap) (vv : Option Value) (h : Heap) (L : List Loc) : Prop := vv = some (own_ex k0 k1 k2 k3 k4 k5 k6 k7 i1) ∧ Fr Z.heap.size L ∧ h = h0
theorem ef_rmExp (m : MethodId) (x0 : Int32)   : entryFrame m #[(.int x0)] 1 = mkF m 0 #[.val (.int x0)] [] := by first | rfl | (simp [entryFrame, mkF, argsToLocals, Value.category]; done)
set_option maxRecDepth 65536 in
set_option maxHeartbeats 40000000 in
theorem rmExp (l : Launch) (Z : State) (a0 : Array Value) (hw : ∀ d ∈ tables_1, d.before a0 Z = true) (ws : List Jvm.Cond) (i1 : Int32) (k0 : Addr) (k1 : Addr) (k2 : Addr) (k3 : Addr) (k4 : Addr) (k5 : Addr) (k6 : Addr) (k7 : Addr) (h0 : Heap) (OL : Old Z Z.heap.size h0) (OK0 : Sta Z Z.heap "flatfield/Primitive" "BOOLEAN" "Lflatfield/Primitive;" (.ref k0)) (OK1 : Sta Z Z.heap "flatfield/Primitive" "BYTE" "Lflatfield/Primitive;" (.ref k1)) (OK2 : Sta Z Z.heap "flatfield/Primitive" "CHAR" "Lflatfield/Primitive;" (.ref k2)) (OK3 : Sta Z Z.heap "flatfield/Primitive" "SHORT" "Lflatfield/Primitive;" (.ref k3)) (OK4 : Sta Z Z.heap "flatfield/Primitive" "INT" "Lflatfield/Primitive;" (.ref k4)) (OK5 : Sta Z Z.heap "flatfield/Primitive" "FLOAT" "Lflatfield/Primitive;" (.ref k5)) (OK6 : Sta Z Z.heap "flatfield/Primitive" "LONG" "Lflatfield/Primitive;" (.ref k6)) (OK7 : Sta Z Z.heap "flatfield/Primitive" "DOUBLE" "Lflatfield/Primitive;" (.ref k7)) :
    MetFree l (⟨"flatfield/PrimitiveOfPinLaw", "expected", "(C)Lflatfield/Primitive;"⟩ : MethodName) (head1 (Jvm.Cond.code (⟨"flatfield/PrimitiveOfPinLaw", "expected", "(C)Lflatfield/Primitive;"⟩ : MethodName) method_4_code 1 (some (.object "flatfield/Primitive")) :: ws) ({ frames := 0, cells := 0, slots := 0, locals := 0 } : Room)) (fun a U => a = #[(.int i1)] ∧ Z.Warmed39 U.vm ∧ U.heap = h0) (fun _ _ _ _ _ => True) (fun _ U o U' => ∃ v L, o = .returned v ∧ Q_rmExp Z i1 k0 k1 k2 k3 k4 k5 k6 k7 h0 v U'.heap L ∧ FrameEnd U o U' L ({ frames := 0, cells := 0, slots := 0, locals := 0 } : Room).cells ({ frames := 0, cells := 0, slots := 0, locals := 0 } : Room).slots) := by
  refine MetFree.of_bodySF (plainFor_of_name (by first | (simp [plainName, overriddenIn]; done) | decide +kernel)) hisR ?_
  intro p e s m args below meth c s₁ Bd hml0 hP hK
  obtain ⟨rfl, hZ0', hh⟩ := hP
  have hx := Bd.exec
  have hby := Bd.bytes
  have hml : c.maxLocals = 1 := hml0
  have hZ0 : Z.Warmed39 s.vm := hZ0'
  have hown0 : s.vm.findClass "flatfield/PrimitiveOfPinLaw" = some m.cls := findClass_of_methodNamed Bd.named
  have hnm := (name_of_methodNamed Bd.named Bd.method).1
  have hlk : meth.locks = false := Bd.notSynchronized
  have X0 : Stand p l e ({ frames := 0, cells := 0, slots := 0, locals := 0 } : Room) s m #[(.int i1)] below meth c s₁ [] 0 0 := Stand.of_body Bd
  have e0 : s₁.heap = h0 := by rw [← hh, Bd.state]; rfl
  have N0 := Fr.nil Z.heap.size
  have KP0 : Keep h0 h0 ([] : List Addr) := Keep.refl _ _
  show Go p e below (fun t o => ∃ v L, o = .returned v ∧ Q_rmExp Z i1 k0 k1 k2 k3 k4 k5 k6 k7 h0 v t.heap L ∧ FrameEnd s o t L ({ frames := 0, cells := 0, slots := 0, locals := 0 } : Room).cells ({ frames := 0, cells := 0, slots := 0, locals := 0 } : Room).slots) (s₁.setTop (entryFrame m #[(.int i1)] 1))
  refine Go.on (w := s₁.setTop (mkF m 0 #[iv i1] [])) (fun t k => castTop (ef_rmExp m i1) k) ?_
  refine Go.on (w := s₁.setTop (mkF m 3 #[iv i1] [(.int 90), (.int i1)])) (fun t k => XS.iloadN X0.here hx rfl (hb hby d3_0) rfl (XS.bipush X0.here hx rfl (hb hby d3_1) k)) ?_
  by_cases hc27 : i1 = (90 : Int32)
  ·
    obtain ⟨T28, X28, e28, st28⟩ := getS2 X0 hx hZ0 hown0 (host := "") (Or.inl (w_92 hw)) Via.refl e0 (OK0.ext OL.2) (g := (mkF m 6 #[iv i1] [])) rfl (hb hby d3_6)
    refine Go.on (w := T28.setTop (mkF m 9 #[iv i1] [(.ref k0)])) (fun t k => XS.icmpNo X0.here hx rfl (hb hby d3_3) rfl (teq hc27).2 (st28 _ k)) ?_
    refine Go.finH X28 hlk (v := some (.ref k0)) (fun h => by rw [Bd.returns] at h; cases h) (fun fs hr => ?_) (endH (Q := Q_rmExp Z i1 k0 k1 k2 k3 k4 k5 k6 k7 h0) (by rw [e28]; exact ⟨(by rw [own_ex, if_pos hc27]), N0, rfl⟩) (by decide) (by decide))
    exact retOut X28 hx Bd.returns rfl (Or.inr (Or.inr (Or.inr (Or.inr ⟨rfl, rfl, rfl⟩)))) (hb hby d3_9) hr
  ·
    refine Go.on (w := s₁.setTop (mkF m 13 #[iv i1] [(.int 66), (.int i1)])) (fun t k => XS.icmpYes X0.here hx rfl (pc0 := 3) (pc' := 10) rfl (hb hby d3_3) rfl (feq hc27).2 (by decide) (by decide) (XS.iloadN X0.here hx rfl (hb hby d3_10) rfl (XS.bipush X0.here hx rfl (hb hby d3_11) k))) ?_
    by_cases hc29 : i1 = (66 : Int32)
    ·
      obtain ⟨T30, X30, e30, st30⟩ := getS2 X0 hx hZ0 hown0 (host := "") (Or.inl (w_93 hw)) Via.refl e0 (OK1.ext OL.2) (g := (mkF m 16 #[iv i1] [])) rfl (hb hby d3_16)
      refine Go.on (w := T30.setTop (mkF m 19 #[iv i1] [(.ref k1)])) (fun t k => XS.icmpNo X0.here hx rfl (hb hby d3_13) rfl (teq hc29).2 (st30 _ k)) ?_
      refine Go.finH X30 hlk (v := some (.ref k1)) (fun h => by rw [Bd.returns] at h; cases h) (fun fs hr => ?_) (endH (Q := Q_rmExp Z i1 k0 k1 k2 k3 k4 k5 k6 k7 h0) (by rw [e30]; exact ⟨(by rw [own_ex, if_neg hc27, if_pos hc29]), N0, rfl⟩) (by decide) (by decide))
      exact retOut X30 hx Bd.returns rfl (Or.inr (Or.inr (Or.inr (Or.inr ⟨rfl, rfl, rfl⟩)))) (hb hby d3_19) hr
    ·
      refine Go.on (w := s₁.setTop (mkF m 23 #[iv i1] [(.int 67), (.int i1)])) (fun t k => XS.icmpYes X0.here hx rfl (pc0 := 13) (pc' := 20) rfl (hb hby d3_13) rfl (feq hc29).2 (by decide) (by decide) (XS.iloadN X0.here hx rfl (hb hby d3_20) rfl (XS.bipush X0.here hx rfl (hb hby d3_21) k))) ?_
      by_cases hc31 : i1 = (67 : Int32)
      ·
        obtain ⟨T32, X32, e32, st32⟩ := getS2 X0 hx hZ0 hown0 (host := "") (Or.inl (w_94 hw)) Via.refl e0 (OK2.ext OL.2) (g := (mkF m 26 #[iv i1] [])) rfl (hb hby d3_26)
        refine Go.on (w := T32.setTop (mkF m 29 #[iv i1] [(.ref k2)])) (fun t k => XS.icmpNo X0.here hx rfl (hb hby d3_23) rfl (teq hc31).2 (st32 _ k)) ?_
        refine Go.finH X32 hlk (v := some (.ref k2)) (fun h => by rw [Bd.returns] at h; cases h) (fun fs hr => ?_) (endH (Q := Q_rmExp Z i1 k0 k1 k2 k3 k4 k5 k6 k7 h0) (by rw [e32]; exact ⟨(by rw [own_ex, if_neg hc27, if_neg hc29, if_pos hc31]), N0, rfl⟩) (by decide) (by decide))
        exact retOut X32 hx Bd.returns rfl (Or.inr (Or.inr (Or.inr (Or.inr ⟨rfl, rfl, rfl⟩)))) (hb hby d3_29) hr
      ·
        refine Go.on (w := s₁.setTop (mkF m 33 #[iv i1] [(.int 83), (.int i1)])) (fun t k => XS.icmpYes X0.here hx rfl (pc0 := 23) (pc' := 30) rfl (hb hby d3_23) rfl (feq hc31).2 (by decide) (by decide) (XS.iloadN X0.here hx rfl (hb hby d3_30) rfl (XS.bipush X0.here hx rfl (hb hby d3_31) k))) ?_
        by_cases hc33 : i1 = (83 : Int32)
        ·
          obtain ⟨T34, X34, e34, st34⟩ := getS2 X0 hx hZ0 hown0 (host := "") (Or.inl (w_91 hw)) Via.refl e0 (OK3.ext OL.2) (g := (mkF m 36 #[iv i1] [])) rfl (hb hby d3_36)
          refine Go.on (w := T34.setTop (mkF m 39 #[iv i1] [(.ref k3)])) (fun t k => XS.icmpNo X0.here hx rfl (hb hby d3_33) rfl (teq hc33).2 (st34 _ k)) ?_
          refine Go.finH X34 hlk (v := some (.ref k3)) (fun h => by rw [Bd.returns] at h; cases h) (fun fs hr => ?_) (endH (Q := Q_rmExp Z i1 k0 k1 k2 k3 k4 k5 k6 k7 h0) (by rw [e34]; exact ⟨(by rw [own_ex, if_neg hc27, if_neg hc29, if_neg hc31, if_pos hc33]), N0, rfl⟩) (by decide) (by decide))
          exact retOut X34 hx Bd.returns rfl (Or.inr (Or.inr (Or.inr (Or.inr ⟨rfl, rfl, rfl⟩)))) (hb hby d3_39) hr
        ·
          refine Go.on (w := s₁.setTop (mkF m 43 #[iv i1] [(.int 73), (.int i1)])) (fun t k => XS.icmpYes X0.here hx rfl (pc0 := 33) (pc' := 40) rfl (hb hby d3_33) rfl (feq hc33).2 (by decide) (by decide) (XS.iloadN X0.here hx rfl (hb hby d3_40) rfl (XS.bipush X0.here hx rfl (hb hby d3_41) k))) ?_
          by_cases hc35 : i1 = (73 : Int32)
          ·
            obtain ⟨T36, X36, e36, st36⟩ := getS2 X0 hx hZ0 hown0 (host := "") (Or.inl (w_95 hw)) Via.refl e0 (OK4.ext OL.2) (g := (mkF m 46 #[iv i1] [])) rfl (hb hby d3_46)
            refine Go.on (w := T36.setTop (mkF m 49 #[iv i1] [(.ref k4)])) (fun t k => XS.icmpNo X0.here hx rfl (hb hby d3_43) rfl (teq hc35).2 (st36 _ k)) ?_
            refine Go.finH X36 hlk (v := some (.ref k4)) (fun h => by rw [Bd.returns] at h; cases h) (fun fs hr => ?_) (endH (Q := Q_rmExp Z i1 k0 k1 k2 k3 k4 k5 k6 k7 h0) (by rw [e36]; exact ⟨(by rw [own_ex, if_neg hc27, if_neg hc29, if_neg hc31, if_neg hc33, if_pos hc35]), N0, rfl⟩) (by decide) (by decide))
            exact retOut X36 hx Bd.returns rfl (Or.inr (Or.inr (Or.inr (Or.inr ⟨rfl, rfl, rfl⟩)))) (hb hby d3_49) hr
          ·
            refine Go.on (w := s₁.setTop (mkF m 53 #[iv i1] [(.int 70), (.int i1)])) (fun t k => XS.icmpYes X0.here hx rfl (pc0 := 43) (pc' := 50) rfl (hb hby d3_43) rfl (feq hc35).2 (by decide) (by decide) (XS.iloadN X0.here hx rfl (hb hby d3_50) rfl (XS.bipush X0.here hx rfl (hb hby d3_51) k))) ?_
            by_cases hc37 : i1 = (70 : Int32)
            ·
              obtain ⟨T38, X38, e38, st38⟩ := getS2 X0 hx hZ0 hown0 (host := "") (Or.inl (w_90 hw)) Via.refl e0 (OK5.ext OL.2) (g := (mkF m 56 #[iv i1] [])) rfl (hb hby d3_56)
              refine Go.on (w := T38.setTop (mkF m 59 #[iv i1] [(.ref k5)])) (fun t k => XS.icmpNo X0.here hx rfl (hb hby d3_53) rfl (teq hc37).2 (st38 _ k)) ?_
              refine Go.finH X38 hlk (v := some (.ref k5)) (fun h => by rw [Bd.returns] at h; cases h) (fun fs hr => ?_) (endH (Q := Q_rmExp Z i1 k0 k1 k2 k3 k4 k5 k6 k7 h0) (by rw [e38]; exact ⟨(by rw [own_ex, if_neg hc27, if_neg hc29, if_neg hc31, if_neg hc33, if_neg hc35, if_pos hc37]), N0, rfl⟩) (by decide) (by decide))
              exact retOut X38 hx Bd.returns rfl (Or.inr (Or.inr (Or.inr (Or.inr ⟨rfl, rfl, rfl⟩)))) (hb hby d3_59) hr
            ·
              refine Go.on (w := s₁.setTop (mkF m 63 #[iv i1] [(.int 74), (.int i1)])) (fun t k => XS.icmpYes X0.here hx rfl (pc0 := 53) (pc' := 60) rfl (hb hby d3_53) rfl (feq hc37).2 (by decide) (by decide) (XS.iloadN X0.here hx rfl (hb hby d3_60) rfl (XS.bipush X0.here hx rfl (hb hby d3_61) k))) ?_
              by_cases hc39 : i1 = (74 : Int32)
              ·
                obtain ⟨T40, X40, e40, st40⟩ := getS2 X0 hx hZ0 hown0 (host := "") (Or.inl (w_88 hw)) Via.refl e0 (OK6.ext OL.2) (g := (mkF m 66 #[iv i1] [])) rfl (hb hby d3_66)
                refine Go.on (w := T40.setTop (mkF m 69 #[iv i1] [(.ref k6)])) (fun t k => XS.icmpNo X0.here hx rfl (hb hby d3_63) rfl (teq hc39).2 (st40 _ k)) ?_
                refine Go.finH X40 hlk (v := some (.ref k6)) (fun h => by rw [Bd.returns] at h; cases h) (fun fs hr => ?_) (endH (Q := Q_rmExp Z i1 k0 k1 k2 k3 k4 k5 k6 k7 h0) (by rw [e40]; exact ⟨(by rw [own_ex, if_neg hc27, if_neg hc29, if_neg hc31, if_neg hc33, if_neg hc35, if_neg hc37, if_pos hc39]), N0, rfl⟩) (by decide) (by decide))
                exact retOut X40 hx Bd.returns rfl (Or.inr (Or.inr (Or.inr (Or.inr ⟨rfl, rfl, rfl⟩)))) (hb hby d3_69) hr
              ·
                refine Go.on (w := s₁.setTop (mkF m 73 #[iv i1] [(.int 68), (.int i1)])) (fun t k => XS.icmpYes X0.here hx rfl (pc0 := 63) (pc' := 70) rfl (hb hby d3_63) rfl (feq hc39).2 (by decide) (by decide) (XS.iloadN X0.here hx rfl (hb hby d3_70) rfl (XS.bipush X0.here hx rfl (hb hby d3_71) k))) ?_
                by_cases hc41 : i1 = (68 : Int32)
                ·
                  obtain ⟨T42, X42, e42, st42⟩ := getS2 X0 hx hZ0 hown0 (host := "") (Or.inl (w_89 hw)) Via.refl e0 (OK7.ext OL.2) (g := (mkF m 76 #[iv i1] [])) rfl (hb hby d3_76)
                  refine Go.on (w := T42.setTop (mkF m 79 #[iv i1] [(.ref k7)])) (fun t k => XS.icmpNo X0.here hx rfl (hb hby d3_73) rfl (teq hc41).2 (st42 _ k)) ?_
                  refine Go.finH X42 hlk (v := some (.ref k7)) (fun h => by rw [Bd.returns] at h; cases h) (fun fs hr => ?_) (endH (Q := Q_rmExp Z i1 k0 k1 k2 k3 k4 k5 k6 k7 h0) (by rw [e42]; exact ⟨(by rw [own_ex, if_neg hc27, if_neg hc29, if_neg hc31, if_neg hc33, if_neg hc35, if_neg hc37, if_neg hc39, if_pos hc41]), N0, rfl⟩) (by decide) (by decide))
                  exact retOut X42 hx Bd.returns rfl (Or.inr (Or.inr (Or.inr (Or.inr ⟨rfl, rfl, rfl⟩)))) (hb hby d3_79) hr
                ·
                  refine Go.on (w := s₁.setTop (mkF m 81 #[iv i1] [.null])) (fun t k => XS.icmpYes X0.here hx rfl (pc0 := 73) (pc' := 80) rfl (hb hby d3_73) rfl (feq hc41).2 (by decide) (by decide) (XS.aconstNull X0.here hx rfl (hb hby d3_80) k)) ?_
                  refine Go.finH X0 hlk (v := some .null) (fun h => by rw [Bd.returns] at h; cases h) (fun fs hr => ?_) (endH (Q := Q_rmExp Z i1 k0 k1 k2 k3 k4 k5 k6 k7 h0) (by rw [e0]; exact ⟨(by rw [own_ex, if_neg hc27, if_neg hc29, if_neg hc31, if_neg hc33, if_neg hc35, if_neg hc37, if_neg hc39, if_neg hc41]), N0, rfl⟩) (by decide) (by decide))
                  exact retOut X0 hx Bd.returns rfl (Or.inr (Or.inr (Or.inr (Or.inr ⟨rfl, rfl, rfl⟩)))) (hb hby d3_81) hr
def Q_rmOf (Z : State) (a1 : Addr) (tb : Addr) (kb : ClassId) (cs : List Int32) (G1 : Int32) (al : Addr) (qa : ClassId) (k0 : Addr) (s0 : Addr) (t0 : Addr) (q0 : ClassId) (k1 : Addr) (s1 : Addr) (t1 : Addr) (q1 : ClassId) (k2 : Addr) (s2 : Addr) (t2 : Addr) (q2 : ClassId) (k3 : Addr) (s3 : Addr) (t3 : Addr) (q3 : ClassId) (k4 : Addr) (s4 : Addr) (t4 : Addr) (q4 : ClassId) (k5 : Addr) (s5 : Addr) (t5 : Addr) (q5 : ClassId) (k6 : Addr) (s6 : Addr) (t6 : Addr) (q6 : ClassId) (k7 : Addr) (s7 : Addr) (t7 : Addr) (q7 : ClassId) (h0 : Heap) (vv : Option Value) (h : Heap) (L : List Loc) : Prop := vv = some (own_of k0 k1 k2 k3 k4 k5 k6 k7 cs) ∧ Fr Z.heap.size L ∧ h = h0
theorem ef_rmOf (m : MethodId) (x0 : Addr)   : entryFrame m #[(.ref x0)] 5 = mkF m 0 #[.val (.ref x0), .unset, .unset, .unset, .unset] [] := by first | rfl | (simp [entryFrame, mkF, argsToLocals, Value.category]; done)
set_option maxRecDepth 65536 in
set_option maxHeartbeats 40000000 in
theorem rmOf (l : Launch) (Z : State) (a0 : Array Value) (hw : ∀ d ∈ tables_1, d.before a0 Z = true) (ws : List Jvm.Cond) (a1 : Addr) (tb : Addr) (kb : ClassId) (cs : List Int32) (G1 : Int32) (al : Addr) (qa : ClassId) (k0 : Addr) (s0 : Addr) (t0 : Addr) (q0 : ClassId) (k1 : Addr) (s1 : Addr) (t1 : Addr) (q1 : ClassId) (k2 : Addr) (s2 : Addr) (t2 : Addr) (q2 : ClassId) (k3 : Addr) (s3 : Addr) (t3 : Addr) (q3 : ClassId) (k4 : Addr) (s4 : Addr) (t4 : Addr) (q4 : ClassId) (k5 : Addr) (s5 : Addr) (t5 : Addr) (q5 : ClassId) (k6 : Addr) (s6 : Addr) (t6 : Addr) (q6 : ClassId) (k7 : Addr) (s7 : Addr) (t7 : Addr) (q7 : ClassId) (h0 : Heap) (OL : Old Z Z.heap.size h0) (O2 : Sta Z Z.heap "java/lang/String" "COMPACT_STRINGS" "Z" (.int G1)) (P5 : ¬ (G1 = (0 : Int32))) (OA : Sta Z Z.heap "flatfield/Primitive" "ALL" "[Lflatfield/Primitive;" (.ref al)) (VA : Arv Z Z.heap al qa (.object "flatfield/Primitive") (8 : Int32) [(.ref k0), (.ref k1), (.ref k2), (.ref k3), (.ref k4), (.ref k5), (.ref k6), (.ref k7)] .null) (W0_0 : Fld Z Z.heap k0 "flatfield/Primitive" "descriptor" "Ljava/lang/String;" (.ref s0)) (W0_1 : Exa Z Z.heap s0 "java/lang/String") (W0_2 : Fld Z Z.heap s0 "java/lang/String" "coder" "B" (.int 0)) (W0_3 : Fld Z Z.heap s0 "java/lang/String" "value" "[B" (.ref t0)) (W0_4 : Arv Z Z.heap t0 q0 .byte (Int32.ofNat [(90 : Int32)].length) (([(90 : Int32)].map (fun c => c.toInt8.toInt32)).map Value.int) (.int 0)) (W1_0 : Fld Z Z.heap k1 "flatfield/Primitive" "descriptor" "Ljava/lang/String;" (.ref s1)) (W1_1 : Exa Z Z.heap s1 "java/lang/String") (W1_2 : Fld Z Z.heap s1 "java/lang/String" "coder" "B" (.int 0)) (W1_3 : Fld Z Z.heap s1 "java/lang/String" "value" "[B" (.ref t1)) (W1_4 : Arv Z Z.heap t1 q1 .byte (Int32.ofNat [(66 : Int32)].length) (([(66 : Int32)].map (fun c => c.toInt8.toInt32)).map Value.int) (.int 0)) (W2_0 : Fld Z Z.heap k2 "flatfield/Primitive" "descriptor" "Ljava/lang/String;" (.ref s2)) (W2_1 : Exa Z Z.heap s2 "java/lang/String") (W2_2 : Fld Z Z.heap s2 "java/lang/String" "coder" "B" (.int 0)) (W2_3 : Fld Z Z.heap s2 "java/lang/String" "value" "[B" (.ref t2)) (W2_4 : Arv Z Z.heap t2 q2 .byte (Int32.ofNat [(67 : Int32)].length) (([(67 : Int32)].map (fun c => c.toInt8.toInt32)).map Value.int) (.int 0)) (W3_0 : Fld Z Z.heap k3 "flatfield/Primitive" "descriptor" "Ljava/lang/String;" (.ref s3)) (W3_1 : Exa Z Z.heap s3 "java/lang/String") (W3_2 : Fld Z Z.heap s3 "java/lang/String" "coder" "B" (.int 0)) (W3_3 : Fld Z Z.heap s3 "java/lang/String" "value" "[B" (.ref t3)) (W3_4 : Arv Z Z.heap t3 q3 .byte (Int32.ofNat [(83 : Int32)].length) (([(83 : Int32)].map (fun c => c.toInt8.toInt32)).map Value.int) (.int 0)) (W4_0 : Fld Z Z.heap k4 "flatfield/Primitive" "descriptor" "Ljava/lang/String;" (.ref s4)) (W4_1 : Exa Z Z.heap s4 "java/lang/String") (W4_2 : Fld Z Z.heap s4 "java/lang/String" "coder" "B" (.int 0)) (W4_3 : Fld Z Z.heap s4 "java/lang/String" "value" "[B" (.ref t4)) (W4_4 : Arv Z Z.heap t4 q4 .byte (Int32.ofNat [(73 : Int32)].length) (([(73 : Int32)].map (fun c => c.toInt8.toInt32)).map Value.int) (.int 0)) (W5_0 : Fld Z Z.heap k5 "flatfield/Primitive" "descriptor" "Ljava/lang/String;" (.ref s5)) (W5_1 : Exa Z Z.heap s5 "java/lang/String") (W5_2 : Fld Z Z.heap s5 "java/lang/String" "coder" "B" (.int 0)) (W5_3 : Fld Z Z.heap s5 "java/lang/String" "value" "[B" (.ref t5)) (W5_4 : Arv Z Z.heap t5 q5 .byte (Int32.ofNat [(70 : Int32)].length) (([(70 : Int32)].map (fun c => c.toInt8.toInt32)).map Value.int) (.int 0)) (W6_0 : Fld Z Z.heap k6 "flatfield/Primitive" "descriptor" "Ljava/lang/String;" (.ref s6)) (W6_1 : Exa Z Z.heap s6 "java/lang/String") (W6_2 : Fld Z Z.heap s6 "java/lang/String" "coder" "B" (.int 0)) (W6_3 : Fld Z Z.heap s6 "java/lang/String" "value" "[B" (.ref t6)) (W6_4 : Arv Z Z.heap t6 q6 .byte (Int32.ofNat [(74 : Int32)].length) (([(74 : Int32)].map (fun c => c.toInt8.toInt32)).map Value.int) (.int 0)) (W7_0 : Fld Z Z.heap k7 "flatfield/Primitive" "descriptor" "Ljava/lang/String;" (.ref s7)) (W7_1 : Exa Z Z.heap s7 "java/lang/String") (W7_2 : Fld Z Z.heap s7 "java/lang/String" "coder" "B" (.int 0)) (W7_3 : Fld Z Z.heap s7 "java/lang/String" "value" "[B" (.ref t7)) (W7_4 : Arv Z Z.heap t7 q7 .byte (Int32.ofNat [(68 : Int32)].length) (([(68 : Int32)].map (fun c => c.toInt8.toInt32)).map Value.int) (.int 0)) (S1_0 : Exa Z h0 a1 "java/lang/String") (S1_1 : Fld Z h0 a1 "java/lang/String" "coder" "B" (.int 0)) (S1_2 : Fld Z h0 a1 "java/lang/String" "value" "[B" (.ref tb)) (S1_3 : Arv Z h0 tb kb .byte (Int32.ofNat cs.length) ((cs.map (fun c => c.toInt8.toInt32)).map Value.int) (.int 0)) (hp1 : ∀ c ∈ cs, ¬ c < 0 ∧ ¬ (255 : Int32) < c) (l1 : cs.length ≤ 4000) :
    MetFree l (⟨"flatfield/Primitive", "of", "(Ljava/lang/String;)Lflatfield/Primitive;"⟩ : MethodName) (head1 (Jvm.Cond.code (⟨"flatfield/Primitive", "of", "(Ljava/lang/String;)Lflatfield/Primitive;"⟩ : MethodName) prog_3_method_4_code 5 (some (.object "flatfield/Primitive")) :: ws) ({ frames := 2, cells := 0, slots := 0, locals := 28 } : Room)) (fun a U => a = #[(.ref a1)] ∧ Z.Warmed39 U.vm ∧ U.heap = h0) (fun _ _ _ _ _ => True) (fun _ U o U' => ∃ v L, o = .returned v ∧ Q_rmOf Z a1 tb kb cs G1 al qa k0 s0 t0 q0 k1 s1 t1 q1 k2 s2 t2 q2 k3 s3 t3 q3 k4 s4 t4 q4 k5 s5 t5 q5 k6 s6 t6 q6 k7 s7 t7 q7 h0 v U'.heap L ∧ FrameEnd U o U' L ({ frames := 2, cells := 0, slots := 0, locals := 28 } : Room).cells ({ frames := 2, cells := 0, slots := 0, locals := 28 } : Room).slots) := by
  refine MetFree.of_bodySF (plainFor_of_name (by first | (simp [plainName, overriddenIn]; done) | decide +kernel)) hisR ?_
  intro p e s m args below meth c s₁ Bd hml0 hP hK
  obtain ⟨rfl, hZ0', hh⟩ := hP
  have hx := Bd.exec
  have hby := Bd.bytes
  have hml : c.maxLocals = 5 := hml0
  have hZ0 : Z.Warmed39 s.vm := hZ0'
  have hown0 : s.vm.findClass "flatfield/Primitive" = some m.cls := findClass_of_methodNamed Bd.named
  have hnm := (name_of_methodNamed Bd.named Bd.method).1
  have hlk : meth.locks = false := Bd.notSynchronized
  have X0 : Stand p l e ({ frames := 2, cells := 0, slots := 0, locals := 28 } : Room) s m #[(.ref a1)] below meth c s₁ [] 0 0 := Stand.of_body Bd
  have e0 : s₁.heap = h0 := by rw [← hh, Bd.state]; rfl
  have N0 := Fr.nil Z.heap.size
  have KP0 : Keep h0 h0 ([] : List Addr) := Keep.refl _ _
  show Go p e below (fun t o => ∃ v L, o = .returned v ∧ Q_rmOf Z a1 tb kb cs G1 al qa k0 s0 t0 q0 k1 s1 t1 q1 k2 s2 t2 q2 k3 s3 t3 q3 k4 s4 t4 q4 k5 s5 t5 q5 k6 s6 t6 q6 k7 s7 t7 q7 h0 v t.heap L ∧ FrameEnd s o t L ({ frames := 2, cells := 0, slots := 0, locals := 28 } : Room).cells ({ frames := 2, cells := 0, slots := 0, locals := 28 } : Room).slots) (s₁.setTop (entryFrame m #[(.ref a1)] 5))
  refine Go.on (w := s₁.setTop (mkF m 0 #[rv a1, .unset, .unset, .unset, .unset] [])) (fun t k => castTop (ef_rmOf m a1) k) ?_
  obtain ⟨T43, X43, e43, st43⟩ := getS2 X0 hx hZ0 hown0 (host := "") (Or.inl (w_30 hw)) Via.refl e0 (OA.ext OL.2) (g := (mkF m 0 #[rv a1, .unset, .unset, .unset, .unset] [])) rfl (hb hby d4_0)
  have F44 := VA.ext OL.2
  obtain ⟨cl45, Ar45, q45, S45, M45, H45, U45⟩ := id F44
  refine Go.on (w := T43.setTop (mkF m 5 #[rv a1, rv al, .unset, .unset, .unset] [(.ref al)])) (fun t k => st43 _ (XS.astoreN X43.here hx rfl (hb hby d4_3) rfl rfl (l' := #[rv a1, rv al, .unset, .unset, .unset]) rfl (XS.aloadN X43.here hx rfl (hb hby d4_4) rfl rfl k))) ?_
  refine Go.on (w := T43.setTop (mkF m 6 #[rv a1, rv al, .unset, .unset, .unset] [(.int 8)])) (fun t k => X43.arraylength hx (by rw [e43]; exact Ar45.1) (State.isArrayOf_alike hZ0.alike Ar45.2.1) (g := (mkF m 5 #[rv a1, rv al, .unset, .unset, .unset] [(.ref al)])) rfl rfl (hb hby d4_5) _ (by rw [len_of S45 M45]; exact k)) ?_
  obtain ⟨cl46, Ar46, q46, S46, M46, H46, U46⟩ := id F44
  have hin46 := ((inb_of S46 ⟨(by decide), (by decide)⟩) : ¬ ((0 : Int32) < 0 ∨ cl46.slots.size ≤ ((0 : Int32)).toNatClampNeg))
  have F47 := W0_0.ext OL.2
  obtain ⟨T48, X48, e48, st48⟩ := getF X43 hx hZ0 hown0 (host := "") (Or.inl (w_33 hw)) Via.refl e43 F47 (g := (mkF m 21 #[rv a1, rv al, iv 8, iv 0, rv k0] [(.ref k0)])) rfl rfl (hb hby d4_21)
  have F49 := W0_1.ext OL.2
  have F50 := W0_3.ext OL.2
  have F51 := W0_2.ext OL.2
  have F52 := W0_4.ext OL.2
  obtain ⟨cq53, kq53, q53a, q53b, q53c⟩ := isOf hZ0 e48 F49
  obtain ⟨v53, _, ⟨T53, L53, k53, n53⟩, -, X53, ⟨Lc53, hQ53, l53, y53, z53⟩, st53⟩ := X48.virtualBack hx (y := (⟨"java/lang/String", "equals", "(Ljava/lang/Object;)Z"⟩ : MethodName)) (z := (⟨"java/lang/String", "equals", "(Ljava/lang/Object;)Z"⟩ : MethodName)) hown0 (mvT hZ0 (w_35 hw)) (mvT hZ0 (w_36 hw)) (notFace_of_selects (args := #[]) (mvT hZ0 (w_38 hw))) (mvT hZ0 (w_38 hw)) (mvT hZ0 (w_37 hw)) (by decide) (StrChars.Road.eqW (W := 0) hZ0 (hEqW hw) (kI := 4) (w_6 hw) F49 F50 F51 F52 (StrChars.Road.codOf (cs := [(90 : Int32)]) rfl (fun c hc => ((own_all1 (by decide)) c hc).2)) (own_up (own_all1 (by decide))) (by decide) S1_0 S1_2 S1_1 S1_3 (StrChars.Road.codOf (cs := cs) rfl (fun c hc => (hp1 c hc).2)) (own_up hp1) l1 (O2.ext OL.2) P5 (by decide) (by decide)) q53a q53c (g := (mkF m 25 #[rv a1, rv al, iv 8, iv 0, rv k0] [(.ref a1), (.ref s0)])) rfl (by rw [hml]; rfl) (Steps.refl _) (argsL := [(.ref a1)]) (rest := []) (lenOf pd_2 rfl) rfl (by show 2 * 0 + _ ≤ _; exact Nat.le_of_eq rfl) (hb hby d4_25) (fun _ _ => ⟨rfl, e48, (by decide : 0 + 0 ≤ _), (by decide : 0 + 0 ≤ _)⟩)
  dsimp only [Pt.U, Pt.locs, Pt.cells, Pt.slots] at X53 l53 y53 z53 st53 hQ53
  subst l53 y53 z53
  obtain ⟨hv53, rfl, eh53⟩ := hQ53
  obtain ⟨r53, rfl, hd53⟩ := own_eqv hv53
  have N53 := Fr.app N0 (Fr.nil Z.heap.size)
  refine Go.on (w := T53.setTop (mkF m 28 #[rv a1, rv al, iv 8, iv 0, rv k0] [(.int r53)])) (fun t k => XS.istoreN X43.here hx rfl (hb hby d4_6) rfl (l' := #[rv a1, rv al, iv 8, .unset, .unset]) rfl (XS.iconst X43.here hx rfl (hb hby d4_7) (XS.istoreN X43.here hx rfl (hb hby d4_8) rfl (l' := #[rv a1, rv al, iv 8, iv 0, .unset]) rfl (XS.iloadN X43.here hx rfl (hb hby d4_9) rfl (XS.iloadN X43.here hx rfl (hb hby d4_10) rfl (XS.icmpNo X43.here hx rfl (hb hby d4_11) rfl (tlt (by decide : (0 : Int32) < (8 : Int32))).2.1 (XS.aloadN X43.here hx rfl (hb hby d4_14) rfl rfl (XS.iloadN X43.here hx rfl (hb hby d4_15) rfl (X43.aaload hx (j := (0 : Int32)) (v := (.ref k0)) (by rw [e43]; exact Ar46.1) (State.isArrayOf_alike hZ0.alike Ar46.2.1) rfl Ar46.2.2 hin46 (H46.at hin46 rfl) (g := (mkF m 16 #[rv a1, rv al, iv 8, iv 0, .unset] [(.int 0), (.ref al)])) rfl rfl (hb hby d4_16) _ (XS.astore X43.here hx rfl (hb hby d4_17) rfl rfl (l' := #[rv a1, rv al, iv 8, iv 0, rv k0]) rfl (XS.aload X43.here hx rfl (hb hby d4_19) rfl rfl (st48 _ (XS.aloadN X48.here hx rfl (hb hby d4_24) rfl rfl (st53.trans k)))))))))))))) ?_
  rcases hd53 with ⟨hr53, hq53⟩ | ⟨hr53, hq53⟩
  ·
    refine Go.on (w := T53.setTop (mkF m 33 #[rv a1, rv al, iv 8, iv 0, rv k0] [(.ref k0)])) (fun t k => XS.ifNo X53.here hx rfl (hb hby d4_28) rfl ((if0 _ _).trans (feq (own_one hr53)).1) (XS.aload X53.here hx rfl (hb hby d4_31) rfl rfl k)) ?_
    refine Go.finH X53 hlk (v := some (.ref k0)) (fun h => by rw [Bd.returns] at h; cases h) (fun fs hr => ?_) (endH (Q := Q_rmOf Z a1 tb kb cs G1 al qa k0 s0 t0 q0 k1 s1 t1 q1 k2 s2 t2 q2 k3 s3 t3 q3 k4 s4 t4 q4 k5 s5 t5 q5 k6 s6 t6 q6 k7 s7 t7 q7 h0) (by rw [eh53]; exact ⟨(by rw [own_of, if_pos hq53]), N53, rfl⟩) (by decide) (by decide))
    exact retOut X53 hx Bd.returns rfl (Or.inr (Or.inr (Or.inr (Or.inr ⟨rfl, rfl, rfl⟩)))) (hb hby d4_33) hr
  ·
    obtain ⟨cl54, Ar54, q54, S54, M54, H54, U54⟩ := id F44
    have hin54 := ((inb_of S54 ⟨(by decide), (by decide)⟩) : ¬ ((1 : Int32) < 0 ∨ cl54.slots.size ≤ ((1 : Int32)).toNatClampNeg))
    have F55 := W1_0.ext OL.2
    obtain ⟨T56, X56, e56, st56⟩ := getF X53 hx hZ0 hown0 (host := "") (Or.inl (w_33 hw)) Via.refl eh53 F55 (g := (mkF m 21 #[rv a1, rv al, iv 8, iv 1, rv k1] [(.ref k1)])) rfl rfl (hb hby d4_21)
    have F57 := W1_1.ext OL.2
    have F58 := W1_3.ext OL.2
    have F59 := W1_2.ext OL.2
    have F60 := W1_4.ext OL.2
    obtain ⟨cq61, kq61, q61a, q61b, q61c⟩ := isOf hZ0 e56 F57
    obtain ⟨v61, _, ⟨T61, L61, k61, n61⟩, -, X61, ⟨Lc61, hQ61, l61, y61, z61⟩, st61⟩ := X56.virtualBack hx (y := (⟨"java/lang/String", "equals", "(Ljava/lang/Object;)Z"⟩ : MethodName)) (z := (⟨"java/lang/String", "equals", "(Ljava/lang/Object;)Z"⟩ : MethodName)) hown0 (mvT hZ0 (w_35 hw)) (mvT hZ0 (w_36 hw)) (notFace_of_selects (args := #[]) (mvT hZ0 (w_38 hw))) (mvT hZ0 (w_38 hw)) (mvT hZ0 (w_37 hw)) (by decide) (StrChars.Road.eqW (W := 0) hZ0 (hEqW hw) (kI := 4) (w_6 hw) F57 F58 F59 F60 (StrChars.Road.codOf (cs := [(66 : Int32)]) rfl (fun c hc => ((own_all1 (by decide)) c hc).2)) (own_up (own_all1 (by decide))) (by decide) S1_0 S1_2 S1_1 S1_3 (StrChars.Road.codOf (cs := cs) rfl (fun c hc => (hp1 c hc).2)) (own_up hp1) l1 (O2.ext OL.2) P5 (by decide) (by decide)) q61a q61c (g := (mkF m 25 #[rv a1, rv al, iv 8, iv 1, rv k1] [(.ref a1), (.ref s1)])) rfl (by rw [hml]; rfl) (Steps.refl _) (argsL := [(.ref a1)]) (rest := []) (lenOf pd_2 rfl) rfl (by show 2 * 0 + _ ≤ _; exact Nat.le_of_eq rfl) (hb hby d4_25) (fun _ _ => ⟨rfl, e56, (by decide : 0 + 0 ≤ _), (by decide : 0 + 0 ≤ _)⟩)
    dsimp only [Pt.U, Pt.locs, Pt.cells, Pt.slots] at X61 l61 y61 z61 st61 hQ61
    subst l61 y61 z61
    obtain ⟨hv61, rfl, eh61⟩ := hQ61
    obtain ⟨r61, rfl, hd61⟩ := own_eqv hv61
    have N61 := Fr.app N53 (Fr.nil Z.heap.size)
    refine Go.on (w := T61.setTop (mkF m 28 #[rv a1, rv al, iv 8, iv 1, rv k1] [(.int r61)])) (fun t k => XS.ifYes X53.here hx rfl (pc0 := 28) (pc' := 34) rfl (hb hby d4_28) rfl ((if0 _ _).trans (teq hr53).1) (by decide) (by decide) (XS.iinc X53.here hx rfl (hb hby d4_34) rfl (l' := #[rv a1, rv al, iv 8, iv 1, rv k0]) rfl (XS.goto X53.here hx rfl (pc0 := 37) (pc' := 9) rfl (hb hby d4_37) (by decide) (by decide) (XS.iloadN X53.here hx rfl (hb hby d4_9) rfl (XS.iloadN X53.here hx rfl (hb hby d4_10) rfl (XS.icmpNo X53.here hx rfl (hb hby d4_11) rfl (tlt (by decide : (1 : Int32) < (8 : Int32))).2.1 (XS.aloadN X53.here hx rfl (hb hby d4_14) rfl rfl (XS.iloadN X53.here hx rfl (hb hby d4_15) rfl (X53.aaload hx (j := (1 : Int32)) (v := (.ref k1)) (by rw [eh53]; exact Ar54.1) (State.isArrayOf_alike hZ0.alike Ar54.2.1) rfl Ar54.2.2 hin54 (H54.at hin54 rfl) (g := (mkF m 16 #[rv a1, rv al, iv 8, iv 1, rv k0] [(.int 1), (.ref al)])) rfl rfl (hb hby d4_16) _ (XS.astore X53.here hx rfl (hb hby d4_17) rfl rfl (l' := #[rv a1, rv al, iv 8, iv 1, rv k1]) rfl (XS.aload X53.here hx rfl (hb hby d4_19) rfl rfl (st56 _ (XS.aloadN X56.here hx rfl (hb hby d4_24) rfl rfl (st61.trans k)))))))))))))) ?_
    rcases hd61 with ⟨hr61, hq61⟩ | ⟨hr61, hq61⟩
    ·
      refine Go.on (w := T61.setTop (mkF m 33 #[rv a1, rv al, iv 8, iv 1, rv k1] [(.ref k1)])) (fun t k => XS.ifNo X61.here hx rfl (hb hby d4_28) rfl ((if0 _ _).trans (feq (own_one hr61)).1) (XS.aload X61.here hx rfl (hb hby d4_31) rfl rfl k)) ?_
      refine Go.finH X61 hlk (v := some (.ref k1)) (fun h => by rw [Bd.returns] at h; cases h) (fun fs hr => ?_) (endH (Q := Q_rmOf Z a1 tb kb cs G1 al qa k0 s0 t0 q0 k1 s1 t1 q1 k2 s2 t2 q2 k3 s3 t3 q3 k4 s4 t4 q4 k5 s5 t5 q5 k6 s6 t6 q6 k7 s7 t7 q7 h0) (by rw [eh61]; exact ⟨(by rw [own_of, if_neg hq53, if_pos hq61]), N61, rfl⟩) (by decide) (by decide))
      exact retOut X61 hx Bd.returns rfl (Or.inr (Or.inr (Or.inr (Or.inr ⟨rfl, rfl, rfl⟩)))) (hb hby d4_33) hr
    ·
      obtain ⟨cl62, Ar62, q62, S62, M62, H62, U62⟩ := id F44
      have hin62 := ((inb_of S62 ⟨(by decide), (by decide)⟩) : ¬ ((2 : Int32) < 0 ∨ cl62.slots.size ≤ ((2 : Int32)).toNatClampNeg))
      have F63 := W2_0.ext OL.2
      obtain ⟨T64, X64, e64, st64⟩ := getF X61 hx hZ0 hown0 (host := "") (Or.inl (w_33 hw)) Via.refl eh61 F63 (g := (mkF m 21 #[rv a1, rv al, iv 8, iv 2, rv k2] [(.ref k2)])) rfl rfl (hb hby d4_21)
      have F65 := W2_1.ext OL.2
      have F66 := W2_3.ext OL.2
      have F67 := W2_2.ext OL.2
      have F68 := W2_4.ext OL.2
      obtain ⟨cq69, kq69, q69a, q69b, q69c⟩ := isOf hZ0 e64 F65
      obtain ⟨v69, _, ⟨T69, L69, k69, n69⟩, -, X69, ⟨Lc69, hQ69, l69, y69, z69⟩, st69⟩ := X64.virtualBack hx (y := (⟨"java/lang/String", "equals", "(Ljava/lang/Object;)Z"⟩ : MethodName)) (z := (⟨"java/lang/String", "equals", "(Ljava/lang/Object;)Z"⟩ : MethodName)) hown0 (mvT hZ0 (w_35 hw)) (mvT hZ0 (w_36 hw)) (notFace_of_selects (args := #[]) (mvT hZ0 (w_38 hw))) (mvT hZ0 (w_38 hw)) (mvT hZ0 (w_37 hw)) (by decide) (StrChars.Road.eqW (W := 0) hZ0 (hEqW hw) (kI := 4) (w_6 hw) F65 F66 F67 F68 (StrChars.Road.codOf (cs := [(67 : Int32)]) rfl (fun c hc => ((own_all1 (by decide)) c hc).2)) (own_up (own_all1 (by decide))) (by decide) S1_0 S1_2 S1_1 S1_3 (StrChars.Road.codOf (cs := cs) rfl (fun c hc => (hp1 c hc).2)) (own_up hp1) l1 (O2.ext OL.2) P5 (by decide) (by decide)) q69a q69c (g := (mkF m 25 #[rv a1, rv al, iv 8, iv 2, rv k2] [(.ref a1), (.ref s2)])) rfl (by rw [hml]; rfl) (Steps.refl _) (argsL := [(.ref a1)]) (rest := []) (lenOf pd_2 rfl) rfl (by show 2 * 0 + _ ≤ _; exact Nat.le_of_eq rfl) (hb hby d4_25) (fun _ _ => ⟨rfl, e64, (by decide : 0 + 0 ≤ _), (by decide : 0 + 0 ≤ _)⟩)
      dsimp only [Pt.U, Pt.locs, Pt.cells, Pt.slots] at X69 l69 y69 z69 st69 hQ69
      subst l69 y69 z69
      obtain ⟨hv69, rfl, eh69⟩ := hQ69
      obtain ⟨r69, rfl, hd69⟩ := own_eqv hv69
      have N69 := Fr.app N61 (Fr.nil Z.heap.size)
      refine Go.on (w := T69.setTop (mkF m 28 #[rv a1, rv al, iv 8, iv 2, rv k2] [(.int r69)])) (fun t k => XS.ifYes X61.here hx rfl (pc0 := 28) (pc' := 34) rfl (hb hby d4_28) rfl ((if0 _ _).trans (teq hr61).1) (by decide) (by decide) (XS.iinc X61.here hx rfl (hb hby d4_34) rfl (l' := #[rv a1, rv al, iv 8, iv 2, rv k1]) rfl (XS.goto X61.here hx rfl (pc0 := 37) (pc' := 9) rfl (hb hby d4_37) (by decide) (by decide) (XS.iloadN X61.here hx rfl (hb hby d4_9) rfl (XS.iloadN X61.here hx rfl (hb hby d4_10) rfl (XS.icmpNo X61.here hx rfl (hb hby d4_11) rfl (tlt (by decide : (2 : Int32) < (8 : Int32))).2.1 (XS.aloadN X61.here hx rfl (hb hby d4_14) rfl rfl (XS.iloadN X61.here hx rfl (hb hby d4_15) rfl (X61.aaload hx (j := (2 : Int32)) (v := (.ref k2)) (by rw [eh61]; exact Ar62.1) (State.isArrayOf_alike hZ0.alike Ar62.2.1) rfl Ar62.2.2 hin62 (H62.at hin62 rfl) (g := (mkF m 16 #[rv a1, rv al, iv 8, iv 2, rv k1] [(.int 2), (.ref al)])) rfl rfl (hb hby d4_16) _ (XS.astore X61.here hx rfl (hb hby d4_17) rfl rfl (l' := #[rv a1, rv al, iv 8, iv 2, rv k2]) rfl (XS.aload X61.here hx rfl (hb hby d4_19) rfl rfl (st64 _ (XS.aloadN X64.here hx rfl (hb hby d4_24) rfl rfl (st69.trans k)))))))))))))) ?_
      rcases hd69 with ⟨hr69, hq69⟩ | ⟨hr69, hq69⟩
      ·
        refine Go.on (w := T69.setTop (mkF m 33 #[rv a1, rv al, iv 8, iv 2, rv k2] [(.ref k2)])) (fun t k => XS.ifNo X69.here hx rfl (hb hby d4_28) rfl ((if0 _ _).trans (feq (own_one hr69)).1) (XS.aload X69.here hx rfl (hb hby d4_31) rfl rfl k)) ?_
        refine Go.finH X69 hlk (v := some (.ref k2)) (fun h => by rw [Bd.returns] at h; cases h) (fun fs hr => ?_) (endH (Q := Q_rmOf Z a1 tb kb cs G1 al qa k0 s0 t0 q0 k1 s1 t1 q1 k2 s2 t2 q2 k3 s3 t3 q3 k4 s4 t4 q4 k5 s5 t5 q5 k6 s6 t6 q6 k7 s7 t7 q7 h0) (by rw [eh69]; exact ⟨(by rw [own_of, if_neg hq53, if_neg hq61, if_pos hq69]), N69, rfl⟩) (by decide) (by decide))
        exact retOut X69 hx Bd.returns rfl (Or.inr (Or.inr (Or.inr (Or.inr ⟨rfl, rfl, rfl⟩)))) (hb hby d4_33) hr
      ·
        obtain ⟨cl70, Ar70, q70, S70, M70, H70, U70⟩ := id F44
        have hin70 := ((inb_of S70 ⟨(by decide), (by decide)⟩) : ¬ ((3 : Int32) < 0 ∨ cl70.slots.size ≤ ((3 : Int32)).toNatClampNeg))
        have F71 := W3_0.ext OL.2
        obtain ⟨T72, X72, e72, st72⟩ := getF X69 hx hZ0 hown0 (host := "") (Or.inl (w_33 hw)) Via.refl eh69 F71 (g := (mkF m 21 #[rv a1, rv al, iv 8, iv 3, rv k3] [(.ref k3)])) rfl rfl (hb hby d4_21)
        have F73 := W3_1.ext OL.2
        have F74 := W3_3.ext OL.2
        have F75 := W3_2.ext OL.2
        have F76 := W3_4.ext OL.2
        obtain ⟨cq77, kq77, q77a, q77b, q77c⟩ := isOf hZ0 e72 F73
        obtain ⟨v77, _, ⟨T77, L77, k77, n77⟩, -, X77, ⟨Lc77, hQ77, l77, y77, z77⟩, st77⟩ := X72.virtualBack hx (y := (⟨"java/lang/String", "equals", "(Ljava/lang/Object;)Z"⟩ : MethodName)) (z := (⟨"java/lang/String", "equals", "(Ljava/lang/Object;)Z"⟩ : MethodName)) hown0 (mvT hZ0 (w_35 hw)) (mvT hZ0 (w_36 hw)) (notFace_of_selects (args := #[]) (mvT hZ0 (w_38 hw))) (mvT hZ0 (w_38 hw)) (mvT hZ0 (w_37 hw)) (by decide) (StrChars.Road.eqW (W := 0) hZ0 (hEqW hw) (kI := 4) (w_6 hw) F73 F74 F75 F76 (StrChars.Road.codOf (cs := [(83 : Int32)]) rfl (fun c hc => ((own_all1 (by decide)) c hc).2)) (own_up (own_all1 (by decide))) (by decide) S1_0 S1_2 S1_1 S1_3 (StrChars.Road.codOf (cs := cs) rfl (fun c hc => (hp1 c hc).2)) (own_up hp1) l1 (O2.ext OL.2) P5 (by decide) (by decide)) q77a q77c (g := (mkF m 25 #[rv a1, rv al, iv 8, iv 3, rv k3] [(.ref a1), (.ref s3)])) rfl (by rw [hml]; rfl) (Steps.refl _) (argsL := [(.ref a1)]) (rest := []) (lenOf pd_2 rfl) rfl (by show 2 * 0 + _ ≤ _; exact Nat.le_of_eq rfl) (hb hby d4_25) (fun _ _ => ⟨rfl, e72, (by decide : 0 + 0 ≤ _), (by decide : 0 + 0 ≤ _)⟩)
        dsimp only [Pt.U, Pt.locs, Pt.cells, Pt.slots] at X77 l77 y77 z77 st77 hQ77
        subst l77 y77 z77
        obtain ⟨hv77, rfl, eh77⟩ := hQ77
        obtain ⟨r77, rfl, hd77⟩ := own_eqv hv77
        have N77 := Fr.app N69 (Fr.nil Z.heap.size)
        refine Go.on (w := T77.setTop (mkF m 28 #[rv a1, rv al, iv 8, iv 3, rv k3] [(.int r77)])) (fun t k => XS.ifYes X69.here hx rfl (pc0 := 28) (pc' := 34) rfl (hb hby d4_28) rfl ((if0 _ _).trans (teq hr69).1) (by decide) (by decide) (XS.iinc X69.here hx rfl (hb hby d4_34) rfl (l' := #[rv a1, rv al, iv 8, iv 3, rv k2]) rfl (XS.goto X69.here hx rfl (pc0 := 37) (pc' := 9) rfl (hb hby d4_37) (by decide) (by decide) (XS.iloadN X69.here hx rfl (hb hby d4_9) rfl (XS.iloadN X69.here hx rfl (hb hby d4_10) rfl (XS.icmpNo X69.here hx rfl (hb hby d4_11) rfl (tlt (by decide : (3 : Int32) < (8 : Int32))).2.1 (XS.aloadN X69.here hx rfl (hb hby d4_14) rfl rfl (XS.iloadN X69.here hx rfl (hb hby d4_15) rfl (X69.aaload hx (j := (3 : Int32)) (v := (.ref k3)) (by rw [eh69]; exact Ar70.1) (State.isArrayOf_alike hZ0.alike Ar70.2.1) rfl Ar70.2.2 hin70 (H70.at hin70 rfl) (g := (mkF m 16 #[rv a1, rv al, iv 8, iv 3, rv k2] [(.int 3), (.ref al)])) rfl rfl (hb hby d4_16) _ (XS.astore X69.here hx rfl (hb hby d4_17) rfl rfl (l' := #[rv a1, rv al, iv 8, iv 3, rv k3]) rfl (XS.aload X69.here hx rfl (hb hby d4_19) rfl rfl (st72 _ (XS.aloadN X72.here hx rfl (hb hby d4_24) rfl rfl (st77.trans k)))))))))))))) ?_
        rcases hd77 with ⟨hr77, hq77⟩ | ⟨hr77, hq77⟩
        ·
          refine Go.on (w := T77.setTop (mkF m 33 #[rv a1, rv al, iv 8, iv 3, rv k3] [(.ref k3)])) (fun t k => XS.ifNo X77.here hx rfl (hb hby d4_28) rfl ((if0 _ _).trans (feq (own_one hr77)).1) (XS.aload X77.here hx rfl (hb hby d4_31) rfl rfl k)) ?_
          refine Go.finH X77 hlk (v := some (.ref k3)) (fun h => by rw [Bd.returns] at h; cases h) (fun fs hr => ?_) (endH (Q := Q_rmOf Z a1 tb kb cs G1 al qa k0 s0 t0 q0 k1 s1 t1 q1 k2 s2 t2 q2 k3 s3 t3 q3 k4 s4 t4 q4 k5 s5 t5 q5 k6 s6 t6 q6 k7 s7 t7 q7 h0) (by rw [eh77]; exact ⟨(by rw [own_of, if_neg hq53, if_neg hq61, if_neg hq69, if_pos hq77]), N77, rfl⟩) (by decide) (by decide))
          exact retOut X77 hx Bd.returns rfl (Or.inr (Or.inr (Or.inr (Or.inr ⟨rfl, rfl, rfl⟩)))) (hb hby d4_33) hr
        ·
          obtain ⟨cl78, Ar78, q78, S78, M78, H78, U78⟩ := id F44
          have hin78 := ((inb_of S78 ⟨(by decide), (by decide)⟩) : ¬ ((4 : Int32) < 0 ∨ cl78.slots.size ≤ ((4 : Int32)).toNatClampNeg))
          have F79 := W4_0.ext OL.2
          obtain ⟨T80, X80, e80, st80⟩ := getF X77 hx hZ0 hown0 (host := "") (Or.inl (w_33 hw)) Via.refl eh77 F79 (g := (mkF m 21 #[rv a1, rv al, iv 8, iv 4, rv k4] [(.ref k4)])) rfl rfl (hb hby d4_21)
          have F81 := W4_1.ext OL.2
          have F82 := W4_3.ext OL.2
          have F83 := W4_2.ext OL.2
          have F84 := W4_4.ext OL.2
          obtain ⟨cq85, kq85, q85a, q85b, q85c⟩ := isOf hZ0 e80 F81
          obtain ⟨v85, _, ⟨T85, L85, k85, n85⟩, -, X85, ⟨Lc85, hQ85, l85, y85, z85⟩, st85⟩ := X80.virtualBack hx (y := (⟨"java/lang/String", "equals", "(Ljava/lang/Object;)Z"⟩ : MethodName)) (z := (⟨"java/lang/String", "equals", "(Ljava/lang/Object;)Z"⟩ : MethodName)) hown0 (mvT hZ0 (w_35 hw)) (mvT hZ0 (w_36 hw)) (notFace_of_selects (args := #[]) (mvT hZ0 (w_38 hw))) (mvT hZ0 (w_38 hw)) (mvT hZ0 (w_37 hw)) (by decide) (StrChars.Road.eqW (W := 0) hZ0 (hEqW hw) (kI := 4) (w_6 hw) F81 F82 F83 F84 (StrChars.Road.codOf (cs := [(73 : Int32)]) rfl (fun c hc => ((own_all1 (by decide)) c hc).2)) (own_up (own_all1 (by decide))) (by decide) S1_0 S1_2 S1_1 S1_3 (StrChars.Road.codOf (cs := cs) rfl (fun c hc => (hp1 c hc).2)) (own_up hp1) l1 (O2.ext OL.2) P5 (by decide) (by decide)) q85a q85c (g := (mkF m 25 #[rv a1, rv al, iv 8, iv 4, rv k4] [(.ref a1), (.ref s4)])) rfl (by rw [hml]; rfl) (Steps.refl _) (argsL := [(.ref a1)]) (rest := []) (lenOf pd_2 rfl) rfl (by show 2 * 0 + _ ≤ _; exact Nat.le_of_eq rfl) (hb hby d4_25) (fun _ _ => ⟨rfl, e80, (by decide : 0 + 0 ≤ _), (by decide : 0 + 0 ≤ _)⟩)
          dsimp only [Pt.U, Pt.locs, Pt.cells, Pt.slots] at X85 l85 y85 z85 st85 hQ85
          subst l85 y85 z85
          obtain ⟨hv85, rfl, eh85⟩ := hQ85
          obtain ⟨r85, rfl, hd85⟩ := own_eqv hv85
          have N85 := Fr.app N77 (Fr.nil Z.heap.size)
          refine Go.on (w := T85.setTop (mkF m 28 #[rv a1, rv al, iv 8, iv 4, rv k4] [(.int r85)])) (fun t k => XS.ifYes X77.here hx rfl (pc0 := 28) (pc' := 34) rfl (hb hby d4_28) rfl ((if0 _ _).trans (teq hr77).1) (by decide) (by decide) (XS.iinc X77.here hx rfl (hb hby d4_34) rfl (l' := #[rv a1, rv al, iv 8, iv 4, rv k3]) rfl (XS.goto X77.here hx rfl (pc0 := 37) (pc' := 9) rfl (hb hby d4_37) (by decide) (by decide) (XS.iloadN X77.here hx rfl (hb hby d4_9) rfl (XS.iloadN X77.here hx rfl (hb hby d4_10) rfl (XS.icmpNo X77.here hx rfl (hb hby d4_11) rfl (tlt (by decide : (4 : Int32) < (8 : Int32))).2.1 (XS.aloadN X77.here hx rfl (hb hby d4_14) rfl rfl (XS.iloadN X77.here hx rfl (hb hby d4_15) rfl (X77.aaload hx (j := (4 : Int32)) (v := (.ref k4)) (by rw [eh77]; exact Ar78.1) (State.isArrayOf_alike hZ0.alike Ar78.2.1) rfl Ar78.2.2 hin78 (H78.at hin78 rfl) (g := (mkF m 16 #[rv a1, rv al, iv 8, iv 4, rv k3] [(.int 4), (.ref al)])) rfl rfl (hb hby d4_16) _ (XS.astore X77.here hx rfl (hb hby d4_17) rfl rfl (l' := #[rv a1, rv al, iv 8, iv 4, rv k4]) rfl (XS.aload X77.here hx rfl (hb hby d4_19) rfl rfl (st80 _ (XS.aloadN X80.here hx rfl (hb hby d4_24) rfl rfl (st85.trans k)))))))))))))) ?_
          rcases hd85 with ⟨hr85, hq85⟩ | ⟨hr85, hq85⟩
          ·
            refine Go.on (w := T85.setTop (mkF m 33 #[rv a1, rv al, iv 8, iv 4, rv k4] [(.ref k4)])) (fun t k => XS.ifNo X85.here hx rfl (hb hby d4_28) rfl ((if0 _ _).trans (feq (own_one hr85)).1) (XS.aload X85.here hx rfl (hb hby d4_31) rfl rfl k)) ?_
            refine Go.finH X85 hlk (v := some (.ref k4)) (fun h => by rw [Bd.returns] at h; cases h) (fun fs hr => ?_) (endH (Q := Q_rmOf Z a1 tb kb cs G1 al qa k0 s0 t0 q0 k1 s1 t1 q1 k2 s2 t2 q2 k3 s3 t3 q3 k4 s4 t4 q4 k5 s5 t5 q5 k6 s6 t6 q6 k7 s7 t7 q7 h0) (by rw [eh85]; exact ⟨(by rw [own_of, if_neg hq53, if_neg hq61, if_neg hq69, if_neg hq77, if_pos hq85]), N85, rfl⟩) (by decide) (by decide))
            exact retOut X85 hx Bd.returns rfl (Or.inr (Or.inr (Or.inr (Or.inr ⟨rfl, rfl, rfl⟩)))) (hb hby d4_33) hr
          ·
            obtain ⟨cl86, Ar86, q86, S86, M86, H86, U86⟩ := id F44
            have hin86 := ((inb_of S86 ⟨(by decide), (by decide)⟩) : ¬ ((5 : Int32) < 0 ∨ cl86.slots.size ≤ ((5 : Int32)).toNatClampNeg))
            have F87 := W5_0.ext OL.2
            obtain ⟨T88, X88, e88, st88⟩ := getF X85 hx hZ0 hown0 (host := "") (Or.inl (w_33 hw)) Via.refl eh85 F87 (g := (mkF m 21 #[rv a1, rv al, iv 8, iv 5, rv k5] [(.ref k5)])) rfl rfl (hb hby d4_21)
            have F89 := W5_1.ext OL.2
            have F90 := W5_3.ext OL.2
            have F91 := W5_2.ext OL.2
            have F92 := W5_4.ext OL.2
            obtain ⟨cq93, kq93, q93a, q93b, q93c⟩ := isOf hZ0 e88 F89
            obtain ⟨v93, _, ⟨T93, L93, k93, n93⟩, -, X93, ⟨Lc93, hQ93, l93, y93, z93⟩, st93⟩ := X88.virtualBack hx (y := (⟨"java/lang/String", "equals", "(Ljava/lang/Object;)Z"⟩ : MethodName)) (z := (⟨"java/lang/String", "equals", "(Ljava/lang/Object;)Z"⟩ : MethodName)) hown0 (mvT hZ0 (w_35 hw)) (mvT hZ0 (w_36 hw)) (notFace_of_selects (args := #[]) (mvT hZ0 (w_38 hw))) (mvT hZ0 (w_38 hw)) (mvT hZ0 (w_37 hw)) (by decide) (StrChars.Road.eqW (W := 0) hZ0 (hEqW hw) (kI := 4) (w_6 hw) F89 F90 F91 F92 (StrChars.Road.codOf (cs := [(70 : Int32)]) rfl (fun c hc => ((own_all1 (by decide)) c hc).2)) (own_up (own_all1 (by decide))) (by decide) S1_0 S1_2 S1_1 S1_3 (StrChars.Road.codOf (cs := cs) rfl (fun c hc => (hp1 c hc).2)) (own_up hp1) l1 (O2.ext OL.2) P5 (by decide) (by decide)) q93a q93c (g := (mkF m 25 #[rv a1, rv al, iv 8, iv 5, rv k5] [(.ref a1), (.ref s5)])) rfl (by rw [hml]; rfl) (Steps.refl _) (argsL := [(.ref a1)]) (rest := []) (lenOf pd_2 rfl) rfl (by show 2 * 0 + _ ≤ _; exact Nat.le_of_eq rfl) (hb hby d4_25) (fun _ _ => ⟨rfl, e88, (by decide : 0 + 0 ≤ _), (by decide : 0 + 0 ≤ _)⟩)
            dsimp only [Pt.U, Pt.locs, Pt.cells, Pt.slots] at X93 l93 y93 z93 st93 hQ93
            subst l93 y93 z93
            obtain ⟨hv93, rfl, eh93⟩ := hQ93
            obtain ⟨r93, rfl, hd93⟩ := own_eqv hv93
            have N93 := Fr.app N85 (Fr.nil Z.heap.size)
            refine Go.on (w := T93.setTop (mkF m 28 #[rv a1, rv al, iv 8, iv 5, rv k5] [(.int r93)])) (fun t k => XS.ifYes X85.here hx rfl (pc0 := 28) (pc' := 34) rfl (hb hby d4_28) rfl ((if0 _ _).trans (teq hr85).1) (by decide) (by decide) (XS.iinc X85.here hx rfl (hb hby d4_34) rfl (l' := #[rv a1, rv al, iv 8, iv 5, rv k4]) rfl (XS.goto X85.here hx rfl (pc0 := 37) (pc' := 9) rfl (hb hby d4_37) (by decide) (by decide) (XS.iloadN X85.here hx rfl (hb hby d4_9) rfl (XS.iloadN X85.here hx rfl (hb hby d4_10) rfl (XS.icmpNo X85.here hx rfl (hb hby d4_11) rfl (tlt (by decide : (5 : Int32) < (8 : Int32))).2.1 (XS.aloadN X85.here hx rfl (hb hby d4_14) rfl rfl (XS.iloadN X85.here hx rfl (hb hby d4_15) rfl (X85.aaload hx (j := (5 : Int32)) (v := (.ref k5)) (by rw [eh85]; exact Ar86.1) (State.isArrayOf_alike hZ0.alike Ar86.2.1) rfl Ar86.2.2 hin86 (H86.at hin86 rfl) (g := (mkF m 16 #[rv a1, rv al, iv 8, iv 5, rv k4] [(.int 5), (.ref al)])) rfl rfl (hb hby d4_16) _ (XS.astore X85.here hx rfl (hb hby d4_17) rfl rfl (l' := #[rv a1, rv al, iv 8, iv 5, rv k5]) rfl (XS.aload X85.here hx rfl (hb hby d4_19) rfl rfl (st88 _ (XS.aloadN X88.here hx rfl (hb hby d4_24) rfl rfl (st93.trans k)))))))))))))) ?_
            rcases hd93 with ⟨hr93, hq93⟩ | ⟨hr93, hq93⟩
            ·
              refine Go.on (w := T93.setTop (mkF m 33 #[rv a1, rv al, iv 8, iv 5, rv k5] [(.ref k5)])) (fun t k => XS.ifNo X93.here hx rfl (hb hby d4_28) rfl ((if0 _ _).trans (feq (own_one hr93)).1) (XS.aload X93.here hx rfl (hb hby d4_31) rfl rfl k)) ?_
              refine Go.finH X93 hlk (v := some (.ref k5)) (fun h => by rw [Bd.returns] at h; cases h) (fun fs hr => ?_) (endH (Q := Q_rmOf Z a1 tb kb cs G1 al qa k0 s0 t0 q0 k1 s1 t1 q1 k2 s2 t2 q2 k3 s3 t3 q3 k4 s4 t4 q4 k5 s5 t5 q5 k6 s6 t6 q6 k7 s7 t7 q7 h0) (by rw [eh93]; exact ⟨(by rw [own_of, if_neg hq53, if_neg hq61, if_neg hq69, if_neg hq77, if_neg hq85, if_pos hq93]), N93, rfl⟩) (by decide) (by decide))
              exact retOut X93 hx Bd.returns rfl (Or.inr (Or.inr (Or.inr (Or.inr ⟨rfl, rfl, rfl⟩)))) (hb hby d4_33) hr
            ·
              obtain ⟨cl94, Ar94, q94, S94, M94, H94, U94⟩ := id F44
              have hin94 := ((inb_of S94 ⟨(by decide), (by decide)⟩) : ¬ ((6 : Int32) < 0 ∨ cl94.slots.size ≤ ((6 : Int32)).toNatClampNeg))
              have F95 := W6_0.ext OL.2
              obtain ⟨T96, X96, e96, st96⟩ := getF X93 hx hZ0 hown0 (host := "") (Or.inl (w_33 hw)) Via.refl eh93 F95 (g := (mkF m 21 #[rv a1, rv al, iv 8, iv 6, rv k6] [(.ref k6)])) rfl rfl (hb hby d4_21)
              have F97 := W6_1.ext OL.2
              have F98 := W6_3.ext OL.2
              have F99 := W6_2.ext OL.2
              have F100 := W6_4.ext OL.2
              obtain ⟨cq101, kq101, q101a, q101b, q101c⟩ := isOf hZ0 e96 F97
              obtain ⟨v101, _, ⟨T101, L101, k101, n101⟩, -, X101, ⟨Lc101, hQ101, l101, y101, z101⟩, st101⟩ := X96.virtualBack hx (y := (⟨"java/lang/String", "equals", "(Ljava/lang/Object;)Z"⟩ : MethodName)) (z := (⟨"java/lang/String", "equals", "(Ljava/lang/Object;)Z"⟩ : MethodName)) hown0 (mvT hZ0 (w_35 hw)) (mvT hZ0 (w_36 hw)) (notFace_of_selects (args := #[]) (mvT hZ0 (w_38 hw))) (mvT hZ0 (w_38 hw)) (mvT hZ0 (w_37 hw)) (by decide) (StrChars.Road.eqW (W := 0) hZ0 (hEqW hw) (kI := 4) (w_6 hw) F97 F98 F99 F100 (StrChars.Road.codOf (cs := [(74 : Int32)]) rfl (fun c hc => ((own_all1 (by decide)) c hc).2)) (own_up (own_all1 (by decide))) (by decide) S1_0 S1_2 S1_1 S1_3 (StrChars.Road.codOf (cs := cs) rfl (fun c hc => (hp1 c hc).2)) (own_up hp1) l1 (O2.ext OL.2) P5 (by decide) (by decide)) q101a q101c (g := (mkF m 25 #[rv a1, rv al, iv 8, iv 6, rv k6] [(.ref a1), (.ref s6)])) rfl (by rw [hml]; rfl) (Steps.refl _) (argsL := [(.ref a1)]) (rest := []) (lenOf pd_2 rfl) rfl (by show 2 * 0 + _ ≤ _; exact Nat.le_of_eq rfl) (hb hby d4_25) (fun _ _ => ⟨rfl, e96, (by decide : 0 + 0 ≤ _), (by decide : 0 + 0 ≤ _)⟩)
              dsimp only [Pt.U, Pt.locs, Pt.cells, Pt.slots] at X101 l101 y101 z101 st101 hQ101
              subst l101 y101 z101
              obtain ⟨hv101, rfl, eh101⟩ := hQ101
              obtain ⟨r101, rfl, hd101⟩ := own_eqv hv101
              have N101 := Fr.app N93 (Fr.nil Z.heap.size)
              refine Go.on (w := T101.setTop (mkF m 28 #[rv a1, rv al, iv 8, iv 6, rv k6] [(.int r101)])) (fun t k => XS.ifYes X93.here hx rfl (pc0 := 28) (pc' := 34) rfl (hb hby d4_28) rfl ((if0 _ _).trans (teq hr93).1) (by decide) (by decide) (XS.iinc X93.here hx rfl (hb hby d4_34) rfl (l' := #[rv a1, rv al, iv 8, iv 6, rv k5]) rfl (XS.goto X93.here hx rfl (pc0 := 37) (pc' := 9) rfl (hb hby d4_37) (by decide) (by decide) (XS.iloadN X93.here hx rfl (hb hby d4_9) rfl (XS.iloadN X93.here hx rfl (hb hby d4_10) rfl (XS.icmpNo X93.here hx rfl (hb hby d4_11) rfl (tlt (by decide : (6 : Int32) < (8 : Int32))).2.1 (XS.aloadN X93.here hx rfl (hb hby d4_14) rfl rfl (XS.iloadN X93.here hx rfl (hb hby d4_15) rfl (X93.aaload hx (j := (6 : Int32)) (v := (.ref k6)) (by rw [eh93]; exact Ar94.1) (State.isArrayOf_alike hZ0.alike Ar94.2.1) rfl Ar94.2.2 hin94 (H94.at hin94 rfl) (g := (mkF m 16 #[rv a1, rv al, iv 8, iv 6, rv k5] [(.int 6), (.ref al)])) rfl rfl (hb hby d4_16) _ (XS.astore X93.here hx rfl (hb hby d4_17) rfl rfl (l' := #[rv a1, rv al, iv 8, iv 6, rv k6]) rfl (XS.aload X93.here hx rfl (hb hby d4_19) rfl rfl (st96 _ (XS.aloadN X96.here hx rfl (hb hby d4_24) rfl rfl (st101.trans k)))))))))))))) ?_
              rcases hd101 with ⟨hr101, hq101⟩ | ⟨hr101, hq101⟩
              ·
                refine Go.on (w := T101.setTop (mkF m 33 #[rv a1, rv al, iv 8, iv 6, rv k6] [(.ref k6)])) (fun t k => XS.ifNo X101.here hx rfl (hb hby d4_28) rfl ((if0 _ _).trans (feq (own_one hr101)).1) (XS.aload X101.here hx rfl (hb hby d4_31) rfl rfl k)) ?_
                refine Go.finH X101 hlk (v := some (.ref k6)) (fun h => by rw [Bd.returns] at h; cases h) (fun fs hr => ?_) (endH (Q := Q_rmOf Z a1 tb kb cs G1 al qa k0 s0 t0 q0 k1 s1 t1 q1 k2 s2 t2 q2 k3 s3 t3 q3 k4 s4 t4 q4 k5 s5 t5 q5 k6 s6 t6 q6 k7 s7 t7 q7 h0) (by rw [eh101]; exact ⟨(by rw [own_of, if_neg hq53, if_neg hq61, if_neg hq69, if_neg hq77, if_neg hq85, if_neg hq93, if_pos hq101]), N101, rfl⟩) (by decide) (by decide))
                exact retOut X101 hx Bd.returns rfl (Or.inr (Or.inr (Or.inr (Or.inr ⟨rfl, rfl, rfl⟩)))) (hb hby d4_33) hr
              ·
                obtain ⟨cl102, Ar102, q102, S102, M102, H102, U102⟩ := id F44
                have hin102 := ((inb_of S102 ⟨(by decide), (by decide)⟩) : ¬ ((7 : Int32) < 0 ∨ cl102.slots.size ≤ ((7 : Int32)).toNatClampNeg))
                have F103 := W7_0.ext OL.2
                obtain ⟨T104, X104, e104, st104⟩ := getF X101 hx hZ0 hown0 (host := "") (Or.inl (w_33 hw)) Via.refl eh101 F103 (g := (mkF m 21 #[rv a1, rv al, iv 8, iv 7, rv k7] [(.ref k7)])) rfl rfl (hb hby d4_21)
                have F105 := W7_1.ext OL.2
                have F106 := W7_3.ext OL.2
                have F107 := W7_2.ext OL.2
                have F108 := W7_4.ext OL.2
                obtain ⟨cq109, kq109, q109a, q109b, q109c⟩ := isOf hZ0 e104 F105
                obtain ⟨v109, _, ⟨T109, L109, k109, n109⟩, -, X109, ⟨Lc109, hQ109, l109, y109, z109⟩, st109⟩ := X104.virtualBack hx (y := (⟨"java/lang/String", "equals", "(Ljava/lang/Object;)Z"⟩ : MethodName)) (z := (⟨"java/lang/String", "equals", "(Ljava/lang/Object;)Z"⟩ : MethodName)) hown0 (mvT hZ0 (w_35 hw)) (mvT hZ0 (w_36 hw)) (notFace_of_selects (args := #[]) (mvT hZ0 (w_38 hw))) (mvT hZ0 (w_38 hw)) (mvT hZ0 (w_37 hw)) (by decide) (StrChars.Road.eqW (W := 0) hZ0 (hEqW hw) (kI := 4) (w_6 hw) F105 F106 F107 F108 (StrChars.Road.codOf (cs := [(68 : Int32)]) rfl (fun c hc => ((own_all1 (by decide)) c hc).2)) (own_up (own_all1 (by decide))) (by decide) S1_0 S1_2 S1_1 S1_3 (StrChars.Road.codOf (cs := cs) rfl (fun c hc => (hp1 c hc).2)) (own_up hp1) l1 (O2.ext OL.2) P5 (by decide) (by decide)) q109a q109c (g := (mkF m 25 #[rv a1, rv al, iv 8, iv 7, rv k7] [(.ref a1), (.ref s7)])) rfl (by rw [hml]; rfl) (Steps.refl _) (argsL := [(.ref a1)]) (rest := []) (lenOf pd_2 rfl) rfl (by show 2 * 0 + _ ≤ _; exact Nat.le_of_eq rfl) (hb hby d4_25) (fun _ _ => ⟨rfl, e104, (by decide : 0 + 0 ≤ _), (by decide : 0 + 0 ≤ _)⟩)
                dsimp only [Pt.U, Pt.locs, Pt.cells, Pt.slots] at X109 l109 y109 z109 st109 hQ109
                subst l109 y109 z109
                obtain ⟨hv109, rfl, eh109⟩ := hQ109
                obtain ⟨r109, rfl, hd109⟩ := own_eqv hv109
                have N109 := Fr.app N101 (Fr.nil Z.heap.size)
                refine Go.on (w := T109.setTop (mkF m 28 #[rv a1, rv al, iv 8, iv 7, rv k7] [(.int r109)])) (fun t k => XS.ifYes X101.here hx rfl (pc0 := 28) (pc' := 34) rfl (hb hby d4_28) rfl ((if0 _ _).trans (teq hr101).1) (by decide) (by decide) (XS.iinc X101.here hx rfl (hb hby d4_34) rfl (l' := #[rv a1, rv al, iv 8, iv 7, rv k6]) rfl (XS.goto X101.here hx rfl (pc0 := 37) (pc' := 9) rfl (hb hby d4_37) (by decide) (by decide) (XS.iloadN X101.here hx rfl (hb hby d4_9) rfl (XS.iloadN X101.here hx rfl (hb hby d4_10) rfl (XS.icmpNo X101.here hx rfl (hb hby d4_11) rfl (tlt (by decide : (7 : Int32) < (8 : Int32))).2.1 (XS.aloadN X101.here hx rfl (hb hby d4_14) rfl rfl (XS.iloadN X101.here hx rfl (hb hby d4_15) rfl (X101.aaload hx (j := (7 : Int32)) (v := (.ref k7)) (by rw [eh101]; exact Ar102.1) (State.isArrayOf_alike hZ0.alike Ar102.2.1) rfl Ar102.2.2 hin102 (H102.at hin102 rfl) (g := (mkF m 16 #[rv a1, rv al, iv 8, iv 7, rv k6] [(.int 7), (.ref al)])) rfl rfl (hb hby d4_16) _ (XS.astore X101.here hx rfl (hb hby d4_17) rfl rfl (l' := #[rv a1, rv al, iv 8, iv 7, rv k7]) rfl (XS.aload X101.here hx rfl (hb hby d4_19) rfl rfl (st104 _ (XS.aloadN X104.here hx rfl (hb hby d4_24) rfl rfl (st109.trans k)))))))))))))) ?_
                rcases hd109 with ⟨hr109, hq109⟩ | ⟨hr109, hq109⟩
                ·
                  refine Go.on (w := T109.setTop (mkF m 33 #[rv a1, rv al, iv 8, iv 7, rv k7] [(.ref k7)])) (fun t k => XS.ifNo X109.here hx rfl (hb hby d4_28) rfl ((if0 _ _).trans (feq (own_one hr109)).1) (XS.aload X109.here hx rfl (hb hby d4_31) rfl rfl k)) ?_
                  refine Go.finH X109 hlk (v := some (.ref k7)) (fun h => by rw [Bd.returns] at h; cases h) (fun fs hr => ?_) (endH (Q := Q_rmOf Z a1 tb kb cs G1 al qa k0 s0 t0 q0 k1 s1 t1 q1 k2 s2 t2 q2 k3 s3 t3 q3 k4 s4 t4 q4 k5 s5 t5 q5 k6 s6 t6 q6 k7 s7 t7 q7 h0) (by rw [eh109]; exact ⟨(by rw [own_of, if_neg hq53, if_neg hq61, if_neg hq69, if_neg hq77, if_neg hq85, if_neg hq93, if_neg hq101, if_pos hq109]), N109, rfl⟩) (by decide) (by decide))
                  exact retOut X109 hx Bd.returns rfl (Or.inr (Or.inr (Or.inr (Or.inr ⟨rfl, rfl, rfl⟩)))) (hb hby d4_33) hr
                ·
                  refine Go.on (w := T109.setTop (mkF m 41 #[rv a1, rv al, iv 8, iv 8, rv k7] [.null])) (fun t k => XS.ifYes X109.here hx rfl (pc0 := 28) (pc' := 34) rfl (hb hby d4_28) rfl ((if0 _ _).trans (teq hr109).1) (by decide) (by decide) (XS.iinc X109.here hx rfl (hb hby d4_34) rfl (l' := #[rv a1, rv al, iv 8, iv 8, rv k7]) rfl (XS.goto X109.here hx rfl (pc0 := 37) (pc' := 9) rfl (hb hby d4_37) (by decide) (by decide) (XS.iloadN X109.here hx rfl (hb hby d4_9) rfl (XS.iloadN X109.here hx rfl (hb hby d4_10) rfl (XS.icmpYes X109.here hx rfl (pc0 := 11) (pc' := 40) rfl (hb hby d4_11) rfl (flt (by decide : ¬ ((8 : Int32) < (8 : Int32)))).2.1 (by decide) (by decide) (XS.aconstNull X109.here hx rfl (hb hby d4_40) k))))))) ?_
                  refine Go.finH X109 hlk (v := some .null) (fun h => by rw [Bd.returns] at h; cases h) (fun fs hr => ?_) (endH (Q := Q_rmOf Z a1 tb kb cs G1 al qa k0 s0 t0 q0 k1 s1 t1 q1 k2 s2 t2 q2 k3 s3 t3 q3 k4 s4 t4 q4 k5 s5 t5 q5 k6 s6 t6 q6 k7 s7 t7 q7 h0) (by rw [eh109]; exact ⟨(by rw [own_of, if_neg hq53, if_neg hq61, if_neg hq69, if_neg hq77, if_neg hq85, if_neg hq93, if_neg hq101, if_neg hq109]), N109, rfl⟩) (by decide) (by decide))
                  exact retOut X109 hx Bd.returns rfl (Or.inr (Or.inr (Or.inr (Or.inr ⟨rfl, rfl, rfl⟩)))) (hb hby d4_41) hr
def Q_rm0 (Z : State) (p0 : Int32) (p1 : Int32) (p2 : Int32) (p3 : Int32) (G1 : Int32) (G3 : Value) (al : Addr) (qa : ClassId) (k0 : Addr) (s0 : Addr) (t0 : Addr) (q0 : ClassId) (k1 : Addr) (s1 : Addr) (t1 : Addr) (q1 : ClassId) (k2 : Addr) (s2 : Addr) (t2 : Addr) (q2 : ClassId) (k3 : Addr) (s3 : Addr) (t3 : Addr) (q3 : ClassId) (k4 : Addr) (s4 : Addr) (t4 : Addr) (q4 : ClassId) (k5 : Addr) (s5 : Addr) (t5 : Addr) (q5 : ClassId) (k6 : Addr) (s6 : Addr) (t6 : Addr) (q6 : ClassId) (k7 : Addr) (s7 : Addr) (t7 : Addr) (q7 : ClassId) (h0 : Heap) (vv : Option Value) (h : Heap) (L : List Loc) : Prop := vv = some (.int 1) ∧ Fr Z.heap.size L ∧ Keep h0 h []
theorem ef_rm0 (m : MethodId) (x0 : Int32) (x1 : Int32) (x2 : Int32) (x3 : Int32)   : entryFrame m #[(.int x0), (.int x1), (.int x2), (.int x3)] maxLocals = mkF m 0 #[.val (.int x0), .val (.int x1), .val (.int x2), .val (.int x3), .unset, .unset, .unset, .unset, .unset, .unset, .unset, .unset] [] := by first | (simp [entryFrame, mkF, argsToLocals, Value.category, maxLocals]; done) | rfl
set_option maxRecDepth 65536 in
set_option maxHeartbeats 40000000 in
theorem rm0 (l : Launch) (Z : State) (a0 : Array Value) (hw : ∀ d ∈ tables_1, d.before a0 Z = true) (ws : List Jvm.Cond) (p0 : Int32) (p1 : Int32) (p2 : Int32) (p3 : Int32) (G1 : Int32) (G3 : Value) (al : Addr) (qa : ClassId) (k0 : Addr) (s0 : Addr) (t0 : Addr) (q0 : ClassId) (k1 : Addr) (s1 : Addr) (t1 : Addr) (q1 : ClassId) (k2 : Addr) (s2 : Addr) (t2 : Addr) (q2 : ClassId) (k3 : Addr) (s3 : Addr) (t3 : Addr) (q3 : ClassId) (k4 : Addr) (s4 : Addr) (t4 : Addr) (q4 : ClassId) (k5 : Addr) (s5 : Addr) (t5 : Addr) (q5 : ClassId) (k6 : Addr) (s6 : Addr) (t6 : Addr) (q6 : ClassId) (k7 : Addr) (s7 : Addr) (t7 : Addr) (q7 : ClassId) (h0 : Heap) (hEL : EW Z a0 EL) (Z0 : Z.heap.size ≤ h0.size) (OL : Old Z Z.heap.size h0) (O2 : Sta Z Z.heap "java/lang/String" "COMPACT_STRINGS" "Z" (.int G1)) (P5 : ¬ (G1 = (0 : Int32))) (O4 : Sta Z Z.heap "jdk/internal/util/Preconditions" "SIOOBE_FORMATTER" "Ljava/util/function/BiFunction;" G3) (rG3 : G3.isRef = true) (OK0 : Sta Z Z.heap "flatfield/Primitive" "BOOLEAN" "Lflatfield/Primitive;" (.ref k0)) (OK1 : Sta Z Z.heap "flatfield/Primitive" "BYTE" "Lflatfield/Primitive;" (.ref k1)) (OK2 : Sta Z Z.heap "flatfield/Primitive" "CHAR" "Lflatfield/Primitive;" (.ref k2)) (OK3 : Sta Z Z.heap "flatfield/Primitive" "SHORT" "Lflatfield/Primitive;" (.ref k3)) (OK4 : Sta Z Z.heap "flatfield/Primitive" "INT" "Lflatfield/Primitive;" (.ref k4)) (OK5 : Sta Z Z.heap "flatfield/Primitive" "FLOAT" "Lflatfield/Primitive;" (.ref k5)) (OK6 : Sta Z Z.heap "flatfield/Primitive" "LONG" "Lflatfield/Primitive;" (.ref k6)) (OK7 : Sta Z Z.heap "flatfield/Primitive" "DOUBLE" "Lflatfield/Primitive;" (.ref k7)) (OA : Sta Z Z.heap "flatfield/Primitive" "ALL" "[Lflatfield/Primitive;" (.ref al)) (VA : Arv Z Z.heap al qa (.object "flatfield/Primitive") (8 : Int32) [(.ref k0), (.ref k1), (.ref k2), (.ref k3), (.ref k4), (.ref k5), (.ref k6), (.ref k7)] .null) (W0_0 : Fld Z Z.heap k0 "flatfield/Primitive" "descriptor" "Ljava/lang/String;" (.ref s0)) (W0_1 : Exa Z Z.heap s0 "java/lang/String") (W0_2 : Fld Z Z.heap s0 "java/lang/String" "coder" "B" (.int 0)) (W0_3 : Fld Z Z.heap s0 "java/lang/String" "value" "[B" (.ref t0)) (W0_4 : Arv Z Z.heap t0 q0 .byte (Int32.ofNat [(90 : Int32)].length) (([(90 : Int32)].map (fun c => c.toInt8.toInt32)).map Value.int) (.int 0)) (W1_0 : Fld Z Z.heap k1 "flatfield/Primitive" "descriptor" "Ljava/lang/String;" (.ref s1)) (W1_1 : Exa Z Z.heap s1 "java/lang/String") (W1_2 : Fld Z Z.heap s1 "java/lang/String" "coder" "B" (.int 0)) (W1_3 : Fld Z Z.heap s1 "java/lang/String" "value" "[B" (.ref t1)) (W1_4 : Arv Z Z.heap t1 q1 .byte (Int32.ofNat [(66 : Int32)].length) (([(66 : Int32)].map (fun c => c.toInt8.toInt32)).map Value.int) (.int 0)) (W2_0 : Fld Z Z.heap k2 "flatfield/Primitive" "descriptor" "Ljava/lang/String;" (.ref s2)) (W2_1 : Exa Z Z.heap s2 "java/lang/String") (W2_2 : Fld Z Z.heap s2 "java/lang/String" "coder" "B" (.int 0)) (W2_3 : Fld Z Z.heap s2 "java/lang/String" "value" "[B" (.ref t2)) (W2_4 : Arv Z Z.heap t2 q2 .byte (Int32.ofNat [(67 : Int32)].length) (([(67 : Int32)].map (fun c => c.toInt8.toInt32)).map Value.int) (.int 0)) (W3_0 : Fld Z Z.heap k3 "flatfield/Primitive" "descriptor" "Ljava/lang/String;" (.ref s3)) (W3_1 : Exa Z Z.heap s3 "java/lang/String") (W3_2 : Fld Z Z.heap s3 "java/lang/String" "coder" "B" (.int 0)) (W3_3 : Fld Z Z.heap s3 "java/lang/String" "value" "[B" (.ref t3)) (W3_4 : Arv Z Z.heap t3 q3 .byte (Int32.ofNat [(83 : Int32)].length) (([(83 : Int32)].map (fun c => c.toInt8.toInt32)).map Value.int) (.int 0)) (W4_0 : Fld Z Z.heap k4 "flatfield/Primitive" "descriptor" "Ljava/lang/String;" (.ref s4)) (W4_1 : Exa Z Z.heap s4 "java/lang/String") (W4_2 : Fld Z Z.heap s4 "java/lang/String" "coder" "B" (.int 0)) (W4_3 : Fld Z Z.heap s4 "java/lang/String" "value" "[B" (.ref t4)) (W4_4 : Arv Z Z.heap t4 q4 .byte (Int32.ofNat [(73 : Int32)].length) (([(73 : Int32)].map (fun c => c.toInt8.toInt32)).map Value.int) (.int 0)) (W5_0 : Fld Z Z.heap k5 "flatfield/Primitive" "descriptor" "Ljava/lang/String;" (.ref s5)) (W5_1 : Exa Z Z.heap s5 "java/lang/String") (W5_2 : Fld Z Z.heap s5 "java/lang/String" "coder" "B" (.int 0)) (W5_3 : Fld Z Z.heap s5 "java/lang/String" "value" "[B" (.ref t5)) (W5_4 : Arv Z Z.heap t5 q5 .byte (Int32.ofNat [(70 : Int32)].length) (([(70 : Int32)].map (fun c => c.toInt8.toInt32)).map Value.int) (.int 0)) (W6_0 : Fld Z Z.heap k6 "flatfield/Primitive" "descriptor" "Ljava/lang/String;" (.ref s6)) (W6_1 : Exa Z Z.heap s6 "java/lang/String") (W6_2 : Fld Z Z.heap s6 "java/lang/String" "coder" "B" (.int 0)) (W6_3 : Fld Z Z.heap s6 "java/lang/String" "value" "[B" (.ref t6)) (W6_4 : Arv Z Z.heap t6 q6 .byte (Int32.ofNat [(74 : Int32)].length) (([(74 : Int32)].map (fun c => c.toInt8.toInt32)).map Value.int) (.int 0)) (W7_0 : Fld Z Z.heap k7 "flatfield/Primitive" "descriptor" "Ljava/lang/String;" (.ref s7)) (W7_1 : Exa Z Z.heap s7 "java/lang/String") (W7_2 : Fld Z Z.heap s7 "java/lang/String" "coder" "B" (.int 0)) (W7_3 : Fld Z Z.heap s7 "java/lang/String" "value" "[B" (.ref t7)) (W7_4 : Arv Z Z.heap t7 q7 .byte (Int32.ofNat [(68 : Int32)].length) (([(68 : Int32)].map (fun c => c.toInt8.toInt32)).map Value.int) (.int 0)) :
    MetFree l x (head1 (Jvm.Cond.code x code maxLocals ret :: ws) room_1) (fun a U => a = #[(.int p0), (.int p1), (.int p2), (.int p3)] ∧ Z.Warmed39 U.vm ∧ U.heap = h0 ∧ CHv Z EL U.vm h0) (fun _ _ _ _ _ => True) (fun _ U o U' => ∃ v L, o = .returned v ∧ Q_rm0 Z p0 p1 p2 p3 G1 G3 al qa k0 s0 t0 q0 k1 s1 t1 q1 k2 s2 t2 q2 k3 s3 t3 q3 k4 s4 t4 q4 k5 s5 t5 q5 k6 s6 t6 q6 k7 s7 t7 q7 h0 v U'.heap L ∧ CHr Z EL U.vm U.heap U'.vm U'.heap ∧ ReturnedEndW U o U' L room_1.cells room_1.slots) := by
  refine MetFree.of_bodySF (plainFor_of_name (by first | (simp [plainName, overriddenIn]; done) | decide +kernel)) hisR ?_
  intro p e s m args below meth c s₁ Bd hml0 hP hK
  obtain ⟨rfl, hZ0', hh, hC0⟩ := hP
  have hx := Bd.exec
  have hby := Bd.bytes
  have hml : c.maxLocals = 12 := hml0
  have hZ0 : Z.Warmed39 (s.setVm s.vm).vm := hZ0'
  have hown0 : (s.setVm s.vm).vm.findClass "flatfield/PrimitiveOfPinLaw" = some m.cls := findClass_of_methodNamed Bd.named
  have hnm := (name_of_methodNamed Bd.named Bd.method).1
  have hlk : meth.locks = false := Bd.notSynchronized
  have X0 : Stand p l e room_1 (s.setVm s.vm) m #[(.int p0), (.int p1), (.int p2), (.int p3)] below meth c s₁ [] 0 0 := Stand.of_body Bd
  have e0 : s₁.heap = h0 := by rw [← hh, Bd.state]; rfl
  have hS0 : s.Since s.vm s.heap.size := (State.WarmedH.refl s).since _
  have hk0 : s.heap.size ≤ h0.size := by rw [hh]; exact Nat.le_refl _
  have CR0 : CHr Z EL s.vm s.heap s.vm h0 := by rw [hh]; exact CHr.refl hC0
  have N0 := Fr.nil Z.heap.size
  have KP0 : Keep h0 h0 ([] : List Addr) := Keep.refl _ _
  show Go p e below (fun t o => ∃ v L, o = .returned v ∧ Q_rm0 Z p0 p1 p2 p3 G1 G3 al qa k0 s0 t0 q0 k1 s1 t1 q1 k2 s2 t2 q2 k3 s3 t3 q3 k4 s4 t4 q4 k5 s5 t5 q5 k6 s6 t6 q6 k7 s7 t7 q7 h0 v t.heap L ∧ CHr Z EL s.vm s.heap t.vm t.heap ∧ ReturnedEndW s o t L room_1.cells room_1.slots) (s₁.setTop (entryFrame m #[(.int p0), (.int p1), (.int p2), (.int p3)] maxLocals))
  refine Go.on (w := s₁.setTop (mkF m 0 #[iv p0, iv p1, iv p2, iv p3, .unset, .unset, .unset, .unset, .unset, .unset, .unset, .unset] [])) (fun t k => castTop (ef_rm0 m p0 p1 p2 p3) k) ?_
  rcases own_and3 p0 with hn | hn | hn | hn
  ·
    refine Go.on (w := s₁.setTop (mkF m 2 #[iv p0, iv p1, iv p2, iv p3, .unset, .unset, .unset, .unset, .unset, .unset, .unset, .unset] [(.int 3), (.int p0)])) (fun t k => XS.iloadN X0.here hx rfl (hb hby at_0) rfl (XS.iconst X0.here hx rfl (hb hby at_1) k)) ?_
    refine Go.on (w := s₁.setTop (mkF m 3 #[iv p0, iv p1, iv p2, iv p3, .unset, .unset, .unset, .unset, .unset, .unset, .unset, .unset] [(.int 0)])) (fun t k => XS.iand X0.here hx rfl (hb hby at_2) rfl (by rw [(hn : (p0 &&& (3 : Int32)) = (0 : Int32))]; exact k)) ?_
    obtain ⟨v110, _, ⟨T110, L110, k110, n110⟩, -, X110', hs110, hg110, ⟨Lc110, hQ110, l110, y110, z110, C110⟩, st110⟩ := callSS X0 hx (y := (⟨"flatfield/PrimitiveOfPinLaw", "draw", "(I)C"⟩ : MethodName)) hown0 (mvT hZ0 (w_0 hw)) (mvT hZ0 (w_1 hw)) (mvT hZ0 (w_2 hw)) (mvT hZ0 (w_3 hw)) (by decide) (backOfSH (s := s) (W := 0) (rmDraw l Z a0 hw [] p1 G1 G3 h0 hEL (by omega) OL O2 P5 O4 rG3) hZ0 (w_3 hw) (w_2 hw) (by decide) (by decide) hEL CR0.1) (g := (mkF m 6 #[iv p0, iv p1, iv p2, iv p3, iv 0, .unset, .unset, .unset, .unset, .unset, .unset, .unset] [(.int p1)])) rfl (by rw [hml]; rfl) (argsL := [(.int p1)]) (rest := []) (lenOf pd_1 rfl) rfl (by show 2 * 0 + _ ≤ _; exact Nat.le_of_eq rfl) (hb hby at_6) (fun _ _ => ⟨rfl, e0, (by decide : 0 + 2 ≤ _), (by decide : 0 + 36 ≤ _)⟩)
    dsimp only [Pt.U, Pt.locs, Pt.cells, Pt.slots] at X110' l110 y110 z110 st110 hQ110 hs110 hg110 C110
    subst l110 y110 z110
    obtain ⟨X110, hS110, hZ110, hown110⟩ := rebS hS0 (n1 := s₁.heap.size) (by rw [e0]; omega) X110' hs110 hg110 hZ0 hown0
    have hj110 : T110.heap.size ≤ T110.heap.size := Nat.le_refl _
    obtain ⟨v_110, rfl, Nq110, K110, f110_0⟩ := hQ110
    have N110 := Fr.app N0 Nq110
    have eK110 : T110.heap = T110.heap := rfl
    have CR110 := CR0.trans C110
    have z110 : h0.size ≤ T110.heap.size := K110.1
    have KP110 : Keep h0 T110.heap ([] : List Addr) := KP0.trans K110 all0
    have F112 := (OL.keep K110 all0)
    obtain ⟨v111, _, ⟨T111, L111, k111, n111⟩, -, X111', hs111, hg111, ⟨Lc111, hQ111, l111, y111, z111, C111⟩, st111⟩ := callSS X110 hx (y := (⟨"flatfield/PrimitiveOfPinLaw", "draw", "(I)C"⟩ : MethodName)) hown110 (mvT hZ110 (w_0 hw)) (mvT hZ110 (w_1 hw)) (mvT hZ110 (w_2 hw)) (mvT hZ110 (w_3 hw)) (by decide) (backOfSH (s := s) (W := 0) (rmDraw l Z a0 hw [] p2 G1 G3 T110.heap hEL (by omega) F112 O2 P5 O4 rG3) hZ110 (w_3 hw) (w_2 hw) (by decide) (by decide) hEL CR110.1) (g := (mkF m 12 #[iv p0, iv p1, iv p2, iv p3, iv 0, iv v_110, .unset, .unset, .unset, .unset, .unset, .unset] [(.int p2)])) rfl (by rw [hml]; rfl) (argsL := [(.int p2)]) (rest := []) (lenOf pd_1 rfl) rfl (by show 2 * 0 + _ ≤ _; exact Nat.le_of_eq rfl) (hb hby at_12) (fun _ _ => ⟨rfl, eK110, (by decide : 2 + 2 ≤ _), (by decide : 36 + 36 ≤ _)⟩)
    dsimp only [Pt.U, Pt.locs, Pt.cells, Pt.slots] at X111' l111 y111 z111 st111 hQ111 hs111 hg111 C111
    subst l111 y111 z111
    obtain ⟨X111, hS111, hZ111, hown111⟩ := rebS hS110 (n1 := T110.heap.size) (by rw [eK110]; omega) X111' hs111 hg111 hZ110 hown110
    have hj111 : T111.heap.size ≤ T111.heap.size := Nat.le_refl _
    obtain ⟨v_111, rfl, Nq111, K111, f111_0⟩ := hQ111
    have N111 := Fr.app N110 Nq111
    have eK111 : T111.heap = T111.heap := rfl
    have CR111 := CR110.trans C111
    have z111 : T110.heap.size ≤ T111.heap.size := K111.1
    have KP111 : Keep h0 T111.heap ([] : List Addr) := KP110.trans K111 all0
    have F114 := (F112.keep K111 all0)
    obtain ⟨v113, _, ⟨T113, L113, k113, n113⟩, -, X113', hs113, hg113, ⟨Lc113, hQ113, l113, y113, z113, C113⟩, st113⟩ := callSS X111 hx (y := (⟨"flatfield/PrimitiveOfPinLaw", "draw", "(I)C"⟩ : MethodName)) hown111 (mvT hZ111 (w_0 hw)) (mvT hZ111 (w_1 hw)) (mvT hZ111 (w_2 hw)) (mvT hZ111 (w_3 hw)) (by decide) (backOfSH (s := s) (W := 0) (rmDraw l Z a0 hw [] p3 G1 G3 T111.heap hEL (by omega) F114 O2 P5 O4 rG3) hZ111 (w_3 hw) (w_2 hw) (by decide) (by decide) hEL CR111.1) (g := (mkF m 18 #[iv p0, iv p1, iv p2, iv p3, iv 0, iv v_110, iv v_111, .unset, .unset, .unset, .unset, .unset] [(.int p3)])) rfl (by rw [hml]; rfl) (argsL := [(.int p3)]) (rest := []) (lenOf pd_1 rfl) rfl (by show 2 * 0 + _ ≤ _; exact Nat.le_of_eq rfl) (hb hby at_18) (fun _ _ => ⟨rfl, eK111, (by decide : 4 + 2 ≤ _), (by decide : 72 + 36 ≤ _)⟩)
    dsimp only [Pt.U, Pt.locs, Pt.cells, Pt.slots] at X113' l113 y113 z113 st113 hQ113 hs113 hg113 C113
    subst l113 y113 z113
    obtain ⟨X113, hS113, hZ113, hown113⟩ := rebS hS111 (n1 := T111.heap.size) (by rw [eK111]; omega) X113' hs113 hg113 hZ111 hown111
    have hj113 : T113.heap.size ≤ T113.heap.size := Nat.le_refl _
    obtain ⟨v_113, rfl, Nq113, K113, f113_0⟩ := hQ113
    have N113 := Fr.app N111 Nq113
    have eK113 : T113.heap = T113.heap := rfl
    have CR113 := CR111.trans C113
    have z113 : T111.heap.size ≤ T113.heap.size := K113.1
    have KP113 : Keep h0 T113.heap ([] : List Addr) := KP111.trans K113 all0
    obtain ⟨T115, h115, k115, X115, e115, E115, A115, st115⟩ := newP (aty := .char) X113 hx hZ113 (w_4 hw) eK113 (g := (mkF m 25 #[iv p0, iv p1, iv p2, iv p3, iv 0, iv v_110, iv v_111, iv v_113, .unset, .unset, .unset, .unset] [(.int 0)])) rfl (hb hby at_25) rfl (by decide : ¬ ((0 : Int32) < (0 : Int32))) (cap := 0) (by decide) (by decide) (by decide) (by decide)
    obtain ⟨b115, g115⟩ : ∃ z, z = T113.heap.size := ⟨_, rfl⟩
    rw [← g115] at A115 st115
    have V115 : Arv Z h115 b115 k115 .char (0 : Int32) [] (.int 0) := (Arv.new A115 (by decide : ¬ ((0 : Int32) < (0 : Int32)))).pad (pad_rep [] (.int 0) 0)
    have u115 : h115.size > b115 := V115.lt
    have z115 : T113.heap.size ≤ h115.size := E115.1
    have CR115 := CR113.trans (CHr.ext E115 CR113.1)
    have KP115 : Keep h0 h115 ([] : List Addr) := KP113.ext E115
    obtain ⟨T116, h116, X116, e116, E116, A116, D116, -, st116⟩ := newO X115 hx hZ113 hown113 (w_5 hw) (w_6 hw) (w_7 hw) e115 (g := (mkF m 64 #[iv p0, iv p1, iv p2, iv p3, iv 0, iv v_110, iv v_111, iv v_113, rv b115, .unset, .unset, .unset] [])) rfl (hb hby at_64) (by decide) (by decide)
    obtain ⟨b116, g116⟩ : ∃ z, z = h115.size := ⟨_, rfl⟩
    rw [← g116] at A116 D116 st116
    have u116 : h116.size > b116 := A116.lt
    have z116 : h115.size ≤ h116.size := E116.1
    have CR116 := CR115.trans (CHr.ext E116 CR115.1)
    have KP116 : Keep h0 h116 ([] : List Addr) := KP115.ext E116
    have Fn116_20 : Fld Z h116 b116 "java/lang/String" "value" "[B" .null := D116 (Or.inr (w_20 hw)) (ty := (.array .byte)) (by decide)
    have Fn116_21 : Fld Z h116 b116 "java/lang/String" "coder" "B" (.int 0) := D116 (Or.inr (w_21 hw)) (ty := .byte) (by decide)
    have F118 := (V115.ext E116)
    obtain ⟨v117, _, ⟨T117, L117, k117, n117⟩, -, X117', hs117, hg117, ⟨Lc117, hQ117, l117, y117, z117, C117⟩, st117⟩ := X116.specialBackS hx (y := (⟨"java/lang/String", "<init>", "([C)V"⟩ : MethodName)) rfl hown113 (mvT hZ113 (w_8 hw)) (mvT hZ113 (w_9 hw)) (mvT hZ113 (w_10 hw)) (by decide) (backOfSH (s := s) (W := 1) (rmNew1 l Z a0 hw [] b116 b115 k115 h116 hEL (by omega) (by omega) A116 Fn116_21 Fn116_20 F118) hZ113 (w_10 hw) (w_7 hw) (by decide) (by decide) hEL CR116.1) (g := (mkF m 70 #[iv p0, iv p1, iv p2, iv p3, iv 0, iv v_110, iv v_111, iv v_113, rv b115, .unset, .unset, .unset] [(.ref b115), (.ref b116), (.ref b116)])) rfl (by rw [hml]; rfl) (Steps.refl _) (a := b116) (argsL := [(.ref b115)]) (rest := [(.ref b116)]) (lenOf pd_3 rfl) rfl (by show 2 * 0 + _ ≤ _; exact Nat.le_of_eq rfl) (hb hby at_70) (fun _ _ => ⟨rfl, e116, (by decide : 8 + 4 ≤ _), (by decide : 112 + 8 ≤ _)⟩)
    dsimp only [Pt.U, Pt.locs, Pt.cells, Pt.slots] at X117' l117 y117 z117 st117 hQ117 hs117 hg117 C117
    subst l117 y117 z117
    obtain ⟨X117, hS117, hZ117, hown117⟩ := rebS hS113 (n1 := T116.heap.size) (by rw [e116]; omega) X117' hs117 hg117 hZ113 hown113
    have hj117 : T117.heap.size ≤ T117.heap.size := Nat.le_refl _
    obtain ⟨t_117, kb_117, rfl, Nq117, K117, f117_0, f117_1, f117_2, f117_3⟩ := hQ117
    have N117 := Fr.app N113 Nq117
    have eK117 : T117.heap = T117.heap := rfl
    have CR117 := CR116.trans C117
    have z117 : h116.size ≤ T117.heap.size := K117.1
    have KP117 : Keep h0 T117.heap ([] : List Addr) := KP116.trans K117 (allS (P := fun x => x ∈ ([] : List Addr) ∨ h0.size ≤ x) (Or.inr (by omega)) all0)
    have u117_3 : T117.heap.size > t_117 := f117_3.lt
    refine Go.on (w := T116.setTop (mkF m 70 #[iv p0, iv p1, iv p2, iv p3, iv 0, iv v_110, iv v_111, iv v_113, rv b115, .unset, .unset, .unset] [(.ref b115), (.ref b116), (.ref b116)])) (fun t k => XS.istore X0.here hx rfl (hb hby at_3) rfl (l' := #[iv p0, iv p1, iv p2, iv p3, iv 0, .unset, .unset, .unset, .unset, .unset, .unset, .unset]) rfl (XS.iloadN X0.here hx rfl (hb hby at_5) rfl (st110.trans (XS.istore X110.here hx rfl (hb hby at_9) rfl (l' := #[iv p0, iv p1, iv p2, iv p3, iv 0, iv v_110, .unset, .unset, .unset, .unset, .unset, .unset]) rfl (XS.iloadN X110.here hx rfl (hb hby at_11) rfl (st111.trans (XS.istore X111.here hx rfl (hb hby at_15) rfl (l' := #[iv p0, iv p1, iv p2, iv p3, iv 0, iv v_110, iv v_111, .unset, .unset, .unset, .unset, .unset]) rfl (XS.iloadN X111.here hx rfl (hb hby at_17) rfl (st113.trans (XS.istore X113.here hx rfl (hb hby at_21) rfl (l' := #[iv p0, iv p1, iv p2, iv p3, iv 0, iv v_110, iv v_111, iv v_113, .unset, .unset, .unset, .unset]) rfl (XS.iload X113.here hx rfl (hb hby at_23) rfl (st115 _ (XS.astore X115.here hx rfl (hb hby at_27) rfl rfl (l' := #[iv p0, iv p1, iv p2, iv p3, iv 0, iv v_110, iv v_111, iv v_113, rv b115, .unset, .unset, .unset]) rfl (XS.iload X115.here hx rfl (hb hby at_29) rfl (XS.ifYes X115.here hx rfl (pc0 := 31) (pc' := 40) rfl (hb hby at_31) rfl ((if0 _ _).trans (flt (by decide : ¬ ((0 : Int32) < (0 : Int32)))).2.2.2) (by decide) (by decide) (XS.iload X115.here hx rfl (hb hby at_40) rfl (XS.iconst X115.here hx rfl (hb hby at_42) (XS.icmpYes X115.here hx rfl (pc0 := 43) (pc' := 52) rfl (hb hby at_43) rfl (flt (by decide : ¬ ((1 : Int32) < (0 : Int32)))).2.2.2 (by decide) (by decide) (XS.iload X115.here hx rfl (hb hby at_52) rfl (XS.iconst X115.here hx rfl (hb hby at_54) (XS.icmpYes X115.here hx rfl (pc0 := 55) (pc' := 64) rfl (hb hby at_55) rfl (flt (by decide : ¬ ((2 : Int32) < (0 : Int32)))).2.2.2 (by decide) (by decide) (st116 _ (XS.dup X116.here hx rfl (hb hby at_67) rfl rfl (XS.aload X116.here hx rfl (hb hby at_68) rfl rfl k)))))))))))))))))))))))) ?_
    refine Go.on (w := T117.setTop (mkF m 73 #[iv p0, iv p1, iv p2, iv p3, iv 0, iv v_110, iv v_111, iv v_113, rv b115, .unset, .unset, .unset] [(.ref b116)])) (fun t k => st117.trans k) ?_
    refine Go.on (w := T117.setTop (mkF m 77 #[iv p0, iv p1, iv p2, iv p3, iv 0, iv v_110, iv v_111, iv v_113, rv b115, rv b116, .unset, .unset] [(.ref b116)])) (fun t k => XS.astore X117.here hx rfl (hb hby at_73) rfl rfl (l' := #[iv p0, iv p1, iv p2, iv p3, iv 0, iv v_110, iv v_111, iv v_113, rv b115, rv b116, .unset, .unset]) rfl (XS.aload X117.here hx rfl (hb hby at_75) rfl rfl k)) ?_
    have F120 := ((((F114.keep K113 all0).ext E115).ext E116).keep K117 (allS (by omega) all0))
    obtain ⟨v119, _, ⟨T119, L119, k119, n119⟩, -, X119, ⟨Lc119, hQ119, l119, y119, z119⟩, st119⟩ := Jvm.LawKit.callS X117 hx (y := (⟨"flatfield/Primitive", "of", "(Ljava/lang/String;)Lflatfield/Primitive;"⟩ : MethodName)) hown117 (mvT hZ117 (w_26 hw)) (mvT hZ117 (w_27 hw)) (mvT hZ117 (w_28 hw)) (mvT hZ117 (w_29 hw)) (by decide) (backOf (W := 0) (rmOf l Z a0 hw [] b116 t_117 kb_117 ([] : List Int32) G1 al qa k0 s0 t0 q0 k1 s1 t1 q1 k2 s2 t2 q2 k3 s3 t3 q3 k4 s4 t4 q4 k5 s5 t5 q5 k6 s6 t6 q6 k7 s7 t7 q7 T117.heap F120 O2 P5 OA VA W0_0 W0_1 W0_2 W0_3 W0_4 W1_0 W1_1 W1_2 W1_3 W1_4 W2_0 W2_1 W2_2 W2_3 W2_4 W3_0 W3_1 W3_2 W3_3 W3_4 W4_0 W4_1 W4_2 W4_3 W4_4 W5_0 W5_1 W5_2 W5_3 W5_4 W6_0 W6_1 W6_2 W6_3 W6_4 W7_0 W7_1 W7_2 W7_3 W7_4 f117_0 f117_1 f117_2 f117_3 (fun _ q => nomatch q) (Nat.le_of_ble_eq_true rfl)) hZ117 (w_29 hw) (w_28 hw) (by decide) (by decide)) (g := (mkF m 77 #[iv p0, iv p1, iv p2, iv p3, iv 0, iv v_110, iv v_111, iv v_113, rv b115, rv b116, .unset, .unset] [(.ref b116)])) rfl (by rw [hml]; rfl) (argsL := [(.ref b116)]) (rest := []) (lenOf pd_4 rfl) rfl (by show 2 * 0 + _ ≤ _; exact Nat.le_of_eq rfl) (hb hby at_77) (fun _ _ => ⟨rfl, eK117, (by decide : 12 + 0 ≤ _), (by decide : 120 + 0 ≤ _)⟩)
    dsimp only [Pt.U, Pt.locs, Pt.cells, Pt.slots] at X119 l119 y119 z119 st119 hQ119
    subst l119 y119 z119
    obtain ⟨hv119, Nq119, eh119⟩ := hQ119
    obtain rfl : v119 = some .null := hv119.trans (congrArg some (own_ofNull ([] : List Int32) (by simp)))
    have N119 := Fr.app N117 Nq119
    refine Go.on (w := T119.setTop (mkF m 110 #[iv p0, iv p1, iv p2, iv p3, iv 0, iv v_110, iv v_111, iv v_113, rv b115, rv b116, .val .null, .val .null] [(.int 1)])) (fun t k => st119 _ (XS.astore X119.here hx rfl (hb hby at_80) rfl rfl (l' := #[iv p0, iv p1, iv p2, iv p3, iv 0, iv v_110, iv v_111, iv v_113, rv b115, rv b116, .val .null, .unset]) rfl (XS.aconstNull X119.here hx rfl (hb hby at_82) (XS.astore X119.here hx rfl (hb hby at_83) rfl rfl (l' := #[iv p0, iv p1, iv p2, iv p3, iv 0, iv v_110, iv v_111, iv v_113, rv b115, rv b116, .val .null, .val .null]) rfl (XS.iload X119.here hx rfl (hb hby at_85) rfl (XS.iconst X119.here hx rfl (hb hby at_87) (XS.icmpYes X119.here hx rfl (pc0 := 88) (pc' := 98) rfl (hb hby at_88) rfl (feq (by decide : ¬ ((0 : Int32) = (1 : Int32)))).2 (by decide) (by decide) (XS.aload X119.here hx rfl (hb hby at_98) rfl rfl (XS.aload X119.here hx rfl (hb hby at_100) rfl rfl (Jvm.RoadKit.acmp (g := (mkF m 102 #[iv p0, iv p1, iv p2, iv p3, iv 0, iv v_110, iv v_111, iv v_113, rv b115, rv b116, .val .null, .val .null] [.null, .null])) X119 hx rfl rfl rfl (pc0 := 102) (pc' := 105) (same := true) rfl (hb hby at_102) rfl (decide_eq_true rfl) (by decide) (by decide) (XS.iconst X119.here hx rfl (hb hby at_105) (XS.goto X119.here hx rfl (pc0 := 106) (pc' := 110) rfl (hb hby at_106) (by decide) (by decide) k)))))))))))) ?_
    have CE121 := CR117.trans (CHv.at X119 hZ117 hEL CR117.1)
    refine Go.fin X119 hS117 (by rw [eh119]; omega) hlk (v := some (.int 1)) (fun h => by rw [Bd.returns] at h; cases h) (fun fs hr => ?_) (endP (Q := Q_rm0 Z p0 p1 p2 p3 G1 G3 al qa k0 s0 t0 q0 k1 s1 t1 q1 k2 s2 t2 q2 k3 s3 t3 q3 k4 s4 t4 q4 k5 s5 t5 q5 k6 s6 t6 q6 k7 s7 t7 q7 h0) (by rw [eh119]; exact ⟨rfl, N119, KP117⟩) (by rw [eh119]; exact CE121) (by decide) (by decide))
    exact retN X119 hx (t := .boolean) Bd.returns (by simp) (hb hby at_110) hr
  ·
    refine Go.on (w := s₁.setTop (mkF m 2 #[iv p0, iv p1, iv p2, iv p3, .unset, .unset, .unset, .unset, .unset, .unset, .unset, .unset] [(.int 3), (.int p0)])) (fun t k => XS.iloadN X0.here hx rfl (hb hby at_0) rfl (XS.iconst X0.here hx rfl (hb hby at_1) k)) ?_
    refine Go.on (w := s₁.setTop (mkF m 3 #[iv p0, iv p1, iv p2, iv p3, .unset, .unset, .unset, .unset, .unset, .unset, .unset, .unset] [(.int 1)])) (fun t k => XS.iand X0.here hx rfl (hb hby at_2) rfl (by rw [(hn : (p0 &&& (3 : Int32)) = (1 : Int32))]; exact k)) ?_
    obtain ⟨v122, _, ⟨T122, L122, k122, n122⟩, -, X122', hs122, hg122, ⟨Lc122, hQ122, l122, y122, z122, C122⟩, st122⟩ := callSS X0 hx (y := (⟨"flatfield/PrimitiveOfPinLaw", "draw", "(I)C"⟩ : MethodName)) hown0 (mvT hZ0 (w_0 hw)) (mvT hZ0 (w_1 hw)) (mvT hZ0 (w_2 hw)) (mvT hZ0 (w_3 hw)) (by decide) (backOfSH (s := s) (W := 0) (rmDraw l Z a0 hw [] p1 G1 G3 h0 hEL (by omega) OL O2 P5 O4 rG3) hZ0 (w_3 hw) (w_2 hw) (by decide) (by decide) hEL CR0.1) (g := (mkF m 6 #[iv p0, iv p1, iv p2, iv p3, iv 1, .unset, .unset, .unset, .unset, .unset, .unset, .unset] [(.int p1)])) rfl (by rw [hml]; rfl) (argsL := [(.int p1)]) (rest := []) (lenOf pd_1 rfl) rfl (by show 2 * 0 + _ ≤ _; exact Nat.le_of_eq rfl) (hb hby at_6) (fun _ _ => ⟨rfl, e0, (by decide : 0 + 2 ≤ _), (by decide : 0 + 36 ≤ _)⟩)
    dsimp only [Pt.U, Pt.locs, Pt.cells, Pt.slots] at X122' l122 y122 z122 st122 hQ122 hs122 hg122 C122
    subst l122 y122 z122
    obtain ⟨X122, hS122, hZ122, hown122⟩ := rebS hS0 (n1 := s₁.heap.size) (by rw [e0]; omega) X122' hs122 hg122 hZ0 hown0
    have hj122 : T122.heap.size ≤ T122.heap.size := Nat.le_refl _
    obtain ⟨v_122, rfl, Nq122, K122, f122_0⟩ := hQ122
    have N122 := Fr.app N0 Nq122
    have eK122 : T122.heap = T122.heap := rfl
    have CR122 := CR0.trans C122
    have z122 : h0.size ≤ T122.heap.size := K122.1
    have KP122 : Keep h0 T122.heap ([] : List Addr) := KP0.trans K122 all0
    have F124 := (OL.keep K122 all0)
    obtain ⟨v123, _, ⟨T123, L123, k123, n123⟩, -, X123', hs123, hg123, ⟨Lc123, hQ123, l123, y123, z123, C123⟩, st123⟩ := callSS X122 hx (y := (⟨"flatfield/PrimitiveOfPinLaw", "draw", "(I)C"⟩ : MethodName)) hown122 (mvT hZ122 (w_0 hw)) (mvT hZ122 (w_1 hw)) (mvT hZ122 (w_2 hw)) (mvT hZ122 (w_3 hw)) (by decide) (backOfSH (s := s) (W := 0) (rmDraw l Z a0 hw [] p2 G1 G3 T122.heap hEL (by omega) F124 O2 P5 O4 rG3) hZ122 (w_3 hw) (w_2 hw) (by decide) (by decide) hEL CR122.1) (g := (mkF m 12 #[iv p0, iv p1, iv p2, iv p3, iv 1, iv v_122, .unset, .unset, .unset, .unset, .unset, .unset] [(.int p2)])) rfl (by rw [hml]; rfl) (argsL := [(.int p2)]) (rest := []) (lenOf pd_1 rfl) rfl (by show 2 * 0 + _ ≤ _; exact Nat.le_of_eq rfl) (hb hby at_12) (fun _ _ => ⟨rfl, eK122, (by decide : 2 + 2 ≤ _), (by decide : 36 + 36 ≤ _)⟩)
    dsimp only [Pt.U, Pt.locs, Pt.cells, Pt.slots] at X123' l123 y123 z123 st123 hQ123 hs123 hg123 C123
    subst l123 y123 z123
    obtain ⟨X123, hS123, hZ123, hown123⟩ := rebS hS122 (n1 := T122.heap.size) (by rw [eK122]; omega) X123' hs123 hg123 hZ122 hown122
    have hj123 : T123.heap.size ≤ T123.heap.size := Nat.le_refl _
    obtain ⟨v_123, rfl, Nq123, K123, f123_0⟩ := hQ123
    have N123 := Fr.app N122 Nq123
    have eK123 : T123.heap = T123.heap := rfl
    have CR123 := CR122.trans C123
    have z123 : T122.heap.size ≤ T123.heap.size := K123.1
    have KP123 : Keep h0 T123.heap ([] : List Addr) := KP122.trans K123 all0
    have F126 := (F124.keep K123 all0)
    obtain ⟨v125, _, ⟨T125, L125, k125, n125⟩, -, X125', hs125, hg125, ⟨Lc125, hQ125, l125, y125, z125, C125⟩, st125⟩ := callSS X123 hx (y := (⟨"flatfield/PrimitiveOfPinLaw", "draw", "(I)C"⟩ : MethodName)) hown123 (mvT hZ123 (w_0 hw)) (mvT hZ123 (w_1 hw)) (mvT hZ123 (w_2 hw)) (mvT hZ123 (w_3 hw)) (by decide) (backOfSH (s := s) (W := 0) (rmDraw l Z a0 hw [] p3 G1 G3 T123.heap hEL (by omega) F126 O2 P5 O4 rG3) hZ123 (w_3 hw) (w_2 hw) (by decide) (by decide) hEL CR123.1) (g := (mkF m 18 #[iv p0, iv p1, iv p2, iv p3, iv 1, iv v_122, iv v_123, .unset, .unset, .unset, .unset, .unset] [(.int p3)])) rfl (by rw [hml]; rfl) (argsL := [(.int p3)]) (rest := []) (lenOf pd_1 rfl) rfl (by show 2 * 0 + _ ≤ _; exact Nat.le_of_eq rfl) (hb hby at_18) (fun _ _ => ⟨rfl, eK123, (by decide : 4 + 2 ≤ _), (by decide : 72 + 36 ≤ _)⟩)
    dsimp only [Pt.U, Pt.locs, Pt.cells, Pt.slots] at X125' l125 y125 z125 st125 hQ125 hs125 hg125 C125
    subst l125 y125 z125
    obtain ⟨X125, hS125, hZ125, hown125⟩ := rebS hS123 (n1 := T123.heap.size) (by rw [eK123]; omega) X125' hs125 hg125 hZ123 hown123
    have hj125 : T125.heap.size ≤ T125.heap.size := Nat.le_refl _
    obtain ⟨v_125, rfl, Nq125, K125, f125_0⟩ := hQ125
    have N125 := Fr.app N123 Nq125
    have eK125 : T125.heap = T125.heap := rfl
    have CR125 := CR123.trans C125
    have z125 : T123.heap.size ≤ T125.heap.size := K125.1
    have KP125 : Keep h0 T125.heap ([] : List Addr) := KP123.trans K125 all0
    obtain ⟨T127, h127, k127, X127, e127, E127, A127, st127⟩ := newP (aty := .char) X125 hx hZ125 (w_4 hw) eK125 (g := (mkF m 25 #[iv p0, iv p1, iv p2, iv p3, iv 1, iv v_122, iv v_123, iv v_125, .unset, .unset, .unset, .unset] [(.int 1)])) rfl (hb hby at_25) rfl (by decide : ¬ ((1 : Int32) < (0 : Int32))) (cap := 1) (by decide) (by decide) (by decide) (by decide)
    obtain ⟨b127, g127⟩ : ∃ z, z = T125.heap.size := ⟨_, rfl⟩
    rw [← g127] at A127 st127
    have V127 : Arv Z h127 b127 k127 .char (1 : Int32) [(.int 0)] (.int 0) := (Arv.new A127 (by decide : ¬ ((1 : Int32) < (0 : Int32)))).pad (pad_rep [] (.int 0) 1)
    have u127 : h127.size > b127 := V127.lt
    have z127 : T125.heap.size ≤ h127.size := E127.1
    have CR127 := CR125.trans (CHr.ext E127 CR125.1)
    have KP127 : Keep h0 h127 ([] : List Addr) := KP125.ext E127
    obtain ⟨cl128, Ar128, q128, S128, M128, H128, U128⟩ := id V127
    obtain ⟨T128, h128, X128, e128, W128, st128⟩ := stC X127 hx hZ125 e127 Ar128 (j := (0 : Int32)) (inb_of S128 ⟨(by decide), (by decide)⟩) (g := (mkF m 39 #[iv p0, iv p1, iv p2, iv p3, iv 1, iv v_122, iv v_123, iv v_125, rv b127, .unset, .unset, .unset] [(.int v_122), (.int 0), (.ref b127)])) rfl rfl (hb hby at_39)
    have V128 : Arv Z h128 b127 k127 .char (1 : Int32) [(.int v_122)] (.int 0) := by rw [← (own_nar f122_0.1 f122_0.2 : nar .char v_122 = v_122)]; exact (Arv.set Ar128 q128 S128 M128 H128 U128 (fits_nar_char _) W128 0 rfl (Nat.le_of_ble_eq_true rfl))
    have CR128 := CR127.trans (CHr.wr W128 (Safe.arv hZ125.alike V127 (by decide)) CR127.1)
    have z128 : h127.size ≤ h128.size := Nat.le_of_eq W128.size.symm
    have KP128 : Keep h0 h128 ([] : List Addr) := KP127.wr W128 (Or.inr (by omega))
    have N128 := Fr.snoc X128 N125 (by omega)
    refine Go.on (w := T128.setTop (mkF m 55 #[iv p0, iv p1, iv p2, iv p3, iv 1, iv v_122, iv v_123, iv v_125, rv b127, .unset, .unset, .unset] [(.int 2), (.int 1)])) (fun t k => XS.istore X0.here hx rfl (hb hby at_3) rfl (l' := #[iv p0, iv p1, iv p2, iv p3, iv 1, .unset, .unset, .unset, .unset, .unset, .unset, .unset]) rfl (XS.iloadN X0.here hx rfl (hb hby at_5) rfl (st122.trans (XS.istore X122.here hx rfl (hb hby at_9) rfl (l' := #[iv p0, iv p1, iv p2, iv p3, iv 1, iv v_122, .unset, .unset, .unset, .unset, .unset, .unset]) rfl (XS.iloadN X122.here hx rfl (hb hby at_11) rfl (st123.trans (XS.istore X123.here hx rfl (hb hby at_15) rfl (l' := #[iv p0, iv p1, iv p2, iv p3, iv 1, iv v_122, iv v_123, .unset, .unset, .unset, .unset, .unset]) rfl (XS.iloadN X123.here hx rfl (hb hby at_17) rfl (st125.trans (XS.istore X125.here hx rfl (hb hby at_21) rfl (l' := #[iv p0, iv p1, iv p2, iv p3, iv 1, iv v_122, iv v_123, iv v_125, .unset, .unset, .unset, .unset]) rfl (XS.iload X125.here hx rfl (hb hby at_23) rfl (st127 _ (XS.astore X127.here hx rfl (hb hby at_27) rfl rfl (l' := #[iv p0, iv p1, iv p2, iv p3, iv 1, iv v_122, iv v_123, iv v_125, rv b127, .unset, .unset, .unset]) rfl (XS.iload X127.here hx rfl (hb hby at_29) rfl (XS.ifNo X127.here hx rfl (hb hby at_31) rfl ((if0 _ _).trans (tlt (by decide : (0 : Int32) < (1 : Int32))).2.2.2) (XS.aload X127.here hx rfl (hb hby at_34) rfl rfl (XS.iconst X127.here hx rfl (hb hby at_36) (XS.iload X127.here hx rfl (hb hby at_37) rfl (st128 _ (XS.iload X128.here hx rfl (hb hby at_40) rfl (XS.iconst X128.here hx rfl (hb hby at_42) (XS.icmpYes X128.here hx rfl (pc0 := 43) (pc' := 52) rfl (hb hby at_43) rfl (flt (by decide : ¬ ((1 : Int32) < (1 : Int32)))).2.2.2 (by decide) (by decide) (XS.iload X128.here hx rfl (hb hby at_52) rfl (XS.iconst X128.here hx rfl (hb hby at_54) k)))))))))))))))))))))))) ?_
    refine Go.on (w := T128.setTop (mkF m 64 #[iv p0, iv p1, iv p2, iv p3, iv 1, iv v_122, iv v_123, iv v_125, rv b127, .unset, .unset, .unset] [])) (fun t k => XS.icmpYes X128.here hx rfl (pc0 := 55) (pc' := 64) rfl (hb hby at_55) rfl (flt (by decide : ¬ ((2 : Int32) < (1 : Int32)))).2.2.2 (by decide) (by decide) k) ?_
    obtain ⟨T129, h129, X129, e129, E129, A129, D129, -, st129⟩ := newO X128 hx hZ125 hown125 (w_5 hw) (w_6 hw) (w_7 hw) e128 (g := (mkF m 64 #[iv p0, iv p1, iv p2, iv p3, iv 1, iv v_122, iv v_123, iv v_125, rv b127, .unset, .unset, .unset] [])) rfl (hb hby at_64) (by decide) (by decide)
    obtain ⟨b129, g129⟩ : ∃ z, z = h128.size := ⟨_, rfl⟩
    rw [← g129] at A129 D129 st129
    have u129 : h129.size > b129 := A129.lt
    have z129 : h128.size ≤ h129.size := E129.1
    have CR129 := CR128.trans (CHr.ext E129 CR128.1)
    have KP129 : Keep h0 h129 ([] : List Addr) := KP128.ext E129
    have Fn129_20 : Fld Z h129 b129 "java/lang/String" "value" "[B" .null := D129 (Or.inr (w_20 hw)) (ty := (.array .byte)) (by decide)
    have Fn129_21 : Fld Z h129 b129 "java/lang/String" "coder" "B" (.int 0) := D129 (Or.inr (w_21 hw)) (ty := .byte) (by decide)
    have F130 := (V128.ext E129)
    have F131 := ((((F126.keep K125 all0).ext E127).wr W128 (by omega)).ext E129)
    refine Go.on (w := T129.setTop (mkF m 70 #[iv p0, iv p1, iv p2, iv p3, iv 1, iv v_122, iv v_123, iv v_125, rv b127, .unset, .unset, .unset] [(.ref b127), (.ref b129), (.ref b129)])) (fun t k => st129 _ (XS.dup X129.here hx rfl (hb hby at_67) rfl rfl (XS.aload X129.here hx rfl (hb hby at_68) rfl rfl k))) ?_
    have hp132 : ∀ c ∈ ([v_122] : List Int32), ¬ c < 0 ∧ ¬ (255 : Int32) < c := by
      intro c hc
      simp only [List.mem_cons, List.not_mem_nil, or_false] at hc
      rcases hc with rfl
      · exact f122_0
    obtain ⟨v133, _, ⟨T133, L133, k133, n133⟩, -, X133, ⟨Lc133, hQ133, l133, y133, z133⟩, st133⟩ := X129.specialBack hx (y := (⟨"java/lang/String", "<init>", "([C)V"⟩ : MethodName)) rfl hown125 (mvT hZ125 (w_8 hw)) (mvT hZ125 (w_9 hw)) (mvT hZ125 (w_10 hw)) (by decide) (StrChars.Road.backV (W := 1) hZ125 (hStrW hw) (kI := 4) (w_6 hw) (cs := ([v_122] : List Int32)) (bs := ([v_122] : List Int32).map (fun c => c.toInt8.toInt32)) (n := 1) (n0 := Z.heap.size) (by omega) (by omega) A129 Fn129_20 Fn129_21 F130 (O2.ext F131.2) P5 rfl rfl (by decide) (by decide) hp132 rfl (by decide) (by decide)) (g := (mkF m 70 #[iv p0, iv p1, iv p2, iv p3, iv 1, iv v_122, iv v_123, iv v_125, rv b127, .unset, .unset, .unset] [(.ref b127), (.ref b129), (.ref b129)])) rfl (by rw [hml]; rfl) (Steps.refl _) (a := b129) (argsL := [(.ref b127)]) (rest := [(.ref b129)]) (lenOf pd_3 rfl) rfl (by show 2 * 0 + _ ≤ _; exact Nat.le_of_eq rfl) (hb hby at_70) (fun _ _ => ⟨rfl, e129, (by decide : 8 + 1 ≤ _), (by decide : 113 + 1 ≤ _)⟩)
    dsimp only [Pt.U, Pt.locs, Pt.cells, Pt.slots] at X133 l133 y133 z133 st133 hQ133
    subst l133 y133 z133
    obtain ⟨rfl, Nq133, K133, Ex133, Fc133, t133, kb133, -, ht133, hne133, Fv133, Av133⟩ := hQ133
    have N133 := Fr.app N128 Nq133
    have eK133 : T133.heap = T133.heap := rfl
    have CR133 := CR129.trans (CHr.keep K133 (sfS (own_safeNull hZ125.alike A129 Fn129_20) sf0) CR129.1)
    have z133 : h129.size ≤ T133.heap.size := K133.1
    have KP133 : Keep h0 T133.heap ([] : List Addr) := KP129.trans K133 (allS (P := fun x => x ∈ ([] : List Addr) ∨ h0.size ≤ x) (Or.inr (by omega)) all0)
    have ut133 : T133.heap.size > t133 := Av133.lt
    refine Go.on (w := T133.setTop (mkF m 77 #[iv p0, iv p1, iv p2, iv p3, iv 1, iv v_122, iv v_123, iv v_125, rv b127, rv b129, .unset, .unset] [(.ref b129)])) (fun t k => st133.trans (XS.astore X133.here hx rfl (hb hby at_73) rfl rfl (l' := #[iv p0, iv p1, iv p2, iv p3, iv 1, iv v_122, iv v_123, iv v_125, rv b127, rv b129, .unset, .unset]) rfl (XS.aload X133.here hx rfl (hb hby at_75) rfl rfl k))) ?_
    obtain ⟨gv, hgv⟩ : ∃ z : Value, own_of k0 k1 k2 k3 k4 k5 k6 k7 ([v_122] : List Int32) = z := ⟨_, rfl⟩
    rcases ref_cases (hgv ▸ own_ofRef : gv.isRef = true) with rfl | ⟨ga, rfl⟩
    ·
      have F135 := (F131.keep K133 (allS (by omega) all0))
      obtain ⟨v134, _, ⟨T134, L134, k134, n134⟩, -, X134, ⟨Lc134, hQ134, l134, y134, z134⟩, st134⟩ := Jvm.LawKit.callS X133 hx (y := (⟨"flatfield/Primitive", "of", "(Ljava/lang/String;)Lflatfield/Primitive;"⟩ : MethodName)) hown125 (mvT hZ125 (w_26 hw)) (mvT hZ125 (w_27 hw)) (mvT hZ125 (w_28 hw)) (mvT hZ125 (w_29 hw)) (by decide) (backOf (W := 0) (rmOf l Z a0 hw [] b129 t133 kb133 ([v_122] : List Int32) G1 al qa k0 s0 t0 q0 k1 s1 t1 q1 k2 s2 t2 q2 k3 s3 t3 q3 k4 s4 t4 q4 k5 s5 t5 q5 k6 s6 t6 q6 k7 s7 t7 q7 T133.heap F135 O2 P5 OA VA W0_0 W0_1 W0_2 W0_3 W0_4 W1_0 W1_1 W1_2 W1_3 W1_4 W2_0 W2_1 W2_2 W2_3 W2_4 W3_0 W3_1 W3_2 W3_3 W3_4 W4_0 W4_1 W4_2 W4_3 W4_4 W5_0 W5_1 W5_2 W5_3 W5_4 W6_0 W6_1 W6_2 W6_3 W6_4 W7_0 W7_1 W7_2 W7_3 W7_4 Ex133 Fc133 Fv133 Av133 hp132 (Nat.le_of_ble_eq_true rfl)) hZ125 (w_29 hw) (w_28 hw) (by decide) (by decide)) (g := (mkF m 77 #[iv p0, iv p1, iv p2, iv p3, iv 1, iv v_122, iv v_123, iv v_125, rv b127, rv b129, .unset, .unset] [(.ref b129)])) rfl (by rw [hml]; rfl) (argsL := [(.ref b129)]) (rest := []) (lenOf pd_4 rfl) rfl (by show 2 * 0 + _ ≤ _; exact Nat.le_of_eq rfl) (hb hby at_77) (fun _ _ => ⟨rfl, eK133, (by decide : 9 + 0 ≤ _), (by decide : 114 + 0 ≤ _)⟩)
      dsimp only [Pt.U, Pt.locs, Pt.cells, Pt.slots] at X134 l134 y134 z134 st134 hQ134
      subst l134 y134 z134
      obtain ⟨hv134, Nq134, eh134⟩ := hQ134
      obtain rfl : v134 = some .null := hv134.trans (congrArg some hgv)
      have N134 := Fr.app N133 Nq134
      obtain ⟨v136, _, ⟨T136, L136, k136, n136⟩, -, X136, ⟨Lc136, hQ136, l136, y136, z136⟩, st136⟩ := Jvm.LawKit.callS X134 hx (y := (⟨"flatfield/PrimitiveOfPinLaw", "expected", "(C)Lflatfield/Primitive;"⟩ : MethodName)) hown125 (mvT hZ125 (w_85 hw)) (mvT hZ125 (w_86 hw)) (mvT hZ125 (w_2 hw)) (mvT hZ125 (w_87 hw)) (by decide) (backOf (W := 0) (rmExp l Z a0 hw [] v_122 k0 k1 k2 k3 k4 k5 k6 k7 T133.heap F135 OK0 OK1 OK2 OK3 OK4 OK5 OK6 OK7) hZ125 (w_87 hw) (w_2 hw) (by decide) (by decide)) (g := (mkF m 93 #[iv p0, iv p1, iv p2, iv p3, iv 1, iv v_122, iv v_123, iv v_125, rv b127, rv b129, .val .null, .val .null] [(.int v_122)])) rfl (by rw [hml]; rfl) (argsL := [(.int v_122)]) (rest := []) (lenOf pd_5 rfl) rfl (by show 2 * 0 + _ ≤ _; exact Nat.le_of_eq rfl) (hb hby at_93) (fun _ _ => ⟨rfl, eh134, (by decide : 9 + 0 ≤ _), (by decide : 114 + 0 ≤ _)⟩)
      dsimp only [Pt.U, Pt.locs, Pt.cells, Pt.slots] at X136 l136 y136 z136 st136 hQ136
      subst l136 y136 z136
      obtain ⟨hv136, Nq136, eh136⟩ := hQ136
      obtain rfl : v136 = some .null := hv136.trans (congrArg some (own_exOf.trans hgv))
      have N136 := Fr.app N134 Nq136
      refine Go.on (w := T136.setTop (mkF m 110 #[iv p0, iv p1, iv p2, iv p3, iv 1, iv v_122, iv v_123, iv v_125, rv b127, rv b129, .val .null, .val .null] [(.int 1)])) (fun t k => st134 _ (XS.astore X134.here hx rfl (hb hby at_80) rfl rfl (l' := #[iv p0, iv p1, iv p2, iv p3, iv 1, iv v_122, iv v_123, iv v_125, rv b127, rv b129, .val .null, .unset]) rfl (XS.aconstNull X134.here hx rfl (hb hby at_82) (XS.astore X134.here hx rfl (hb hby at_83) rfl rfl (l' := #[iv p0, iv p1, iv p2, iv p3, iv 1, iv v_122, iv v_123, iv v_125, rv b127, rv b129, .val .null, .val .null]) rfl (XS.iload X134.here hx rfl (hb hby at_85) rfl (XS.iconst X134.here hx rfl (hb hby at_87) (XS.icmpNo X134.here hx rfl (hb hby at_88) rfl (teq (by decide : (1 : Int32) = (1 : Int32))).2 (XS.iload X134.here hx rfl (hb hby at_91) rfl (st136 _ (XS.astore X136.here hx rfl (hb hby at_96) rfl rfl (l' := #[iv p0, iv p1, iv p2, iv p3, iv 1, iv v_122, iv v_123, iv v_125, rv b127, rv b129, .val .null, .val .null]) rfl (XS.aload X136.here hx rfl (hb hby at_98) rfl rfl (XS.aload X136.here hx rfl (hb hby at_100) rfl rfl (Jvm.RoadKit.acmp (g := (mkF m 102 #[iv p0, iv p1, iv p2, iv p3, iv 1, iv v_122, iv v_123, iv v_125, rv b127, rv b129, .val .null, .val .null] [.null, .null])) X136 hx rfl rfl rfl (pc0 := 102) (pc' := 105) (same := true) rfl (hb hby at_102) rfl (decide_eq_true rfl) (by decide) (by decide) (XS.iconst X136.here hx rfl (hb hby at_105) (XS.goto X136.here hx rfl (pc0 := 106) (pc' := 110) rfl (hb hby at_106) (by decide) (by decide) k))))))))))))))) ?_
      have CE137 := CR133.trans (CHv.at X136 hZ125 hEL CR133.1)
      refine Go.fin X136 hS125 (by rw [eh136]; omega) hlk (v := some (.int 1)) (fun h => by rw [Bd.returns] at h; cases h) (fun fs hr => ?_) (endP (Q := Q_rm0 Z p0 p1 p2 p3 G1 G3 al qa k0 s0 t0 q0 k1 s1 t1 q1 k2 s2 t2 q2 k3 s3 t3 q3 k4 s4 t4 q4 k5 s5 t5 q5 k6 s6 t6 q6 k7 s7 t7 q7 h0) (by rw [eh136]; exact ⟨rfl, N136, KP133⟩) (by rw [eh136]; exact CE137) (by decide) (by decide))
      exact retN X136 hx (t := .boolean) Bd.returns (by simp) (hb hby at_110) hr
    ·
      have F139 := (F131.keep K133 (allS (by omega) all0))
      obtain ⟨v138, _, ⟨T138, L138, k138, n138⟩, -, X138, ⟨Lc138, hQ138, l138, y138, z138⟩, st138⟩ := Jvm.LawKit.callS X133 hx (y := (⟨"flatfield/Primitive", "of", "(Ljava/lang/String;)Lflatfield/Primitive;"⟩ : MethodName)) hown125 (mvT hZ125 (w_26 hw)) (mvT hZ125 (w_27 hw)) (mvT hZ125 (w_28 hw)) (mvT hZ125 (w_29 hw)) (by decide) (backOf (W := 0) (rmOf l Z a0 hw [] b129 t133 kb133 ([v_122] : List Int32) G1 al qa k0 s0 t0 q0 k1 s1 t1 q1 k2 s2 t2 q2 k3 s3 t3 q3 k4 s4 t4 q4 k5 s5 t5 q5 k6 s6 t6 q6 k7 s7 t7 q7 T133.heap F139 O2 P5 OA VA W0_0 W0_1 W0_2 W0_3 W0_4 W1_0 W1_1 W1_2 W1_3 W1_4 W2_0 W2_1 W2_2 W2_3 W2_4 W3_0 W3_1 W3_2 W3_3 W3_4 W4_0 W4_1 W4_2 W4_3 W4_4 W5_0 W5_1 W5_2 W5_3 W5_4 W6_0 W6_1 W6_2 W6_3 W6_4 W7_0 W7_1 W7_2 W7_3 W7_4 Ex133 Fc133 Fv133 Av133 hp132 (Nat.le_of_ble_eq_true rfl)) hZ125 (w_29 hw) (w_28 hw) (by decide) (by decide)) (g := (mkF m 77 #[iv p0, iv p1, iv p2, iv p3, iv 1, iv v_122, iv v_123, iv v_125, rv b127, rv b129, .unset, .unset] [(.ref b129)])) rfl (by rw [hml]; rfl) (argsL := [(.ref b129)]) (rest := []) (lenOf pd_4 rfl) rfl (by show 2 * 0 + _ ≤ _; exact Nat.le_of_eq rfl) (hb hby at_77) (fun _ _ => ⟨rfl, eK133, (by decide : 9 + 0 ≤ _), (by decide : 114 + 0 ≤ _)⟩)
      dsimp only [Pt.U, Pt.locs, Pt.cells, Pt.slots] at X138 l138 y138 z138 st138 hQ138
      subst l138 y138 z138
      obtain ⟨hv138, Nq138, eh138⟩ := hQ138
      obtain rfl : v138 = some (.ref ga) := hv138.trans (congrArg some hgv)
      have N138 := Fr.app N133 Nq138
      obtain ⟨v140, _, ⟨T140, L140, k140, n140⟩, -, X140, ⟨Lc140, hQ140, l140, y140, z140⟩, st140⟩ := Jvm.LawKit.callS X138 hx (y := (⟨"flatfield/PrimitiveOfPinLaw", "expected", "(C)Lflatfield/Primitive;"⟩ : MethodName)) hown125 (mvT hZ125 (w_85 hw)) (mvT hZ125 (w_86 hw)) (mvT hZ125 (w_2 hw)) (mvT hZ125 (w_87 hw)) (by decide) (backOf (W := 0) (rmExp l Z a0 hw [] v_122 k0 k1 k2 k3 k4 k5 k6 k7 T133.heap F139 OK0 OK1 OK2 OK3 OK4 OK5 OK6 OK7) hZ125 (w_87 hw) (w_2 hw) (by decide) (by decide)) (g := (mkF m 93 #[iv p0, iv p1, iv p2, iv p3, iv 1, iv v_122, iv v_123, iv v_125, rv b127, rv b129, rv ga, .val .null] [(.int v_122)])) rfl (by rw [hml]; rfl) (argsL := [(.int v_122)]) (rest := []) (lenOf pd_5 rfl) rfl (by show 2 * 0 + _ ≤ _; exact Nat.le_of_eq rfl) (hb hby at_93) (fun _ _ => ⟨rfl, eh138, (by decide : 9 + 0 ≤ _), (by decide : 114 + 0 ≤ _)⟩)
      dsimp only [Pt.U, Pt.locs, Pt.cells, Pt.slots] at X140 l140 y140 z140 st140 hQ140
      subst l140 y140 z140
      obtain ⟨hv140, Nq140, eh140⟩ := hQ140
      obtain rfl : v140 = some (.ref ga) := hv140.trans (congrArg some (own_exOf.trans hgv))
      have N140 := Fr.app N138 Nq140
      refine Go.on (w := T140.setTop (mkF m 110 #[iv p0, iv p1, iv p2, iv p3, iv 1, iv v_122, iv v_123, iv v_125, rv b127, rv b129, rv ga, rv ga] [(.int 1)])) (fun t k => st138 _ (XS.astore X138.here hx rfl (hb hby at_80) rfl rfl (l' := #[iv p0, iv p1, iv p2, iv p3, iv 1, iv v_122, iv v_123, iv v_125, rv b127, rv b129, rv ga, .unset]) rfl (XS.aconstNull X138.here hx rfl (hb hby at_82) (XS.astore X138.here hx rfl (hb hby at_83) rfl rfl (l' := #[iv p0, iv p1, iv p2, iv p3, iv 1, iv v_122, iv v_123, iv v_125, rv b127, rv b129, rv ga, .val .null]) rfl (XS.iload X138.here hx rfl (hb hby at_85) rfl (XS.iconst X138.here hx rfl (hb hby at_87) (XS.icmpNo X138.here hx rfl (hb hby at_88) rfl (teq (by decide : (1 : Int32) = (1 : Int32))).2 (XS.iload X138.here hx rfl (hb hby at_91) rfl (st140 _ (XS.astore X140.here hx rfl (hb hby at_96) rfl rfl (l' := #[iv p0, iv p1, iv p2, iv p3, iv 1, iv v_122, iv v_123, iv v_125, rv b127, rv b129, rv ga, rv ga]) rfl (XS.aload X140.here hx rfl (hb hby at_98) rfl rfl (XS.aload X140.here hx rfl (hb hby at_100) rfl rfl (Jvm.RoadKit.acmp (g := (mkF m 102 #[iv p0, iv p1, iv p2, iv p3, iv 1, iv v_122, iv v_123, iv v_125, rv b127, rv b129, rv ga, rv ga] [(.ref ga), (.ref ga)])) X140 hx rfl rfl rfl (pc0 := 102) (pc' := 105) (same := true) rfl (hb hby at_102) rfl (decide_eq_true rfl) (by decide) (by decide) (XS.iconst X140.here hx rfl (hb hby at_105) (XS.goto X140.here hx rfl (pc0 := 106) (pc' := 110) rfl (hb hby at_106) (by decide) (by decide) k))))))))))))))) ?_
      have CE141 := CR133.trans (CHv.at X140 hZ125 hEL CR133.1)
      refine Go.fin X140 hS125 (by rw [eh140]; omega) hlk (v := some (.int 1)) (fun h => by rw [Bd.returns] at h; cases h) (fun fs hr => ?_) (endP (Q := Q_rm0 Z p0 p1 p2 p3 G1 G3 al qa k0 s0 t0 q0 k1 s1 t1 q1 k2 s2 t2 q2 k3 s3 t3 q3 k4 s4 t4 q4 k5 s5 t5 q5 k6 s6 t6 q6 k7 s7 t7 q7 h0) (by rw [eh140]; exact ⟨rfl, N140, KP133⟩) (by rw [eh140]; exact CE141) (by decide) (by decide))
      exact retN X140 hx (t := .boolean) Bd.returns (by simp) (hb hby at_110) hr
  ·
    refine Go.on (w := s₁.setTop (mkF m 2 #[iv p0, iv p1, iv p2, iv p3, .unset, .unset, .unset, .unset, .unset, .unset, .unset, .unset] [(.int 3), (.int p0)])) (fun t k => XS.iloadN X0.here hx rfl (hb hby at_0) rfl (XS.iconst X0.here hx rfl (hb hby at_1) k)) ?_
    refine Go.on (w := s₁.setTop (mkF m 3 #[iv p0, iv p1, iv p2, iv p3, .unset, .unset, .unset, .unset, .unset, .unset, .unset, .unset] [(.int 2)])) (fun t k => XS.iand X0.here hx rfl (hb hby at_2) rfl (by rw [(hn : (p0 &&& (3 : Int32)) = (2 : Int32))]; exact k)) ?_
    obtain ⟨v142, _, ⟨T142, L142, k142, n142⟩, -, X142', hs142, hg142, ⟨Lc142, hQ142, l142, y142, z142, C142⟩, st142⟩ := callSS X0 hx (y := (⟨"flatfield/PrimitiveOfPinLaw", "draw", "(I)C"⟩ : MethodName)) hown0 (mvT hZ0 (w_0 hw)) (mvT hZ0 (w_1 hw)) (mvT hZ0 (w_2 hw)) (mvT hZ0 (w_3 hw)) (by decide) (backOfSH (s := s) (W := 0) (rmDraw l Z a0 hw [] p1 G1 G3 h0 hEL (by omega) OL O2 P5 O4 rG3) hZ0 (w_3 hw) (w_2 hw) (by decide) (by decide) hEL CR0.1) (g := (mkF m 6 #[iv p0, iv p1, iv p2, iv p3, iv 2, .unset, .unset, .unset, .unset, .unset, .unset, .unset] [(.int p1)])) rfl (by rw [hml]; rfl) (argsL := [(.int p1)]) (rest := []) (lenOf pd_1 rfl) rfl (by show 2 * 0 + _ ≤ _; exact Nat.le_of_eq rfl) (hb hby at_6) (fun _ _ => ⟨rfl, e0, (by decide : 0 + 2 ≤ _), (by decide : 0 + 36 ≤ _)⟩)
    dsimp only [Pt.U, Pt.locs, Pt.cells, Pt.slots] at X142' l142 y142 z142 st142 hQ142 hs142 hg142 C142
    subst l142 y142 z142
    obtain ⟨X142, hS142, hZ142, hown142⟩ := rebS hS0 (n1 := s₁.heap.size) (by rw [e0]; omega) X142' hs142 hg142 hZ0 hown0
    have hj142 : T142.heap.size ≤ T142.heap.size := Nat.le_refl _
    obtain ⟨v_142, rfl, Nq142, K142, f142_0⟩ := hQ142
    have N142 := Fr.app N0 Nq142
    have eK142 : T142.heap = T142.heap := rfl
    have CR142 := CR0.trans C142
    have z142 : h0.size ≤ T142.heap.size := K142.1
    have KP142 : Keep h0 T142.heap ([] : List Addr) := KP0.trans K142 all0
    have F144 := (OL.keep K142 all0)
    obtain ⟨v143, _, ⟨T143, L143, k143, n143⟩, -, X143', hs143, hg143, ⟨Lc143, hQ143, l143, y143, z143, C143⟩, st143⟩ := callSS X142 hx (y := (⟨"flatfield/PrimitiveOfPinLaw", "draw", "(I)C"⟩ : MethodName)) hown142 (mvT hZ142 (w_0 hw)) (mvT hZ142 (w_1 hw)) (mvT hZ142 (w_2 hw)) (mvT hZ142 (w_3 hw)) (by decide) (backOfSH (s := s) (W := 0) (rmDraw l Z a0 hw [] p2 G1 G3 T142.heap hEL (by omega) F144 O2 P5 O4 rG3) hZ142 (w_3 hw) (w_2 hw) (by decide) (by decide) hEL CR142.1) (g := (mkF m 12 #[iv p0, iv p1, iv p2, iv p3, iv 2, iv v_142, .unset, .unset, .unset, .unset, .unset, .unset] [(.int p2)])) rfl (by rw [hml]; rfl) (argsL := [(.int p2)]) (rest := []) (lenOf pd_1 rfl) rfl (by show 2 * 0 + _ ≤ _; exact Nat.le_of_eq rfl) (hb hby at_12) (fun _ _ => ⟨rfl, eK142, (by decide : 2 + 2 ≤ _), (by decide : 36 + 36 ≤ _)⟩)
    dsimp only [Pt.U, Pt.locs, Pt.cells, Pt.slots] at X143' l143 y143 z143 st143 hQ143 hs143 hg143 C143
    subst l143 y143 z143
    obtain ⟨X143, hS143, hZ143, hown143⟩ := rebS hS142 (n1 := T142.heap.size) (by rw [eK142]; omega) X143' hs143 hg143 hZ142 hown142
    have hj143 : T143.heap.size ≤ T143.heap.size := Nat.le_refl _
    obtain ⟨v_143, rfl, Nq143, K143, f143_0⟩ := hQ143
    have N143 := Fr.app N142 Nq143
    have eK143 : T143.heap = T143.heap := rfl
    have CR143 := CR142.trans C143
    have z143 : T142.heap.size ≤ T143.heap.size := K143.1
    have KP143 : Keep h0 T143.heap ([] : List Addr) := KP142.trans K143 all0
    have F146 := (F144.keep K143 all0)
    obtain ⟨v145, _, ⟨T145, L145, k145, n145⟩, -, X145', hs145, hg145, ⟨Lc145, hQ145, l145, y145, z145, C145⟩, st145⟩ := callSS X143 hx (y := (⟨"flatfield/PrimitiveOfPinLaw", "draw", "(I)C"⟩ : MethodName)) hown143 (mvT hZ143 (w_0 hw)) (mvT hZ143 (w_1 hw)) (mvT hZ143 (w_2 hw)) (mvT hZ143 (w_3 hw)) (by decide) (backOfSH (s := s) (W := 0) (rmDraw l Z a0 hw [] p3 G1 G3 T143.heap hEL (by omega) F146 O2 P5 O4 rG3) hZ143 (w_3 hw) (w_2 hw) (by decide) (by decide) hEL CR143.1) (g := (mkF m 18 #[iv p0, iv p1, iv p2, iv p3, iv 2, iv v_142, iv v_143, .unset, .unset, .unset, .unset, .unset] [(.int p3)])) rfl (by rw [hml]; rfl) (argsL := [(.int p3)]) (rest := []) (lenOf pd_1 rfl) rfl (by show 2 * 0 + _ ≤ _; exact Nat.le_of_eq rfl) (hb hby at_18) (fun _ _ => ⟨rfl, eK143, (by decide : 4 + 2 ≤ _), (by decide : 72 + 36 ≤ _)⟩)
    dsimp only [Pt.U, Pt.locs, Pt.cells, Pt.slots] at X145' l145 y145 z145 st145 hQ145 hs145 hg145 C145
    subst l145 y145 z145
    obtain ⟨X145, hS145, hZ145, hown145⟩ := rebS hS143 (n1 := T143.heap.size) (by rw [eK143]; omega) X145' hs145 hg145 hZ143 hown143
    have hj145 : T145.heap.size ≤ T145.heap.size := Nat.le_refl _
    obtain ⟨v_145, rfl, Nq145, K145, f145_0⟩ := hQ145
    have N145 := Fr.app N143 Nq145
    have eK145 : T145.heap = T145.heap := rfl
    have CR145 := CR143.trans C145
    have z145 : T143.heap.size ≤ T145.heap.size := K145.1
    have KP145 : Keep h0 T145.heap ([] : List Addr) := KP143.trans K145 all0
    obtain ⟨T147, h147, k147, X147, e147, E147, A147, st147⟩ := newP (aty := .char) X145 hx hZ145 (w_4 hw) eK145 (g := (mkF m 25 #[iv p0, iv p1, iv p2, iv p3, iv 2, iv v_142, iv v_143, iv v_145, .unset, .unset, .unset, .unset] [(.int 2)])) rfl (hb hby at_25) rfl (by decide : ¬ ((2 : Int32) < (0 : Int32))) (cap := 2) (by decide) (by decide) (by decide) (by decide)
    obtain ⟨b147, g147⟩ : ∃ z, z = T145.heap.size := ⟨_, rfl⟩
    rw [← g147] at A147 st147
    have V147 : Arv Z h147 b147 k147 .char (2 : Int32) [(.int 0), (.int 0)] (.int 0) := (Arv.new A147 (by decide : ¬ ((2 : Int32) < (0 : Int32)))).pad (pad_rep [] (.int 0) 2)
    have u147 : h147.size > b147 := V147.lt
    have z147 : T145.heap.size ≤ h147.size := E147.1
    have CR147 := CR145.trans (CHr.ext E147 CR145.1)
    have KP147 : Keep h0 h147 ([] : List Addr) := KP145.ext E147
    obtain ⟨cl148, Ar148, q148, S148, M148, H148, U148⟩ := id V147
    obtain ⟨T148, h148, X148, e148, W148, st148⟩ := stC X147 hx hZ145 e147 Ar148 (j := (0 : Int32)) (inb_of S148 ⟨(by decide), (by decide)⟩) (g := (mkF m 39 #[iv p0, iv p1, iv p2, iv p3, iv 2, iv v_142, iv v_143, iv v_145, rv b147, .unset, .unset, .unset] [(.int v_142), (.int 0), (.ref b147)])) rfl rfl (hb hby at_39)
    have V148 : Arv Z h148 b147 k147 .char (2 : Int32) [(.int v_142), (.int 0)] (.int 0) := by rw [← (own_nar f142_0.1 f142_0.2 : nar .char v_142 = v_142)]; exact (Arv.set Ar148 q148 S148 M148 H148 U148 (fits_nar_char _) W148 0 rfl (Nat.le_of_ble_eq_true rfl))
    have CR148 := CR147.trans (CHr.wr W148 (Safe.arv hZ145.alike V147 (by decide)) CR147.1)
    have z148 : h147.size ≤ h148.size := Nat.le_of_eq W148.size.symm
    have KP148 : Keep h0 h148 ([] : List Addr) := KP147.wr W148 (Or.inr (by omega))
    have N148 := Fr.snoc X148 N145 (by omega)
    refine Go.on (w := T148.setTop (mkF m 49 #[iv p0, iv p1, iv p2, iv p3, iv 2, iv v_142, iv v_143, iv v_145, rv b147, .unset, .unset, .unset] [(.int 1), (.ref b147)])) (fun t k => XS.istore X0.here hx rfl (hb hby at_3) rfl (l' := #[iv p0, iv p1, iv p2, iv p3, iv 2, .unset, .unset, .unset, .unset, .unset, .unset, .unset]) rfl (XS.iloadN X0.here hx rfl (hb hby at_5) rfl (st142.trans (XS.istore X142.here hx rfl (hb hby at_9) rfl (l' := #[iv p0, iv p1, iv p2, iv p3, iv 2, iv v_142, .unset, .unset, .unset, .unset, .unset, .unset]) rfl (XS.iloadN X142.here hx rfl (hb hby at_11) rfl (st143.trans (XS.istore X143.here hx rfl (hb hby at_15) rfl (l' := #[iv p0, iv p1, iv p2, iv p3, iv 2, iv v_142, iv v_143, .unset, .unset, .unset, .unset, .unset]) rfl (XS.iloadN X143.here hx rfl (hb hby at_17) rfl (st145.trans (XS.istore X145.here hx rfl (hb hby at_21) rfl (l' := #[iv p0, iv p1, iv p2, iv p3, iv 2, iv v_142, iv v_143, iv v_145, .unset, .unset, .unset, .unset]) rfl (XS.iload X145.here hx rfl (hb hby at_23) rfl (st147 _ (XS.astore X147.here hx rfl (hb hby at_27) rfl rfl (l' := #[iv p0, iv p1, iv p2, iv p3, iv 2, iv v_142, iv v_143, iv v_145, rv b147, .unset, .unset, .unset]) rfl (XS.iload X147.here hx rfl (hb hby at_29) rfl (XS.ifNo X147.here hx rfl (hb hby at_31) rfl ((if0 _ _).trans (tlt (by decide : (0 : Int32) < (2 : Int32))).2.2.2) (XS.aload X147.here hx rfl (hb hby at_34) rfl rfl (XS.iconst X147.here hx rfl (hb hby at_36) (XS.iload X147.here hx rfl (hb hby at_37) rfl (st148 _ (XS.iload X148.here hx rfl (hb hby at_40) rfl (XS.iconst X148.here hx rfl (hb hby at_42) (XS.icmpNo X148.here hx rfl (hb hby at_43) rfl (tlt (by decide : (1 : Int32) < (2 : Int32))).2.2.2 (XS.aload X148.here hx rfl (hb hby at_46) rfl rfl (XS.iconst X148.here hx rfl (hb hby at_48) k)))))))))))))))))))))))) ?_
    refine Go.on (w := T148.setTop (mkF m 51 #[iv p0, iv p1, iv p2, iv p3, iv 2, iv v_142, iv v_143, iv v_145, rv b147, .unset, .unset, .unset] [(.int v_143), (.int 1), (.ref b147)])) (fun t k => XS.iload X148.here hx rfl (hb hby at_49) rfl k) ?_
    obtain ⟨cl149, Ar149, q149, S149, M149, H149, U149⟩ := id V148
    obtain ⟨T149, h149, X149, e149, W149, st149⟩ := stC X148 hx hZ145 e148 Ar149 (j := (1 : Int32)) (inb_of S149 ⟨(by decide), (by decide)⟩) (g := (mkF m 51 #[iv p0, iv p1, iv p2, iv p3, iv 2, iv v_142, iv v_143, iv v_145, rv b147, .unset, .unset, .unset] [(.int v_143), (.int 1), (.ref b147)])) rfl rfl (hb hby at_51)
    have V149 : Arv Z h149 b147 k147 .char (2 : Int32) [(.int v_142), (.int v_143)] (.int 0) := by rw [← (own_nar f143_0.1 f143_0.2 : nar .char v_143 = v_143)]; exact (Arv.set Ar149 q149 S149 M149 H149 U149 (fits_nar_char _) W149 1 rfl (Nat.le_of_ble_eq_true rfl))
    have CR149 := CR148.trans (CHr.wr W149 (Safe.arv hZ145.alike V148 (by decide)) CR148.1)
    have z149 : h148.size ≤ h149.size := Nat.le_of_eq W149.size.symm
    have KP149 : Keep h0 h149 ([] : List Addr) := KP148.wr W149 (Or.inr (by omega))
    have N149 := Fr.snoc X149 N148 (by omega)
    obtain ⟨T150, h150, X150, e150, E150, A150, D150, -, st150⟩ := newO X149 hx hZ145 hown145 (w_5 hw) (w_6 hw) (w_7 hw) e149 (g := (mkF m 64 #[iv p0, iv p1, iv p2, iv p3, iv 2, iv v_142, iv v_143, iv v_145, rv b147, .unset, .unset, .unset] [])) rfl (hb hby at_64) (by decide) (by decide)
    obtain ⟨b150, g150⟩ : ∃ z, z = h149.size := ⟨_, rfl⟩
    rw [← g150] at A150 D150 st150
    have u150 : h150.size > b150 := A150.lt
    have z150 : h149.size ≤ h150.size := E150.1
    have CR150 := CR149.trans (CHr.ext E150 CR149.1)
    have KP150 : Keep h0 h150 ([] : List Addr) := KP149.ext E150
    have Fn150_20 : Fld Z h150 b150 "java/lang/String" "value" "[B" .null := D150 (Or.inr (w_20 hw)) (ty := (.array .byte)) (by decide)
    have Fn150_21 : Fld Z h150 b150 "java/lang/String" "coder" "B" (.int 0) := D150 (Or.inr (w_21 hw)) (ty := .byte) (by decide)
    have F151 := (V149.ext E150)
    have F152 := (((((F146.keep K145 all0).ext E147).wr W148 (by omega)).wr W149 (by omega)).ext E150)
    refine Go.on (w := T150.setTop (mkF m 70 #[iv p0, iv p1, iv p2, iv p3, iv 2, iv v_142, iv v_143, iv v_145, rv b147, .unset, .unset, .unset] [(.ref b147), (.ref b150), (.ref b150)])) (fun t k => st149 _ (XS.iload X149.here hx rfl (hb hby at_52) rfl (XS.iconst X149.here hx rfl (hb hby at_54) (XS.icmpYes X149.here hx rfl (pc0 := 55) (pc' := 64) rfl (hb hby at_55) rfl (flt (by decide : ¬ ((2 : Int32) < (2 : Int32)))).2.2.2 (by decide) (by decide) (st150 _ (XS.dup X150.here hx rfl (hb hby at_67) rfl rfl (XS.aload X150.here hx rfl (hb hby at_68) rfl rfl k))))))) ?_
    have hp153 : ∀ c ∈ ([v_142, v_143] : List Int32), ¬ c < 0 ∧ ¬ (255 : Int32) < c := by
      intro c hc
      simp only [List.mem_cons, List.not_mem_nil, or_false] at hc
      rcases hc with rfl | rfl
      · exact f142_0
      · exact f143_0
    obtain ⟨v154, _, ⟨T154, L154, k154, n154⟩, -, X154, ⟨Lc154, hQ154, l154, y154, z154⟩, st154⟩ := X150.specialBack hx (y := (⟨"java/lang/String", "<init>", "([C)V"⟩ : MethodName)) rfl hown145 (mvT hZ145 (w_8 hw)) (mvT hZ145 (w_9 hw)) (mvT hZ145 (w_10 hw)) (by decide) (StrChars.Road.backV (W := 1) hZ145 (hStrW hw) (kI := 4) (w_6 hw) (cs := ([v_142, v_143] : List Int32)) (bs := ([v_142, v_143] : List Int32).map (fun c => c.toInt8.toInt32)) (n := 2) (n0 := Z.heap.size) (by omega) (by omega) A150 Fn150_20 Fn150_21 F151 (O2.ext F152.2) P5 rfl rfl (by decide) (by decide) hp153 rfl (by decide) (by decide)) (g := (mkF m 70 #[iv p0, iv p1, iv p2, iv p3, iv 2, iv v_142, iv v_143, iv v_145, rv b147, .unset, .unset, .unset] [(.ref b147), (.ref b150), (.ref b150)])) rfl (by rw [hml]; rfl) (Steps.refl _) (a := b150) (argsL := [(.ref b147)]) (rest := [(.ref b150)]) (lenOf pd_3 rfl) rfl (by show 2 * 0 + _ ≤ _; exact Nat.le_of_eq rfl) (hb hby at_70) (fun _ _ => ⟨rfl, e150, (by decide : 8 + 1 ≤ _), (by decide : 114 + 2 ≤ _)⟩)
    dsimp only [Pt.U, Pt.locs, Pt.cells, Pt.slots] at X154 l154 y154 z154 st154 hQ154
    subst l154 y154 z154
    obtain ⟨rfl, Nq154, K154, Ex154, Fc154, t154, kb154, -, ht154, hne154, Fv154, Av154⟩ := hQ154
    have N154 := Fr.app N149 Nq154
    have eK154 : T154.heap = T154.heap := rfl
    have CR154 := CR150.trans (CHr.keep K154 (sfS (own_safeNull hZ145.alike A150 Fn150_20) sf0) CR150.1)
    have z154 : h150.size ≤ T154.heap.size := K154.1
    have KP154 : Keep h0 T154.heap ([] : List Addr) := KP150.trans K154 (allS (P := fun x => x ∈ ([] : List Addr) ∨ h0.size ≤ x) (Or.inr (by omega)) all0)
    have ut154 : T154.heap.size > t154 := Av154.lt
    refine Go.on (w := T154.setTop (mkF m 77 #[iv p0, iv p1, iv p2, iv p3, iv 2, iv v_142, iv v_143, iv v_145, rv b147, rv b150, .unset, .unset] [(.ref b150)])) (fun t k => st154.trans (XS.astore X154.here hx rfl (hb hby at_73) rfl rfl (l' := #[iv p0, iv p1, iv p2, iv p3, iv 2, iv v_142, iv v_143, iv v_145, rv b147, rv b150, .unset, .unset]) rfl (XS.aload X154.here hx rfl (hb hby at_75) rfl rfl k))) ?_
    have F156 := (F152.keep K154 (allS (by omega) all0))
    obtain ⟨v155, _, ⟨T155, L155, k155, n155⟩, -, X155, ⟨Lc155, hQ155, l155, y155, z155⟩, st155⟩ := Jvm.LawKit.callS X154 hx (y := (⟨"flatfield/Primitive", "of", "(Ljava/lang/String;)Lflatfield/Primitive;"⟩ : MethodName)) hown145 (mvT hZ145 (w_26 hw)) (mvT hZ145 (w_27 hw)) (mvT hZ145 (w_28 hw)) (mvT hZ145 (w_29 hw)) (by decide) (backOf (W := 0) (rmOf l Z a0 hw [] b150 t154 kb154 ([v_142, v_143] : List Int32) G1 al qa k0 s0 t0 q0 k1 s1 t1 q1 k2 s2 t2 q2 k3 s3 t3 q3 k4 s4 t4 q4 k5 s5 t5 q5 k6 s6 t6 q6 k7 s7 t7 q7 T154.heap F156 O2 P5 OA VA W0_0 W0_1 W0_2 W0_3 W0_4 W1_0 W1_1 W1_2 W1_3 W1_4 W2_0 W2_1 W2_2 W2_3 W2_4 W3_0 W3_1 W3_2 W3_3 W3_4 W4_0 W4_1 W4_2 W4_3 W4_4 W5_0 W5_1 W5_2 W5_3 W5_4 W6_0 W6_1 W6_2 W6_3 W6_4 W7_0 W7_1 W7_2 W7_3 W7_4 Ex154 Fc154 Fv154 Av154 hp153 (Nat.le_of_ble_eq_true rfl)) hZ145 (w_29 hw) (w_28 hw) (by decide) (by decide)) (g := (mkF m 77 #[iv p0, iv p1, iv p2, iv p3, iv 2, iv v_142, iv v_143, iv v_145, rv b147, rv b150, .unset, .unset] [(.ref b150)])) rfl (by rw [hml]; rfl) (argsL := [(.ref b150)]) (rest := []) (lenOf pd_4 rfl) rfl (by show 2 * 0 + _ ≤ _; exact Nat.le_of_eq rfl) (hb hby at_77) (fun _ _ => ⟨rfl, eK154, (by decide : 9 + 0 ≤ _), (by decide : 116 + 0 ≤ _)⟩)
    dsimp only [Pt.U, Pt.locs, Pt.cells, Pt.slots] at X155 l155 y155 z155 st155 hQ155
    subst l155 y155 z155
    obtain ⟨hv155, Nq155, eh155⟩ := hQ155
    obtain rfl : v155 = some .null := hv155.trans (congrArg some (own_ofNull ([v_142, v_143] : List Int32) (by simp)))
    have N155 := Fr.app N154 Nq155
    refine Go.on (w := T155.setTop (mkF m 110 #[iv p0, iv p1, iv p2, iv p3, iv 2, iv v_142, iv v_143, iv v_145, rv b147, rv b150, .val .null, .val .null] [(.int 1)])) (fun t k => st155 _ (XS.astore X155.here hx rfl (hb hby at_80) rfl rfl (l' := #[iv p0, iv p1, iv p2, iv p3, iv 2, iv v_142, iv v_143, iv v_145, rv b147, rv b150, .val .null, .unset]) rfl (XS.aconstNull X155.here hx rfl (hb hby at_82) (XS.astore X155.here hx rfl (hb hby at_83) rfl rfl (l' := #[iv p0, iv p1, iv p2, iv p3, iv 2, iv v_142, iv v_143, iv v_145, rv b147, rv b150, .val .null, .val .null]) rfl (XS.iload X155.here hx rfl (hb hby at_85) rfl (XS.iconst X155.here hx rfl (hb hby at_87) (XS.icmpYes X155.here hx rfl (pc0 := 88) (pc' := 98) rfl (hb hby at_88) rfl (feq (by decide : ¬ ((2 : Int32) = (1 : Int32)))).2 (by decide) (by decide) (XS.aload X155.here hx rfl (hb hby at_98) rfl rfl (XS.aload X155.here hx rfl (hb hby at_100) rfl rfl (Jvm.RoadKit.acmp (g := (mkF m 102 #[iv p0, iv p1, iv p2, iv p3, iv 2, iv v_142, iv v_143, iv v_145, rv b147, rv b150, .val .null, .val .null] [.null, .null])) X155 hx rfl rfl rfl (pc0 := 102) (pc' := 105) (same := true) rfl (hb hby at_102) rfl (decide_eq_true rfl) (by decide) (by decide) (XS.iconst X155.here hx rfl (hb hby at_105) (XS.goto X155.here hx rfl (pc0 := 106) (pc' := 110) rfl (hb hby at_106) (by decide) (by decide) k)))))))))))) ?_
    have CE157 := CR154.trans (CHv.at X155 hZ145 hEL CR154.1)
    refine Go.fin X155 hS145 (by rw [eh155]; omega) hlk (v := some (.int 1)) (fun h => by rw [Bd.returns] at h; cases h) (fun fs hr => ?_) (endP (Q := Q_rm0 Z p0 p1 p2 p3 G1 G3 al qa k0 s0 t0 q0 k1 s1 t1 q1 k2 s2 t2 q2 k3 s3 t3 q3 k4 s4 t4 q4 k5 s5 t5 q5 k6 s6 t6 q6 k7 s7 t7 q7 h0) (by rw [eh155]; exact ⟨rfl, N155, KP154⟩) (by rw [eh155]; exact CE157) (by decide) (by decide))
    exact retN X155 hx (t := .boolean) Bd.returns (by simp) (hb hby at_110) hr
  ·
    refine Go.on (w := s₁.setTop (mkF m 2 #[iv p0, iv p1, iv p2, iv p3, .unset, .unset, .unset, .unset, .unset, .unset, .unset, .unset] [(.int 3), (.int p0)])) (fun t k => XS.iloadN X0.here hx rfl (hb hby at_0) rfl (XS.iconst X0.here hx rfl (hb hby at_1) k)) ?_
    refine Go.on (w := s₁.setTop (mkF m 3 #[iv p0, iv p1, iv p2, iv p3, .unset, .unset, .unset, .unset, .unset, .unset, .unset, .unset] [(.int 3)])) (fun t k => XS.iand X0.here hx rfl (hb hby at_2) rfl (by rw [(hn : (p0 &&& (3 : Int32)) = (3 : Int32))]; exact k)) ?_
    obtain ⟨v158, _, ⟨T158, L158, k158, n158⟩, -, X158', hs158, hg158, ⟨Lc158, hQ158, l158, y158, z158, C158⟩, st158⟩ := callSS X0 hx (y := (⟨"flatfield/PrimitiveOfPinLaw", "draw", "(I)C"⟩ : MethodName)) hown0 (mvT hZ0 (w_0 hw)) (mvT hZ0 (w_1 hw)) (mvT hZ0 (w_2 hw)) (mvT hZ0 (w_3 hw)) (by decide) (backOfSH (s := s) (W := 0) (rmDraw l Z a0 hw [] p1 G1 G3 h0 hEL (by omega) OL O2 P5 O4 rG3) hZ0 (w_3 hw) (w_2 hw) (by decide) (by decide) hEL CR0.1) (g := (mkF m 6 #[iv p0, iv p1, iv p2, iv p3, iv 3, .unset, .unset, .unset, .unset, .unset, .unset, .unset] [(.int p1)])) rfl (by rw [hml]; rfl) (argsL := [(.int p1)]) (rest := []) (lenOf pd_1 rfl) rfl (by show 2 * 0 + _ ≤ _; exact Nat.le_of_eq rfl) (hb hby at_6) (fun _ _ => ⟨rfl, e0, (by decide : 0 + 2 ≤ _), (by decide : 0 + 36 ≤ _)⟩)
    dsimp only [Pt.U, Pt.locs, Pt.cells, Pt.slots] at X158' l158 y158 z158 st158 hQ158 hs158 hg158 C158
    subst l158 y158 z158
    obtain ⟨X158, hS158, hZ158, hown158⟩ := rebS hS0 (n1 := s₁.heap.size) (by rw [e0]; omega) X158' hs158 hg158 hZ0 hown0
    have hj158 : T158.heap.size ≤ T158.heap.size := Nat.le_refl _
    obtain ⟨v_158, rfl, Nq158, K158, f158_0⟩ := hQ158
    have N158 := Fr.app N0 Nq158
    have eK158 : T158.heap = T158.heap := rfl
    have CR158 := CR0.trans C158
    have z158 : h0.size ≤ T158.heap.size := K158.1
    have KP158 : Keep h0 T158.heap ([] : List Addr) := KP0.trans K158 all0
    have F160 := (OL.keep K158 all0)
    obtain ⟨v159, _, ⟨T159, L159, k159, n159⟩, -, X159', hs159, hg159, ⟨Lc159, hQ159, l159, y159, z159, C159⟩, st159⟩ := callSS X158 hx (y := (⟨"flatfield/PrimitiveOfPinLaw", "draw", "(I)C"⟩ : MethodName)) hown158 (mvT hZ158 (w_0 hw)) (mvT hZ158 (w_1 hw)) (mvT hZ158 (w_2 hw)) (mvT hZ158 (w_3 hw)) (by decide) (backOfSH (s := s) (W := 0) (rmDraw l Z a0 hw [] p2 G1 G3 T158.heap hEL (by omega) F160 O2 P5 O4 rG3) hZ158 (w_3 hw) (w_2 hw) (by decide) (by decide) hEL CR158.1) (g := (mkF m 12 #[iv p0, iv p1, iv p2, iv p3, iv 3, iv v_158, .unset, .unset, .unset, .unset, .unset, .unset] [(.int p2)])) rfl (by rw [hml]; rfl) (argsL := [(.int p2)]) (rest := []) (lenOf pd_1 rfl) rfl (by show 2 * 0 + _ ≤ _; exact Nat.le_of_eq rfl) (hb hby at_12) (fun _ _ => ⟨rfl, eK158, (by decide : 2 + 2 ≤ _), (by decide : 36 + 36 ≤ _)⟩)
    dsimp only [Pt.U, Pt.locs, Pt.cells, Pt.slots] at X159' l159 y159 z159 st159 hQ159 hs159 hg159 C159
    subst l159 y159 z159
    obtain ⟨X159, hS159, hZ159, hown159⟩ := rebS hS158 (n1 := T158.heap.size) (by rw [eK158]; omega) X159' hs159 hg159 hZ158 hown158
    have hj159 : T159.heap.size ≤ T159.heap.size := Nat.le_refl _
    obtain ⟨v_159, rfl, Nq159, K159, f159_0⟩ := hQ159
    have N159 := Fr.app N158 Nq159
    have eK159 : T159.heap = T159.heap := rfl
    have CR159 := CR158.trans C159
    have z159 : T158.heap.size ≤ T159.heap.size := K159.1
    have KP159 : Keep h0 T159.heap ([] : List Addr) := KP158.trans K159 all0
    have F162 := (F160.keep K159 all0)
    obtain ⟨v161, _, ⟨T161, L161, k161, n161⟩, -, X161', hs161, hg161, ⟨Lc161, hQ161, l161, y161, z161, C161⟩, st161⟩ := callSS X159 hx (y := (⟨"flatfield/PrimitiveOfPinLaw", "draw", "(I)C"⟩ : MethodName)) hown159 (mvT hZ159 (w_0 hw)) (mvT hZ159 (w_1 hw)) (mvT hZ159 (w_2 hw)) (mvT hZ159 (w_3 hw)) (by decide) (backOfSH (s := s) (W := 0) (rmDraw l Z a0 hw [] p3 G1 G3 T159.heap hEL (by omega) F162 O2 P5 O4 rG3) hZ159 (w_3 hw) (w_2 hw) (by decide) (by decide) hEL CR159.1) (g := (mkF m 18 #[iv p0, iv p1, iv p2, iv p3, iv 3, iv v_158, iv v_159, .unset, .unset, .unset, .unset, .unset] [(.int p3)])) rfl (by rw [hml]; rfl) (argsL := [(.int p3)]) (rest := []) (lenOf pd_1 rfl) rfl (by show 2 * 0 + _ ≤ _; exact Nat.le_of_eq rfl) (hb hby at_18) (fun _ _ => ⟨rfl, eK159, (by decide : 4 + 2 ≤ _), (by decide : 72 + 36 ≤ _)⟩)
    dsimp only [Pt.U, Pt.locs, Pt.cells, Pt.slots] at X161' l161 y161 z161 st161 hQ161 hs161 hg161 C161
    subst l161 y161 z161
    obtain ⟨X161, hS161, hZ161, hown161⟩ := rebS hS159 (n1 := T159.heap.size) (by rw [eK159]; omega) X161' hs161 hg161 hZ159 hown159
    have hj161 : T161.heap.size ≤ T161.heap.size := Nat.le_refl _
    obtain ⟨v_161, rfl, Nq161, K161, f161_0⟩ := hQ161
    have N161 := Fr.app N159 Nq161
    have eK161 : T161.heap = T161.heap := rfl
    have CR161 := CR159.trans C161
    have z161 : T159.heap.size ≤ T161.heap.size := K161.1
    have KP161 : Keep h0 T161.heap ([] : List Addr) := KP159.trans K161 all0
    obtain ⟨T163, h163, k163, X163, e163, E163, A163, st163⟩ := newP (aty := .char) X161 hx hZ161 (w_4 hw) eK161 (g := (mkF m 25 #[iv p0, iv p1, iv p2, iv p3, iv 3, iv v_158, iv v_159, iv v_161, .unset, .unset, .unset, .unset] [(.int 3)])) rfl (hb hby at_25) rfl (by decide : ¬ ((3 : Int32) < (0 : Int32))) (cap := 3) (by decide) (by decide) (by decide) (by decide)
    obtain ⟨b163, g163⟩ : ∃ z, z = T161.heap.size := ⟨_, rfl⟩
    rw [← g163] at A163 st163
    have V163 : Arv Z h163 b163 k163 .char (3 : Int32) [(.int 0), (.int 0), (.int 0)] (.int 0) := (Arv.new A163 (by decide : ¬ ((3 : Int32) < (0 : Int32)))).pad (pad_rep [] (.int 0) 3)
    have u163 : h163.size > b163 := V163.lt
    have z163 : T161.heap.size ≤ h163.size := E163.1
    have CR163 := CR161.trans (CHr.ext E163 CR161.1)
    have KP163 : Keep h0 h163 ([] : List Addr) := KP161.ext E163
    obtain ⟨cl164, Ar164, q164, S164, M164, H164, U164⟩ := id V163
    obtain ⟨T164, h164, X164, e164, W164, st164⟩ := stC X163 hx hZ161 e163 Ar164 (j := (0 : Int32)) (inb_of S164 ⟨(by decide), (by decide)⟩) (g := (mkF m 39 #[iv p0, iv p1, iv p2, iv p3, iv 3, iv v_158, iv v_159, iv v_161, rv b163, .unset, .unset, .unset] [(.int v_158), (.int 0), (.ref b163)])) rfl rfl (hb hby at_39)
    have V164 : Arv Z h164 b163 k163 .char (3 : Int32) [(.int v_158), (.int 0), (.int 0)] (.int 0) := by rw [← (own_nar f158_0.1 f158_0.2 : nar .char v_158 = v_158)]; exact (Arv.set Ar164 q164 S164 M164 H164 U164 (fits_nar_char _) W164 0 rfl (Nat.le_of_ble_eq_true rfl))
    have CR164 := CR163.trans (CHr.wr W164 (Safe.arv hZ161.alike V163 (by decide)) CR163.1)
    have z164 : h163.size ≤ h164.size := Nat.le_of_eq W164.size.symm
    have KP164 : Keep h0 h164 ([] : List Addr) := KP163.wr W164 (Or.inr (by omega))
    have N164 := Fr.snoc X164 N161 (by omega)
    refine Go.on (w := T164.setTop (mkF m 49 #[iv p0, iv p1, iv p2, iv p3, iv 3, iv v_158, iv v_159, iv v_161, rv b163, .unset, .unset, .unset] [(.int 1), (.ref b163)])) (fun t k => XS.istore X0.here hx rfl (hb hby at_3) rfl (l' := #[iv p0, iv p1, iv p2, iv p3, iv 3, .unset, .unset, .unset, .unset, .unset, .unset, .unset]) rfl (XS.iloadN X0.here hx rfl (hb hby at_5) rfl (st158.trans (XS.istore X158.here hx rfl (hb hby at_9) rfl (l' := #[iv p0, iv p1, iv p2, iv p3, iv 3, iv v_158, .unset, .unset, .unset, .unset, .unset, .unset]) rfl (XS.iloadN X158.here hx rfl (hb hby at_11) rfl (st159.trans (XS.istore X159.here hx rfl (hb hby at_15) rfl (l' := #[iv p0, iv p1, iv p2, iv p3, iv 3, iv v_158, iv v_159, .unset, .unset, .unset, .unset, .unset]) rfl (XS.iloadN X159.here hx rfl (hb hby at_17) rfl (st161.trans (XS.istore X161.here hx rfl (hb hby at_21) rfl (l' := #[iv p0, iv p1, iv p2, iv p3, iv 3, iv v_158, iv v_159, iv v_161, .unset, .unset, .unset, .unset]) rfl (XS.iload X161.here hx rfl (hb hby at_23) rfl (st163 _ (XS.astore X163.here hx rfl (hb hby at_27) rfl rfl (l' := #[iv p0, iv p1, iv p2, iv p3, iv 3, iv v_158, iv v_159, iv v_161, rv b163, .unset, .unset, .unset]) rfl (XS.iload X163.here hx rfl (hb hby at_29) rfl (XS.ifNo X163.here hx rfl (hb hby at_31) rfl ((if0 _ _).trans (tlt (by decide : (0 : Int32) < (3 : Int32))).2.2.2) (XS.aload X163.here hx rfl (hb hby at_34) rfl rfl (XS.iconst X163.here hx rfl (hb hby at_36) (XS.iload X163.here hx rfl (hb hby at_37) rfl (st164 _ (XS.iload X164.here hx rfl (hb hby at_40) rfl (XS.iconst X164.here hx rfl (hb hby at_42) (XS.icmpNo X164.here hx rfl (hb hby at_43) rfl (tlt (by decide : (1 : Int32) < (3 : Int32))).2.2.2 (XS.aload X164.here hx rfl (hb hby at_46) rfl rfl (XS.iconst X164.here hx rfl (hb hby at_48) k)))))))))))))))))))))))) ?_
    refine Go.on (w := T164.setTop (mkF m 51 #[iv p0, iv p1, iv p2, iv p3, iv 3, iv v_158, iv v_159, iv v_161, rv b163, .unset, .unset, .unset] [(.int v_159), (.int 1), (.ref b163)])) (fun t k => XS.iload X164.here hx rfl (hb hby at_49) rfl k) ?_
    obtain ⟨cl165, Ar165, q165, S165, M165, H165, U165⟩ := id V164
    obtain ⟨T165, h165, X165, e165, W165, st165⟩ := stC X164 hx hZ161 e164 Ar165 (j := (1 : Int32)) (inb_of S165 ⟨(by decide), (by decide)⟩) (g := (mkF m 51 #[iv p0, iv p1, iv p2, iv p3, iv 3, iv v_158, iv v_159, iv v_161, rv b163, .unset, .unset, .unset] [(.int v_159), (.int 1), (.ref b163)])) rfl rfl (hb hby at_51)
    have V165 : Arv Z h165 b163 k163 .char (3 : Int32) [(.int v_158), (.int v_159), (.int 0)] (.int 0) := by rw [← (own_nar f159_0.1 f159_0.2 : nar .char v_159 = v_159)]; exact (Arv.set Ar165 q165 S165 M165 H165 U165 (fits_nar_char _) W165 1 rfl (Nat.le_of_ble_eq_true rfl))
    have CR165 := CR164.trans (CHr.wr W165 (Safe.arv hZ161.alike V164 (by decide)) CR164.1)
    have z165 : h164.size ≤ h165.size := Nat.le_of_eq W165.size.symm
    have KP165 : Keep h0 h165 ([] : List Addr) := KP164.wr W165 (Or.inr (by omega))
    have N165 := Fr.snoc X165 N164 (by omega)
    obtain ⟨cl166, Ar166, q166, S166, M166, H166, U166⟩ := id V165
    obtain ⟨T166, h166, X166, e166, W166, st166⟩ := stC X165 hx hZ161 e165 Ar166 (j := (2 : Int32)) (inb_of S166 ⟨(by decide), (by decide)⟩) (g := (mkF m 63 #[iv p0, iv p1, iv p2, iv p3, iv 3, iv v_158, iv v_159, iv v_161, rv b163, .unset, .unset, .unset] [(.int v_161), (.int 2), (.ref b163)])) rfl rfl (hb hby at_63)
    have V166 : Arv Z h166 b163 k163 .char (3 : Int32) [(.int v_158), (.int v_159), (.int v_161)] (.int 0) := by rw [← (own_nar f161_0.1 f161_0.2 : nar .char v_161 = v_161)]; exact (Arv.set Ar166 q166 S166 M166 H166 U166 (fits_nar_char _) W166 2 rfl (Nat.le_of_ble_eq_true rfl))
    have CR166 := CR165.trans (CHr.wr W166 (Safe.arv hZ161.alike V165 (by decide)) CR165.1)
    have z166 : h165.size ≤ h166.size := Nat.le_of_eq W166.size.symm
    have KP166 : Keep h0 h166 ([] : List Addr) := KP165.wr W166 (Or.inr (by omega))
    have N166 := Fr.snoc X166 N165 (by omega)
    obtain ⟨T167, h167, X167, e167, E167, A167, D167, -, st167⟩ := newO X166 hx hZ161 hown161 (w_5 hw) (w_6 hw) (w_7 hw) e166 (g := (mkF m 64 #[iv p0, iv p1, iv p2, iv p3, iv 3, iv v_158, iv v_159, iv v_161, rv b163, .unset, .unset, .unset] [])) rfl (hb hby at_64) (by decide) (by decide)
    obtain ⟨b167, g167⟩ : ∃ z, z = h166.size := ⟨_, rfl⟩
    rw [← g167] at A167 D167 st167
    have u167 : h167.size > b167 := A167.lt
    have z167 : h166.size ≤ h167.size := E167.1
    have CR167 := CR166.trans (CHr.ext E167 CR166.1)
    have KP167 : Keep h0 h167 ([] : List Addr) := KP166.ext E167
    have Fn167_20 : Fld Z h167 b167 "java/lang/String" "value" "[B" .null := D167 (Or.inr (w_20 hw)) (ty := (.array .byte)) (by decide)
    have Fn167_21 : Fld Z h167 b167 "java/lang/String" "coder" "B" (.int 0) := D167 (Or.inr (w_21 hw)) (ty := .byte) (by decide)
    have F168 := (V166.ext E167)
    have F169 := ((((((F162.keep K161 all0).ext E163).wr W164 (by omega)).wr W165 (by omega)).wr W166 (by omega)).ext E167)
    refine Go.on (w := T167.setTop (mkF m 70 #[iv p0, iv p1, iv p2, iv p3, iv 3, iv v_158, iv v_159, iv v_161, rv b163, .unset, .unset, .unset] [(.ref b163), (.ref b167), (.ref b167)])) (fun t k => st165 _ (XS.iload X165.here hx rfl (hb hby at_52) rfl (XS.iconst X165.here hx rfl (hb hby at_54) (XS.icmpNo X165.here hx rfl (hb hby at_55) rfl (tlt (by decide : (2 : Int32) < (3 : Int32))).2.2.2 (XS.aload X165.here hx rfl (hb hby at_58) rfl rfl (XS.iconst X165.here hx rfl (hb hby at_60) (XS.iload X165.here hx rfl (hb hby at_61) rfl (st166 _ (st167 _ (XS.dup X167.here hx rfl (hb hby at_67) rfl rfl (XS.aload X167.here hx rfl (hb hby at_68) rfl rfl k))))))))))) ?_
    have hp170 : ∀ c ∈ ([v_158, v_159, v_161] : List Int32), ¬ c < 0 ∧ ¬ (255 : Int32) < c := by
      intro c hc
      simp only [List.mem_cons, List.not_mem_nil, or_false] at hc
      rcases hc with rfl | rfl | rfl
      · exact f158_0
      · exact f159_0
      · exact f161_0
    obtain ⟨v171, _, ⟨T171, L171, k171, n171⟩, -, X171, ⟨Lc171, hQ171, l171, y171, z171⟩, st171⟩ := X167.specialBack hx (y := (⟨"java/lang/String", "<init>", "([C)V"⟩ : MethodName)) rfl hown161 (mvT hZ161 (w_8 hw)) (mvT hZ161 (w_9 hw)) (mvT hZ161 (w_10 hw)) (by decide) (StrChars.Road.backV (W := 1) hZ161 (hStrW hw) (kI := 4) (w_6 hw) (cs := ([v_158, v_159, v_161] : List Int32)) (bs := ([v_158, v_159, v_161] : List Int32).map (fun c => c.toInt8.toInt32)) (n := 3) (n0 := Z.heap.size) (by omega) (by omega) A167 Fn167_20 Fn167_21 F168 (O2.ext F169.2) P5 rfl rfl (by decide) (by decide) hp170 rfl (by decide) (by decide)) (g := (mkF m 70 #[iv p0, iv p1, iv p2, iv p3, iv 3, iv v_158, iv v_159, iv v_161, rv b163, .unset, .unset, .unset] [(.ref b163), (.ref b167), (.ref b167)])) rfl (by rw [hml]; rfl) (Steps.refl _) (a := b167) (argsL := [(.ref b163)]) (rest := [(.ref b167)]) (lenOf pd_3 rfl) rfl (by show 2 * 0 + _ ≤ _; exact Nat.le_of_eq rfl) (hb hby at_70) (fun _ _ => ⟨rfl, e167, (by decide : 8 + 1 ≤ _), (by decide : 115 + 3 ≤ _)⟩)
    dsimp only [Pt.U, Pt.locs, Pt.cells, Pt.slots] at X171 l171 y171 z171 st171 hQ171
    subst l171 y171 z171
    obtain ⟨rfl, Nq171, K171, Ex171, Fc171, t171, kb171, -, ht171, hne171, Fv171, Av171⟩ := hQ171
    have N171 := Fr.app N166 Nq171
    have eK171 : T171.heap = T171.heap := rfl
    have CR171 := CR167.trans (CHr.keep K171 (sfS (own_safeNull hZ161.alike A167 Fn167_20) sf0) CR167.1)
    have z171 : h167.size ≤ T171.heap.size := K171.1
    have KP171 : Keep h0 T171.heap ([] : List Addr) := KP167.trans K171 (allS (P := fun x => x ∈ ([] : List Addr) ∨ h0.size ≤ x) (Or.inr (by omega)) all0)
    have ut171 : T171.heap.size > t171 := Av171.lt
    refine Go.on (w := T171.setTop (mkF m 77 #[iv p0, iv p1, iv p2, iv p3, iv 3, iv v_158, iv v_159, iv v_161, rv b163, rv b167, .unset, .unset] [(.ref b167)])) (fun t k => st171.trans (XS.astore X171.here hx rfl (hb hby at_73) rfl rfl (l' := #[iv p0, iv p1, iv p2, iv p3, iv 3, iv v_158, iv v_159, iv v_161, rv b163, rv b167, .unset, .unset]) rfl (XS.aload X171.here hx rfl (hb hby at_75) rfl rfl k))) ?_
    have F173 := (F169.keep K171 (allS (by omega) all0))
    obtain ⟨v172, _, ⟨T172, L172, k172, n172⟩, -, X172, ⟨Lc172, hQ172, l172, y172, z172⟩, st172⟩ := Jvm.LawKit.callS X171 hx (y := (⟨"flatfield/Primitive", "of", "(Ljava/lang/String;)Lflatfield/Primitive;"⟩ : MethodName)) hown161 (mvT hZ161 (w_26 hw)) (mvT hZ161 (w_27 hw)) (mvT hZ161 (w_28 hw)) (mvT hZ161 (w_29 hw)) (by decide) (backOf (W := 0) (rmOf l Z a0 hw [] b167 t171 kb171 ([v_158, v_159, v_161] : List Int32) G1 al qa k0 s0 t0 q0 k1 s1 t1 q1 k2 s2 t2 q2 k3 s3 t3 q3 k4 s4 t4 q4 k5 s5 t5 q5 k6 s6 t6 q6 k7 s7 t7 q7 T171.heap F173 O2 P5 OA VA W0_0 W0_1 W0_2 W0_3 W0_4 W1_0 W1_1 W1_2 W1_3 W1_4 W2_0 W2_1 W2_2 W2_3 W2_4 W3_0 W3_1 W3_2 W3_3 W3_4 W4_0 W4_1 W4_2 W4_3 W4_4 W5_0 W5_1 W5_2 W5_3 W5_4 W6_0 W6_1 W6_2 W6_3 W6_4 W7_0 W7_1 W7_2 W7_3 W7_4 Ex171 Fc171 Fv171 Av171 hp170 (Nat.le_of_ble_eq_true rfl)) hZ161 (w_29 hw) (w_28 hw) (by decide) (by decide)) (g := (mkF m 77 #[iv p0, iv p1, iv p2, iv p3, iv 3, iv v_158, iv v_159, iv v_161, rv b163, rv b167, .unset, .unset] [(.ref b167)])) rfl (by rw [hml]; rfl) (argsL := [(.ref b167)]) (rest := []) (lenOf pd_4 rfl) rfl (by show 2 * 0 + _ ≤ _; exact Nat.le_of_eq rfl) (hb hby at_77) (fun _ _ => ⟨rfl, eK171, (by decide : 9 + 0 ≤ _), (by decide : 118 + 0 ≤ _)⟩)
    dsimp only [Pt.U, Pt.locs, Pt.cells, Pt.slots] at X172 l172 y172 z172 st172 hQ172
    subst l172 y172 z172
    obtain ⟨hv172, Nq172, eh172⟩ := hQ172
    obtain rfl : v172 = some .null := hv172.trans (congrArg some (own_ofNull ([v_158, v_159, v_161] : List Int32) (by simp)))
    have N172 := Fr.app N171 Nq172
    refine Go.on (w := T172.setTop (mkF m 110 #[iv p0, iv p1, iv p2, iv p3, iv 3, iv v_158, iv v_159, iv v_161, rv b163, rv b167, .val .null, .val .null] [(.int 1)])) (fun t k => st172 _ (XS.astore X172.here hx rfl (hb hby at_80) rfl rfl (l' := #[iv p0, iv p1, iv p2, iv p3, iv 3, iv v_158, iv v_159, iv v_161, rv b163, rv b167, .val .null, .unset]) rfl (XS.aconstNull X172.here hx rfl (hb hby at_82) (XS.astore X172.here hx rfl (hb hby at_83) rfl rfl (l' := #[iv p0, iv p1, iv p2, iv p3, iv 3, iv v_158, iv v_159, iv v_161, rv b163, rv b167, .val .null, .val .null]) rfl (XS.iload X172.here hx rfl (hb hby at_85) rfl (XS.iconst X172.here hx rfl (hb hby at_87) (XS.icmpYes X172.here hx rfl (pc0 := 88) (pc' := 98) rfl (hb hby at_88) rfl (feq (by decide : ¬ ((3 : Int32) = (1 : Int32)))).2 (by decide) (by decide) (XS.aload X172.here hx rfl (hb hby at_98) rfl rfl (XS.aload X172.here hx rfl (hb hby at_100) rfl rfl (Jvm.RoadKit.acmp (g := (mkF m 102 #[iv p0, iv p1, iv p2, iv p3, iv 3, iv v_158, iv v_159, iv v_161, rv b163, rv b167, .val .null, .val .null] [.null, .null])) X172 hx rfl rfl rfl (pc0 := 102) (pc' := 105) (same := true) rfl (hb hby at_102) rfl (decide_eq_true rfl) (by decide) (by decide) (XS.iconst X172.here hx rfl (hb hby at_105) (XS.goto X172.here hx rfl (pc0 := 106) (pc' := 110) rfl (hb hby at_106) (by decide) (by decide) k)))))))))))) ?_
    have CE174 := CR171.trans (CHv.at X172 hZ161 hEL CR171.1)
    refine Go.fin X172 hS161 (by rw [eh172]; omega) hlk (v := some (.int 1)) (fun h => by rw [Bd.returns] at h; cases h) (fun fs hr => ?_) (endP (Q := Q_rm0 Z p0 p1 p2 p3 G1 G3 al qa k0 s0 t0 q0 k1 s1 t1 q1 k2 s2 t2 q2 k3 s3 t3 q3 k4 s4 t4 q4 k5 s5 t5 q5 k6 s6 t6 q6 k7 s7 t7 q7 h0) (by rw [eh172]; exact ⟨rfl, N172, KP171⟩) (by rw [eh172]; exact CE174) (by decide) (by decide))
    exact retN X172 hx (t := .boolean) Bd.returns (by simp) (hb hby at_110) hr
set_option maxRecDepth 65536 in
set_option maxHeartbeats 40000000 in
theorem comes_1 {Post : Tables → Env → Array Value → State → Outcome → State → Prop} (hpost : ∀ tb e args s v u, (limb_1_1.after args s (.returned v) u = true ∧ limb_1_2.after args s (.returned v) u = true ∧ True) → ReturnedEndW s (.returned v) u (Jvm.fieldLocs frame_1_writes args s ++ Jvm.arrayLocs frame_1_arrays args s ++ Jvm.staticLocs frame_1_statics s) 24 2176 → Post tb e args s (.returned v) u) :
    ArmFor flags0 classFile x code maxLocals ret World_1 tables_1 room_1 Calls_1 rest_1 Pre_1 Post := by
  intro l hfl _ _ p e ha hc hk s m args below hf hA hF happ hP
  obtain ⟨hcalls, hrest, hpre⟩ := hP
  obtain ⟨-, -, -, hnamed, -, -, -, hat⟩ := (Spec.applies_iff hf).mp happ
  obtain ⟨hg, hn⟩ := and_e (Cond.before_iff.mp (show (Jvm.Cond.and given_1 narrow_1).before args s = true from hpre))
  obtain ⟨gh0, gt0⟩ := and_e hg
  obtain ⟨gh1, gt1⟩ := and_e gt0
  obtain ⟨gh2, gt2⟩ := and_e gt1
  obtain ⟨gh3, gt3⟩ := and_e gt2
  obtain ⟨v0, v1, v2, v3, rfl⟩ : ∃ v0 v1 v2 v3 : Value, args = #[v0, v1, v2, v3] := by
    have hs : args.size = 4 := by simpa [Cond.value, given_1] using gh0
    obtain ⟨L⟩ := args
    match L, hs with
    | [v0, v1, v2, v3], _ => exact ⟨v0, v1, v2, v3, rfl⟩
  have hw := fun d (hd : d ∈ tables_1) => atoms_spec (ws := Jvm.Cond.code x code maxLocals ret :: tables_1) hat d (List.mem_cons_of_mem _ hd)
  have hfit : Fit s := fun {y c} hc i hi => by
    obtain ⟨ha, rfl⟩ := Array.getElem?_eq_some_iff.mp hc
    have q := List.all_eq_true.mp ((Array.all_eq_true_iff_forall_mem.mp hF) _ (Array.getElem_mem ha)) i (List.mem_range.mpr hi)
    simpa [Array.getElem?_eq_getElem hi] using q
  obtain ⟨i0, ei0⟩ := is_v gh1
  obtain rfl : v0 = (.int i0) := Option.some.inj ei0
  obtain ⟨i1, ei1⟩ := is_v gh2
  obtain rfl : v1 = (.int i1) := Option.some.inj ei1
  obtain ⟨i2, ei2⟩ := is_v gh3
  obtain rfl : v2 = (.int i2) := Option.some.inj ei2
  obtain ⟨i3, ei3⟩ := is_v gt3
  obtain rfl : v3 = (.int i3) := Option.some.inj ei3
  obtain ⟨hsets, hown0⟩ := atoms_of _ (rest_1_c_eq ▸ (show rest_1_c.before _ s = true from hrest))
  have n5 := not_v (Cond.before_iff.mp (hsets _ (List.mem_of_getElem? (i := 2) rfl)))
  obtain ⟨G1, e10⟩ := is_v (Cond.before_iff.mp (hsets _ (List.mem_of_getElem? (i := 1) rfl)))
  have O2 : Sta s s.heap "java/lang/String" "COMPACT_STRINGS" "Z" (.int G1) := Sta.start e10 (Or.inl (hsets _ (List.mem_of_getElem? (i := 0) rfl)))
  have P5 : ¬ (G1 = (0 : Int32)) := gotF (Cond.eq_ints e10 (Term.int_eval (0))) n5
  obtain ⟨G3, e14, rG3⟩ := isR_v (Cond.before_iff.mp (hsets _ (List.mem_of_getElem? (i := 8) rfl)))
  have O4 : Sta s s.heap "jdk/internal/util/Preconditions" "SIOOBE_FORMATTER" "Ljava/util/function/BiFunction;" G3 := Sta.start e14 (Or.inl (hsets _ (List.mem_of_getElem? (i := 7) rfl)))
  have hEL : EW s _ EL := (EW.cons (w_18 hw) (by decide) (EW.cons (w_63 hw) (by decide) EW.nil))
  have hC : CHv s EL s.vm s.heap := CHv.start hEL (fun p hp => hcalls.1 p ((by decide : ∀ p ∈ EL, p ∈ consts_1) p hp)) (hsets _ (List.mem_of_getElem? (i := 2) rfl)) (w_19 hw) (w_6 hw)
  obtain ⟨ma0, mb0⟩ := and_e hn
  obtain ⟨ma1, mb1⟩ := and_e mb0
  obtain ⟨ma2, mb2⟩ := and_e mb1
  obtain ⟨ma3, mb3⟩ := and_e mb2
  obtain ⟨ma4, mb4⟩ := and_e mb3
  obtain ⟨ma5, mb5⟩ := and_e mb4
  obtain ⟨ma6, mb6⟩ := and_e mb5
  obtain ⟨ma7, mb7⟩ := and_e mb6
  obtain ⟨ma8, mb8⟩ := and_e mb7
  obtain ⟨ma9, mb9⟩ := and_e mb8
  obtain ⟨ma10, mb10⟩ := and_e mb9
  obtain ⟨ma11, mb11⟩ := and_e mb10
  obtain ⟨ma12, mb12⟩ := and_e mb11
  obtain ⟨ma13, mb13⟩ := and_e mb12
  obtain ⟨ma14, mb14⟩ := and_e mb13
  obtain ⟨ma15, mb15⟩ := and_e mb14
  obtain ⟨ma16, mb16⟩ := and_e mb15
  obtain ⟨ma17, mb17⟩ := and_e mb16
  obtain ⟨ma18, mb18⟩ := and_e mb17
  obtain ⟨ma19, mb19⟩ := and_e mb18
  obtain ⟨ma20, mb20⟩ := and_e mb19
  obtain ⟨ma21, mb21⟩ := and_e mb20
  obtain ⟨ma22, mb22⟩ := and_e mb21
  obtain ⟨ma23, mb23⟩ := and_e mb22
  obtain ⟨ma24, mb24⟩ := and_e mb23
  obtain ⟨ma25, mb25⟩ := and_e mb24
  obtain ⟨ma26, mb26⟩ := and_e mb25
  obtain ⟨ma27, mb27⟩ := and_e mb26
  obtain ⟨ma28, mb28⟩ := and_e mb27
  obtain ⟨ma29, mb29⟩ := and_e mb28
  obtain ⟨ma30, mb30⟩ := and_e mb29
  obtain ⟨ma31, mb31⟩ := and_e mb30
  obtain ⟨ma32, mb32⟩ := and_e mb31
  obtain ⟨ma33, mb33⟩ := and_e mb32
  obtain ⟨ma34, mb34⟩ := and_e mb33
  obtain ⟨ma35, mb35⟩ := and_e mb34
  obtain ⟨ma36, mb36⟩ := and_e mb35
  obtain ⟨ma37, mb37⟩ := and_e mb36
  obtain ⟨ma38, mb38⟩ := and_e mb37
  obtain ⟨ma39, mb39⟩ := and_e mb38
  obtain ⟨ma40, mb40⟩ := and_e mb39
  obtain ⟨ma41, mb41⟩ := and_e mb40
  obtain ⟨ma42, mb42⟩ := and_e mb41
  obtain ⟨ma43, mb43⟩ := and_e mb42
  obtain ⟨ma44, mb44⟩ := and_e mb43
  obtain ⟨ma45, mb45⟩ := and_e mb44
  obtain ⟨ma46, mb46⟩ := and_e mb45
  obtain ⟨ma47, mb47⟩ := and_e mb46
  obtain ⟨ma48, mb48⟩ := and_e mb47
  obtain ⟨ma49, mb49⟩ := and_e mb48
  obtain ⟨ma50, mb50⟩ := and_e mb49
  obtain ⟨ma51, mb51⟩ := and_e mb50
  obtain ⟨ma52, mb52⟩ := and_e mb51
  obtain ⟨ma53, mb53⟩ := and_e mb52
  obtain ⟨ma54, mb54⟩ := and_e mb53
  obtain ⟨ma55, mb55⟩ := and_e mb54
  obtain ⟨ma56, mb56⟩ := and_e mb55
  obtain ⟨k0, ek0⟩ := exa_v ma2
  have OK0 : Sta s s.heap "flatfield/Primitive" "BOOLEAN" "Lflatfield/Primitive;" (.ref k0) := Sta.start ek0 (Or.inr ⟨(w_28 hw), (w_32 hw)⟩)
  obtain ⟨s0, es0⟩ := exa_v ma4
  have W0_0 := Fld.start ((fld_at ek0).symm.trans es0)
  have W0_1 := Exa.start es0 ma4
  have W0_2 := Fld.start ((fld_at es0).symm.trans (own_eqE ma5 (Term.int_eval (0)) (Or.inl ⟨_, rfl⟩)))
  obtain ⟨t0, et0⟩ := arr_v ma6
  have W0_3 := Fld.start ((fld_at es0).symm.trans et0)
  obtain ⟨q0, W0_4⟩ := own_arvS hfit et0 ma6 ma7 (vs := ([(90 : Int32)].map (fun c => c.toInt8.toInt32)).map Value.int) (dv := .int 0) (by decide) (by decide) (fun cl hcl => by exact ⟨(elem_in (own_eqE ma50 (Term.int_eval _) (Or.inl ⟨_, rfl⟩)) et0 (Term.int_eval (0)) hcl).2, trivial⟩)
  obtain ⟨k1, ek1⟩ := exa_v ma8
  have OK1 : Sta s s.heap "flatfield/Primitive" "BYTE" "Lflatfield/Primitive;" (.ref k1) := Sta.start ek1 (Or.inr ⟨(w_28 hw), (w_46 hw)⟩)
  obtain ⟨s1, es1⟩ := exa_v ma10
  have W1_0 := Fld.start ((fld_at ek1).symm.trans es1)
  have W1_1 := Exa.start es1 ma10
  have W1_2 := Fld.start ((fld_at es1).symm.trans (own_eqE ma11 (Term.int_eval (0)) (Or.inl ⟨_, rfl⟩)))
  obtain ⟨t1, et1⟩ := arr_v ma12
  have W1_3 := Fld.start ((fld_at es1).symm.trans et1)
  obtain ⟨q1, W1_4⟩ := own_arvS hfit et1 ma12 ma13 (vs := ([(66 : Int32)].map (fun c => c.toInt8.toInt32)).map Value.int) (dv := .int 0) (by decide) (by decide) (fun cl hcl => by exact ⟨(elem_in (own_eqE ma51 (Term.int_eval _) (Or.inl ⟨_, rfl⟩)) et1 (Term.int_eval (0)) hcl).2, trivial⟩)
  obtain ⟨k2, ek2⟩ := exa_v ma14
  have OK2 : Sta s s.heap "flatfield/Primitive" "CHAR" "Lflatfield/Primitive;" (.ref k2) := Sta.start ek2 (Or.inr ⟨(w_28 hw), (w_47 hw)⟩)
  obtain ⟨s2, es2⟩ := exa_v ma16
  have W2_0 := Fld.start ((fld_at ek2).symm.trans es2)
  have W2_1 := Exa.start es2 ma16
  have W2_2 := Fld.start ((fld_at es2).symm.trans (own_eqE ma17 (Term.int_eval (0)) (Or.inl ⟨_, rfl⟩)))
  obtain ⟨t2, et2⟩ := arr_v ma18
  have W2_3 := Fld.start ((fld_at es2).symm.trans et2)
  obtain ⟨q2, W2_4⟩ := own_arvS hfit et2 ma18 ma19 (vs := ([(67 : Int32)].map (fun c => c.toInt8.toInt32)).map Value.int) (dv := .int 0) (by decide) (by decide) (fun cl hcl => by exact ⟨(elem_in (own_eqE ma52 (Term.int_eval _) (Or.inl ⟨_, rfl⟩)) et2 (Term.int_eval (0)) hcl).2, trivial⟩)
  obtain ⟨k3, ek3⟩ := exa_v ma20
  have OK3 : Sta s s.heap "flatfield/Primitive" "SHORT" "Lflatfield/Primitive;" (.ref k3) := Sta.start ek3 (Or.inr ⟨(w_28 hw), (w_48 hw)⟩)
  obtain ⟨s3, es3⟩ := exa_v ma22
  have W3_0 := Fld.start ((fld_at ek3).symm.trans es3)
  have W3_1 := Exa.start es3 ma22
  have W3_2 := Fld.start ((fld_at es3).symm.trans (own_eqE ma23 (Term.int_eval (0)) (Or.inl ⟨_, rfl⟩)))
  obtain ⟨t3, et3⟩ := arr_v ma24
  have W3_3 := Fld.start ((fld_at es3).symm.trans et3)
  obtain ⟨q3, W3_4⟩ := own_arvS hfit et3 ma24 ma25 (vs := ([(83 : Int32)].map (fun c => c.toInt8.toInt32)).map Value.int) (dv := .int 0) (by decide) (by decide) (fun cl hcl => by exact ⟨(elem_in (own_eqE ma53 (Term.int_eval _) (Or.inl ⟨_, rfl⟩)) et3 (Term.int_eval (0)) hcl).2, trivial⟩)
  obtain ⟨k4, ek4⟩ := exa_v ma26
  have OK4 : Sta s s.heap "flatfield/Primitive" "INT" "Lflatfield/Primitive;" (.ref k4) := Sta.start ek4 (Or.inr ⟨(w_28 hw), (w_49 hw)⟩)
  obtain ⟨s4, es4⟩ := exa_v ma28
  have W4_0 := Fld.start ((fld_at ek4).symm.trans es4)
  have W4_1 := Exa.start es4 ma28
  have W4_2 := Fld.start ((fld_at es4).symm.trans (own_eqE ma29 (Term.int_eval (0)) (Or.inl ⟨_, rfl⟩)))
  obtain ⟨t4, et4⟩ := arr_v ma30
  have W4_3 := Fld.start ((fld_at es4).symm.trans et4)
  obtain ⟨q4, W4_4⟩ := own_arvS hfit et4 ma30 ma31 (vs := ([(73 : Int32)].map (fun c => c.toInt8.toInt32)).map Value.int) (dv := .int 0) (by decide) (by decide) (fun cl hcl => by exact ⟨(elem_in (own_eqE ma54 (Term.int_eval _) (Or.inl ⟨_, rfl⟩)) et4 (Term.int_eval (0)) hcl).2, trivial⟩)
  obtain ⟨k5, ek5⟩ := exa_v ma32
  have OK5 : Sta s s.heap "flatfield/Primitive" "FLOAT" "Lflatfield/Primitive;" (.ref k5) := Sta.start ek5 (Or.inr ⟨(w_28 hw), (w_50 hw)⟩)
  obtain ⟨s5, es5⟩ := exa_v ma34
  have W5_0 := Fld.start ((fld_at ek5).symm.trans es5)
  have W5_1 := Exa.start es5 ma34
  have W5_2 := Fld.start ((fld_at es5).symm.trans (own_eqE ma35 (Term.int_eval (0)) (Or.inl ⟨_, rfl⟩)))
  obtain ⟨t5, et5⟩ := arr_v ma36
  have W5_3 := Fld.start ((fld_at es5).symm.trans et5)
  obtain ⟨q5, W5_4⟩ := own_arvS hfit et5 ma36 ma37 (vs := ([(70 : Int32)].map (fun c => c.toInt8.toInt32)).map Value.int) (dv := .int 0) (by decide) (by decide) (fun cl hcl => by exact ⟨(elem_in (own_eqE ma55 (Term.int_eval _) (Or.inl ⟨_, rfl⟩)) et5 (Term.int_eval (0)) hcl).2, trivial⟩)
  obtain ⟨k6, ek6⟩ := exa_v ma38
  have OK6 : Sta s s.heap "flatfield/Primitive" "LONG" "Lflatfield/Primitive;" (.ref k6) := Sta.start ek6 (Or.inr ⟨(w_28 hw), (w_51 hw)⟩)
  obtain ⟨s6, es6⟩ := exa_v ma40
  have W6_0 := Fld.start ((fld_at ek6).symm.trans es6)
  have W6_1 := Exa.start es6 ma40
  have W6_2 := Fld.start ((fld_at es6).symm.trans (own_eqE ma41 (Term.int_eval (0)) (Or.inl ⟨_, rfl⟩)))
  obtain ⟨t6, et6⟩ := arr_v ma42
  have W6_3 := Fld.start ((fld_at es6).symm.trans et6)
  obtain ⟨q6, W6_4⟩ := own_arvS hfit et6 ma42 ma43 (vs := ([(74 : Int32)].map (fun c => c.toInt8.toInt32)).map Value.int) (dv := .int 0) (by decide) (by decide) (fun cl hcl => by exact ⟨(elem_in (own_eqE ma56 (Term.int_eval _) (Or.inl ⟨_, rfl⟩)) et6 (Term.int_eval (0)) hcl).2, trivial⟩)
  obtain ⟨k7, ek7⟩ := exa_v ma44
  have OK7 : Sta s s.heap "flatfield/Primitive" "DOUBLE" "Lflatfield/Primitive;" (.ref k7) := Sta.start ek7 (Or.inr ⟨(w_28 hw), (w_52 hw)⟩)
  obtain ⟨s7, es7⟩ := exa_v ma46
  have W7_0 := Fld.start ((fld_at ek7).symm.trans es7)
  have W7_1 := Exa.start es7 ma46
  have W7_2 := Fld.start ((fld_at es7).symm.trans (own_eqE ma47 (Term.int_eval (0)) (Or.inl ⟨_, rfl⟩)))
  obtain ⟨t7, et7⟩ := arr_v ma48
  have W7_3 := Fld.start ((fld_at es7).symm.trans et7)
  obtain ⟨q7, W7_4⟩ := own_arvS hfit et7 ma48 ma49 (vs := ([(68 : Int32)].map (fun c => c.toInt8.toInt32)).map Value.int) (dv := .int 0) (by decide) (by decide) (fun cl hcl => by exact ⟨(elem_in (own_eqE mb56 (Term.int_eval _) (Or.inl ⟨_, rfl⟩)) et7 (Term.int_eval (0)) hcl).2, trivial⟩)
  obtain ⟨al, el⟩ := arr_v ma0
  have OA : Sta s s.heap "flatfield/Primitive" "ALL" "[Lflatfield/Primitive;" (.ref al) := Sta.start el (Or.inr ⟨(w_28 hw), (w_31 hw)⟩)
  obtain ⟨qa, VA⟩ := own_arvS hfit el ma0 ma1 (vs := [.ref k0, .ref k1, .ref k2, .ref k3, .ref k4, .ref k5, .ref k6, .ref k7]) (dv := .null) (by decide) rfl (fun cl hcl => ⟨(elem_in (own_eqE ma3 ek0 (Or.inr rfl)) el (Term.int_eval (0)) hcl).2, (elem_in (own_eqE ma9 ek1 (Or.inr rfl)) el (Term.int_eval (1)) hcl).2, (elem_in (own_eqE ma15 ek2 (Or.inr rfl)) el (Term.int_eval (2)) hcl).2, (elem_in (own_eqE ma21 ek3 (Or.inr rfl)) el (Term.int_eval (3)) hcl).2, (elem_in (own_eqE ma27 ek4 (Or.inr rfl)) el (Term.int_eval (4)) hcl).2, (elem_in (own_eqE ma33 ek5 (Or.inr rfl)) el (Term.int_eval (5)) hcl).2, (elem_in (own_eqE ma39 ek6 (Or.inr rfl)) el (Term.int_eval (6)) hcl).2, (elem_in (own_eqE ma45 ek7 (Or.inr rfl)) el (Term.int_eval (7)) hcl).2, trivial⟩)
  obtain ⟨n, o, h1, h2, h3, _, L, rfl, ⟨rfl, N, -⟩, -, hq⟩ := rm0 l s _ hw tables_1 i0 i1 i2 i3 G1 G3 al qa k0 s0 t0 q0 k1 s1 t1 q1 k2 s2 t2 q2 k3 s3 t3 q3 k4 s4 t4 q4 k5 s5 t5 q5 k6 s6 t6 q6 k7 s7 t7 q7 s.heap hEL (Nat.le_refl _) (Old.start s) O2 P5 O4 rG3 OK0 OK1 OK2 OK3 OK4 OK5 OK6 OK7 OA VA W0_0 W0_1 W0_2 W0_3 W0_4 W1_0 W1_1 W1_2 W1_3 W1_4 W2_0 W2_1 W2_2 W2_3 W2_4 W3_0 W3_1 W3_2 W3_3 W3_4 W4_0 W4_1 W4_2 W4_3 W4_4 W5_0 W5_1 W5_2 W5_3 W5_4 W6_0 W6_1 W6_2 W6_3 W6_4 W7_0 W7_1 W7_2 W7_3 W7_4 p e ha hc hk s m _ below hf ((Spec.applies_iff_loose hf).mp happ).1 ⟨rfl, State.Warmed39.refl s, rfl, hC⟩ trivial
  refine ⟨n, _, h1, h2, h3, hpost _ _ _ _ _ _ ⟨Cond.after_iff.mpr rfl, Cond.after_iff.mpr (eq_i res_at (Term.int_eval (1)) rfl), trivial⟩ ⟨hq.1, hq.2.1, hq.2.2.1, (hq.2.2.2.sift fun y hy => Or.inr (N y hy)).mono (by decide) (by decide)⟩⟩
theorem main_1_1 : Claimed_1_1 := comes_1 fun _ _ _ _ _ _ h hF => ⟨h.1, hF⟩
theorem main_1_2 : Claimed_1_2 := comes_1 fun _ _ _ _ _ _ h hF => ⟨h.2.1, hF⟩
end Jvm.Pilot.@@N@@
namespace Jvm.Pilot.@@N@@
open Jvm Jvm.ClassFile Sem Op Lib Jvm.Free Jvm.Stand Jvm.Pilot.@@N@@.Jvm.D
/-! MADE BY PROGRAM (witnessworld.py) out of the Statement's table words and the real class files: 22 classes; the members and pool entries that the words name. The judged class is class 1, her method 1. -/
namespace start1
open Jvm.ClassFile
def u (s : String) : CpInfo := .utf8 (stringToUtf16 s)
/-- a pool by its gaps: so many unusable entries, then the entry; so many at the end -/
def gap : Nat → List CpInfo → List CpInfo
  | 0, r => r
  | n + 1, r => .unusable :: gap n r
def poolList (es : List (Nat × CpInfo)) (last : Nat) : List CpInfo := es.foldr (fun e r => gap e.1 (e.2 :: r)) (gap last [])
def pool (es : List (Nat × CpInfo)) (last : Nat) : Array CpInfo := ⟨poolList es last⟩
def fileOf (pool : Array CpInfo) (this : Nat) (attrs : Array Attribute := #[]) (ms : Array MethodInfo := #[]) (fl : Nat := 33) (sup : Nat := 0) (ifs : Array Nat := #[]) (fds : Array FieldInfo := #[]) : ClassFile where
  minorVersion := 0
  majorVersion := 65
  constantPool := pool
  accessFlags := fl
  thisClass := this
  superClass := sup
  interfaces := ifs
  fields := fds
  methods := ms
  attributes := attrs
def plain (name : String) (sup : Option ClassId) : Class where
  name := name
  kind := .ordinary
  loader := none
  accessFlags := 33
  super := sup
  interfaces := #[]
  cf := none
  fields := #[]
  methods := #[]
  instanceTypes := #[]
  staticTypes := #[]
  resolved := #[]
  callSites := []
  init := .initialized
  statics := none
  mirror := none

def pool0 : Array CpInfo := pool [(5, u "<init>"), (0, u "()V"), (1, .class_ 10), (1, u "java/lang/Object")] 113

def k0c0 : Code := { maxStack := 0, maxLocals := 1, code := object_method_1_code, exceptionTable := #[], attributes := #[] }
def k0m0 : Method := { name := "<init>", desc := "()V", sig := { parameters := [], returnType := none }, accessFlags := 1, code := some k0c0 }
/-- java/lang/Object -/
def k0 : Class := { plain "java/lang/Object" none with
  accessFlags := 33
  interfaces := #[]
  cf := some (fileOf pool0 8 #[] #[{ accessFlags := 1, nameIndex := 5, descriptorIndex := 6, attributes := #[] }] 33 0 #[] #[])
  fields := #[]
  methods := #[k0m0]
  instanceTypes := #[]
  staticTypes := #[]
  resolved := Array.replicate 124 none
  statics := none }

def pool1 : Array CpInfo := pool [(2, .class_ 4), (1, u "java/lang/Object"), (0, u "<init>"), (0, u "()V"), (0, .methodref 8 9), (0, .class_ 10), (0, .nameAndType 11 12), (0, u "flatfield/PrimitiveOfPinLaw"), (0, u "draw"), (0, u "(I)C"), (0, .class_ 14), (0, u "java/lang/String"), (0, .methodref 13 16), (0, .nameAndType 5 17), (0, u "([C)V"), (0, .methodref 19 20), (0, .class_ 21), (0, .nameAndType 22 23), (0, u "flatfield/Primitive"), (0, u "of"), (0, u "(Ljava/lang/String;)Lflatfield/Primitive;"), (0, .methodref 8 25), (0, .nameAndType 26 27), (0, u "expected"), (0, u "(C)Lflatfield/Primitive;"), (0, .string 29), (0, u "ZBCSIFJD"), (0, .methodref 13 31), (0, .nameAndType 32 12), (0, u "charAt"), (0, .fieldref 19 34), (0, .nameAndType 35 36), (0, u "BOOLEAN"), (0, u "Lflatfield/Primitive;"), (0, .fieldref 19 38), (0, .nameAndType 39 36), (0, u "BYTE"), (0, .fieldref 19 41), (0, .nameAndType 42 36), (0, u "CHAR"), (0, .fieldref 19 44), (0, .nameAndType 45 36), (0, u "SHORT"), (0, .fieldref 19 47), (0, .nameAndType 48 36), (0, u "INT"), (0, .fieldref 19 50), (0, .nameAndType 51 36), (0, u "FLOAT"), (0, .fieldref 19 53), (0, .nameAndType 54 36), (0, u "LONG"), (0, .fieldref 19 56), (0, .nameAndType 57 36), (0, u "DOUBLE"), (2, u "law"), (0, u "(IIII)Z")] 5

def k1m0 : Method := { name := "<init>", desc := "()V", sig := { parameters := [], returnType := none }, accessFlags := 1, code := none }
def k1c1 : Code := { maxStack := 3, maxLocals := 12, code := code, exceptionTable := #[], attributes := #[] }
def k1m1 : Method := { name := "law", desc := "(IIII)Z", sig := { parameters := [.int, .int, .int, .int], returnType := some .boolean }, accessFlags := 9, code := some k1c1 }
def k1c2 : Code := { maxStack := 3, maxLocals := 1, code := method_3_code, exceptionTable := #[], attributes := #[] }
def k1m2 : Method := { name := "draw", desc := "(I)C", sig := { parameters := [.int], returnType := some .char }, accessFlags := 10, code := some k1c2 }
def k1c3 : Code := { maxStack := 2, maxLocals := 1, code := method_4_code, exceptionTable := #[], attributes := #[] }
def k1m3 : Method := { name := "expected", desc := "(C)Lflatfield/Primitive;", sig := { parameters := [.char], returnType := some (.object "flatfield/Primitive") }, accessFlags := 10, code := some k1c3 }
/-- flatfield/PrimitiveOfPinLaw -/
def k1 : Class := { plain "flatfield/PrimitiveOfPinLaw" (some 0) with
  accessFlags := 49
  interfaces := #[]
  cf := some (fileOf pool1 8 #[] #[{ accessFlags := 1, nameIndex := 5, descriptorIndex := 6, attributes := #[] }, { accessFlags := 9, nameIndex := 60, descriptorIndex := 61, attributes := #[] }, { accessFlags := 10, nameIndex := 11, descriptorIndex := 12, attributes := #[] }, { accessFlags := 10, nameIndex := 26, descriptorIndex := 27, attributes := #[] }] 49 2 #[] #[])
  fields := #[]
  methods := #[k1m0, k1m1, k1m2, k1m3]
  instanceTypes := #[]
  staticTypes := #[]
  resolved := Array.replicate 67 none
  statics := none }

def pool2 : Array CpInfo := pool [(1, .class_ 2), (0, u "java/io/Serializable"), (0, .class_ 4), (0, u "java/lang/Object")] 2

/-- java/io/Serializable -/
def k2 : Class := { plain "java/io/Serializable" (some 0) with
  accessFlags := 1537
  interfaces := #[]
  cf := some (fileOf pool2 1 #[] #[] 1537 3 #[] #[])
  fields := #[]
  methods := #[]
  instanceTypes := #[]
  staticTypes := #[]
  resolved := Array.replicate 7 none
  statics := none }

def pool3 : Array CpInfo := pool [(1, .class_ 2), (0, u "java/lang/Comparable"), (0, .class_ 4), (0, u "java/lang/Object")] 7

/-- java/lang/Comparable -/
def k3 : Class := { plain "java/lang/Comparable" (some 0) with
  accessFlags := 1537
  interfaces := #[]
  cf := some (fileOf pool3 1 #[] #[] 1537 3 #[] #[])
  fields := #[]
  methods := #[]
  instanceTypes := #[]
  staticTypes := #[]
  resolved := Array.replicate 12 none
  statics := none }

def pool4 : Array CpInfo := pool [(2, .class_ 4), (1, u "java/lang/CharSequence"), (42, .class_ 48), (0, u "java/lang/CharSequence$1CodePointIterator"), (10, .class_ 60), (0, u "java/lang/CharSequence$1CharIterator"), (5, .class_ 67), (0, u "java/lang/Object")] 63

/-- java/lang/CharSequence -/
def k4 : Class := { plain "java/lang/CharSequence" (some 0) with
  accessFlags := 1537
  interfaces := #[]
  cf := some (fileOf pool4 2 #[.nestMembers #[47, 59]] #[] 1537 66 #[] #[])
  fields := #[]
  methods := #[]
  instanceTypes := #[]
  staticTypes := #[]
  resolved := Array.replicate 131 none
  statics := none }

def pool5 : Array CpInfo := pool [(1, .class_ 2), (0, u "java/lang/constant/Constable"), (0, .class_ 4), (0, u "java/lang/Object")] 6

/-- java/lang/constant/Constable -/
def k5 : Class := { plain "java/lang/constant/Constable" (some 0) with
  accessFlags := 1537
  interfaces := #[]
  cf := some (fileOf pool5 1 #[] #[] 1537 3 #[] #[])
  fields := #[]
  methods := #[]
  instanceTypes := #[]
  staticTypes := #[]
  resolved := Array.replicate 11 none
  statics := none }

def pool6 : Array CpInfo := pool [(1, .class_ 2), (0, u "java/lang/constant/ConstantDesc"), (0, .class_ 4), (0, u "java/lang/Object")] 32

/-- java/lang/constant/ConstantDesc -/
def k6 : Class := { plain "java/lang/constant/ConstantDesc" (some 0) with
  accessFlags := 1537
  interfaces := #[]
  cf := some (fileOf pool6 1 #[] #[] 1537 3 #[] #[])
  fields := #[]
  methods := #[]
  instanceTypes := #[]
  staticTypes := #[]
  resolved := Array.replicate 37 none
  statics := none }

def pool7 : Array CpInfo := pool [(1, .methodref 2 3), (0, .class_ 4), (0, .nameAndType 5 6), (0, u "java/lang/Object"), (0, u "<init>"), (0, u "()V"), (0, .string 8), (0, u ""), (0, .fieldref 10 11), (0, .class_ 12), (0, .nameAndType 13 14), (0, u "java/lang/String"), (0, u "value"), (0, u "[B"), (0, .fieldref 10 16), (0, .nameAndType 17 18), (0, u "coder"), (0, u "B"), (2, u "hash"), (0, u "I"), (2, u "hashIsZero"), (0, u "Z"), (0, .methodref 10 28), (0, .nameAndType 5 29), (0, u "([CIILjava/lang/Void;)V"), (8, .fieldref 10 39), (0, .nameAndType 40 26), (0, u "COMPACT_STRINGS"), (1, .class_ 44), (1, u "java/lang/StringUTF16"), (0, u "compress"), (1, .methodref 42 48), (0, .nameAndType 49 50), (0, u "coderFromArrayLen"), (0, u "([BI)B"), (56, .class_ 109), (1, u "java/lang/StringLatin1"), (32, u "()Z"), (34, .methodref 42 178), (0, .nameAndType 45 179), (0, u "([CII)[B"), (183, u "([BI)C"), (27, u "(II)V"), (35, u "(I)C"), (64, .methodref 10 493), (0, .nameAndType 494 142), (0, u "isLatin1"), (0, .methodref 107 496), (0, .nameAndType 497 363), (0, u "charAt"), (3, u "checkIndex"), (39, .methodref 107 542), (0, .nameAndType 543 544), (0, u "equals"), (0, u "([B[B)Z"), (28, u "(Ljava/lang/Object;)Z"), (1, .class_ 576), (0, u "java/lang/CharSequence"), (22, u "CASE_INSENSITIVE_ORDER"), (0, u "Ljava/util/Comparator;"), (409, u "([C)V"), (42, .fieldref 1054 1055), (0, .class_ 1056), (0, .nameAndType 1057 1058), (0, u "jdk/internal/util/Preconditions"), (0, u "SIOOBE_FORMATTER"), (0, u "Ljava/util/function/BiFunction;"), (0, .methodref 1054 1060), (0, .nameAndType 501 1061), (0, u "(IILjava/util/function/BiFunction;)I"), (39, u "serialPersistentFields"), (0, u "[Ljava/io/ObjectStreamField;"), (0, .class_ 1104), (0, u "java/lang/String$CaseInsensitiveComparator"), (1, .class_ 1107), (0, u "java/io/Serializable"), (0, .class_ 1109), (0, u "java/lang/Comparable"), (0, .class_ 1111), (0, u "java/lang/constant/Constable"), (0, .class_ 1113), (0, u "java/lang/constant/ConstantDesc"), (2, u "serialVersionUID"), (0, u "J"), (3, u "REPL"), (0, u "C"), (2, u "LATIN1"), (1, u "UTF16")] 323

def k7m0 : Method := { name := "<init>", desc := "()V", sig := { parameters := [], returnType := none }, accessFlags := 1, code := none }
def k7c1 : Code := { maxStack := 5, maxLocals := 2, code := jdk_42_method_3_code, exceptionTable := #[], attributes := #[] }
def k7m1 : Method := { name := "<init>", desc := "([C)V", sig := { parameters := [(.array .char)], returnType := none }, accessFlags := 1, code := some k7c1 }
def k7c2 : Code := { maxStack := 2, maxLocals := 2, code := jdk_42_method_56_code, exceptionTable := #[], attributes := #[] }
def k7m2 : Method := { name := "charAt", desc := "(I)C", sig := { parameters := [.int], returnType := some .char }, accessFlags := 1, code := some k7c2 }
def k7c3 : Code := { maxStack := 2, maxLocals := 3, code := jdk_42_method_66_code, exceptionTable := #[], attributes := #[] }
def k7m3 : Method := { name := "equals", desc := "(Ljava/lang/Object;)Z", sig := { parameters := [(.object "java/lang/Object")], returnType := some .boolean }, accessFlags := 1, code := some k7c3 }
def k7c4 : Code := { maxStack := 4, maxLocals := 6, code := jdk_42_method_149_code, exceptionTable := #[], attributes := #[] }
def k7m4 : Method := { name := "<init>", desc := "([CIILjava/lang/Void;)V", sig := { parameters := [(.array .char), .int, .int, (.object "java/lang/Void")], returnType := none }, accessFlags := 2, code := some k7c4 }
def k7c5 : Code := { maxStack := 1, maxLocals := 1, code := jdk_42_method_154_code, exceptionTable := #[], attributes := #[] }
def k7m5 : Method := { name := "isLatin1", desc := "()Z", sig := { parameters := [], returnType := some .boolean }, accessFlags := 0, code := some k7c5 }
def k7c6 : Code := { maxStack := 3, maxLocals := 2, code := jdk_42_method_155_code, exceptionTable := #[], attributes := #[] }
def k7m6 : Method := { name := "checkIndex", desc := "(II)V", sig := { parameters := [.int, .int], returnType := none }, accessFlags := 8, code := some k7c6 }
/-- java/lang/String -/
def k7 : Class := { plain "java/lang/String" (some 0) with
  accessFlags := 49
  interfaces := #[2, 3, 4, 5, 6]
  cf := some (fileOf pool7 10 #[.nestMembers #[1103]] #[{ accessFlags := 1, nameIndex := 5, descriptorIndex := 6, attributes := #[] }, { accessFlags := 1, nameIndex := 5, descriptorIndex := 1010, attributes := #[] }, { accessFlags := 1, nameIndex := 497, descriptorIndex := 427, attributes := #[] }, { accessFlags := 1, nameIndex := 543, descriptorIndex := 573, attributes := #[] }, { accessFlags := 2, nameIndex := 5, descriptorIndex := 29, attributes := #[] }, { accessFlags := 0, nameIndex := 494, descriptorIndex := 142, attributes := #[] }, { accessFlags := 8, nameIndex := 501, descriptorIndex := 391, attributes := #[] }] 49 2 #[1106, 1108, 575, 1110, 1112] #[{ accessFlags := 18, nameIndex := 13, descriptorIndex := 14, attributes := #[] }, { accessFlags := 18, nameIndex := 17, descriptorIndex := 18, attributes := #[] }, { accessFlags := 2, nameIndex := 21, descriptorIndex := 22, attributes := #[] }, { accessFlags := 2, nameIndex := 25, descriptorIndex := 26, attributes := #[] }, { accessFlags := 26, nameIndex := 1116, descriptorIndex := 1117, attributes := #[] }, { accessFlags := 24, nameIndex := 40, descriptorIndex := 26, attributes := #[] }, { accessFlags := 26, nameIndex := 1101, descriptorIndex := 1102, attributes := #[] }, { accessFlags := 26, nameIndex := 1121, descriptorIndex := 1122, attributes := #[] }, { accessFlags := 25, nameIndex := 599, descriptorIndex := 600, attributes := #[] }, { accessFlags := 24, nameIndex := 1125, descriptorIndex := 18, attributes := #[] }, { accessFlags := 24, nameIndex := 1127, descriptorIndex := 18, attributes := #[] }])
  fields := #[{ name := "value", type := (.array .byte), accessFlags := 18, slot := 0, constantValue := 0 }, { name := "coder", type := .byte, accessFlags := 18, slot := 1, constantValue := 0 }, { name := "hash", type := .int, accessFlags := 2, slot := 2, constantValue := 0 }, { name := "hashIsZero", type := .boolean, accessFlags := 2, slot := 3, constantValue := 0 }, { name := "serialVersionUID", type := .long, accessFlags := 26, slot := 0, constantValue := 0 }, { name := "COMPACT_STRINGS", type := .boolean, accessFlags := 24, slot := 1, constantValue := 0 }, { name := "serialPersistentFields", type := (.array (.object "java/io/ObjectStreamField")), accessFlags := 26, slot := 2, constantValue := 0 }, { name := "REPL", type := .char, accessFlags := 26, slot := 3, constantValue := 0 }, { name := "CASE_INSENSITIVE_ORDER", type := (.object "java/util/Comparator"), accessFlags := 25, slot := 4, constantValue := 0 }, { name := "LATIN1", type := .byte, accessFlags := 24, slot := 5, constantValue := 0 }, { name := "UTF16", type := .byte, accessFlags := 24, slot := 6, constantValue := 0 }]
  methods := #[k7m0, k7m1, k7m2, k7m3, k7m4, k7m5, k7m6]
  instanceTypes := #[(.array .byte), .byte, .int, .boolean]
  staticTypes := #[.long, .boolean, (.array (.object "java/io/ObjectStreamField")), .char, (.object "java/util/Comparator"), .byte, .byte]
  resolved := Array.replicate 1451 none
  statics := some 0 }

def pool8 : Array CpInfo := pool [(2, .class_ 4), (1, u "java/lang/Enum"), (0, u "name"), (0, u "Ljava/lang/String;"), (2, u "ordinal"), (0, u "I"), (1, .class_ 14), (1, u "java/lang/Object"), (4, u "hash"), (86, .class_ 108), (1, u "java/lang/Enum$EnumDesc"), (2, .class_ 112), (0, u "java/lang/constant/Constable"), (0, .class_ 114), (0, u "java/lang/Comparable"), (0, .class_ 116), (0, u "java/io/Serializable")] 87

/-- java/lang/Enum -/
def k8 : Class := { plain "java/lang/Enum" (some 0) with
  accessFlags := 1057
  interfaces := #[5, 3, 2]
  cf := some (fileOf pool8 2 #[.nestMembers #[106]] #[] 1057 12 #[111, 113, 115] #[{ accessFlags := 18, nameIndex := 5, descriptorIndex := 6, attributes := #[] }, { accessFlags := 18, nameIndex := 9, descriptorIndex := 10, attributes := #[] }, { accessFlags := 2, nameIndex := 19, descriptorIndex := 10, attributes := #[] }])
  fields := #[{ name := "name", type := (.object "java/lang/String"), accessFlags := 18, slot := 0, constantValue := 0 }, { name := "ordinal", type := .int, accessFlags := 18, slot := 1, constantValue := 0 }, { name := "hash", type := .int, accessFlags := 2, slot := 2, constantValue := 0 }]
  methods := #[]
  instanceTypes := #[(.object "java/lang/String"), .int, .int]
  staticTypes := #[]
  resolved := Array.replicate 204 none
  statics := none }

def pool9 : Array CpInfo := pool [(1, .class_ 2), (0, u "flatfield/Primitive"), (2, u "BOOLEAN"), (0, u "Lflatfield/Primitive;"), (2, u "BYTE"), (2, u "CHAR"), (2, u "SHORT"), (2, u "INT"), (2, u "FLOAT"), (2, u "LONG"), (2, u "DOUBLE"), (2, u "$VALUES"), (0, u "[Lflatfield/Primitive;"), (6, .class_ 40), (1, u "java/lang/Enum"), (8, u "type"), (0, u "Ljava/lang/Class;"), (6, .fieldref 1 58), (0, .nameAndType 59 60), (0, u "descriptor"), (0, u "Ljava/lang/String;"), (2, u "size"), (0, u "I"), (2, u "view"), (0, u "Ljava/lang/invoke/VarHandle;"), (0, .fieldref 1 70), (0, .nameAndType 71 31), (0, u "ALL"), (0, .methodref 73 74), (0, .class_ 75), (0, .nameAndType 76 77), (0, u "java/lang/String"), (0, u "equals"), (0, u "(Ljava/lang/Object;)Z"), (80, u "(Ljava/lang/String;)Lflatfield/Primitive;"), (2, u "of")] 7

def k9c0 : Code := { maxStack := 2, maxLocals := 5, code := prog_3_method_4_code, exceptionTable := #[], attributes := #[] }
def k9m0 : Method := { name := "of", desc := "(Ljava/lang/String;)Lflatfield/Primitive;", sig := { parameters := [(.object "java/lang/String")], returnType := some (.object "flatfield/Primitive") }, accessFlags := 8, code := some k9c0 }
/-- flatfield/Primitive -/
def k9 : Class := { plain "flatfield/Primitive" (some 8) with
  accessFlags := 16432
  interfaces := #[]
  cf := some (fileOf pool9 1 #[] #[{ accessFlags := 8, nameIndex := 161, descriptorIndex := 158, attributes := #[] }] 16432 38 #[] #[{ accessFlags := 16409, nameIndex := 5, descriptorIndex := 6, attributes := #[] }, { accessFlags := 16409, nameIndex := 9, descriptorIndex := 6, attributes := #[] }, { accessFlags := 16409, nameIndex := 12, descriptorIndex := 6, attributes := #[] }, { accessFlags := 16409, nameIndex := 15, descriptorIndex := 6, attributes := #[] }, { accessFlags := 16409, nameIndex := 18, descriptorIndex := 6, attributes := #[] }, { accessFlags := 16409, nameIndex := 21, descriptorIndex := 6, attributes := #[] }, { accessFlags := 16409, nameIndex := 24, descriptorIndex := 6, attributes := #[] }, { accessFlags := 16409, nameIndex := 27, descriptorIndex := 6, attributes := #[] }, { accessFlags := 16, nameIndex := 49, descriptorIndex := 50, attributes := #[] }, { accessFlags := 16, nameIndex := 59, descriptorIndex := 60, attributes := #[] }, { accessFlags := 16, nameIndex := 63, descriptorIndex := 64, attributes := #[] }, { accessFlags := 16, nameIndex := 67, descriptorIndex := 68, attributes := #[] }, { accessFlags := 26, nameIndex := 71, descriptorIndex := 31, attributes := #[] }, { accessFlags := 4122, nameIndex := 30, descriptorIndex := 31, attributes := #[] }])
  fields := #[{ name := "BOOLEAN", type := (.object "flatfield/Primitive"), accessFlags := 16409, slot := 0, constantValue := 0 }, { name := "BYTE", type := (.object "flatfield/Primitive"), accessFlags := 16409, slot := 1, constantValue := 0 }, { name := "CHAR", type := (.object "flatfield/Primitive"), accessFlags := 16409, slot := 2, constantValue := 0 }, { name := "SHORT", type := (.object "flatfield/Primitive"), accessFlags := 16409, slot := 3, constantValue := 0 }, { name := "INT", type := (.object "flatfield/Primitive"), accessFlags := 16409, slot := 4, constantValue := 0 }, { name := "FLOAT", type := (.object "flatfield/Primitive"), accessFlags := 16409, slot := 5, constantValue := 0 }, { name := "LONG", type := (.object "flatfield/Primitive"), accessFlags := 16409, slot := 6, constantValue := 0 }, { name := "DOUBLE", type := (.object "flatfield/Primitive"), accessFlags := 16409, slot := 7, constantValue := 0 }, { name := "type", type := (.object "java/lang/Class"), accessFlags := 16, slot := 3, constantValue := 0 }, { name := "descriptor", type := (.object "java/lang/String"), accessFlags := 16, slot := 4, constantValue := 0 }, { name := "size", type := .int, accessFlags := 16, slot := 5, constantValue := 0 }, { name := "view", type := (.object "java/lang/invoke/VarHandle"), accessFlags := 16, slot := 6, constantValue := 0 }, { name := "ALL", type := (.array (.object "flatfield/Primitive")), accessFlags := 26, slot := 8, constantValue := 0 }, { name := "$VALUES", type := (.array (.object "flatfield/Primitive")), accessFlags := 4122, slot := 9, constantValue := 0 }]
  methods := #[k9m0]
  instanceTypes := #[(.object "java/lang/String"), .int, .int, (.object "java/lang/Class"), (.object "java/lang/String"), .int, (.object "java/lang/invoke/VarHandle")]
  staticTypes := #[(.object "flatfield/Primitive"), (.object "flatfield/Primitive"), (.object "flatfield/Primitive"), (.object "flatfield/Primitive"), (.object "flatfield/Primitive"), (.object "flatfield/Primitive"), (.object "flatfield/Primitive"), (.object "flatfield/Primitive"), (.array (.object "flatfield/Primitive")), (.array (.object "flatfield/Primitive"))]
  resolved := Array.replicate 169 none
  statics := some 1 }

def pool10 : Array CpInfo := pool [(1, .class_ 2), (0, u "java/lang/String"), (1, .class_ 6), (1, u "java/lang/Object"), (0, u "<init>"), (0, u "()V"), (0, .methodref 1 10), (0, .nameAndType 11 12), (0, u "checkIndex"), (0, u "(II)V"), (1, .class_ 16), (1, u "java/lang/StringLatin1"), (36, u "([BI)C"), (67, u "$assertionsDisabled"), (0, u "Z"), (98, .class_ 223), (1, u "java/lang/StringLatin1$LinesSpliterator"), (28, u "charAt"), (28, u "equals"), (0, u "([B[B)Z"), (107, .class_ 391), (0, u "java/lang/StringLatin1$CharsSpliterator")] 3

def k10m0 : Method := { name := "<init>", desc := "()V", sig := { parameters := [], returnType := none }, accessFlags := 0, code := none }
def k10c1 : Code := { maxStack := 2, maxLocals := 2, code := jdk_43_method_2_code, exceptionTable := #[], attributes := #[] }
def k10m1 : Method := { name := "charAt", desc := "([BI)C", sig := { parameters := [(.array .byte), .int], returnType := some .char }, accessFlags := 9, code := some k10c1 }
def k10c2 : Code := { maxStack := 3, maxLocals := 3, code := jdk_43_method_13_code, exceptionTable := #[], attributes := #[] }
def k10m2 : Method := { name := "equals", desc := "([B[B)Z", sig := { parameters := [(.array .byte), (.array .byte)], returnType := some .boolean }, accessFlags := 9, code := some k10c2 }
/-- java/lang/StringLatin1 -/
def k10 : Class := { plain "java/lang/StringLatin1" (some 0) with
  accessFlags := 48
  interfaces := #[]
  cf := some (fileOf pool10 14 #[.nestMembers #[390, 221]] #[{ accessFlags := 0, nameIndex := 7, descriptorIndex := 8, attributes := #[] }, { accessFlags := 9, nameIndex := 252, descriptorIndex := 53, attributes := #[] }, { accessFlags := 9, nameIndex := 281, descriptorIndex := 282, attributes := #[] }] 48 4 #[] #[{ accessFlags := 4120, nameIndex := 121, descriptorIndex := 122, attributes := #[] }])
  fields := #[{ name := "$assertionsDisabled", type := .boolean, accessFlags := 4120, slot := 0, constantValue := 0 }]
  methods := #[k10m0, k10m1, k10m2]
  instanceTypes := #[]
  staticTypes := #[.boolean]
  resolved := Array.replicate 395 none
  statics := none }

def pool11 : Array CpInfo := pool [(6, .class_ 8), (1, u "java/lang/Object"), (0, u "<init>"), (0, u "()V"), (1, .class_ 14), (1, u "java/lang/StringUTF16"), (31, u "$assertionsDisabled"), (0, u "Z"), (13, u "HI_BYTE_SHIFT"), (0, u "I"), (2, u "LO_BYTE_SHIFT"), (49, .methodref 12 116), (0, .nameAndType 117 118), (0, u "compress"), (0, u "([CI[BII)I"), (3, u "([CII)[B"), (138, u "coderFromArrayLen"), (0, u "([BI)B"), (106, .class_ 371), (1, u "java/lang/StringUTF16$LinesSpliterator"), (58, u "MAX_LENGTH"), (196, .class_ 628), (0, u "java/lang/StringUTF16$CodePointsSpliterator"), (0, .class_ 630), (0, u "java/lang/StringUTF16$CharsSpliterator")] 4

def k11m0 : Method := { name := "<init>", desc := "()V", sig := { parameters := [], returnType := none }, accessFlags := 0, code := none }
def k11c1 : Code := { maxStack := 2, maxLocals := 2, code := jdk_52_method_15_code, exceptionTable := #[], attributes := #[] }
def k11m1 : Method := { name := "coderFromArrayLen", desc := "([BI)B", sig := { parameters := [(.array .byte), .int], returnType := some .byte }, accessFlags := 8, code := some k11c1 }
def k11c2 : Code := { maxStack := 5, maxLocals := 6, code := jdk_52_method_16_code, exceptionTable := #[], attributes := #[] }
def k11m2 : Method := { name := "compress", desc := "([CII)[B", sig := { parameters := [(.array .char), .int, .int], returnType := some (.array .byte) }, accessFlags := 9, code := some k11c2 }
def k11c3 : Code := { maxStack := 3, maxLocals := 7, code := jdk_52_method_21_code, exceptionTable := #[], attributes := #[] }
def k11m3 : Method := { name := "compress", desc := "([CI[BII)I", sig := { parameters := [(.array .char), .int, (.array .byte), .int, .int], returnType := some .int }, accessFlags := 9, code := some k11c3 }
/-- java/lang/StringUTF16 -/
def k11 : Class := { plain "java/lang/StringUTF16" (some 0) with
  accessFlags := 48
  interfaces := #[]
  cf := some (fileOf pool11 12 #[.nestMembers #[627, 629, 369]] #[{ accessFlags := 0, nameIndex := 9, descriptorIndex := 10, attributes := #[] }, { accessFlags := 8, nameIndex := 261, descriptorIndex := 262, attributes := #[] }, { accessFlags := 9, nameIndex := 117, descriptorIndex := 122, attributes := #[] }, { accessFlags := 9, nameIndex := 117, descriptorIndex := 118, attributes := #[] }] 48 6 #[] #[{ accessFlags := 26, nameIndex := 61, descriptorIndex := 62, attributes := #[] }, { accessFlags := 26, nameIndex := 65, descriptorIndex := 62, attributes := #[] }, { accessFlags := 24, nameIndex := 430, descriptorIndex := 62, attributes := #[] }, { accessFlags := 4120, nameIndex := 46, descriptorIndex := 47, attributes := #[] }])
  fields := #[{ name := "HI_BYTE_SHIFT", type := .int, accessFlags := 26, slot := 0, constantValue := 0 }, { name := "LO_BYTE_SHIFT", type := .int, accessFlags := 26, slot := 1, constantValue := 0 }, { name := "MAX_LENGTH", type := .int, accessFlags := 24, slot := 2, constantValue := 0 }, { name := "$assertionsDisabled", type := .boolean, accessFlags := 4120, slot := 3, constantValue := 0 }]
  methods := #[k11m0, k11m1, k11m2, k11m3]
  instanceTypes := #[]
  staticTypes := #[.int, .int, .int, .boolean]
  resolved := Array.replicate 635 none
  statics := none }

def pool12 : Array CpInfo := pool [(2, .class_ 4), (1, u "java/lang/Object"), (0, u "<init>"), (0, u "()V"), (17, .class_ 26), (1, u "jdk/internal/util/Preconditions"), (6, u "checkIndex"), (21, .class_ 56), (0, u "jdk/internal/util/Preconditions$4"), (57, .class_ 115), (0, u "jdk/internal/util/Preconditions$1"), (7, u "SIOOBE_FORMATTER"), (0, u "Ljava/util/function/BiFunction;"), (0, .class_ 126), (0, u "jdk/internal/util/Preconditions$2"), (3, u "AIOOBE_FORMATTER"), (0, .class_ 132), (0, u "jdk/internal/util/Preconditions$3"), (3, u "IOOBE_FORMATTER"), (41, u "(IILjava/util/function/BiFunction;)I")] 15

def k12m0 : Method := { name := "<init>", desc := "()V", sig := { parameters := [], returnType := none }, accessFlags := 1, code := none }
def k12c1 : Code := { maxStack := 3, maxLocals := 3, code := jdk_41_method_11_code, exceptionTable := #[], attributes := #[] }
def k12m1 : Method := { name := "checkIndex", desc := "(IILjava/util/function/BiFunction;)I", sig := { parameters := [.int, .int, (.object "java/util/function/BiFunction")], returnType := some .int }, accessFlags := 9, code := some k12c1 }
/-- jdk/internal/util/Preconditions -/
def k12 : Class := { plain "jdk/internal/util/Preconditions" (some 0) with
  accessFlags := 33
  interfaces := #[]
  cf := some (fileOf pool12 24 #[.nestMembers #[55, 131, 125, 114]] #[{ accessFlags := 1, nameIndex := 5, descriptorIndex := 6, attributes := #[] }, { accessFlags := 9, nameIndex := 33, descriptorIndex := 178, attributes := #[] }] 33 2 #[] #[{ accessFlags := 25, nameIndex := 123, descriptorIndex := 124, attributes := #[] }, { accessFlags := 25, nameIndex := 130, descriptorIndex := 124, attributes := #[] }, { accessFlags := 25, nameIndex := 136, descriptorIndex := 124, attributes := #[] }])
  fields := #[{ name := "SIOOBE_FORMATTER", type := (.object "java/util/function/BiFunction"), accessFlags := 25, slot := 0, constantValue := 0 }, { name := "AIOOBE_FORMATTER", type := (.object "java/util/function/BiFunction"), accessFlags := 25, slot := 1, constantValue := 0 }, { name := "IOOBE_FORMATTER", type := (.object "java/util/function/BiFunction"), accessFlags := 25, slot := 2, constantValue := 0 }]
  methods := #[k12m0, k12m1]
  instanceTypes := #[]
  staticTypes := #[(.object "java/util/function/BiFunction"), (.object "java/util/function/BiFunction"), (.object "java/util/function/BiFunction")]
  resolved := Array.replicate 194 none
  statics := some 2 }

def pool13 : Array CpInfo := pool [(9, u "<init>"), (6, .class_ 18), (1, u "java/lang/Object"), (0, u "()V"), (1, .class_ 23), (1, u "jdk/internal/util/ArraysSupport"), (0, u "LOG2_ARRAY_LONG_INDEX_SCALE"), (0, u "I"), (2, u "U"), (0, u "Ljdk/internal/misc/Unsafe;"), (8, u "BIG_ENDIAN"), (0, u "Z"), (8, u "LOG2_BYTE_BIT_SIZE"), (4, u "LOG2_ARRAY_INT_INDEX_SCALE"), (54, u "JLA"), (0, u "Ljdk/internal/access/JavaLangAccess;"), (11, u "LOG2_ARRAY_BOOLEAN_INDEX_SCALE"), (9, u "LOG2_ARRAY_BYTE_INDEX_SCALE"), (5, u "LOG2_ARRAY_CHAR_INDEX_SCALE"), (5, u "LOG2_ARRAY_SHORT_INDEX_SCALE"), (18, u "LOG2_ARRAY_FLOAT_INDEX_SCALE"), (24, u "LOG2_ARRAY_DOUBLE_INDEX_SCALE"), (89, u "T_BOOLEAN"), (2, u "T_CHAR"), (1, u "T_FLOAT"), (1, u "T_DOUBLE"), (1, u "T_BYTE"), (1, u "T_SHORT"), (1, u "T_INT"), (1, u "T_LONG"), (1, u "SOFT_MAX_ARRAY_LENGTH")] 83

def k13m0 : Method := { name := "<init>", desc := "()V", sig := { parameters := [], returnType := none }, accessFlags := 2, code := none }
/-- jdk/internal/util/ArraysSupport -/
def k13 : Class := { plain "jdk/internal/util/ArraysSupport" (some 0) with
  accessFlags := 33
  interfaces := #[]
  cf := some (fileOf pool13 21 #[] #[{ accessFlags := 2, nameIndex := 9, descriptorIndex := 19, attributes := #[] }] 33 16 #[] #[{ accessFlags := 24, nameIndex := 28, descriptorIndex := 29, attributes := #[] }, { accessFlags := 26, nameIndex := 38, descriptorIndex := 39, attributes := #[] }, { accessFlags := 25, nameIndex := 121, descriptorIndex := 25, attributes := #[] }, { accessFlags := 25, nameIndex := 131, descriptorIndex := 25, attributes := #[] }, { accessFlags := 25, nameIndex := 137, descriptorIndex := 25, attributes := #[] }, { accessFlags := 25, nameIndex := 143, descriptorIndex := 25, attributes := #[] }, { accessFlags := 25, nameIndex := 53, descriptorIndex := 25, attributes := #[] }, { accessFlags := 25, nameIndex := 24, descriptorIndex := 25, attributes := #[] }, { accessFlags := 25, nameIndex := 162, descriptorIndex := 25, attributes := #[] }, { accessFlags := 25, nameIndex := 187, descriptorIndex := 25, attributes := #[] }, { accessFlags := 26, nameIndex := 48, descriptorIndex := 25, attributes := #[] }, { accessFlags := 25, nameIndex := 277, descriptorIndex := 25, attributes := #[] }, { accessFlags := 25, nameIndex := 280, descriptorIndex := 25, attributes := #[] }, { accessFlags := 25, nameIndex := 282, descriptorIndex := 25, attributes := #[] }, { accessFlags := 25, nameIndex := 284, descriptorIndex := 25, attributes := #[] }, { accessFlags := 25, nameIndex := 286, descriptorIndex := 25, attributes := #[] }, { accessFlags := 25, nameIndex := 288, descriptorIndex := 25, attributes := #[] }, { accessFlags := 25, nameIndex := 290, descriptorIndex := 25, attributes := #[] }, { accessFlags := 25, nameIndex := 292, descriptorIndex := 25, attributes := #[] }, { accessFlags := 26, nameIndex := 108, descriptorIndex := 109, attributes := #[] }, { accessFlags := 25, nameIndex := 294, descriptorIndex := 25, attributes := #[] }])
  fields := #[{ name := "U", type := (.object "jdk/internal/misc/Unsafe"), accessFlags := 24, slot := 0, constantValue := 0 }, { name := "BIG_ENDIAN", type := .boolean, accessFlags := 26, slot := 1, constantValue := 0 }, { name := "LOG2_ARRAY_BOOLEAN_INDEX_SCALE", type := .int, accessFlags := 25, slot := 2, constantValue := 0 }, { name := "LOG2_ARRAY_BYTE_INDEX_SCALE", type := .int, accessFlags := 25, slot := 3, constantValue := 0 }, { name := "LOG2_ARRAY_CHAR_INDEX_SCALE", type := .int, accessFlags := 25, slot := 4, constantValue := 0 }, { name := "LOG2_ARRAY_SHORT_INDEX_SCALE", type := .int, accessFlags := 25, slot := 5, constantValue := 0 }, { name := "LOG2_ARRAY_INT_INDEX_SCALE", type := .int, accessFlags := 25, slot := 6, constantValue := 0 }, { name := "LOG2_ARRAY_LONG_INDEX_SCALE", type := .int, accessFlags := 25, slot := 7, constantValue := 0 }, { name := "LOG2_ARRAY_FLOAT_INDEX_SCALE", type := .int, accessFlags := 25, slot := 8, constantValue := 0 }, { name := "LOG2_ARRAY_DOUBLE_INDEX_SCALE", type := .int, accessFlags := 25, slot := 9, constantValue := 0 }, { name := "LOG2_BYTE_BIT_SIZE", type := .int, accessFlags := 26, slot := 10, constantValue := 0 }, { name := "T_BOOLEAN", type := .int, accessFlags := 25, slot := 11, constantValue := 0 }, { name := "T_CHAR", type := .int, accessFlags := 25, slot := 12, constantValue := 0 }, { name := "T_FLOAT", type := .int, accessFlags := 25, slot := 13, constantValue := 0 }, { name := "T_DOUBLE", type := .int, accessFlags := 25, slot := 14, constantValue := 0 }, { name := "T_BYTE", type := .int, accessFlags := 25, slot := 15, constantValue := 0 }, { name := "T_SHORT", type := .int, accessFlags := 25, slot := 16, constantValue := 0 }, { name := "T_INT", type := .int, accessFlags := 25, slot := 17, constantValue := 0 }, { name := "T_LONG", type := .int, accessFlags := 25, slot := 18, constantValue := 0 }, { name := "JLA", type := (.object "jdk/internal/access/JavaLangAccess"), accessFlags := 26, slot := 19, constantValue := 0 }, { name := "SOFT_MAX_ARRAY_LENGTH", type := .int, accessFlags := 25, slot := 20, constantValue := 0 }]
  methods := #[k13m0]
  instanceTypes := #[]
  staticTypes := #[(.object "jdk/internal/misc/Unsafe"), .boolean, .int, .int, .int, .int, .int, .int, .int, .int, .int, .int, .int, .int, .int, .int, .int, .int, .int, (.object "jdk/internal/access/JavaLangAccess"), .int]
  resolved := Array.replicate 378 none
  statics := none }

def pool14 : Array CpInfo := pool [(1, u "java/lang/Cloneable"), (0, .class_ 1), (0, u "java/lang/Object"), (0, .class_ 3)] 3

/-- java/lang/Cloneable -/
def k14 : Class := { plain "java/lang/Cloneable" (some 0) with
  accessFlags := 1537
  interfaces := #[]
  cf := some (fileOf pool14 2 #[] #[] 1537 4 #[] #[])
  fields := #[]
  methods := #[]
  instanceTypes := #[]
  staticTypes := #[]
  resolved := Array.replicate 8 none
  statics := none }

/-- the primitive byte -/
def k15 : Class := { plain "byte" none with kind := .primitive 'B', accessFlags := 0x411 }
/-- [B -/
def k16 : Class := { plain "[B" (some 0) with kind := .array 15 .byte, interfaces := #[14, 2], accessFlags := 1041 }

/-- the primitive char -/
def k17 : Class := { plain "char" none with kind := .primitive 'C', accessFlags := 0x411 }
/-- [C -/
def k18 : Class := { plain "[C" (some 0) with kind := .array 17 .char, interfaces := #[14, 2], accessFlags := 1041 }

/-- the primitive int -/
def k19 : Class := { plain "int" none with kind := .primitive 'I', accessFlags := 0x411 }
/-- [I -/
def k20 : Class := { plain "[I" (some 0) with kind := .array 19 .int, interfaces := #[14, 2], accessFlags := 1041 }

/-- [Lflatfield/Primitive; -/
def k21 : Class := { plain "[Lflatfield/Primitive;" (some 0) with kind := .array 9 (.object "flatfield/Primitive"), interfaces := #[14, 2], accessFlags := 1041 }

def heap : Heap := #[{ cls := 7, slots := #[.long 0, .int 1, .null, .int 0, .null, .int 0, .int 0], vm := .statics 7 },
  { cls := 9, slots := #[.ref 4, .ref 5, .ref 6, .ref 7, .ref 8, .ref 9, .ref 10, .ref 11, .ref 3, .null], vm := .statics 9 },
  { cls := 12, slots := #[.null, .null, .null], vm := .statics 12 },
  { cls := 21, slots := #[.ref 4, .ref 5, .ref 6, .ref 7, .ref 8, .ref 9, .ref 10, .ref 11], vm := .none },
  { cls := 9, slots := #[.null, .int 0, .int 0, .null, .ref 12, .int 0, .null], vm := .none },
  { cls := 9, slots := #[.null, .int 1, .int 0, .null, .ref 13, .int 0, .null], vm := .none },
  { cls := 9, slots := #[.null, .int 2, .int 0, .null, .ref 14, .int 0, .null], vm := .none },
  { cls := 9, slots := #[.null, .int 3, .int 0, .null, .ref 15, .int 0, .null], vm := .none },
  { cls := 9, slots := #[.null, .int 4, .int 0, .null, .ref 16, .int 0, .null], vm := .none },
  { cls := 9, slots := #[.null, .int 5, .int 0, .null, .ref 17, .int 0, .null], vm := .none },
  { cls := 9, slots := #[.null, .int 6, .int 0, .null, .ref 18, .int 0, .null], vm := .none },
  { cls := 9, slots := #[.null, .int 7, .int 0, .null, .ref 19, .int 0, .null], vm := .none },
  { cls := 7, slots := #[.ref 20, .int 0, .int 0, .int 0], vm := .none },
  { cls := 7, slots := #[.ref 21, .int 0, .int 0, .int 0], vm := .none },
  { cls := 7, slots := #[.ref 22, .int 0, .int 0, .int 0], vm := .none },
  { cls := 7, slots := #[.ref 23, .int 0, .int 0, .int 0], vm := .none },
  { cls := 7, slots := #[.ref 24, .int 0, .int 0, .int 0], vm := .none },
  { cls := 7, slots := #[.ref 25, .int 0, .int 0, .int 0], vm := .none },
  { cls := 7, slots := #[.ref 26, .int 0, .int 0, .int 0], vm := .none },
  { cls := 7, slots := #[.ref 27, .int 0, .int 0, .int 0], vm := .none },
  { cls := 16, slots := #[.int 90], vm := .none },
  { cls := 16, slots := #[.int 66], vm := .none },
  { cls := 16, slots := #[.int 67], vm := .none },
  { cls := 16, slots := #[.int 83], vm := .none },
  { cls := 16, slots := #[.int 73], vm := .none },
  { cls := 16, slots := #[.int 70], vm := .none },
  { cls := 16, slots := #[.int 74], vm := .none },
  { cls := 16, slots := #[.int 68], vm := .none }]
def classes : Array Class := #[k0, k1, k2, k3, k4, k5, k6, k7, k8, k9, k10, k11, k12, k13, k14, k15, k16, k17, k18, k19, k20, k21]
def interned : List (Array UInt16 × Addr) := []
def slotsUsed : Nat := 124
def theMethod : MethodId := ⟨1, 1⟩
def args0 : Array Value := #[.int 5, .int 5, .int 5, .int 5]
def aboutOver (below : List Frame) : State where
  vm := { classes := classes, interned := interned.toArray }
  heap := heap
  slotsUsed := slotsUsed
  threads := #[{ frames := .invoking theMethod args0 :: below }]
def below0 : List Frame := [.native { method := ⟨0, 0⟩, args := #[] }]
def about1 : State := aboutOver below0
def p0 : Program := .bare "" "" ""
def e0 : Env := launch0.env 0 0 0
theorem w_frames : about1.frames = Frame.invoking theMethod args0 :: below0 := rfl
set_option maxRecDepth 65536 in
theorem w_args : argsFit about1.vm theMethod args0 = true := by decide +kernel
set_option maxRecDepth 65536 in
theorem w_heap : heapFits about1 = true := by decide +kernel
set_option maxRecDepth 65536 in
theorem w_runnable : about1.curStatus? = some .runnable := by decide +kernel
set_option maxRecDepth 65536 in
theorem w_alone : about1.alone = true := by decide +kernel
set_option maxRecDepth 65536 in
theorem w_named : about1.methodNamed? x = some theMethod := by decide +kernel
set_option maxRecDepth 65536 in
theorem w_hears : about1.hears theMethod below0 = true := by decide +kernel
set_option maxRecDepth 65536 in
theorem w_ripe : about1.ripe theMethod args0 below0 = true := by decide +kernel
theorem w_running : about1.status = .running := rfl
set_option maxRecDepth 65536 in
theorem w_room : about1.hasRoom e0.platform room_1 = true :=
  launch0.hasRoom_least _ room_1 (by decide +kernel) (by decide +kernel) (by decide +kernel) (by decide +kernel) (by decide +kernel) (by decide +kernel)
theorem allAtoms_all (ts : List Jvm.Cond) (a : Array Jvm.Value) (st : Jvm.State) : (allAtoms ts).before a st = ts.all (fun c => c.before a st) := by
  induction ts with
  | nil => rfl
  | cons c t ih =>
    show (Jvm.Cond.and c (allAtoms t)).before a st = _
    rw [Jvm.Cond.before_and, ih, List.all_cons]
def words1 : List Jvm.Cond := Jvm.Cond.code x code maxLocals ret :: tables_1
/-- a 'code' word, met by the world's own term for the bytes: nothing is compared byte by byte -/
theorem code_word {y : MethodName} {bytes : ByteArray} {mx : Nat} {rt : Option FieldType} {a : Array Value} {s : State} {m : MethodId} {meth : Method} {c : Code} (h1 : s.methodNamed? y = some m) (h2 : s.vm.method? m = some meth) (h3 : meth.code = some c) (h4 : c.code = bytes)
    (h5 : (c.maxLocals == mx && c.exceptionTable.isEmpty && decide (c.maxStack ≤ mostOperands) && decide (meth.sig.returnType = rt) && !meth.locks && decide (parseMethodDescriptor y.desc = some meth.sig)) = true) : (Jvm.Cond.code y bytes mx rt).before a s = true := by
  simp only [Bool.and_eq_true, beq_iff_eq, Bool.not_eq_true', decide_eq_true_eq] at h5
  obtain ⟨⟨⟨⟨⟨g1, g2⟩, g3⟩, g4⟩, g5⟩, g6⟩ := h5
  simp [Cond.before, Cond.holds, Cond.value, h1, h2, h3, h4, g1, g2, g3, g4, g5, g6]
def isCode : Jvm.Cond → Bool
  | .code _ _ _ _ => true
  | _ => false
theorem all_split {L : List Jvm.Cond} {P : Jvm.Cond → Bool} (h1 : L.all (fun c => isCode c || P c) = true) (h2 : ∀ c ∈ L.filter isCode, P c = true) : L.all P = true := by
  refine List.all_eq_true.mpr fun c hc => ?_
  have h := List.all_eq_true.mp h1 c hc
  rcases Bool.eq_false_or_eq_true (isCode c) with hi | hi
  · exact h2 c (List.mem_filter.mpr ⟨hc, hi⟩)
  · simpa [hi] using h
set_option maxRecDepth 65536 in
theorem w_c0 : (Jvm.Cond.code x code maxLocals ret).before args0 about1 = true := code_word (m := ⟨1, 1⟩) (meth := k1m1) (c := k1c1) (by decide +kernel) rfl rfl rfl (by decide +kernel)
set_option maxRecDepth 65536 in
theorem w_c1 : (Jvm.Cond.code ({ cls := "flatfield/PrimitiveOfPinLaw", name := "draw", desc := "(I)C" } : Jvm.MethodName) method_3_code (1 : Nat) (Option.some Jvm.ClassFile.FieldType.char)).before args0 about1 = true := code_word (m := ⟨1, 2⟩) (meth := k1m2) (c := k1c2) (by decide +kernel) rfl rfl rfl (by decide +kernel)
set_option maxRecDepth 65536 in
theorem w_c2 : (Jvm.Cond.code ({ cls := "java/lang/String", name := "<init>", desc := "([C)V" } : Jvm.MethodName) jdk_42_method_3_code (2 : Nat) (Option.none : Option Jvm.ClassFile.FieldType)).before args0 about1 = true := code_word (m := ⟨7, 1⟩) (meth := k7m1) (c := k7c1) (by decide +kernel) rfl rfl rfl (by decide +kernel)
set_option maxRecDepth 65536 in
theorem w_c3 : (Jvm.Cond.code ({ cls := "java/lang/String", name := "<init>", desc := "([CIILjava/lang/Void;)V" } : Jvm.MethodName) jdk_42_method_149_code (6 : Nat) (Option.none : Option Jvm.ClassFile.FieldType)).before args0 about1 = true := code_word (m := ⟨7, 4⟩) (meth := k7m4) (c := k7c4) (by decide +kernel) rfl rfl rfl (by decide +kernel)
set_option maxRecDepth 65536 in
theorem w_c4 : (Jvm.Cond.code ({ cls := "java/lang/Object", name := "<init>", desc := "()V" } : Jvm.MethodName) object_method_1_code (1 : Nat) (Option.none : Option Jvm.ClassFile.FieldType)).before args0 about1 = true := code_word (m := ⟨0, 0⟩) (meth := k0m0) (c := k0c0) (by decide +kernel) rfl rfl rfl (by decide +kernel)
set_option maxRecDepth 65536 in
theorem w_c5 : (Jvm.Cond.code ({ cls := "flatfield/Primitive", name := "of", desc := "(Ljava/lang/String;)Lflatfield/Primitive;" } : Jvm.MethodName) prog_3_method_4_code (5 : Nat) (Option.some (Jvm.ClassFile.FieldType.object "flatfield/Primitive"))).before args0 about1 = true := code_word (m := ⟨9, 0⟩) (meth := k9m0) (c := k9c0) (by decide +kernel) rfl rfl rfl (by decide +kernel)
set_option maxRecDepth 65536 in
theorem w_c6 : (Jvm.Cond.code ({ cls := "java/lang/String", name := "equals", desc := "(Ljava/lang/Object;)Z" } : Jvm.MethodName) jdk_42_method_66_code (3 : Nat) (Option.some Jvm.ClassFile.FieldType.boolean)).before args0 about1 = true := code_word (m := ⟨7, 3⟩) (meth := k7m3) (c := k7c3) (by decide +kernel) rfl rfl rfl (by decide +kernel)
set_option maxRecDepth 65536 in
theorem w_c7 : (Jvm.Cond.code ({ cls := "java/lang/StringLatin1", name := "equals", desc := "([B[B)Z" } : Jvm.MethodName) jdk_43_method_13_code (3 : Nat) (Option.some Jvm.ClassFile.FieldType.boolean)).before args0 about1 = true := code_word (m := ⟨10, 2⟩) (meth := k10m2) (c := k10c2) (by decide +kernel) rfl rfl rfl (by decide +kernel)
set_option maxRecDepth 65536 in
theorem w_c8 : (Jvm.Cond.code ({ cls := "java/lang/StringUTF16", name := "compress", desc := "([CII)[B" } : Jvm.MethodName) jdk_52_method_16_code (6 : Nat) (Option.some (Jvm.ClassFile.FieldType.array Jvm.ClassFile.FieldType.byte))).before args0 about1 = true := code_word (m := ⟨11, 2⟩) (meth := k11m2) (c := k11c2) (by decide +kernel) rfl rfl rfl (by decide +kernel)
set_option maxRecDepth 65536 in
theorem w_c9 : (Jvm.Cond.code ({ cls := "java/lang/StringUTF16", name := "compress", desc := "([CI[BII)I" } : Jvm.MethodName) jdk_52_method_21_code (7 : Nat) (Option.some Jvm.ClassFile.FieldType.int)).before args0 about1 = true := code_word (m := ⟨11, 3⟩) (meth := k11m3) (c := k11c3) (by decide +kernel) rfl rfl rfl (by decide +kernel)
set_option maxRecDepth 65536 in
theorem w_c10 : (Jvm.Cond.code ({ cls := "java/lang/StringUTF16", name := "coderFromArrayLen", desc := "([BI)B" } : Jvm.MethodName) jdk_52_method_15_code (2 : Nat) (Option.some Jvm.ClassFile.FieldType.byte)).before args0 about1 = true := code_word (m := ⟨11, 1⟩) (meth := k11m1) (c := k11c1) (by decide +kernel) rfl rfl rfl (by decide +kernel)
set_option maxRecDepth 65536 in
theorem w_c11 : (Jvm.Cond.code ({ cls := "java/lang/String", name := "charAt", desc := "(I)C" } : Jvm.MethodName) jdk_42_method_56_code (2 : Nat) (Option.some Jvm.ClassFile.FieldType.char)).before args0 about1 = true := code_word (m := ⟨7, 2⟩) (meth := k7m2) (c := k7c2) (by decide +kernel) rfl rfl rfl (by decide +kernel)
set_option maxRecDepth 65536 in
theorem w_c12 : (Jvm.Cond.code ({ cls := "java/lang/String", name := "isLatin1", desc := "()Z" } : Jvm.MethodName) jdk_42_method_154_code (1 : Nat) (Option.some Jvm.ClassFile.FieldType.boolean)).before args0 about1 = true := code_word (m := ⟨7, 5⟩) (meth := k7m5) (c := k7c5) (by decide +kernel) rfl rfl rfl (by decide +kernel)
set_option maxRecDepth 65536 in
theorem w_c13 : (Jvm.Cond.code ({ cls := "java/lang/StringLatin1", name := "charAt", desc := "([BI)C" } : Jvm.MethodName) jdk_43_method_2_code (2 : Nat) (Option.some Jvm.ClassFile.FieldType.char)).before args0 about1 = true := code_word (m := ⟨10, 1⟩) (meth := k10m1) (c := k10c1) (by decide +kernel) rfl rfl rfl (by decide +kernel)
set_option maxRecDepth 65536 in
theorem w_c14 : (Jvm.Cond.code ({ cls := "java/lang/String", name := "checkIndex", desc := "(II)V" } : Jvm.MethodName) jdk_42_method_155_code (2 : Nat) (Option.none : Option Jvm.ClassFile.FieldType)).before args0 about1 = true := code_word (m := ⟨7, 6⟩) (meth := k7m6) (c := k7c6) (by decide +kernel) rfl rfl rfl (by decide +kernel)
set_option maxRecDepth 65536 in
theorem w_c15 : (Jvm.Cond.code ({ cls := "jdk/internal/util/Preconditions", name := "checkIndex", desc := "(IILjava/util/function/BiFunction;)I" } : Jvm.MethodName) jdk_41_method_11_code (3 : Nat) (Option.some Jvm.ClassFile.FieldType.int)).before args0 about1 = true := code_word (m := ⟨12, 1⟩) (meth := k12m1) (c := k12c1) (by decide +kernel) rfl rfl rfl (by decide +kernel)
set_option maxRecDepth 65536 in
theorem w_c16 : (Jvm.Cond.code ({ cls := "flatfield/PrimitiveOfPinLaw", name := "expected", desc := "(C)Lflatfield/Primitive;" } : Jvm.MethodName) method_4_code (1 : Nat) (Option.some (Jvm.ClassFile.FieldType.object "flatfield/Primitive"))).before args0 about1 = true := code_word (m := ⟨1, 3⟩) (meth := k1m3) (c := k1c3) (by decide +kernel) rfl rfl rfl (by decide +kernel)
def codes1 : List Jvm.Cond := [Jvm.Cond.code x code maxLocals ret, Jvm.Cond.code ({ cls := "flatfield/PrimitiveOfPinLaw", name := "draw", desc := "(I)C" } : Jvm.MethodName) method_3_code (1 : Nat) (Option.some Jvm.ClassFile.FieldType.char), Jvm.Cond.code ({ cls := "java/lang/String", name := "<init>", desc := "([C)V" } : Jvm.MethodName) jdk_42_method_3_code (2 : Nat) (Option.none : Option Jvm.ClassFile.FieldType), Jvm.Cond.code ({ cls := "java/lang/String", name := "<init>", desc := "([CIILjava/lang/Void;)V" } : Jvm.MethodName) jdk_42_method_149_code (6 : Nat) (Option.none : Option Jvm.ClassFile.FieldType), Jvm.Cond.code ({ cls := "java/lang/Object", name := "<init>", desc := "()V" } : Jvm.MethodName) object_method_1_code (1 : Nat) (Option.none : Option Jvm.ClassFile.FieldType), Jvm.Cond.code ({ cls := "flatfield/Primitive", name := "of", desc := "(Ljava/lang/String;)Lflatfield/Primitive;" } : Jvm.MethodName) prog_3_method_4_code (5 : Nat) (Option.some (Jvm.ClassFile.FieldType.object "flatfield/Primitive")), Jvm.Cond.code ({ cls := "java/lang/String", name := "equals", desc := "(Ljava/lang/Object;)Z" } : Jvm.MethodName) jdk_42_method_66_code (3 : Nat) (Option.some Jvm.ClassFile.FieldType.boolean), Jvm.Cond.code ({ cls := "java/lang/StringLatin1", name := "equals", desc := "([B[B)Z" } : Jvm.MethodName) jdk_43_method_13_code (3 : Nat) (Option.some Jvm.ClassFile.FieldType.boolean), Jvm.Cond.code ({ cls := "java/lang/StringUTF16", name := "compress", desc := "([CII)[B" } : Jvm.MethodName) jdk_52_method_16_code (6 : Nat) (Option.some (Jvm.ClassFile.FieldType.array Jvm.ClassFile.FieldType.byte)), Jvm.Cond.code ({ cls := "java/lang/StringUTF16", name := "compress", desc := "([CI[BII)I" } : Jvm.MethodName) jdk_52_method_21_code (7 : Nat) (Option.some Jvm.ClassFile.FieldType.int), Jvm.Cond.code ({ cls := "java/lang/StringUTF16", name := "coderFromArrayLen", desc := "([BI)B" } : Jvm.MethodName) jdk_52_method_15_code (2 : Nat) (Option.some Jvm.ClassFile.FieldType.byte), Jvm.Cond.code ({ cls := "java/lang/String", name := "charAt", desc := "(I)C" } : Jvm.MethodName) jdk_42_method_56_code (2 : Nat) (Option.some Jvm.ClassFile.FieldType.char), Jvm.Cond.code ({ cls := "java/lang/String", name := "isLatin1", desc := "()Z" } : Jvm.MethodName) jdk_42_method_154_code (1 : Nat) (Option.some Jvm.ClassFile.FieldType.boolean), Jvm.Cond.code ({ cls := "java/lang/StringLatin1", name := "charAt", desc := "([BI)C" } : Jvm.MethodName) jdk_43_method_2_code (2 : Nat) (Option.some Jvm.ClassFile.FieldType.char), Jvm.Cond.code ({ cls := "java/lang/String", name := "checkIndex", desc := "(II)V" } : Jvm.MethodName) jdk_42_method_155_code (2 : Nat) (Option.none : Option Jvm.ClassFile.FieldType), Jvm.Cond.code ({ cls := "jdk/internal/util/Preconditions", name := "checkIndex", desc := "(IILjava/util/function/BiFunction;)I" } : Jvm.MethodName) jdk_41_method_11_code (3 : Nat) (Option.some Jvm.ClassFile.FieldType.int), Jvm.Cond.code ({ cls := "flatfield/PrimitiveOfPinLaw", name := "expected", desc := "(C)Lflatfield/Primitive;" } : Jvm.MethodName) method_4_code (1 : Nat) (Option.some (Jvm.ClassFile.FieldType.object "flatfield/Primitive"))]
set_option maxRecDepth 65536 in
theorem codes_eq : words1.filter isCode = codes1 := rfl
theorem w_codes : ∀ c ∈ words1.filter isCode, c.before args0 about1 = true := by
  rw [codes_eq]
  intro c hc
  simp only [codes1, List.mem_cons, List.not_mem_nil, or_false] at hc
  rcases hc with rfl | rfl | rfl | rfl | rfl | rfl | rfl | rfl | rfl | rfl | rfl | rfl | rfl | rfl | rfl | rfl | rfl
  · exact w_c0
  · exact w_c1
  · exact w_c2
  · exact w_c3
  · exact w_c4
  · exact w_c5
  · exact w_c6
  · exact w_c7
  · exact w_c8
  · exact w_c9
  · exact w_c10
  · exact w_c11
  · exact w_c12
  · exact w_c13
  · exact w_c14
  · exact w_c15
  · exact w_c16
set_option maxRecDepth 65536 in
theorem w_t1 : (words1.take 24).all (fun c => isCode c || c.before args0 about1) = true := by decide +kernel
set_option maxRecDepth 65536 in
theorem w_t2 : ((words1.drop 24).take 24).all (fun c => isCode c || c.before args0 about1) = true := by decide +kernel
set_option maxRecDepth 65536 in
theorem w_t3 : (((words1.drop 24).drop 24).take 24).all (fun c => isCode c || c.before args0 about1) = true := by decide +kernel
set_option maxRecDepth 65536 in
theorem w_t4 : ((((words1.drop 24).drop 24).drop 24).take 24).all (fun c => isCode c || c.before args0 about1) = true := by decide +kernel
set_option maxRecDepth 65536 in
theorem w_t5 : ((((words1.drop 24).drop 24).drop 24).drop 24).all (fun c => isCode c || c.before args0 about1) = true := by decide +kernel
theorem w_tables : (allAtoms (Jvm.Cond.code x code maxLocals ret :: tables_1)).before args0 about1 = true := by
  rw [allAtoms_all]
  show words1.all (fun c => c.before args0 about1) = true
  refine all_split ?_ w_codes
  rw [← List.take_append_drop 24 words1, List.all_append, w_t1, ← List.take_append_drop 24 (words1.drop 24), List.all_append, w_t2, ← List.take_append_drop 24 ((words1.drop 24).drop 24), List.all_append, w_t3, ← List.take_append_drop 24 (((words1.drop 24).drop 24).drop 24), List.all_append, w_t4, w_t5]
  rfl
set_option maxRecDepth 65536 in
theorem w_rest : rest_1_c.before args0 about1 = true := by decide +kernel
set_option maxRecDepth 65536 in
theorem w_case : (Jvm.Cond.and given_1 narrow_1).before args0 about1 = true := by decide +kernel
set_option maxRecDepth 65536 in
theorem w_consts : constsHeld consts_1 about1 := Jvm.Lit.constsHeldB_iff.mp (by decide +kernel)
theorem w_applies : (headSpec (Jvm.Cond.code x code maxLocals ret :: tables_1) room_1).applies x e0.platform about1 = true :=
  (Spec.applies_iff w_frames).mpr ⟨w_running, w_runnable, w_alone, w_named, w_hears, w_ripe, w_room, w_tables⟩
theorem atStart : AtStart classFile x code maxLocals ret World_1 tables_1 room_1 Calls_1 rest_1 Pre_1 launch0 p0 e0 about1 theMethod args0 below0 :=
  ⟨lists_1, trivial, launch0.admits_env _ _ _, launch0.least_env, fairChoices_fair.cas, fairChoices_fair.clock, w_frames, w_args, w_heap, w_applies, ⟨w_consts, trivial⟩, w_rest, w_case⟩
end start1
theorem witness_1 : WitnessClaimed_1 := ⟨start1.p0, start1.e0, start1.about1, start1.theMethod, start1.args0, start1.below0, start1.atStart⟩
end Jvm.Pilot.@@N@@
