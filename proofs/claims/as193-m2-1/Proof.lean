import JvmDerived
import JvmDerived.Pilot.@@N@@Statement
import JvmDerived.Pilot.@@N@@Code
set_option linter.unusedVariables false
set_option linter.unusedSimpArgs false
namespace Jvm.Pilot.@@N@@
open Jvm Jvm.ClassFile Sem Op Lib Jvm.Free Jvm.Stand Jvm.LawKit Jvm.RoadKit Bundle Jvm.Pilot.@@N@@.Jvm.D
/-- the run from u comes to an end that P holds of -/
def Go (p : Program) (e : Env) (below : List Frame) (P : State → Outcome → Prop) (u : State) : Prop := ∃ t o, Steps p.tables e below u t ∧ t.status = .running ∧ Ended t below o ∧ P t o
section Own
variable {p : Program} {l : Launch} {e : Env} {R : Room} {s : State} {m : MethodId} {args : Array Value} {below : List Frame} {meth : Method} {c : Code} {T : State} {locs : List Loc} {cells slots : Nat} {Z : State} {a0 : Array Value} {h h' : Heap} {vm : Vm} {P : State → Outcome → Prop} {u w : State}
theorem Go.on (st : ∀ t, Steps p.tables e below w t → Steps p.tables e below u t) (k : Go p e below P w) : Go p e below P u := by
  obtain ⟨t, o, h, r⟩ := k; exact ⟨t, o, st t h, r⟩
theorem Go.fin {vm1 : Vm} {n : Nat} (X : Stand p l e R (s.setVm vm1) m args below meth c T locs cells slots) (hS : s.Since vm1 n) (hn : n ≤ T.heap.size) (hlk : meth.locks = false) {v : Option Value} (hv : meth.sig.returnType = none → v = none)
    (st : ∀ fs, (∀ (f : JFrame) (acts : List Action), f.method = m → f.locked = none → f.entered = [] → (doReturn e (T.setTop f) acts v).1 = T.setFrames fs) → Steps p.tables e below u (T.setFrames fs))
    (hP : ∀ fs, ReturnedEndW s (.returned v) (T.setFrames fs) locs cells slots → P (T.setFrames fs) (.returned v)) : Go p e below P u := by
  obtain ⟨fs, h1, h2, h3, h4⟩ := X.leaveW hS hn hv (hlocks := hlk)
  exact ⟨_, _, st fs h1, h2, h3, hP fs h4⟩
theorem Go.finH (X : Stand p l e R s m args below meth c T locs cells slots) (hlk : meth.locks = false) {v : Option Value} (hv : meth.sig.returnType = none → v = none)
    (st : ∀ fs, (∀ (f : JFrame) (acts : List Action), f.method = m → f.locked = none → f.entered = [] → (doReturn e (T.setTop f) acts v).1 = T.setFrames fs) → Steps p.tables e below u (T.setFrames fs))
    (hP : ∀ fs, FrameEnd s (.returned v) (T.setFrames fs) locs cells slots → P (T.setFrames fs) (.returned v)) : Go p e below P u := by
  obtain ⟨fs, h1, h2, h3, h4, h5⟩ := X.leave hv (hlocks := hlk)
  exact ⟨_, _, st fs h1, h2, h3, hP fs ⟨⟨v, rfl⟩, h4, h5⟩⟩
theorem endP {Q : Option Value → Heap → List Loc → Prop} {EL : List (String × Nat)} {v : Option Value} {k n : Nat} (q : Q v T.heap locs) (r : CHr Z EL s.vm s.heap T.vm T.heap) (hc : cells ≤ k) (hs : slots ≤ n) :
    ∀ fs, ReturnedEndW s (.returned v) (T.setFrames fs) locs cells slots → ∃ v' L, Outcome.returned v = .returned v' ∧ Q v' (T.setFrames fs).heap L ∧ CHr Z EL s.vm s.heap (T.setFrames fs).vm (T.setFrames fs).heap ∧ ReturnedEndW s (.returned v) (T.setFrames fs) L k n :=
  fun fs h => ⟨v, locs, rfl, q, r, h.1, h.2.1, h.2.2.1, h.2.2.2.mono hc hs⟩
theorem endH {Q : Option Value → Heap → List Loc → Prop} {v : Option Value} {k n : Nat} (q : Q v T.heap locs) (hc : cells ≤ k) (hs : slots ≤ n) :
    ∀ fs, FrameEnd s (.returned v) (T.setFrames fs) locs cells slots → ∃ v' L, Outcome.returned v = .returned v' ∧ Q v' (T.setFrames fs).heap L ∧ FrameEnd s (.returned v) (T.setFrames fs) L k n :=
  fun fs h => ⟨v, locs, rfl, q, h.1, h.2.1, h.2.2.mono hc hs⟩
/-- a String whose value is still null is no booked constant -/
theorem own_safeNull {EL : List (String × Nat)} {x : Addr} (hal : Z.vm.Alike vm) (E : Exa Z h x "java/lang/String") (F : Fld Z h x "java/lang/String" "value" "[B" .null) : Safe Z EL vm h x := fun B => by
  obtain ⟨cell, k, e1, e2, e3, -, -⟩ := E
  obtain ⟨p, -, u, a, -, q, -, G, rfl | rfl⟩ := B
  · obtain ⟨cell', cf, kf, i, f, f1, f2, -, -, -, -, f7⟩ := F
    obtain ⟨cS, ⟨⟨s1, -, -, ⟨c1, k1, i1, v1, -⟩, -, -, -, v2, -⟩, -⟩, -⟩ := G
    obtain ⟨k3, q3, -⟩ := State.fieldFound?_setVm (s := Z) (vm' := vm) hal f2
    have e4 := (show (Wst Z vm h).fieldFound? _ _ _ = _ from q3).symm.trans v1
    simp only [Option.some.injEq, Prod.mk.injEq] at e4
    cases (show h[q.sa]? = some q.sC from s1).symm.trans f1
    rw [← e4.2.2.2, f7] at v2
    cases v2
  · cases (show h[q.sd]? = some q.SA from G.hd).symm.trans e1
    obtain ⟨cS, -, -, f, -⟩ := G
    rw [show (Wst Z vm h).vm.findClass "[B" = Z.vm.findClass "[B" from hal.findClass _ _] at f
    obtain ⟨k1, q1, q2⟩ := Vm.findClass_spec f
    obtain ⟨k2, q3, q4⟩ := Vm.findClass_spec e2
    cases q1.symm.trans q3
    exact absurd (q2.symm.trans q4) (by decide)
end Own
theorem own_chr (x : Int32) : ∃ z : Int32, (x &&& (255 : Int32)).toUInt32.toUInt16.toUInt32.toInt32 = z ∧ ¬ z < 0 ∧ ¬ (255 : Int32) < z := by
  refine ⟨_, rfl, ?_⟩
  have t : ∀ k : Fin 256, ¬ ((Int32.ofNat k.val).toUInt32.toUInt16.toUInt32.toInt32) < 0 ∧ ¬ (255 : Int32) < ((Int32.ofNat k.val).toUInt32.toUInt16.toUInt32.toInt32) := by decide +kernel
  have h : (x &&& 255).toBitVec.toNat < 256 := by
    simp only [Int32.toBitVec_and, BitVec.toNat_and]
    exact Nat.lt_succ_of_le Nat.and_le_right
  have e : (x &&& 255) = Int32.ofNat (x &&& 255).toBitVec.toNat := by
    apply Int32.toBitVec_inj.mp
    show _ = BitVec.ofNat 32 _
    rw [BitVec.ofNat_toNat]; simp
  rw [e]
  exact t ⟨_, h⟩
theorem own_small {z : Int32} (h0 : ¬ z < 0) (h1 : ¬ (255 : Int32) < z) : ∃ k : Fin 256, z = Int32.ofNat k.val := by
  have a : z.toInt ≤ 255 := by rw [Int32.lt_iff_toInt_lt] at h1; have e1 : (255 : Int32).toInt = 255 := rfl; omega
  have b : 0 ≤ z.toInt := by rw [Int32.lt_iff_toInt_lt] at h0; have e1 : (0 : Int32).toInt = 0 := rfl; omega
  refine ⟨⟨z.toInt.toNat, by omega⟩, Int32.toInt_inj.mp ?_⟩
  show z.toInt = (Int32.ofNat z.toInt.toNat).toInt
  rw [Int32.toInt_ofNat_of_lt (by omega)]; omega
theorem own_nar {z : Int32} (h0 : ¬ z < 0) (h1 : ¬ (255 : Int32) < z) : nar .char z = z := by
  have t : ∀ k : Fin 256, nar .char (Int32.ofNat k.val) = Int32.ofNat k.val := by decide +kernel
  obtain ⟨k, rfl⟩ := own_small h0 h1
  exact t k
theorem own_and3 (x : Int32) : x &&& (3 : Int32) = 0 ∨ x &&& (3 : Int32) = 1 ∨ x &&& (3 : Int32) = 2 ∨ x &&& (3 : Int32) = 3 := by
  have t : ∀ k : Fin 4, Int32.ofNat k.val = 0 ∨ Int32.ofNat k.val = 1 ∨ Int32.ofNat k.val = 2 ∨ Int32.ofNat k.val = 3 := by decide +kernel
  have h : (x &&& 3).toBitVec.toNat < 4 := by
    simp only [Int32.toBitVec_and, BitVec.toNat_and]
    exact Nat.lt_succ_of_le Nat.and_le_right
  have e : (x &&& 3) = Int32.ofNat (x &&& 3).toBitVec.toNat := by
    apply Int32.toBitVec_inj.mp
    show _ = BitVec.ofNat 32 _
    rw [BitVec.ofNat_toNat]; simp
  rw [e]
  exact t ⟨_, h⟩
theorem own_up {cs : List Int32} (h : ∀ c ∈ cs, ¬ c < 0 ∧ ¬ (255 : Int32) < c) : ∀ c ∈ cs, ¬ c < 0 ∧ ¬ (65535 : Int32) < c := fun c hc => ⟨(h c hc).1, fun q => (h c hc).2 (by rw [Int32.lt_iff_toInt_lt] at q ⊢; have e1 : (65535 : Int32).toInt = 65535 := rfl; have e2 : (255 : Int32).toInt = 255 := rfl; omega)⟩
theorem own_nar8 (c : Int32) : nar .byte (c.toInt8.toInt32) = c.toInt8.toInt32 := by
  show ((c.toInt8.toInt32).toInt8).toInt32 = _
  rw [Int8.toInt8_toInt32]
/-- the chars of a String of n signs -/
def own_cs (n c0 c1 : Int32) : List Int32 := if n = 0 then [] else if n = 1 then [c0] else [c0, c1]
theorem own_cs0 (c0 c1 : Int32) : own_cs 0 c0 c1 = [] := rfl
theorem own_cs1 (c0 c1 : Int32) : own_cs 1 c0 c1 = [c0] := by simp [own_cs]
theorem own_cs2 (c0 c1 : Int32) : own_cs 2 c0 c1 = [c0, c1] := by simp [own_cs]
theorem own_all1 {a : Int32} (h : ¬ a < 0 ∧ ¬ (255 : Int32) < a) : ∀ c ∈ [a], ¬ c < 0 ∧ ¬ (255 : Int32) < c := fun c hc => by simp only [List.mem_cons, List.not_mem_nil, or_false] at hc; subst hc; exact h
theorem own_all2 {a b : Int32} (h : ¬ a < 0 ∧ ¬ (255 : Int32) < a) (h' : ¬ b < 0 ∧ ¬ (255 : Int32) < b) : ∀ c ∈ [a, b], ¬ c < 0 ∧ ¬ (255 : Int32) < c := fun c hc => by
  simp only [List.mem_cons, List.not_mem_nil, or_false] at hc
  rcases hc with rfl | rfl
  · exact h
  · exact h'
theorem own_len {n c0 c1 : Int32} {cs : List Int32} (e : cs = own_cs n c0 c1) : cs.length ≤ 4000 := by
  subst e; unfold own_cs; split
  · simp
  · split <;> simp
theorem own_eqv {v : Option Value} {A : Prop} (h : (v = some (.int 1) ∧ A) ∨ (v = some (.int 0) ∧ ¬ A)) : ∃ r : Int32, v = some (.int r) ∧ ((r = 1 ∧ A) ∨ (r = 0 ∧ ¬ A)) := by
  rcases h with ⟨h, a⟩ | ⟨h, a⟩
  · exact ⟨1, h, Or.inl ⟨rfl, a⟩⟩
  · exact ⟨0, h, Or.inr ⟨rfl, a⟩⟩
/-- two such Strings are alike just where the law says so -/
theorem own_csEq {n k c0 c1 d0 d1 : Int32} (hn : n = 0 ∨ n = 1 ∨ n = 2) (hk : k = 0 ∨ k = 1 ∨ k = 2) : own_cs n c0 c1 = own_cs k d0 d1 ↔ (n = k ∧ (n < 1 ∨ c0 = d0) ∧ (n < 2 ∨ c1 = d1)) := by
  rcases hn with rfl | rfl | rfl <;> rcases hk with rfl | rfl | rfl <;> simp [own_cs] <;> decide
theorem own_if01 {r : Int32} {A B : Prop} (h : (r = 1 ∧ A) ∨ (r = 0 ∧ ¬ A)) (e : A ↔ B) [Decidable B] : r = if B then 1 else 0 := by
  rcases h with ⟨rfl, a⟩ | ⟨rfl, a⟩
  · rw [if_pos (e.mp a)]
  · rw [if_neg (fun b => a (e.mpr b))]
theorem own_exaRef {args : Array Value} {s : State} {t : Term} {C : String} (h : (Jvm.Cond.exactly t C).value args s none s [] = some true) : ∃ a, t.eval args s none [] s = some (.ref a) := by
  obtain ⟨a, c, cell, k, h1, -⟩ := Cond.exactly_spec (Cond.before_iff.mpr h)
  exact ⟨a, h1⟩
theorem own_ord {args : Array Value} {s : State} {t : Term} {a : Addr} {C f d : String} {i : Int32} (ea : t.eval args s none [] s = some (.ref a)) (h1 : (Jvm.Cond.eq (.field t C f d) (.int i)).value args s none s [] = some true) : s.fieldOf? a C f d = some (.int i) := by
  have e1 : (Term.field t C f d).eval args s none [] s = s.fieldOf? a C f d := by simp [Term.eval, ea]
  simp only [Cond.value, e1, Term.int_eval] at h1
  cases hq : s.fieldOf? a C f d with
  | none => simp [hq] at h1
  | some v =>
    rw [hq] at h1
    cases v <;> simp at h1
    rw [h1]
abbrev yM0 : MethodName := ⟨"com/example/syntagma/syntagma/service/DocumentText$Builder", "<init>", "()V"⟩
abbrev yM1 : MethodName := ⟨"java/lang/Object", "<init>", "()V"⟩
abbrev yM2 : MethodName := ⟨"com/example/syntagma/syntagma/service/DocumentText$Builder", "add", "(I)V"⟩
abbrev yM3 : MethodName := ⟨"com/example/syntagma/syntagma/service/DocumentText$Builder", "build", "()Lcom/example/syntagma/syntagma/service/DocumentText;"⟩
abbrev yM4 : MethodName := ⟨"java/util/Arrays", "sort", "([JII)V"⟩
abbrev yM5 : MethodName := ⟨"java/util/Arrays", "rangeCheck", "(III)V"⟩
abbrev yM6 : MethodName := ⟨"java/util/DualPivotQuicksort", "sort", "([JIII)V"⟩
abbrev yM7 : MethodName := ⟨"java/util/DualPivotQuicksort", "sort", "(Ljava/util/DualPivotQuicksort$Sorter;[JIII)V"⟩
abbrev yM8 : MethodName := ⟨"java/util/DualPivotQuicksort", "insertionSort", "([JII)V"⟩
abbrev yM9 : MethodName := ⟨"com/example/syntagma/syntagma/service/DocumentText$Builder", "bytesOf", "(I)I"⟩
abbrev yM10 : MethodName := ⟨"java/lang/Math", "toIntExact", "(J)I"⟩
abbrev yM11 : MethodName := ⟨"com/example/syntagma/syntagma/service/DocumentText", "<init>", "([I[B[I[I[JI)V"⟩
abbrev yM12 : MethodName := ⟨"com/example/syntagma/syntagma/service/DocumentText", "narrowed", "([I)[C"⟩
abbrev yM13 : MethodName := ⟨"com/example/syntagma/syntagma/service/DocumentText$Positions", "<init>", "()V"⟩
abbrev yM14 : MethodName := ⟨"com/example/syntagma/syntagma/service/DocumentText$Positions", "of", "(Lcom/example/syntagma/syntagma/service/DocumentText;I)V"⟩
abbrev yM15 : MethodName := ⟨"com/example/syntagma/syntagma/service/DocumentText", "start", "(I)I"⟩
abbrev yM16 : MethodName := ⟨"com/example/syntagma/syntagma/service/DocumentText$Positions", "next", "()Z"⟩
abbrev yM17 : MethodName := ⟨"com/example/syntagma/syntagma/service/DocumentText$Positions", "position", "()I"⟩
def EL : List (String × Nat) := []
theorem w_0 {a0 : Array Value} {Z : State} (hw : ∀ d ∈ tables_1, d.before a0 Z = true) : (Jvm.Cond.constant "com/example/syntagma/syntagma/service/PositionsNextPinLaw" (7 : Nat) (2147483647 : Int32)).before a0 Z = true := hw _ (List.mem_of_getElem? (i := 0) rfl)
theorem w_1 {a0 : Array Value} {Z : State} (hw : ∀ d ∈ tables_1, d.before a0 Z = true) : (Jvm.Cond.classLink "com/example/syntagma/syntagma/service/PositionsNextPinLaw" (8 : Nat) "com/example/syntagma/syntagma/service/DocumentText$Builder").before a0 Z = true := hw _ (List.mem_of_getElem? (i := 1) rfl)
theorem w_2 {a0 : Array Value} {Z : State} (hw : ∀ d ∈ tables_1, d.before a0 Z = true) : (Jvm.Cond.instantiable "com/example/syntagma/syntagma/service/DocumentText$Builder" (6 : Nat)).before a0 Z = true := hw _ (List.mem_of_getElem? (i := 2) rfl)
theorem w_3 {a0 : Array Value} {Z : State} (hw : ∀ d ∈ tables_1, d.before a0 Z = true) : (Jvm.Cond.initialized "com/example/syntagma/syntagma/service/DocumentText$Builder").before a0 Z = true := hw _ (List.mem_of_getElem? (i := 3) rfl)
theorem w_4 {a0 : Array Value} {Z : State} (hw : ∀ d ∈ tables_1, d.before a0 Z = true) : (Jvm.Cond.methodLink "com/example/syntagma/syntagma/service/PositionsNextPinLaw" (10 : Nat) yM0).before a0 Z = true := hw _ (List.mem_of_getElem? (i := 4) rfl)
theorem w_5 {a0 : Array Value} {Z : State} (hw : ∀ d ∈ tables_1, d.before a0 Z = true) : (Jvm.Cond.instanceMethod yM0).before a0 Z = true := hw _ (List.mem_of_getElem? (i := 5) rfl)
theorem w_6 {a0 : Array Value} {Z : State} (hw : ∀ d ∈ tables_1, d.before a0 Z = true) : (Jvm.Cond.code yM0 prog_210_method_1_code (1 : Nat) (Option.none : Option Jvm.ClassFile.FieldType)).before a0 Z = true := hw _ (List.mem_of_getElem? (i := 6) rfl)
theorem w_7 {a0 : Array Value} {Z : State} (hw : ∀ d ∈ tables_1, d.before a0 Z = true) : (Jvm.Cond.methodLink "com/example/syntagma/syntagma/service/DocumentText$Builder" (3 : Nat) yM1).before a0 Z = true := hw _ (List.mem_of_getElem? (i := 7) rfl)
theorem w_8 {a0 : Array Value} {Z : State} (hw : ∀ d ∈ tables_1, d.before a0 Z = true) : (Jvm.Cond.instanceMethod yM1).before a0 Z = true := hw _ (List.mem_of_getElem? (i := 8) rfl)
theorem w_9 {a0 : Array Value} {Z : State} (hw : ∀ d ∈ tables_1, d.before a0 Z = true) : (Jvm.Cond.code yM1 object_method_1_code (1 : Nat) (Option.none : Option Jvm.ClassFile.FieldType)).before a0 Z = true := hw _ (List.mem_of_getElem? (i := 9) rfl)
theorem w_10 {a0 : Array Value} {Z : State} (hw : ∀ d ∈ tables_1, d.before a0 Z = true) : (Jvm.Cond.arrayClass Jvm.ClassFile.FieldType.long).before a0 Z = true := hw _ (List.mem_of_getElem? (i := 10) rfl)
theorem w_11 {a0 : Array Value} {Z : State} (hw : ∀ d ∈ tables_1, d.before a0 Z = true) : (Jvm.Cond.fieldLink "com/example/syntagma/syntagma/service/DocumentText$Builder" (9 : Nat) "com/example/syntagma/syntagma/service/DocumentText$Builder" "keys" "[J").before a0 Z = true := hw _ (List.mem_of_getElem? (i := 11) rfl)
theorem w_12 {a0 : Array Value} {Z : State} (hw : ∀ d ∈ tables_1, d.before a0 Z = true) : (Jvm.Cond.lays "com/example/syntagma/syntagma/service/DocumentText$Builder" "com/example/syntagma/syntagma/service/DocumentText$Builder" "keys" "[J").before a0 Z = true := hw _ (List.mem_of_getElem? (i := 12) rfl)
theorem w_13 {a0 : Array Value} {Z : State} (hw : ∀ d ∈ tables_1, d.before a0 Z = true) : (Jvm.Cond.arrayClass Jvm.ClassFile.FieldType.int).before a0 Z = true := hw _ (List.mem_of_getElem? (i := 13) rfl)
theorem w_14 {a0 : Array Value} {Z : State} (hw : ∀ d ∈ tables_1, d.before a0 Z = true) : (Jvm.Cond.fieldLink "com/example/syntagma/syntagma/service/DocumentText$Builder" (15 : Nat) "com/example/syntagma/syntagma/service/DocumentText$Builder" "breakPositions" "[I").before a0 Z = true := hw _ (List.mem_of_getElem? (i := 14) rfl)
theorem w_15 {a0 : Array Value} {Z : State} (hw : ∀ d ∈ tables_1, d.before a0 Z = true) : (Jvm.Cond.lays "com/example/syntagma/syntagma/service/DocumentText$Builder" "com/example/syntagma/syntagma/service/DocumentText$Builder" "breakPositions" "[I").before a0 Z = true := hw _ (List.mem_of_getElem? (i := 15) rfl)
theorem w_16 {a0 : Array Value} {Z : State} (hw : ∀ d ∈ tables_1, d.before a0 Z = true) : (Jvm.Cond.methodLink "com/example/syntagma/syntagma/service/PositionsNextPinLaw" (11 : Nat) yM2).before a0 Z = true := hw _ (List.mem_of_getElem? (i := 16) rfl)
theorem w_17 {a0 : Array Value} {Z : State} (hw : ∀ d ∈ tables_1, d.before a0 Z = true) : (Jvm.Cond.declares yM2).before a0 Z = true := hw _ (List.mem_of_getElem? (i := 17) rfl)
theorem w_18 {a0 : Array Value} {Z : State} (hw : ∀ d ∈ tables_1, d.before a0 Z = true) : (Jvm.Cond.instanceMethod yM2).before a0 Z = true := hw _ (List.mem_of_getElem? (i := 18) rfl)
theorem w_19 {a0 : Array Value} {Z : State} (hw : ∀ d ∈ tables_1, d.before a0 Z = true) : (Jvm.Cond.selects "com/example/syntagma/syntagma/service/DocumentText$Builder" yM2 yM2).before a0 Z = true := hw _ (List.mem_of_getElem? (i := 19) rfl)
theorem w_20 {a0 : Array Value} {Z : State} (hw : ∀ d ∈ tables_1, d.before a0 Z = true) : (Jvm.Cond.code yM2 prog_210_method_2_code (2 : Nat) (Option.none : Option Jvm.ClassFile.FieldType)).before a0 Z = true := hw _ (List.mem_of_getElem? (i := 20) rfl)
theorem w_21 {a0 : Array Value} {Z : State} (hw : ∀ d ∈ tables_1, d.before a0 Z = true) : (Jvm.Cond.fieldLink "com/example/syntagma/syntagma/service/DocumentText$Builder" (19 : Nat) "com/example/syntagma/syntagma/service/DocumentText$Builder" "words" "I").before a0 Z = true := hw _ (List.mem_of_getElem? (i := 21) rfl)
theorem w_22 {a0 : Array Value} {Z : State} (hw : ∀ d ∈ tables_1, d.before a0 Z = true) : (Jvm.Cond.lays "com/example/syntagma/syntagma/service/DocumentText$Builder" "com/example/syntagma/syntagma/service/DocumentText$Builder" "words" "I").before a0 Z = true := hw _ (List.mem_of_getElem? (i := 22) rfl)
theorem w_23 {a0 : Array Value} {Z : State} (hw : ∀ d ∈ tables_1, d.before a0 Z = true) : (Jvm.Cond.methodLink "com/example/syntagma/syntagma/service/PositionsNextPinLaw" (15 : Nat) yM3).before a0 Z = true := hw _ (List.mem_of_getElem? (i := 23) rfl)
theorem w_24 {a0 : Array Value} {Z : State} (hw : ∀ d ∈ tables_1, d.before a0 Z = true) : (Jvm.Cond.declares yM3).before a0 Z = true := hw _ (List.mem_of_getElem? (i := 24) rfl)
theorem w_25 {a0 : Array Value} {Z : State} (hw : ∀ d ∈ tables_1, d.before a0 Z = true) : (Jvm.Cond.instanceMethod yM3).before a0 Z = true := hw _ (List.mem_of_getElem? (i := 25) rfl)
theorem w_26 {a0 : Array Value} {Z : State} (hw : ∀ d ∈ tables_1, d.before a0 Z = true) : (Jvm.Cond.selects "com/example/syntagma/syntagma/service/DocumentText$Builder" yM3 yM3).before a0 Z = true := hw _ (List.mem_of_getElem? (i := 26) rfl)
theorem w_27 {a0 : Array Value} {Z : State} (hw : ∀ d ∈ tables_1, d.before a0 Z = true) : (Jvm.Cond.code yM3 prog_210_method_5_code (14 : Nat) (Option.some (Jvm.ClassFile.FieldType.object "com/example/syntagma/syntagma/service/DocumentText"))).before a0 Z = true := hw _ (List.mem_of_getElem? (i := 27) rfl)
theorem w_28 {a0 : Array Value} {Z : State} (hw : ∀ d ∈ tables_1, d.before a0 Z = true) : (Jvm.Cond.methodLink "com/example/syntagma/syntagma/service/DocumentText$Builder" (46 : Nat) yM4).before a0 Z = true := hw _ (List.mem_of_getElem? (i := 28) rfl)
theorem w_29 {a0 : Array Value} {Z : State} (hw : ∀ d ∈ tables_1, d.before a0 Z = true) : (Jvm.Cond.static yM4).before a0 Z = true := hw _ (List.mem_of_getElem? (i := 29) rfl)
theorem w_30 {a0 : Array Value} {Z : State} (hw : ∀ d ∈ tables_1, d.before a0 Z = true) : (Jvm.Cond.initialized "java/util/Arrays").before a0 Z = true := hw _ (List.mem_of_getElem? (i := 30) rfl)
theorem w_31 {a0 : Array Value} {Z : State} (hw : ∀ d ∈ tables_1, d.before a0 Z = true) : (Jvm.Cond.code yM4 jdk_65_method_5_code (3 : Nat) (Option.none : Option Jvm.ClassFile.FieldType)).before a0 Z = true := hw _ (List.mem_of_getElem? (i := 31) rfl)
theorem w_32 {a0 : Array Value} {Z : State} (hw : ∀ d ∈ tables_1, d.before a0 Z = true) : (Jvm.Cond.methodLink "java/util/Arrays" (13 : Nat) yM5).before a0 Z = true := hw _ (List.mem_of_getElem? (i := 32) rfl)
theorem w_33 {a0 : Array Value} {Z : State} (hw : ∀ d ∈ tables_1, d.before a0 Z = true) : (Jvm.Cond.static yM5).before a0 Z = true := hw _ (List.mem_of_getElem? (i := 33) rfl)
theorem w_34 {a0 : Array Value} {Z : State} (hw : ∀ d ∈ tables_1, d.before a0 Z = true) : (Jvm.Cond.code yM5 jdk_65_method_30_code (3 : Nat) (Option.none : Option Jvm.ClassFile.FieldType)).before a0 Z = true := hw _ (List.mem_of_getElem? (i := 34) rfl)
theorem w_35 {a0 : Array Value} {Z : State} (hw : ∀ d ∈ tables_1, d.before a0 Z = true) : (Jvm.Cond.methodLink "java/util/Arrays" (19 : Nat) yM6).before a0 Z = true := hw _ (List.mem_of_getElem? (i := 35) rfl)
theorem w_36 {a0 : Array Value} {Z : State} (hw : ∀ d ∈ tables_1, d.before a0 Z = true) : (Jvm.Cond.static yM6).before a0 Z = true := hw _ (List.mem_of_getElem? (i := 36) rfl)
theorem w_37 {a0 : Array Value} {Z : State} (hw : ∀ d ∈ tables_1, d.before a0 Z = true) : (Jvm.Cond.initialized "java/util/DualPivotQuicksort").before a0 Z = true := hw _ (List.mem_of_getElem? (i := 37) rfl)
theorem w_38 {a0 : Array Value} {Z : State} (hw : ∀ d ∈ tables_1, d.before a0 Z = true) : (Jvm.Cond.code yM6 jdk_2529_method_12_code (7 : Nat) (Option.none : Option Jvm.ClassFile.FieldType)).before a0 Z = true := hw _ (List.mem_of_getElem? (i := 38) rfl)
theorem w_39 {a0 : Array Value} {Z : State} (hw : ∀ d ∈ tables_1, d.before a0 Z = true) : (Jvm.Cond.methodLink "java/util/DualPivotQuicksort" (99 : Nat) yM7).before a0 Z = true := hw _ (List.mem_of_getElem? (i := 39) rfl)
theorem w_40 {a0 : Array Value} {Z : State} (hw : ∀ d ∈ tables_1, d.before a0 Z = true) : (Jvm.Cond.static yM7).before a0 Z = true := hw _ (List.mem_of_getElem? (i := 40) rfl)
theorem w_41 {a0 : Array Value} {Z : State} (hw : ∀ d ∈ tables_1, d.before a0 Z = true) : (Jvm.Cond.code yM7 jdk_2529_method_13_code (25 : Nat) (Option.none : Option Jvm.ClassFile.FieldType)).before a0 Z = true := hw _ (List.mem_of_getElem? (i := 41) rfl)
theorem w_42 {a0 : Array Value} {Z : State} (hw : ∀ d ∈ tables_1, d.before a0 Z = true) : (Jvm.Cond.methodLink "java/util/DualPivotQuicksort" (105 : Nat) yM8).before a0 Z = true := hw _ (List.mem_of_getElem? (i := 42) rfl)
theorem w_43 {a0 : Array Value} {Z : State} (hw : ∀ d ∈ tables_1, d.before a0 Z = true) : (Jvm.Cond.static yM8).before a0 Z = true := hw _ (List.mem_of_getElem? (i := 43) rfl)
theorem w_44 {a0 : Array Value} {Z : State} (hw : ∀ d ∈ tables_1, d.before a0 Z = true) : (Jvm.Cond.code yM8 jdk_2529_method_15_code (7 : Nat) (Option.none : Option Jvm.ClassFile.FieldType)).before a0 Z = true := hw _ (List.mem_of_getElem? (i := 44) rfl)
theorem w_45 {a0 : Array Value} {Z : State} (hw : ∀ d ∈ tables_1, d.before a0 Z = true) : (Jvm.Cond.methodLink "com/example/syntagma/syntagma/service/DocumentText$Builder" (50 : Nat) yM9).before a0 Z = true := hw _ (List.mem_of_getElem? (i := 45) rfl)
theorem w_46 {a0 : Array Value} {Z : State} (hw : ∀ d ∈ tables_1, d.before a0 Z = true) : (Jvm.Cond.static yM9).before a0 Z = true := hw _ (List.mem_of_getElem? (i := 46) rfl)
theorem w_47 {a0 : Array Value} {Z : State} (hw : ∀ d ∈ tables_1, d.before a0 Z = true) : (Jvm.Cond.code yM9 prog_210_method_6_code (3 : Nat) (Option.some Jvm.ClassFile.FieldType.int)).before a0 Z = true := hw _ (List.mem_of_getElem? (i := 47) rfl)
theorem w_48 {a0 : Array Value} {Z : State} (hw : ∀ d ∈ tables_1, d.before a0 Z = true) : (Jvm.Cond.methodLink "com/example/syntagma/syntagma/service/DocumentText$Builder" (54 : Nat) yM10).before a0 Z = true := hw _ (List.mem_of_getElem? (i := 48) rfl)
theorem w_49 {a0 : Array Value} {Z : State} (hw : ∀ d ∈ tables_1, d.before a0 Z = true) : (Jvm.Cond.static yM10).before a0 Z = true := hw _ (List.mem_of_getElem? (i := 49) rfl)
theorem w_50 {a0 : Array Value} {Z : State} (hw : ∀ d ∈ tables_1, d.before a0 Z = true) : (Jvm.Cond.initialized "java/lang/Math").before a0 Z = true := hw _ (List.mem_of_getElem? (i := 50) rfl)
theorem w_51 {a0 : Array Value} {Z : State} (hw : ∀ d ∈ tables_1, d.before a0 Z = true) : (Jvm.Cond.code yM10 jdk_29_method_43_code (2 : Nat) (Option.some Jvm.ClassFile.FieldType.int)).before a0 Z = true := hw _ (List.mem_of_getElem? (i := 51) rfl)
theorem w_52 {a0 : Array Value} {Z : State} (hw : ∀ d ∈ tables_1, d.before a0 Z = true) : (Jvm.Cond.arrayClass Jvm.ClassFile.FieldType.byte).before a0 Z = true := hw _ (List.mem_of_getElem? (i := 52) rfl)
theorem w_53 {a0 : Array Value} {Z : State} (hw : ∀ d ∈ tables_1, d.before a0 Z = true) : (Jvm.Cond.fieldLink "com/example/syntagma/syntagma/service/DocumentText$Builder" (31 : Nat) "com/example/syntagma/syntagma/service/DocumentText$Builder" "breakCount" "I").before a0 Z = true := hw _ (List.mem_of_getElem? (i := 53) rfl)
theorem w_54 {a0 : Array Value} {Z : State} (hw : ∀ d ∈ tables_1, d.before a0 Z = true) : (Jvm.Cond.lays "com/example/syntagma/syntagma/service/DocumentText$Builder" "com/example/syntagma/syntagma/service/DocumentText$Builder" "breakCount" "I").before a0 Z = true := hw _ (List.mem_of_getElem? (i := 54) rfl)
theorem w_55 {a0 : Array Value} {Z : State} (hw : ∀ d ∈ tables_1, d.before a0 Z = true) : (Jvm.Cond.classLink "com/example/syntagma/syntagma/service/DocumentText$Builder" (1 : Nat) "com/example/syntagma/syntagma/service/DocumentText").before a0 Z = true := hw _ (List.mem_of_getElem? (i := 55) rfl)
theorem w_56 {a0 : Array Value} {Z : State} (hw : ∀ d ∈ tables_1, d.before a0 Z = true) : (Jvm.Cond.instantiable "com/example/syntagma/syntagma/service/DocumentText" (10 : Nat)).before a0 Z = true := hw _ (List.mem_of_getElem? (i := 56) rfl)
theorem w_57 {a0 : Array Value} {Z : State} (hw : ∀ d ∈ tables_1, d.before a0 Z = true) : (Jvm.Cond.initialized "com/example/syntagma/syntagma/service/DocumentText").before a0 Z = true := hw _ (List.mem_of_getElem? (i := 57) rfl)
theorem w_58 {a0 : Array Value} {Z : State} (hw : ∀ d ∈ tables_1, d.before a0 Z = true) : (Jvm.Cond.fieldLink "com/example/syntagma/syntagma/service/DocumentText$Builder" (37 : Nat) "com/example/syntagma/syntagma/service/DocumentText$Builder" "sentences" "I").before a0 Z = true := hw _ (List.mem_of_getElem? (i := 58) rfl)
theorem w_59 {a0 : Array Value} {Z : State} (hw : ∀ d ∈ tables_1, d.before a0 Z = true) : (Jvm.Cond.lays "com/example/syntagma/syntagma/service/DocumentText$Builder" "com/example/syntagma/syntagma/service/DocumentText$Builder" "sentences" "I").before a0 Z = true := hw _ (List.mem_of_getElem? (i := 59) rfl)
theorem w_60 {a0 : Array Value} {Z : State} (hw : ∀ d ∈ tables_1, d.before a0 Z = true) : (Jvm.Cond.methodLinkNest "com/example/syntagma/syntagma/service/DocumentText$Builder" (62 : Nat) yM11 "com/example/syntagma/syntagma/service/DocumentText").before a0 Z = true := hw _ (List.mem_of_getElem? (i := 60) rfl)
theorem w_61 {a0 : Array Value} {Z : State} (hw : ∀ d ∈ tables_1, d.before a0 Z = true) : (Jvm.Cond.instanceMethod yM11).before a0 Z = true := hw _ (List.mem_of_getElem? (i := 61) rfl)
theorem w_62 {a0 : Array Value} {Z : State} (hw : ∀ d ∈ tables_1, d.before a0 Z = true) : (Jvm.Cond.code yM11 prog_209_method_1_code (7 : Nat) (Option.none : Option Jvm.ClassFile.FieldType)).before a0 Z = true := hw _ (List.mem_of_getElem? (i := 62) rfl)
theorem w_63 {a0 : Array Value} {Z : State} (hw : ∀ d ∈ tables_1, d.before a0 Z = true) : (Jvm.Cond.methodLink "com/example/syntagma/syntagma/service/DocumentText" (3 : Nat) yM1).before a0 Z = true := hw _ (List.mem_of_getElem? (i := 63) rfl)
theorem w_64 {a0 : Array Value} {Z : State} (hw : ∀ d ∈ tables_1, d.before a0 Z = true) : (Jvm.Cond.fieldLink "com/example/syntagma/syntagma/service/DocumentText" (9 : Nat) "com/example/syntagma/syntagma/service/DocumentText" "vocabulary" "[I").before a0 Z = true := hw _ (List.mem_of_getElem? (i := 64) rfl)
theorem w_65 {a0 : Array Value} {Z : State} (hw : ∀ d ∈ tables_1, d.before a0 Z = true) : (Jvm.Cond.laysFinal "com/example/syntagma/syntagma/service/DocumentText" "com/example/syntagma/syntagma/service/DocumentText" "vocabulary" "[I").before a0 Z = true := hw _ (List.mem_of_getElem? (i := 65) rfl)
theorem w_66 {a0 : Array Value} {Z : State} (hw : ∀ d ∈ tables_1, d.before a0 Z = true) : (Jvm.Cond.fieldLink "com/example/syntagma/syntagma/service/DocumentText" (13 : Nat) "com/example/syntagma/syntagma/service/DocumentText" "gaps" "[B").before a0 Z = true := hw _ (List.mem_of_getElem? (i := 66) rfl)
theorem w_67 {a0 : Array Value} {Z : State} (hw : ∀ d ∈ tables_1, d.before a0 Z = true) : (Jvm.Cond.laysFinal "com/example/syntagma/syntagma/service/DocumentText" "com/example/syntagma/syntagma/service/DocumentText" "gaps" "[B").before a0 Z = true := hw _ (List.mem_of_getElem? (i := 67) rfl)
theorem w_68 {a0 : Array Value} {Z : State} (hw : ∀ d ∈ tables_1, d.before a0 Z = true) : (Jvm.Cond.fieldLink "com/example/syntagma/syntagma/service/DocumentText" (17 : Nat) "com/example/syntagma/syntagma/service/DocumentText" "stretched" "Z").before a0 Z = true := hw _ (List.mem_of_getElem? (i := 68) rfl)
theorem w_69 {a0 : Array Value} {Z : State} (hw : ∀ d ∈ tables_1, d.before a0 Z = true) : (Jvm.Cond.laysFinal "com/example/syntagma/syntagma/service/DocumentText" "com/example/syntagma/syntagma/service/DocumentText" "stretched" "Z").before a0 Z = true := hw _ (List.mem_of_getElem? (i := 69) rfl)
theorem w_70 {a0 : Array Value} {Z : State} (hw : ∀ d ∈ tables_1, d.before a0 Z = true) : (Jvm.Cond.fieldLink "com/example/syntagma/syntagma/service/DocumentText" (21 : Nat) "com/example/syntagma/syntagma/service/DocumentText" "breaks" "[J").before a0 Z = true := hw _ (List.mem_of_getElem? (i := 70) rfl)
theorem w_71 {a0 : Array Value} {Z : State} (hw : ∀ d ∈ tables_1, d.before a0 Z = true) : (Jvm.Cond.laysFinal "com/example/syntagma/syntagma/service/DocumentText" "com/example/syntagma/syntagma/service/DocumentText" "breaks" "[J").before a0 Z = true := hw _ (List.mem_of_getElem? (i := 71) rfl)
theorem w_72 {a0 : Array Value} {Z : State} (hw : ∀ d ∈ tables_1, d.before a0 Z = true) : (Jvm.Cond.fieldLink "com/example/syntagma/syntagma/service/DocumentText" (25 : Nat) "com/example/syntagma/syntagma/service/DocumentText" "words" "I").before a0 Z = true := hw _ (List.mem_of_getElem? (i := 72) rfl)
theorem w_73 {a0 : Array Value} {Z : State} (hw : ∀ d ∈ tables_1, d.before a0 Z = true) : (Jvm.Cond.laysFinal "com/example/syntagma/syntagma/service/DocumentText" "com/example/syntagma/syntagma/service/DocumentText" "words" "I").before a0 Z = true := hw _ (List.mem_of_getElem? (i := 73) rfl)
theorem w_74 {a0 : Array Value} {Z : State} (hw : ∀ d ∈ tables_1, d.before a0 Z = true) : (Jvm.Cond.fieldLink "com/example/syntagma/syntagma/service/DocumentText" (29 : Nat) "com/example/syntagma/syntagma/service/DocumentText" "firstSentenceWords" "I").before a0 Z = true := hw _ (List.mem_of_getElem? (i := 74) rfl)
theorem w_75 {a0 : Array Value} {Z : State} (hw : ∀ d ∈ tables_1, d.before a0 Z = true) : (Jvm.Cond.laysFinal "com/example/syntagma/syntagma/service/DocumentText" "com/example/syntagma/syntagma/service/DocumentText" "firstSentenceWords" "I").before a0 Z = true := hw _ (List.mem_of_getElem? (i := 75) rfl)
theorem w_76 {a0 : Array Value} {Z : State} (hw : ∀ d ∈ tables_1, d.before a0 Z = true) : (Jvm.Cond.constant "com/example/syntagma/syntagma/service/DocumentText" (34 : Nat) (65535 : Int32)).before a0 Z = true := hw _ (List.mem_of_getElem? (i := 76) rfl)
theorem w_77 {a0 : Array Value} {Z : State} (hw : ∀ d ∈ tables_1, d.before a0 Z = true) : (Jvm.Cond.methodLink "com/example/syntagma/syntagma/service/DocumentText" (35 : Nat) yM12).before a0 Z = true := hw _ (List.mem_of_getElem? (i := 77) rfl)
theorem w_78 {a0 : Array Value} {Z : State} (hw : ∀ d ∈ tables_1, d.before a0 Z = true) : (Jvm.Cond.static yM12).before a0 Z = true := hw _ (List.mem_of_getElem? (i := 78) rfl)
theorem w_79 {a0 : Array Value} {Z : State} (hw : ∀ d ∈ tables_1, d.before a0 Z = true) : (Jvm.Cond.code yM12 prog_209_method_2_code (3 : Nat) (Option.some (Jvm.ClassFile.FieldType.array Jvm.ClassFile.FieldType.char))).before a0 Z = true := hw _ (List.mem_of_getElem? (i := 79) rfl)
theorem w_80 {a0 : Array Value} {Z : State} (hw : ∀ d ∈ tables_1, d.before a0 Z = true) : (Jvm.Cond.arrayClass Jvm.ClassFile.FieldType.char).before a0 Z = true := hw _ (List.mem_of_getElem? (i := 80) rfl)
theorem w_81 {a0 : Array Value} {Z : State} (hw : ∀ d ∈ tables_1, d.before a0 Z = true) : (Jvm.Cond.fieldLink "com/example/syntagma/syntagma/service/DocumentText" (39 : Nat) "com/example/syntagma/syntagma/service/DocumentText" "narrowStarts" "[C").before a0 Z = true := hw _ (List.mem_of_getElem? (i := 81) rfl)
theorem w_82 {a0 : Array Value} {Z : State} (hw : ∀ d ∈ tables_1, d.before a0 Z = true) : (Jvm.Cond.laysFinal "com/example/syntagma/syntagma/service/DocumentText" "com/example/syntagma/syntagma/service/DocumentText" "narrowStarts" "[C").before a0 Z = true := hw _ (List.mem_of_getElem? (i := 82) rfl)
theorem w_83 {a0 : Array Value} {Z : State} (hw : ∀ d ∈ tables_1, d.before a0 Z = true) : (Jvm.Cond.fieldLink "com/example/syntagma/syntagma/service/DocumentText" (43 : Nat) "com/example/syntagma/syntagma/service/DocumentText" "wideStarts" "[I").before a0 Z = true := hw _ (List.mem_of_getElem? (i := 83) rfl)
theorem w_84 {a0 : Array Value} {Z : State} (hw : ∀ d ∈ tables_1, d.before a0 Z = true) : (Jvm.Cond.laysFinal "com/example/syntagma/syntagma/service/DocumentText" "com/example/syntagma/syntagma/service/DocumentText" "wideStarts" "[I").before a0 Z = true := hw _ (List.mem_of_getElem? (i := 84) rfl)
theorem w_85 {a0 : Array Value} {Z : State} (hw : ∀ d ∈ tables_1, d.before a0 Z = true) : (Jvm.Cond.constant "com/example/syntagma/syntagma/service/DocumentText" (46 : Nat) (65536 : Int32)).before a0 Z = true := hw _ (List.mem_of_getElem? (i := 85) rfl)
theorem w_86 {a0 : Array Value} {Z : State} (hw : ∀ d ∈ tables_1, d.before a0 Z = true) : (Jvm.Cond.fieldLink "com/example/syntagma/syntagma/service/DocumentText" (47 : Nat) "com/example/syntagma/syntagma/service/DocumentText" "narrowPlaces" "[C").before a0 Z = true := hw _ (List.mem_of_getElem? (i := 86) rfl)
theorem w_87 {a0 : Array Value} {Z : State} (hw : ∀ d ∈ tables_1, d.before a0 Z = true) : (Jvm.Cond.laysFinal "com/example/syntagma/syntagma/service/DocumentText" "com/example/syntagma/syntagma/service/DocumentText" "narrowPlaces" "[C").before a0 Z = true := hw _ (List.mem_of_getElem? (i := 87) rfl)
theorem w_88 {a0 : Array Value} {Z : State} (hw : ∀ d ∈ tables_1, d.before a0 Z = true) : (Jvm.Cond.fieldLink "com/example/syntagma/syntagma/service/DocumentText" (50 : Nat) "com/example/syntagma/syntagma/service/DocumentText" "widePlaces" "[I").before a0 Z = true := hw _ (List.mem_of_getElem? (i := 88) rfl)
theorem w_89 {a0 : Array Value} {Z : State} (hw : ∀ d ∈ tables_1, d.before a0 Z = true) : (Jvm.Cond.laysFinal "com/example/syntagma/syntagma/service/DocumentText" "com/example/syntagma/syntagma/service/DocumentText" "widePlaces" "[I").before a0 Z = true := hw _ (List.mem_of_getElem? (i := 89) rfl)
theorem w_90 {a0 : Array Value} {Z : State} (hw : ∀ d ∈ tables_1, d.before a0 Z = true) : (Jvm.Cond.classLink "com/example/syntagma/syntagma/service/PositionsNextPinLaw" (19 : Nat) "com/example/syntagma/syntagma/service/DocumentText$Positions").before a0 Z = true := hw _ (List.mem_of_getElem? (i := 90) rfl)
theorem w_91 {a0 : Array Value} {Z : State} (hw : ∀ d ∈ tables_1, d.before a0 Z = true) : (Jvm.Cond.instantiable "com/example/syntagma/syntagma/service/DocumentText$Positions" (4 : Nat)).before a0 Z = true := hw _ (List.mem_of_getElem? (i := 91) rfl)
theorem w_92 {a0 : Array Value} {Z : State} (hw : ∀ d ∈ tables_1, d.before a0 Z = true) : (Jvm.Cond.initialized "com/example/syntagma/syntagma/service/DocumentText$Positions").before a0 Z = true := hw _ (List.mem_of_getElem? (i := 92) rfl)
theorem w_93 {a0 : Array Value} {Z : State} (hw : ∀ d ∈ tables_1, d.before a0 Z = true) : (Jvm.Cond.methodLink "com/example/syntagma/syntagma/service/PositionsNextPinLaw" (21 : Nat) yM13).before a0 Z = true := hw _ (List.mem_of_getElem? (i := 93) rfl)
theorem w_94 {a0 : Array Value} {Z : State} (hw : ∀ d ∈ tables_1, d.before a0 Z = true) : (Jvm.Cond.instanceMethod yM13).before a0 Z = true := hw _ (List.mem_of_getElem? (i := 94) rfl)
theorem w_95 {a0 : Array Value} {Z : State} (hw : ∀ d ∈ tables_1, d.before a0 Z = true) : (Jvm.Cond.code yM13 prog_211_method_1_code (1 : Nat) (Option.none : Option Jvm.ClassFile.FieldType)).before a0 Z = true := hw _ (List.mem_of_getElem? (i := 95) rfl)
theorem w_96 {a0 : Array Value} {Z : State} (hw : ∀ d ∈ tables_1, d.before a0 Z = true) : (Jvm.Cond.methodLink "com/example/syntagma/syntagma/service/DocumentText$Positions" (3 : Nat) yM1).before a0 Z = true := hw _ (List.mem_of_getElem? (i := 96) rfl)
theorem w_97 {a0 : Array Value} {Z : State} (hw : ∀ d ∈ tables_1, d.before a0 Z = true) : (Jvm.Cond.methodLink "com/example/syntagma/syntagma/service/PositionsNextPinLaw" (22 : Nat) yM14).before a0 Z = true := hw _ (List.mem_of_getElem? (i := 97) rfl)
theorem w_98 {a0 : Array Value} {Z : State} (hw : ∀ d ∈ tables_1, d.before a0 Z = true) : (Jvm.Cond.declares yM14).before a0 Z = true := hw _ (List.mem_of_getElem? (i := 98) rfl)
theorem w_99 {a0 : Array Value} {Z : State} (hw : ∀ d ∈ tables_1, d.before a0 Z = true) : (Jvm.Cond.instanceMethod yM14).before a0 Z = true := hw _ (List.mem_of_getElem? (i := 99) rfl)
theorem w_100 {a0 : Array Value} {Z : State} (hw : ∀ d ∈ tables_1, d.before a0 Z = true) : (Jvm.Cond.selects "com/example/syntagma/syntagma/service/DocumentText$Positions" yM14 yM14).before a0 Z = true := hw _ (List.mem_of_getElem? (i := 100) rfl)
theorem w_101 {a0 : Array Value} {Z : State} (hw : ∀ d ∈ tables_1, d.before a0 Z = true) : (Jvm.Cond.code yM14 prog_211_method_2_code (3 : Nat) (Option.none : Option Jvm.ClassFile.FieldType)).before a0 Z = true := hw _ (List.mem_of_getElem? (i := 101) rfl)
theorem w_102 {a0 : Array Value} {Z : State} (hw : ∀ d ∈ tables_1, d.before a0 Z = true) : (Jvm.Cond.fieldLink "com/example/syntagma/syntagma/service/DocumentText$Positions" (9 : Nat) "com/example/syntagma/syntagma/service/DocumentText$Positions" "text" "Lcom/example/syntagma/syntagma/service/DocumentText;").before a0 Z = true := hw _ (List.mem_of_getElem? (i := 102) rfl)
theorem w_103 {a0 : Array Value} {Z : State} (hw : ∀ d ∈ tables_1, d.before a0 Z = true) : (Jvm.Cond.lays "com/example/syntagma/syntagma/service/DocumentText$Positions" "com/example/syntagma/syntagma/service/DocumentText$Positions" "text" "Lcom/example/syntagma/syntagma/service/DocumentText;").before a0 Z = true := hw _ (List.mem_of_getElem? (i := 103) rfl)
theorem w_104 {a0 : Array Value} {Z : State} (hw : ∀ d ∈ tables_1, d.before a0 Z = true) : (Jvm.Cond.methodLinkNest "com/example/syntagma/syntagma/service/DocumentText$Positions" (15 : Nat) yM15 "com/example/syntagma/syntagma/service/DocumentText").before a0 Z = true := hw _ (List.mem_of_getElem? (i := 104) rfl)
theorem w_105 {a0 : Array Value} {Z : State} (hw : ∀ d ∈ tables_1, d.before a0 Z = true) : (Jvm.Cond.instanceMethod yM15).before a0 Z = true := hw _ (List.mem_of_getElem? (i := 105) rfl)
theorem w_106 {a0 : Array Value} {Z : State} (hw : ∀ d ∈ tables_1, d.before a0 Z = true) : (Jvm.Cond.privateMethod yM15).before a0 Z = true := hw _ (List.mem_of_getElem? (i := 106) rfl)
theorem w_107 {a0 : Array Value} {Z : State} (hw : ∀ d ∈ tables_1, d.before a0 Z = true) : (Jvm.Cond.code yM15 prog_209_method_15_code (2 : Nat) (Option.some Jvm.ClassFile.FieldType.int)).before a0 Z = true := hw _ (List.mem_of_getElem? (i := 107) rfl)
theorem w_108 {a0 : Array Value} {Z : State} (hw : ∀ d ∈ tables_1, d.before a0 Z = true) : (Jvm.Cond.fieldLink "com/example/syntagma/syntagma/service/DocumentText$Positions" (19 : Nat) "com/example/syntagma/syntagma/service/DocumentText$Positions" "next" "I").before a0 Z = true := hw _ (List.mem_of_getElem? (i := 108) rfl)
theorem w_109 {a0 : Array Value} {Z : State} (hw : ∀ d ∈ tables_1, d.before a0 Z = true) : (Jvm.Cond.lays "com/example/syntagma/syntagma/service/DocumentText$Positions" "com/example/syntagma/syntagma/service/DocumentText$Positions" "next" "I").before a0 Z = true := hw _ (List.mem_of_getElem? (i := 109) rfl)
theorem w_110 {a0 : Array Value} {Z : State} (hw : ∀ d ∈ tables_1, d.before a0 Z = true) : (Jvm.Cond.fieldLink "com/example/syntagma/syntagma/service/DocumentText$Positions" (23 : Nat) "com/example/syntagma/syntagma/service/DocumentText$Positions" "end" "I").before a0 Z = true := hw _ (List.mem_of_getElem? (i := 110) rfl)
theorem w_111 {a0 : Array Value} {Z : State} (hw : ∀ d ∈ tables_1, d.before a0 Z = true) : (Jvm.Cond.lays "com/example/syntagma/syntagma/service/DocumentText$Positions" "com/example/syntagma/syntagma/service/DocumentText$Positions" "end" "I").before a0 Z = true := hw _ (List.mem_of_getElem? (i := 111) rfl)
theorem w_112 {a0 : Array Value} {Z : State} (hw : ∀ d ∈ tables_1, d.before a0 Z = true) : (Jvm.Cond.fieldLink "com/example/syntagma/syntagma/service/DocumentText$Positions" (26 : Nat) "com/example/syntagma/syntagma/service/DocumentText$Positions" "position" "I").before a0 Z = true := hw _ (List.mem_of_getElem? (i := 112) rfl)
theorem w_113 {a0 : Array Value} {Z : State} (hw : ∀ d ∈ tables_1, d.before a0 Z = true) : (Jvm.Cond.lays "com/example/syntagma/syntagma/service/DocumentText$Positions" "com/example/syntagma/syntagma/service/DocumentText$Positions" "position" "I").before a0 Z = true := hw _ (List.mem_of_getElem? (i := 113) rfl)
theorem w_114 {a0 : Array Value} {Z : State} (hw : ∀ d ∈ tables_1, d.before a0 Z = true) : (Jvm.Cond.methodLink "com/example/syntagma/syntagma/service/PositionsNextPinLaw" (26 : Nat) yM16).before a0 Z = true := hw _ (List.mem_of_getElem? (i := 114) rfl)
theorem w_115 {a0 : Array Value} {Z : State} (hw : ∀ d ∈ tables_1, d.before a0 Z = true) : (Jvm.Cond.declares yM16).before a0 Z = true := hw _ (List.mem_of_getElem? (i := 115) rfl)
theorem w_116 {a0 : Array Value} {Z : State} (hw : ∀ d ∈ tables_1, d.before a0 Z = true) : (Jvm.Cond.instanceMethod yM16).before a0 Z = true := hw _ (List.mem_of_getElem? (i := 116) rfl)
theorem w_117 {a0 : Array Value} {Z : State} (hw : ∀ d ∈ tables_1, d.before a0 Z = true) : (Jvm.Cond.selects "com/example/syntagma/syntagma/service/DocumentText$Positions" yM16 yM16).before a0 Z = true := hw _ (List.mem_of_getElem? (i := 117) rfl)
theorem w_118 {a0 : Array Value} {Z : State} (hw : ∀ d ∈ tables_1, d.before a0 Z = true) : (Jvm.Cond.code yM16 prog_211_method_3_code (5 : Nat) (Option.some Jvm.ClassFile.FieldType.boolean)).before a0 Z = true := hw _ (List.mem_of_getElem? (i := 118) rfl)
theorem w_119 {a0 : Array Value} {Z : State} (hw : ∀ d ∈ tables_1, d.before a0 Z = true) : (Jvm.Cond.fieldLinkNest "com/example/syntagma/syntagma/service/DocumentText$Positions" (29 : Nat) "com/example/syntagma/syntagma/service/DocumentText" "gaps" "[B" "com/example/syntagma/syntagma/service/DocumentText").before a0 Z = true := hw _ (List.mem_of_getElem? (i := 119) rfl)
theorem w_120 {a0 : Array Value} {Z : State} (hw : ∀ d ∈ tables_1, d.before a0 Z = true) : (Jvm.Cond.methodLink "com/example/syntagma/syntagma/service/PositionsNextPinLaw" (30 : Nat) yM17).before a0 Z = true := hw _ (List.mem_of_getElem? (i := 120) rfl)
theorem w_121 {a0 : Array Value} {Z : State} (hw : ∀ d ∈ tables_1, d.before a0 Z = true) : (Jvm.Cond.declares yM17).before a0 Z = true := hw _ (List.mem_of_getElem? (i := 121) rfl)
theorem w_122 {a0 : Array Value} {Z : State} (hw : ∀ d ∈ tables_1, d.before a0 Z = true) : (Jvm.Cond.instanceMethod yM17).before a0 Z = true := hw _ (List.mem_of_getElem? (i := 122) rfl)
theorem w_123 {a0 : Array Value} {Z : State} (hw : ∀ d ∈ tables_1, d.before a0 Z = true) : (Jvm.Cond.selects "com/example/syntagma/syntagma/service/DocumentText$Positions" yM17 yM17).before a0 Z = true := hw _ (List.mem_of_getElem? (i := 123) rfl)
theorem w_124 {a0 : Array Value} {Z : State} (hw : ∀ d ∈ tables_1, d.before a0 Z = true) : (Jvm.Cond.code yM17 prog_211_method_4_code (1 : Nat) (Option.some Jvm.ClassFile.FieldType.int)).before a0 Z = true := hw _ (List.mem_of_getElem? (i := 124) rfl)
theorem w_126 {a0 : Array Value} {Z : State} (hw : ∀ d ∈ tables_1, d.before a0 Z = true) : (Jvm.Cond.lays "com/example/syntagma/syntagma/service/DocumentText$Builder" "com/example/syntagma/syntagma/service/DocumentText$Builder" "firstSentenceWords" "I").before a0 Z = true := hw _ (List.mem_of_getElem? (i := 126) rfl)
theorem d5_0 : decode jdk_2529_method_12_code 0 = .ok (.iload_n 3, 1) := by decide +kernel
theorem d5_1 : decode jdk_2529_method_12_code 1 = .ok (.iload_n 2, 1) := by decide +kernel
theorem d5_2 : decode jdk_2529_method_12_code 2 = .ok (.isub, 1) := by decide +kernel
theorem d5_3 : decode jdk_2529_method_12_code 3 = .ok (.istore 4, 2) := by decide +kernel
theorem d5_5 : decode jdk_2529_method_12_code 5 = .ok (.iload_n 1, 1) := by decide +kernel
theorem d5_6 : decode jdk_2529_method_12_code 6 = .ok (.iconst 1, 1) := by decide +kernel
theorem d5_7 : decode jdk_2529_method_12_code 7 = .ok (.if_icmp .le 61, 3) := by decide +kernel
theorem d5_68 : decode jdk_2529_method_12_code 68 = .ok (.aconst_null, 1) := by decide +kernel
theorem d5_69 : decode jdk_2529_method_12_code 69 = .ok (.aload_n 0, 1) := by decide +kernel
theorem d5_70 : decode jdk_2529_method_12_code 70 = .ok (.iconst 0, 1) := by decide +kernel
theorem d5_71 : decode jdk_2529_method_12_code 71 = .ok (.iload_n 2, 1) := by decide +kernel
theorem d5_72 : decode jdk_2529_method_12_code 72 = .ok (.iload_n 3, 1) := by decide +kernel
theorem d5_73 : decode jdk_2529_method_12_code 73 = .ok (.invokestatic 99, 3) := by decide +kernel
theorem d5_76 : decode jdk_2529_method_12_code 76 = .ok (.return_, 1) := by decide +kernel
theorem d4_0 : decode jdk_2529_method_13_code 0 = .ok (.iload 4, 2) := by decide +kernel
theorem d4_2 : decode jdk_2529_method_13_code 2 = .ok (.iconst 1, 1) := by decide +kernel
theorem d4_3 : decode jdk_2529_method_13_code 3 = .ok (.isub, 1) := by decide +kernel
theorem d4_4 : decode jdk_2529_method_13_code 4 = .ok (.istore 5, 2) := by decide +kernel
theorem d4_6 : decode jdk_2529_method_13_code 6 = .ok (.iload 4, 2) := by decide +kernel
theorem d4_8 : decode jdk_2529_method_13_code 8 = .ok (.iload_n 3, 1) := by decide +kernel
theorem d4_9 : decode jdk_2529_method_13_code 9 = .ok (.isub, 1) := by decide +kernel
theorem d4_10 : decode jdk_2529_method_13_code 10 = .ok (.istore 6, 2) := by decide +kernel
theorem d4_12 : decode jdk_2529_method_13_code 12 = .ok (.iload 6, 2) := by decide +kernel
theorem d4_14 : decode jdk_2529_method_13_code 14 = .ok (.bipush 65, 2) := by decide +kernel
theorem d4_16 : decode jdk_2529_method_13_code 16 = .ok (.iload_n 2, 1) := by decide +kernel
theorem d4_17 : decode jdk_2529_method_13_code 17 = .ok (.iadd, 1) := by decide +kernel
theorem d4_18 : decode jdk_2529_method_13_code 18 = .ok (.if_icmp .ge 28, 3) := by decide +kernel
theorem d4_21 : decode jdk_2529_method_13_code 21 = .ok (.iload_n 2, 1) := by decide +kernel
theorem d4_22 : decode jdk_2529_method_13_code 22 = .ok (.iconst 1, 1) := by decide +kernel
theorem d4_23 : decode jdk_2529_method_13_code 23 = .ok (.iand, 1) := by decide +kernel
theorem d4_24 : decode jdk_2529_method_13_code 24 = .ok (.ifCond .le 22, 3) := by decide +kernel
theorem d4_46 : decode jdk_2529_method_13_code 46 = .ok (.iload 6, 2) := by decide +kernel
theorem d4_48 : decode jdk_2529_method_13_code 48 = .ok (.bipush 44, 2) := by decide +kernel
theorem d4_50 : decode jdk_2529_method_13_code 50 = .ok (.if_icmp .ge 11, 3) := by decide +kernel
theorem d4_53 : decode jdk_2529_method_13_code 53 = .ok (.aload_n 1, 1) := by decide +kernel
theorem d4_54 : decode jdk_2529_method_13_code 54 = .ok (.iload_n 3, 1) := by decide +kernel
theorem d4_55 : decode jdk_2529_method_13_code 55 = .ok (.iload 4, 2) := by decide +kernel
theorem d4_57 : decode jdk_2529_method_13_code 57 = .ok (.invokestatic 105, 3) := by decide +kernel
theorem d4_60 : decode jdk_2529_method_13_code 60 = .ok (.return_, 1) := by decide +kernel
theorem d3_0 : decode jdk_2529_method_15_code 0 = .ok (.iload_n 1, 1) := by decide +kernel
theorem d3_1 : decode jdk_2529_method_15_code 1 = .ok (.istore 4, 2) := by decide +kernel
theorem d3_3 : decode jdk_2529_method_15_code 3 = .ok (.iinc 4 1, 3) := by decide +kernel
theorem d3_6 : decode jdk_2529_method_15_code 6 = .ok (.iload 4, 2) := by decide +kernel
theorem d3_8 : decode jdk_2529_method_15_code 8 = .ok (.iload_n 2, 1) := by decide +kernel
theorem d3_9 : decode jdk_2529_method_15_code 9 = .ok (.if_icmp .ge 60, 3) := by decide +kernel
theorem d3_12 : decode jdk_2529_method_15_code 12 = .ok (.aload_n 0, 1) := by decide +kernel
theorem d3_13 : decode jdk_2529_method_15_code 13 = .ok (.iload 4, 2) := by decide +kernel
theorem d3_15 : decode jdk_2529_method_15_code 15 = .ok (.dup, 1) := by decide +kernel
theorem d3_16 : decode jdk_2529_method_15_code 16 = .ok (.istore_n 3, 1) := by decide +kernel
theorem d3_17 : decode jdk_2529_method_15_code 17 = .ok (.laload, 1) := by decide +kernel
theorem d3_18 : decode jdk_2529_method_15_code 18 = .ok (.lstore 5, 2) := by decide +kernel
theorem d3_20 : decode jdk_2529_method_15_code 20 = .ok (.lload 5, 2) := by decide +kernel
theorem d3_22 : decode jdk_2529_method_15_code 22 = .ok (.aload_n 0, 1) := by decide +kernel
theorem d3_23 : decode jdk_2529_method_15_code 23 = .ok (.iload_n 3, 1) := by decide +kernel
theorem d3_24 : decode jdk_2529_method_15_code 24 = .ok (.iconst 1, 1) := by decide +kernel
theorem d3_25 : decode jdk_2529_method_15_code 25 = .ok (.isub, 1) := by decide +kernel
theorem d3_26 : decode jdk_2529_method_15_code 26 = .ok (.laload, 1) := by decide +kernel
theorem d3_27 : decode jdk_2529_method_15_code 27 = .ok (.lcmp, 1) := by decide +kernel
theorem d3_28 : decode jdk_2529_method_15_code 28 = .ok (.ifCond .ge 38, 3) := by decide +kernel
theorem d3_31 : decode jdk_2529_method_15_code 31 = .ok (.iinc 3 (-1), 3) := by decide +kernel
theorem d3_34 : decode jdk_2529_method_15_code 34 = .ok (.iload_n 3, 1) := by decide +kernel
theorem d3_35 : decode jdk_2529_method_15_code 35 = .ok (.iload_n 1, 1) := by decide +kernel
theorem d3_36 : decode jdk_2529_method_15_code 36 = .ok (.if_icmp .lt 23, 3) := by decide +kernel
theorem d3_39 : decode jdk_2529_method_15_code 39 = .ok (.lload 5, 2) := by decide +kernel
theorem d3_41 : decode jdk_2529_method_15_code 41 = .ok (.aload_n 0, 1) := by decide +kernel
theorem d3_42 : decode jdk_2529_method_15_code 42 = .ok (.iload_n 3, 1) := by decide +kernel
theorem d3_43 : decode jdk_2529_method_15_code 43 = .ok (.laload, 1) := by decide +kernel
theorem d3_44 : decode jdk_2529_method_15_code 44 = .ok (.lcmp, 1) := by decide +kernel
theorem d3_45 : decode jdk_2529_method_15_code 45 = .ok (.ifCond .ge 14, 3) := by decide +kernel
theorem d3_48 : decode jdk_2529_method_15_code 48 = .ok (.aload_n 0, 1) := by decide +kernel
theorem d3_49 : decode jdk_2529_method_15_code 49 = .ok (.iload_n 3, 1) := by decide +kernel
theorem d3_50 : decode jdk_2529_method_15_code 50 = .ok (.iconst 1, 1) := by decide +kernel
theorem d3_51 : decode jdk_2529_method_15_code 51 = .ok (.iadd, 1) := by decide +kernel
theorem d3_52 : decode jdk_2529_method_15_code 52 = .ok (.aload_n 0, 1) := by decide +kernel
theorem d3_53 : decode jdk_2529_method_15_code 53 = .ok (.iload_n 3, 1) := by decide +kernel
theorem d3_54 : decode jdk_2529_method_15_code 54 = .ok (.laload, 1) := by decide +kernel
theorem d3_55 : decode jdk_2529_method_15_code 55 = .ok (.lastore, 1) := by decide +kernel
theorem d3_56 : decode jdk_2529_method_15_code 56 = .ok (.goto (-25), 3) := by decide +kernel
theorem d3_59 : decode jdk_2529_method_15_code 59 = .ok (.aload_n 0, 1) := by decide +kernel
theorem d3_60 : decode jdk_2529_method_15_code 60 = .ok (.iload_n 3, 1) := by decide +kernel
theorem d3_61 : decode jdk_2529_method_15_code 61 = .ok (.iconst 1, 1) := by decide +kernel
theorem d3_62 : decode jdk_2529_method_15_code 62 = .ok (.iadd, 1) := by decide +kernel
theorem d3_63 : decode jdk_2529_method_15_code 63 = .ok (.lload 5, 2) := by decide +kernel
theorem d3_65 : decode jdk_2529_method_15_code 65 = .ok (.lastore, 1) := by decide +kernel
theorem d3_66 : decode jdk_2529_method_15_code 66 = .ok (.goto (-63), 3) := by decide +kernel
theorem d3_69 : decode jdk_2529_method_15_code 69 = .ok (.return_, 1) := by decide +kernel
theorem d8_0 : decode jdk_29_method_43_code 0 = .ok (.lload_n 0, 1) := by decide +kernel
theorem d8_1 : decode jdk_29_method_43_code 1 = .ok (.l2i, 1) := by decide +kernel
theorem d8_2 : decode jdk_29_method_43_code 2 = .ok (.i2l, 1) := by decide +kernel
theorem d8_3 : decode jdk_29_method_43_code 3 = .ok (.lload_n 0, 1) := by decide +kernel
theorem d8_4 : decode jdk_29_method_43_code 4 = .ok (.lcmp, 1) := by decide +kernel
theorem d8_5 : decode jdk_29_method_43_code 5 = .ok (.ifCond .eq 13, 3) := by decide +kernel
theorem d8_18 : decode jdk_29_method_43_code 18 = .ok (.lload_n 0, 1) := by decide +kernel
theorem d8_19 : decode jdk_29_method_43_code 19 = .ok (.l2i, 1) := by decide +kernel
theorem d8_20 : decode jdk_29_method_43_code 20 = .ok (.ireturn, 1) := by decide +kernel
theorem d2_0 : decode jdk_65_method_30_code 0 = .ok (.iload_n 1, 1) := by decide +kernel
theorem d2_1 : decode jdk_65_method_30_code 1 = .ok (.iload_n 2, 1) := by decide +kernel
theorem d2_2 : decode jdk_65_method_30_code 2 = .ok (.if_icmp .le 44, 3) := by decide +kernel
theorem d2_46 : decode jdk_65_method_30_code 46 = .ok (.iload_n 1, 1) := by decide +kernel
theorem d2_47 : decode jdk_65_method_30_code 47 = .ok (.ifCond .ge 12, 3) := by decide +kernel
theorem d2_59 : decode jdk_65_method_30_code 59 = .ok (.iload_n 2, 1) := by decide +kernel
theorem d2_60 : decode jdk_65_method_30_code 60 = .ok (.iload_n 0, 1) := by decide +kernel
theorem d2_61 : decode jdk_65_method_30_code 61 = .ok (.if_icmp .le 12, 3) := by decide +kernel
theorem d2_73 : decode jdk_65_method_30_code 73 = .ok (.return_, 1) := by decide +kernel
theorem d6_0 : decode jdk_65_method_5_code 0 = .ok (.aload_n 0, 1) := by decide +kernel
theorem d6_1 : decode jdk_65_method_5_code 1 = .ok (.arraylength, 1) := by decide +kernel
theorem d6_2 : decode jdk_65_method_5_code 2 = .ok (.iload_n 1, 1) := by decide +kernel
theorem d6_3 : decode jdk_65_method_5_code 3 = .ok (.iload_n 2, 1) := by decide +kernel
theorem d6_4 : decode jdk_65_method_5_code 4 = .ok (.invokestatic 13, 3) := by decide +kernel
theorem d6_7 : decode jdk_65_method_5_code 7 = .ok (.aload_n 0, 1) := by decide +kernel
theorem d6_8 : decode jdk_65_method_5_code 8 = .ok (.iconst 0, 1) := by decide +kernel
theorem d6_9 : decode jdk_65_method_5_code 9 = .ok (.iload_n 1, 1) := by decide +kernel
theorem d6_10 : decode jdk_65_method_5_code 10 = .ok (.iload_n 2, 1) := by decide +kernel
theorem d6_11 : decode jdk_65_method_5_code 11 = .ok (.invokestatic 19, 3) := by decide +kernel
theorem d6_14 : decode jdk_65_method_5_code 14 = .ok (.return_, 1) := by decide +kernel
theorem d13_0 : decode prog_209_method_15_code 0 = .ok (.aload_n 0, 1) := by decide +kernel
theorem d13_1 : decode prog_209_method_15_code 1 = .ok (.getfield 39, 3) := by decide +kernel
theorem d13_4 : decode prog_209_method_15_code 4 = .ok (.ifnull 12, 3) := by decide +kernel
theorem d13_7 : decode prog_209_method_15_code 7 = .ok (.aload_n 0, 1) := by decide +kernel
theorem d13_8 : decode prog_209_method_15_code 8 = .ok (.getfield 39, 3) := by decide +kernel
theorem d13_11 : decode prog_209_method_15_code 11 = .ok (.iload_n 1, 1) := by decide +kernel
theorem d13_12 : decode prog_209_method_15_code 12 = .ok (.caload, 1) := by decide +kernel
theorem d13_13 : decode prog_209_method_15_code 13 = .ok (.goto 9, 3) := by decide +kernel
theorem d13_22 : decode prog_209_method_15_code 22 = .ok (.ireturn, 1) := by decide +kernel
theorem d10_0 : decode prog_209_method_1_code 0 = .ok (.aload_n 0, 1) := by decide +kernel
theorem d10_1 : decode prog_209_method_1_code 1 = .ok (.invokespecial 3, 3) := by decide +kernel
theorem d10_4 : decode prog_209_method_1_code 4 = .ok (.aload_n 0, 1) := by decide +kernel
theorem d10_5 : decode prog_209_method_1_code 5 = .ok (.aload_n 1, 1) := by decide +kernel
theorem d10_6 : decode prog_209_method_1_code 6 = .ok (.putfield 9, 3) := by decide +kernel
theorem d10_9 : decode prog_209_method_1_code 9 = .ok (.aload_n 0, 1) := by decide +kernel
theorem d10_10 : decode prog_209_method_1_code 10 = .ok (.aload_n 2, 1) := by decide +kernel
theorem d10_11 : decode prog_209_method_1_code 11 = .ok (.putfield 13, 3) := by decide +kernel
theorem d10_14 : decode prog_209_method_1_code 14 = .ok (.aload_n 0, 1) := by decide +kernel
theorem d10_15 : decode prog_209_method_1_code 15 = .ok (.aload_n 2, 1) := by decide +kernel
theorem d10_16 : decode prog_209_method_1_code 16 = .ok (.arraylength, 1) := by decide +kernel
theorem d10_17 : decode prog_209_method_1_code 17 = .ok (.aload 4, 2) := by decide +kernel
theorem d10_19 : decode prog_209_method_1_code 19 = .ok (.arraylength, 1) := by decide +kernel
theorem d10_20 : decode prog_209_method_1_code 20 = .ok (.if_icmp .le 7, 3) := by decide +kernel
theorem d10_27 : decode prog_209_method_1_code 27 = .ok (.iconst 0, 1) := by decide +kernel
theorem d10_28 : decode prog_209_method_1_code 28 = .ok (.putfield 17, 3) := by decide +kernel
theorem d10_31 : decode prog_209_method_1_code 31 = .ok (.aload_n 0, 1) := by decide +kernel
theorem d10_32 : decode prog_209_method_1_code 32 = .ok (.aload 5, 2) := by decide +kernel
theorem d10_34 : decode prog_209_method_1_code 34 = .ok (.putfield 21, 3) := by decide +kernel
theorem d10_37 : decode prog_209_method_1_code 37 = .ok (.aload_n 0, 1) := by decide +kernel
theorem d10_38 : decode prog_209_method_1_code 38 = .ok (.aload 4, 2) := by decide +kernel
theorem d10_40 : decode prog_209_method_1_code 40 = .ok (.arraylength, 1) := by decide +kernel
theorem d10_41 : decode prog_209_method_1_code 41 = .ok (.putfield 25, 3) := by decide +kernel
theorem d10_44 : decode prog_209_method_1_code 44 = .ok (.aload_n 0, 1) := by decide +kernel
theorem d10_45 : decode prog_209_method_1_code 45 = .ok (.iload 6, 2) := by decide +kernel
theorem d10_47 : decode prog_209_method_1_code 47 = .ok (.putfield 29, 3) := by decide +kernel
theorem d10_50 : decode prog_209_method_1_code 50 = .ok (.aload_n 2, 1) := by decide +kernel
theorem d10_51 : decode prog_209_method_1_code 51 = .ok (.arraylength, 1) := by decide +kernel
theorem d10_52 : decode prog_209_method_1_code 52 = .ok (.ldc 34, 2) := by decide +kernel
theorem d10_54 : decode prog_209_method_1_code 54 = .ok (.if_icmp .gt 19, 3) := by decide +kernel
theorem d10_57 : decode prog_209_method_1_code 57 = .ok (.aload_n 0, 1) := by decide +kernel
theorem d10_58 : decode prog_209_method_1_code 58 = .ok (.aload_n 3, 1) := by decide +kernel
theorem d10_59 : decode prog_209_method_1_code 59 = .ok (.invokestatic 35, 3) := by decide +kernel
theorem d10_62 : decode prog_209_method_1_code 62 = .ok (.putfield 39, 3) := by decide +kernel
theorem d10_65 : decode prog_209_method_1_code 65 = .ok (.aload_n 0, 1) := by decide +kernel
theorem d10_66 : decode prog_209_method_1_code 66 = .ok (.aconst_null, 1) := by decide +kernel
theorem d10_67 : decode prog_209_method_1_code 67 = .ok (.putfield 43, 3) := by decide +kernel
theorem d10_70 : decode prog_209_method_1_code 70 = .ok (.goto 13, 3) := by decide +kernel
theorem d10_83 : decode prog_209_method_1_code 83 = .ok (.aload_n 1, 1) := by decide +kernel
theorem d10_84 : decode prog_209_method_1_code 84 = .ok (.arraylength, 1) := by decide +kernel
theorem d10_85 : decode prog_209_method_1_code 85 = .ok (.ldc 46, 2) := by decide +kernel
theorem d10_87 : decode prog_209_method_1_code 87 = .ok (.if_icmp .gt 20, 3) := by decide +kernel
theorem d10_90 : decode prog_209_method_1_code 90 = .ok (.aload_n 0, 1) := by decide +kernel
theorem d10_91 : decode prog_209_method_1_code 91 = .ok (.aload 4, 2) := by decide +kernel
theorem d10_93 : decode prog_209_method_1_code 93 = .ok (.invokestatic 35, 3) := by decide +kernel
theorem d10_96 : decode prog_209_method_1_code 96 = .ok (.putfield 47, 3) := by decide +kernel
theorem d10_99 : decode prog_209_method_1_code 99 = .ok (.aload_n 0, 1) := by decide +kernel
theorem d10_100 : decode prog_209_method_1_code 100 = .ok (.aconst_null, 1) := by decide +kernel
theorem d10_101 : decode prog_209_method_1_code 101 = .ok (.putfield 50, 3) := by decide +kernel
theorem d10_104 : decode prog_209_method_1_code 104 = .ok (.goto 14, 3) := by decide +kernel
theorem d10_118 : decode prog_209_method_1_code 118 = .ok (.return_, 1) := by decide +kernel
theorem d9_0 : decode prog_209_method_2_code 0 = .ok (.aload_n 0, 1) := by decide +kernel
theorem d9_1 : decode prog_209_method_2_code 1 = .ok (.arraylength, 1) := by decide +kernel
theorem d9_2 : decode prog_209_method_2_code 2 = .ok (.newarray .char, 2) := by decide +kernel
theorem d9_4 : decode prog_209_method_2_code 4 = .ok (.astore_n 1, 1) := by decide +kernel
theorem d9_5 : decode prog_209_method_2_code 5 = .ok (.iconst 0, 1) := by decide +kernel
theorem d9_6 : decode prog_209_method_2_code 6 = .ok (.istore_n 2, 1) := by decide +kernel
theorem d9_7 : decode prog_209_method_2_code 7 = .ok (.iload_n 2, 1) := by decide +kernel
theorem d9_8 : decode prog_209_method_2_code 8 = .ok (.aload_n 0, 1) := by decide +kernel
theorem d9_9 : decode prog_209_method_2_code 9 = .ok (.arraylength, 1) := by decide +kernel
theorem d9_10 : decode prog_209_method_2_code 10 = .ok (.if_icmp .ge 16, 3) := by decide +kernel
theorem d9_13 : decode prog_209_method_2_code 13 = .ok (.aload_n 1, 1) := by decide +kernel
theorem d9_14 : decode prog_209_method_2_code 14 = .ok (.iload_n 2, 1) := by decide +kernel
theorem d9_15 : decode prog_209_method_2_code 15 = .ok (.aload_n 0, 1) := by decide +kernel
theorem d9_16 : decode prog_209_method_2_code 16 = .ok (.iload_n 2, 1) := by decide +kernel
theorem d9_17 : decode prog_209_method_2_code 17 = .ok (.iaload, 1) := by decide +kernel
theorem d9_18 : decode prog_209_method_2_code 18 = .ok (.i2c, 1) := by decide +kernel
theorem d9_19 : decode prog_209_method_2_code 19 = .ok (.castore, 1) := by decide +kernel
theorem d9_20 : decode prog_209_method_2_code 20 = .ok (.iinc 2 1, 3) := by decide +kernel
theorem d9_23 : decode prog_209_method_2_code 23 = .ok (.goto (-16), 3) := by decide +kernel
theorem d9_26 : decode prog_209_method_2_code 26 = .ok (.aload_n 1, 1) := by decide +kernel
theorem d9_27 : decode prog_209_method_2_code 27 = .ok (.areturn, 1) := by decide +kernel
theorem d0_0 : decode prog_210_method_1_code 0 = .ok (.aload_n 0, 1) := by decide +kernel
theorem d0_1 : decode prog_210_method_1_code 1 = .ok (.invokespecial 3, 3) := by decide +kernel
theorem d0_4 : decode prog_210_method_1_code 4 = .ok (.aload_n 0, 1) := by decide +kernel
theorem d0_5 : decode prog_210_method_1_code 5 = .ok (.sipush 256, 3) := by decide +kernel
theorem d0_8 : decode prog_210_method_1_code 8 = .ok (.newarray .long, 2) := by decide +kernel
theorem d0_10 : decode prog_210_method_1_code 10 = .ok (.putfield 9, 3) := by decide +kernel
theorem d0_13 : decode prog_210_method_1_code 13 = .ok (.aload_n 0, 1) := by decide +kernel
theorem d0_14 : decode prog_210_method_1_code 14 = .ok (.bipush 16, 2) := by decide +kernel
theorem d0_16 : decode prog_210_method_1_code 16 = .ok (.newarray .int, 2) := by decide +kernel
theorem d0_18 : decode prog_210_method_1_code 18 = .ok (.putfield 15, 3) := by decide +kernel
theorem d0_21 : decode prog_210_method_1_code 21 = .ok (.return_, 1) := by decide +kernel
theorem d1_0 : decode prog_210_method_2_code 0 = .ok (.aload_n 0, 1) := by decide +kernel
theorem d1_1 : decode prog_210_method_2_code 1 = .ok (.getfield 19, 3) := by decide +kernel
theorem d1_4 : decode prog_210_method_2_code 4 = .ok (.aload_n 0, 1) := by decide +kernel
theorem d1_5 : decode prog_210_method_2_code 5 = .ok (.getfield 9, 3) := by decide +kernel
theorem d1_8 : decode prog_210_method_2_code 8 = .ok (.arraylength, 1) := by decide +kernel
theorem d1_9 : decode prog_210_method_2_code 9 = .ok (.if_icmp .ne 20, 3) := by decide +kernel
theorem d1_29 : decode prog_210_method_2_code 29 = .ok (.aload_n 0, 1) := by decide +kernel
theorem d1_30 : decode prog_210_method_2_code 30 = .ok (.getfield 9, 3) := by decide +kernel
theorem d1_33 : decode prog_210_method_2_code 33 = .ok (.aload_n 0, 1) := by decide +kernel
theorem d1_34 : decode prog_210_method_2_code 34 = .ok (.getfield 19, 3) := by decide +kernel
theorem d1_37 : decode prog_210_method_2_code 37 = .ok (.iload_n 1, 1) := by decide +kernel
theorem d1_38 : decode prog_210_method_2_code 38 = .ok (.i2l, 1) := by decide +kernel
theorem d1_39 : decode prog_210_method_2_code 39 = .ok (.bipush 32, 2) := by decide +kernel
theorem d1_41 : decode prog_210_method_2_code 41 = .ok (.lshl, 1) := by decide +kernel
theorem d1_42 : decode prog_210_method_2_code 42 = .ok (.aload_n 0, 1) := by decide +kernel
theorem d1_43 : decode prog_210_method_2_code 43 = .ok (.getfield 19, 3) := by decide +kernel
theorem d1_46 : decode prog_210_method_2_code 46 = .ok (.i2l, 1) := by decide +kernel
theorem d1_47 : decode prog_210_method_2_code 47 = .ok (.lor, 1) := by decide +kernel
theorem d1_48 : decode prog_210_method_2_code 48 = .ok (.lastore, 1) := by decide +kernel
theorem d1_49 : decode prog_210_method_2_code 49 = .ok (.aload_n 0, 1) := by decide +kernel
theorem d1_50 : decode prog_210_method_2_code 50 = .ok (.dup, 1) := by decide +kernel
theorem d1_51 : decode prog_210_method_2_code 51 = .ok (.getfield 19, 3) := by decide +kernel
theorem d1_54 : decode prog_210_method_2_code 54 = .ok (.iconst 1, 1) := by decide +kernel
theorem d1_55 : decode prog_210_method_2_code 55 = .ok (.iadd, 1) := by decide +kernel
theorem d1_56 : decode prog_210_method_2_code 56 = .ok (.putfield 19, 3) := by decide +kernel
theorem d1_59 : decode prog_210_method_2_code 59 = .ok (.return_, 1) := by decide +kernel
theorem d11_0 : decode prog_210_method_5_code 0 = .ok (.aload_n 0, 1) := by decide +kernel
theorem d11_1 : decode prog_210_method_5_code 1 = .ok (.getfield 9, 3) := by decide +kernel
theorem d11_4 : decode prog_210_method_5_code 4 = .ok (.iconst 0, 1) := by decide +kernel
theorem d11_5 : decode prog_210_method_5_code 5 = .ok (.aload_n 0, 1) := by decide +kernel
theorem d11_6 : decode prog_210_method_5_code 6 = .ok (.getfield 19, 3) := by decide +kernel
theorem d11_9 : decode prog_210_method_5_code 9 = .ok (.invokestatic 46, 3) := by decide +kernel
theorem d11_12 : decode prog_210_method_5_code 12 = .ok (.iconst 0, 1) := by decide +kernel
theorem d11_13 : decode prog_210_method_5_code 13 = .ok (.istore_n 1, 1) := by decide +kernel
theorem d11_14 : decode prog_210_method_5_code 14 = .ok (.lconst 0, 1) := by decide +kernel
theorem d11_15 : decode prog_210_method_5_code 15 = .ok (.lstore_n 2, 1) := by decide +kernel
theorem d11_16 : decode prog_210_method_5_code 16 = .ok (.iconst 0, 1) := by decide +kernel
theorem d11_17 : decode prog_210_method_5_code 17 = .ok (.istore 4, 2) := by decide +kernel
theorem d11_19 : decode prog_210_method_5_code 19 = .ok (.iload 4, 2) := by decide +kernel
theorem d11_21 : decode prog_210_method_5_code 21 = .ok (.aload_n 0, 1) := by decide +kernel
theorem d11_22 : decode prog_210_method_5_code 22 = .ok (.getfield 19, 3) := by decide +kernel
theorem d11_25 : decode prog_210_method_5_code 25 = .ok (.if_icmp .ge 102, 3) := by decide +kernel
theorem d11_28 : decode prog_210_method_5_code 28 = .ok (.iload 4, 2) := by decide +kernel
theorem d11_30 : decode prog_210_method_5_code 30 = .ok (.ifCond .eq 29, 3) := by decide +kernel
theorem d11_33 : decode prog_210_method_5_code 33 = .ok (.aload_n 0, 1) := by decide +kernel
theorem d11_34 : decode prog_210_method_5_code 34 = .ok (.getfield 9, 3) := by decide +kernel
theorem d11_37 : decode prog_210_method_5_code 37 = .ok (.iload 4, 2) := by decide +kernel
theorem d11_39 : decode prog_210_method_5_code 39 = .ok (.laload, 1) := by decide +kernel
theorem d11_40 : decode prog_210_method_5_code 40 = .ok (.bipush 32, 2) := by decide +kernel
theorem d11_42 : decode prog_210_method_5_code 42 = .ok (.lushr, 1) := by decide +kernel
theorem d11_43 : decode prog_210_method_5_code 43 = .ok (.aload_n 0, 1) := by decide +kernel
theorem d11_44 : decode prog_210_method_5_code 44 = .ok (.getfield 9, 3) := by decide +kernel
theorem d11_47 : decode prog_210_method_5_code 47 = .ok (.iload 4, 2) := by decide +kernel
theorem d11_49 : decode prog_210_method_5_code 49 = .ok (.iconst 1, 1) := by decide +kernel
theorem d11_50 : decode prog_210_method_5_code 50 = .ok (.isub, 1) := by decide +kernel
theorem d11_51 : decode prog_210_method_5_code 51 = .ok (.laload, 1) := by decide +kernel
theorem d11_52 : decode prog_210_method_5_code 52 = .ok (.bipush 32, 2) := by decide +kernel
theorem d11_54 : decode prog_210_method_5_code 54 = .ok (.lushr, 1) := by decide +kernel
theorem d11_55 : decode prog_210_method_5_code 55 = .ok (.lcmp, 1) := by decide +kernel
theorem d11_56 : decode prog_210_method_5_code 56 = .ok (.ifCond .eq 7, 3) := by decide +kernel
theorem d11_59 : decode prog_210_method_5_code 59 = .ok (.iconst 1, 1) := by decide +kernel
theorem d11_60 : decode prog_210_method_5_code 60 = .ok (.goto 4, 3) := by decide +kernel
theorem d11_63 : decode prog_210_method_5_code 63 = .ok (.iconst 0, 1) := by decide +kernel
theorem d11_64 : decode prog_210_method_5_code 64 = .ok (.istore 5, 2) := by decide +kernel
theorem d11_66 : decode prog_210_method_5_code 66 = .ok (.iload_n 1, 1) := by decide +kernel
theorem d11_67 : decode prog_210_method_5_code 67 = .ok (.iload 5, 2) := by decide +kernel
theorem d11_69 : decode prog_210_method_5_code 69 = .ok (.ifCond .eq 7, 3) := by decide +kernel
theorem d11_72 : decode prog_210_method_5_code 72 = .ok (.iconst 1, 1) := by decide +kernel
theorem d11_73 : decode prog_210_method_5_code 73 = .ok (.goto 4, 3) := by decide +kernel
theorem d11_76 : decode prog_210_method_5_code 76 = .ok (.iconst 0, 1) := by decide +kernel
theorem d11_77 : decode prog_210_method_5_code 77 = .ok (.iadd, 1) := by decide +kernel
theorem d11_78 : decode prog_210_method_5_code 78 = .ok (.istore_n 1, 1) := by decide +kernel
theorem d11_79 : decode prog_210_method_5_code 79 = .ok (.lload_n 2, 1) := by decide +kernel
theorem d11_80 : decode prog_210_method_5_code 80 = .ok (.iload 5, 2) := by decide +kernel
theorem d11_82 : decode prog_210_method_5_code 82 = .ok (.ifCond .eq 14, 3) := by decide +kernel
theorem d11_85 : decode prog_210_method_5_code 85 = .ok (.aload_n 0, 1) := by decide +kernel
theorem d11_86 : decode prog_210_method_5_code 86 = .ok (.getfield 9, 3) := by decide +kernel
theorem d11_89 : decode prog_210_method_5_code 89 = .ok (.iload 4, 2) := by decide +kernel
theorem d11_91 : decode prog_210_method_5_code 91 = .ok (.laload, 1) := by decide +kernel
theorem d11_92 : decode prog_210_method_5_code 92 = .ok (.l2i, 1) := by decide +kernel
theorem d11_93 : decode prog_210_method_5_code 93 = .ok (.goto 22, 3) := by decide +kernel
theorem d11_96 : decode prog_210_method_5_code 96 = .ok (.aload_n 0, 1) := by decide +kernel
theorem d11_97 : decode prog_210_method_5_code 97 = .ok (.getfield 9, 3) := by decide +kernel
theorem d11_100 : decode prog_210_method_5_code 100 = .ok (.iload 4, 2) := by decide +kernel
theorem d11_102 : decode prog_210_method_5_code 102 = .ok (.laload, 1) := by decide +kernel
theorem d11_103 : decode prog_210_method_5_code 103 = .ok (.l2i, 1) := by decide +kernel
theorem d11_104 : decode prog_210_method_5_code 104 = .ok (.aload_n 0, 1) := by decide +kernel
theorem d11_105 : decode prog_210_method_5_code 105 = .ok (.getfield 9, 3) := by decide +kernel
theorem d11_108 : decode prog_210_method_5_code 108 = .ok (.iload 4, 2) := by decide +kernel
theorem d11_110 : decode prog_210_method_5_code 110 = .ok (.iconst 1, 1) := by decide +kernel
theorem d11_111 : decode prog_210_method_5_code 111 = .ok (.isub, 1) := by decide +kernel
theorem d11_112 : decode prog_210_method_5_code 112 = .ok (.laload, 1) := by decide +kernel
theorem d11_113 : decode prog_210_method_5_code 113 = .ok (.l2i, 1) := by decide +kernel
theorem d11_114 : decode prog_210_method_5_code 114 = .ok (.isub, 1) := by decide +kernel
theorem d11_115 : decode prog_210_method_5_code 115 = .ok (.invokestatic 50, 3) := by decide +kernel
theorem d11_118 : decode prog_210_method_5_code 118 = .ok (.i2l, 1) := by decide +kernel
theorem d11_119 : decode prog_210_method_5_code 119 = .ok (.ladd, 1) := by decide +kernel
theorem d11_120 : decode prog_210_method_5_code 120 = .ok (.lstore_n 2, 1) := by decide +kernel
theorem d11_121 : decode prog_210_method_5_code 121 = .ok (.iinc 4 1, 3) := by decide +kernel
theorem d11_124 : decode prog_210_method_5_code 124 = .ok (.goto (-105), 3) := by decide +kernel
theorem d11_127 : decode prog_210_method_5_code 127 = .ok (.iload_n 1, 1) := by decide +kernel
theorem d11_128 : decode prog_210_method_5_code 128 = .ok (.newarray .int, 2) := by decide +kernel
theorem d11_130 : decode prog_210_method_5_code 130 = .ok (.astore 4, 2) := by decide +kernel
theorem d11_132 : decode prog_210_method_5_code 132 = .ok (.lload_n 2, 1) := by decide +kernel
theorem d11_133 : decode prog_210_method_5_code 133 = .ok (.invokestatic 54, 3) := by decide +kernel
theorem d11_136 : decode prog_210_method_5_code 136 = .ok (.newarray .byte, 2) := by decide +kernel
theorem d11_138 : decode prog_210_method_5_code 138 = .ok (.astore 5, 2) := by decide +kernel
theorem d11_140 : decode prog_210_method_5_code 140 = .ok (.iload_n 1, 1) := by decide +kernel
theorem d11_141 : decode prog_210_method_5_code 141 = .ok (.iconst 1, 1) := by decide +kernel
theorem d11_142 : decode prog_210_method_5_code 142 = .ok (.iadd, 1) := by decide +kernel
theorem d11_143 : decode prog_210_method_5_code 143 = .ok (.newarray .int, 2) := by decide +kernel
theorem d11_145 : decode prog_210_method_5_code 145 = .ok (.astore 6, 2) := by decide +kernel
theorem d11_147 : decode prog_210_method_5_code 147 = .ok (.aload_n 0, 1) := by decide +kernel
theorem d11_148 : decode prog_210_method_5_code 148 = .ok (.getfield 19, 3) := by decide +kernel
theorem d11_151 : decode prog_210_method_5_code 151 = .ok (.newarray .int, 2) := by decide +kernel
theorem d11_153 : decode prog_210_method_5_code 153 = .ok (.astore 7, 2) := by decide +kernel
theorem d11_155 : decode prog_210_method_5_code 155 = .ok (.iconst 0, 1) := by decide +kernel
theorem d11_156 : decode prog_210_method_5_code 156 = .ok (.istore 8, 2) := by decide +kernel
theorem d11_158 : decode prog_210_method_5_code 158 = .ok (.iconst (-1), 1) := by decide +kernel
theorem d11_159 : decode prog_210_method_5_code 159 = .ok (.istore 9, 2) := by decide +kernel
theorem d11_161 : decode prog_210_method_5_code 161 = .ok (.iconst 0, 1) := by decide +kernel
theorem d11_162 : decode prog_210_method_5_code 162 = .ok (.istore 10, 2) := by decide +kernel
theorem d11_164 : decode prog_210_method_5_code 164 = .ok (.iload 10, 2) := by decide +kernel
theorem d11_166 : decode prog_210_method_5_code 166 = .ok (.aload_n 0, 1) := by decide +kernel
theorem d11_167 : decode prog_210_method_5_code 167 = .ok (.getfield 19, 3) := by decide +kernel
theorem d11_170 : decode prog_210_method_5_code 170 = .ok (.if_icmp .ge 137, 3) := by decide +kernel
theorem d11_173 : decode prog_210_method_5_code 173 = .ok (.aload_n 0, 1) := by decide +kernel
theorem d11_174 : decode prog_210_method_5_code 174 = .ok (.getfield 9, 3) := by decide +kernel
theorem d11_177 : decode prog_210_method_5_code 177 = .ok (.iload 10, 2) := by decide +kernel
theorem d11_179 : decode prog_210_method_5_code 179 = .ok (.laload, 1) := by decide +kernel
theorem d11_180 : decode prog_210_method_5_code 180 = .ok (.bipush 32, 2) := by decide +kernel
theorem d11_182 : decode prog_210_method_5_code 182 = .ok (.lushr, 1) := by decide +kernel
theorem d11_183 : decode prog_210_method_5_code 183 = .ok (.l2i, 1) := by decide +kernel
theorem d11_184 : decode prog_210_method_5_code 184 = .ok (.istore 11, 2) := by decide +kernel
theorem d11_186 : decode prog_210_method_5_code 186 = .ok (.aload_n 0, 1) := by decide +kernel
theorem d11_187 : decode prog_210_method_5_code 187 = .ok (.getfield 9, 3) := by decide +kernel
theorem d11_190 : decode prog_210_method_5_code 190 = .ok (.iload 10, 2) := by decide +kernel
theorem d11_192 : decode prog_210_method_5_code 192 = .ok (.laload, 1) := by decide +kernel
theorem d11_193 : decode prog_210_method_5_code 193 = .ok (.l2i, 1) := by decide +kernel
theorem d11_194 : decode prog_210_method_5_code 194 = .ok (.istore 12, 2) := by decide +kernel
theorem d11_196 : decode prog_210_method_5_code 196 = .ok (.iload 12, 2) := by decide +kernel
theorem d11_198 : decode prog_210_method_5_code 198 = .ok (.istore 13, 2) := by decide +kernel
theorem d11_200 : decode prog_210_method_5_code 200 = .ok (.iload 9, 2) := by decide +kernel
theorem d11_202 : decode prog_210_method_5_code 202 = .ok (.ifCond .lt 13, 3) := by decide +kernel
theorem d11_205 : decode prog_210_method_5_code 205 = .ok (.aload 4, 2) := by decide +kernel
theorem d11_207 : decode prog_210_method_5_code 207 = .ok (.iload 9, 2) := by decide +kernel
theorem d11_209 : decode prog_210_method_5_code 209 = .ok (.iaload, 1) := by decide +kernel
theorem d11_210 : decode prog_210_method_5_code 210 = .ok (.iload 11, 2) := by decide +kernel
theorem d11_212 : decode prog_210_method_5_code 212 = .ok (.if_icmp .eq 23, 3) := by decide +kernel
theorem d11_215 : decode prog_210_method_5_code 215 = .ok (.aload 4, 2) := by decide +kernel
theorem d11_217 : decode prog_210_method_5_code 217 = .ok (.iinc 9 1, 3) := by decide +kernel
theorem d11_220 : decode prog_210_method_5_code 220 = .ok (.iload 9, 2) := by decide +kernel
theorem d11_222 : decode prog_210_method_5_code 222 = .ok (.iload 11, 2) := by decide +kernel
theorem d11_224 : decode prog_210_method_5_code 224 = .ok (.iastore, 1) := by decide +kernel
theorem d11_225 : decode prog_210_method_5_code 225 = .ok (.aload 6, 2) := by decide +kernel
theorem d11_227 : decode prog_210_method_5_code 227 = .ok (.iload 9, 2) := by decide +kernel
theorem d11_229 : decode prog_210_method_5_code 229 = .ok (.iload 8, 2) := by decide +kernel
theorem d11_231 : decode prog_210_method_5_code 231 = .ok (.iastore, 1) := by decide +kernel
theorem d11_232 : decode prog_210_method_5_code 232 = .ok (.goto 18, 3) := by decide +kernel
theorem d11_235 : decode prog_210_method_5_code 235 = .ok (.iload 13, 2) := by decide +kernel
theorem d11_237 : decode prog_210_method_5_code 237 = .ok (.aload_n 0, 1) := by decide +kernel
theorem d11_238 : decode prog_210_method_5_code 238 = .ok (.getfield 9, 3) := by decide +kernel
theorem d11_241 : decode prog_210_method_5_code 241 = .ok (.iload 10, 2) := by decide +kernel
theorem d11_243 : decode prog_210_method_5_code 243 = .ok (.iconst 1, 1) := by decide +kernel
theorem d11_244 : decode prog_210_method_5_code 244 = .ok (.isub, 1) := by decide +kernel
theorem d11_245 : decode prog_210_method_5_code 245 = .ok (.laload, 1) := by decide +kernel
theorem d11_246 : decode prog_210_method_5_code 246 = .ok (.l2i, 1) := by decide +kernel
theorem d11_247 : decode prog_210_method_5_code 247 = .ok (.isub, 1) := by decide +kernel
theorem d11_248 : decode prog_210_method_5_code 248 = .ok (.istore 13, 2) := by decide +kernel
theorem d11_250 : decode prog_210_method_5_code 250 = .ok (.iload 13, 2) := by decide +kernel
theorem d11_252 : decode prog_210_method_5_code 252 = .ok (.sipush 128, 3) := by decide +kernel
theorem d11_255 : decode prog_210_method_5_code 255 = .ok (.if_icmp .lt 28, 3) := by decide +kernel
theorem d11_283 : decode prog_210_method_5_code 283 = .ok (.aload 5, 2) := by decide +kernel
theorem d11_285 : decode prog_210_method_5_code 285 = .ok (.iload 8, 2) := by decide +kernel
theorem d11_287 : decode prog_210_method_5_code 287 = .ok (.iinc 8 1, 3) := by decide +kernel
theorem d11_290 : decode prog_210_method_5_code 290 = .ok (.iload 13, 2) := by decide +kernel
theorem d11_292 : decode prog_210_method_5_code 292 = .ok (.i2b, 1) := by decide +kernel
theorem d11_293 : decode prog_210_method_5_code 293 = .ok (.bastore, 1) := by decide +kernel
theorem d11_294 : decode prog_210_method_5_code 294 = .ok (.aload 7, 2) := by decide +kernel
theorem d11_296 : decode prog_210_method_5_code 296 = .ok (.iload 12, 2) := by decide +kernel
theorem d11_298 : decode prog_210_method_5_code 298 = .ok (.iload 9, 2) := by decide +kernel
theorem d11_300 : decode prog_210_method_5_code 300 = .ok (.iastore, 1) := by decide +kernel
theorem d11_301 : decode prog_210_method_5_code 301 = .ok (.iinc 10 1, 3) := by decide +kernel
theorem d11_304 : decode prog_210_method_5_code 304 = .ok (.goto (-140), 3) := by decide +kernel
theorem d11_307 : decode prog_210_method_5_code 307 = .ok (.aload 6, 2) := by decide +kernel
theorem d11_309 : decode prog_210_method_5_code 309 = .ok (.iload_n 1, 1) := by decide +kernel
theorem d11_310 : decode prog_210_method_5_code 310 = .ok (.iload 8, 2) := by decide +kernel
theorem d11_312 : decode prog_210_method_5_code 312 = .ok (.iastore, 1) := by decide +kernel
theorem d11_313 : decode prog_210_method_5_code 313 = .ok (.aload_n 0, 1) := by decide +kernel
theorem d11_314 : decode prog_210_method_5_code 314 = .ok (.getfield 19, 3) := by decide +kernel
theorem d11_317 : decode prog_210_method_5_code 317 = .ok (.bipush 64, 2) := by decide +kernel
theorem d11_319 : decode prog_210_method_5_code 319 = .ok (.iadd, 1) := by decide +kernel
theorem d11_320 : decode prog_210_method_5_code 320 = .ok (.iconst 1, 1) := by decide +kernel
theorem d11_321 : decode prog_210_method_5_code 321 = .ok (.isub, 1) := by decide +kernel
theorem d11_322 : decode prog_210_method_5_code 322 = .ok (.bipush 64, 2) := by decide +kernel
theorem d11_324 : decode prog_210_method_5_code 324 = .ok (.idiv, 1) := by decide +kernel
theorem d11_325 : decode prog_210_method_5_code 325 = .ok (.newarray .long, 2) := by decide +kernel
theorem d11_327 : decode prog_210_method_5_code 327 = .ok (.astore 10, 2) := by decide +kernel
theorem d11_329 : decode prog_210_method_5_code 329 = .ok (.iconst 0, 1) := by decide +kernel
theorem d11_330 : decode prog_210_method_5_code 330 = .ok (.istore 11, 2) := by decide +kernel
theorem d11_332 : decode prog_210_method_5_code 332 = .ok (.iload 11, 2) := by decide +kernel
theorem d11_334 : decode prog_210_method_5_code 334 = .ok (.aload_n 0, 1) := by decide +kernel
theorem d11_335 : decode prog_210_method_5_code 335 = .ok (.getfield 31, 3) := by decide +kernel
theorem d11_338 : decode prog_210_method_5_code 338 = .ok (.if_icmp .ge 48, 3) := by decide +kernel
theorem d11_386 : decode prog_210_method_5_code 386 = .ok (.new 1, 3) := by decide +kernel
theorem d11_389 : decode prog_210_method_5_code 389 = .ok (.dup, 1) := by decide +kernel
theorem d11_390 : decode prog_210_method_5_code 390 = .ok (.aload 4, 2) := by decide +kernel
theorem d11_392 : decode prog_210_method_5_code 392 = .ok (.aload 5, 2) := by decide +kernel
theorem d11_394 : decode prog_210_method_5_code 394 = .ok (.aload 6, 2) := by decide +kernel
theorem d11_396 : decode prog_210_method_5_code 396 = .ok (.aload 7, 2) := by decide +kernel
theorem d11_398 : decode prog_210_method_5_code 398 = .ok (.aload 10, 2) := by decide +kernel
theorem d11_400 : decode prog_210_method_5_code 400 = .ok (.aload_n 0, 1) := by decide +kernel
theorem d11_401 : decode prog_210_method_5_code 401 = .ok (.getfield 37, 3) := by decide +kernel
theorem d11_404 : decode prog_210_method_5_code 404 = .ok (.iconst 2, 1) := by decide +kernel
theorem d11_405 : decode prog_210_method_5_code 405 = .ok (.if_icmp .ge 10, 3) := by decide +kernel
theorem d11_408 : decode prog_210_method_5_code 408 = .ok (.aload_n 0, 1) := by decide +kernel
theorem d11_409 : decode prog_210_method_5_code 409 = .ok (.getfield 19, 3) := by decide +kernel
theorem d11_412 : decode prog_210_method_5_code 412 = .ok (.goto 7, 3) := by decide +kernel
theorem d11_419 : decode prog_210_method_5_code 419 = .ok (.invokespecial 62, 3) := by decide +kernel
theorem d11_422 : decode prog_210_method_5_code 422 = .ok (.areturn, 1) := by decide +kernel
theorem d7_0 : decode prog_210_method_6_code 0 = .ok (.iconst 1, 1) := by decide +kernel
theorem d7_1 : decode prog_210_method_6_code 1 = .ok (.istore_n 1, 1) := by decide +kernel
theorem d7_2 : decode prog_210_method_6_code 2 = .ok (.iload_n 0, 1) := by decide +kernel
theorem d7_3 : decode prog_210_method_6_code 3 = .ok (.bipush 7, 2) := by decide +kernel
theorem d7_5 : decode prog_210_method_6_code 5 = .ok (.iushr, 1) := by decide +kernel
theorem d7_6 : decode prog_210_method_6_code 6 = .ok (.istore_n 2, 1) := by decide +kernel
theorem d7_7 : decode prog_210_method_6_code 7 = .ok (.iload_n 2, 1) := by decide +kernel
theorem d7_8 : decode prog_210_method_6_code 8 = .ok (.ifCond .le 14, 3) := by decide +kernel
theorem d7_22 : decode prog_210_method_6_code 22 = .ok (.iload_n 1, 1) := by decide +kernel
theorem d7_23 : decode prog_210_method_6_code 23 = .ok (.ireturn, 1) := by decide +kernel
theorem d12_0 : decode prog_211_method_1_code 0 = .ok (.aload_n 0, 1) := by decide +kernel
theorem d12_1 : decode prog_211_method_1_code 1 = .ok (.invokespecial 3, 3) := by decide +kernel
theorem d12_4 : decode prog_211_method_1_code 4 = .ok (.return_, 1) := by decide +kernel
theorem d14_0 : decode prog_211_method_2_code 0 = .ok (.aload_n 0, 1) := by decide +kernel
theorem d14_1 : decode prog_211_method_2_code 1 = .ok (.aload_n 1, 1) := by decide +kernel
theorem d14_2 : decode prog_211_method_2_code 2 = .ok (.putfield 9, 3) := by decide +kernel
theorem d14_5 : decode prog_211_method_2_code 5 = .ok (.aload_n 0, 1) := by decide +kernel
theorem d14_6 : decode prog_211_method_2_code 6 = .ok (.aload_n 1, 1) := by decide +kernel
theorem d14_7 : decode prog_211_method_2_code 7 = .ok (.iload_n 2, 1) := by decide +kernel
theorem d14_8 : decode prog_211_method_2_code 8 = .ok (.invokevirtual 15, 3) := by decide +kernel
theorem d14_11 : decode prog_211_method_2_code 11 = .ok (.putfield 19, 3) := by decide +kernel
theorem d14_14 : decode prog_211_method_2_code 14 = .ok (.aload_n 0, 1) := by decide +kernel
theorem d14_15 : decode prog_211_method_2_code 15 = .ok (.aload_n 1, 1) := by decide +kernel
theorem d14_16 : decode prog_211_method_2_code 16 = .ok (.iload_n 2, 1) := by decide +kernel
theorem d14_17 : decode prog_211_method_2_code 17 = .ok (.iconst 1, 1) := by decide +kernel
theorem d14_18 : decode prog_211_method_2_code 18 = .ok (.iadd, 1) := by decide +kernel
theorem d14_19 : decode prog_211_method_2_code 19 = .ok (.invokevirtual 15, 3) := by decide +kernel
theorem d14_22 : decode prog_211_method_2_code 22 = .ok (.putfield 23, 3) := by decide +kernel
theorem d14_25 : decode prog_211_method_2_code 25 = .ok (.aload_n 0, 1) := by decide +kernel
theorem d14_26 : decode prog_211_method_2_code 26 = .ok (.iconst (-1), 1) := by decide +kernel
theorem d14_27 : decode prog_211_method_2_code 27 = .ok (.putfield 26, 3) := by decide +kernel
theorem d14_30 : decode prog_211_method_2_code 30 = .ok (.return_, 1) := by decide +kernel
theorem d15_0 : decode prog_211_method_3_code 0 = .ok (.aload_n 0, 1) := by decide +kernel
theorem d15_1 : decode prog_211_method_3_code 1 = .ok (.getfield 19, 3) := by decide +kernel
theorem d15_4 : decode prog_211_method_3_code 4 = .ok (.aload_n 0, 1) := by decide +kernel
theorem d15_5 : decode prog_211_method_3_code 5 = .ok (.getfield 23, 3) := by decide +kernel
theorem d15_8 : decode prog_211_method_3_code 8 = .ok (.if_icmp .ne 5, 3) := by decide +kernel
theorem d15_11 : decode prog_211_method_3_code 11 = .ok (.iconst 0, 1) := by decide +kernel
theorem d15_12 : decode prog_211_method_3_code 12 = .ok (.ireturn, 1) := by decide +kernel
theorem d15_13 : decode prog_211_method_3_code 13 = .ok (.aload_n 0, 1) := by decide +kernel
theorem d15_14 : decode prog_211_method_3_code 14 = .ok (.getfield 9, 3) := by decide +kernel
theorem d15_17 : decode prog_211_method_3_code 17 = .ok (.getfield 29, 3) := by decide +kernel
theorem d15_20 : decode prog_211_method_3_code 20 = .ok (.astore_n 1, 1) := by decide +kernel
theorem d15_21 : decode prog_211_method_3_code 21 = .ok (.aload_n 1, 1) := by decide +kernel
theorem d15_22 : decode prog_211_method_3_code 22 = .ok (.aload_n 0, 1) := by decide +kernel
theorem d15_23 : decode prog_211_method_3_code 23 = .ok (.dup, 1) := by decide +kernel
theorem d15_24 : decode prog_211_method_3_code 24 = .ok (.getfield 19, 3) := by decide +kernel
theorem d15_27 : decode prog_211_method_3_code 27 = .ok (.dup_x1, 1) := by decide +kernel
theorem d15_28 : decode prog_211_method_3_code 28 = .ok (.iconst 1, 1) := by decide +kernel
theorem d15_29 : decode prog_211_method_3_code 29 = .ok (.iadd, 1) := by decide +kernel
theorem d15_30 : decode prog_211_method_3_code 30 = .ok (.putfield 19, 3) := by decide +kernel
theorem d15_33 : decode prog_211_method_3_code 33 = .ok (.baload, 1) := by decide +kernel
theorem d15_34 : decode prog_211_method_3_code 34 = .ok (.istore_n 2, 1) := by decide +kernel
theorem d15_35 : decode prog_211_method_3_code 35 = .ok (.iload_n 2, 1) := by decide +kernel
theorem d15_36 : decode prog_211_method_3_code 36 = .ok (.bipush 127, 2) := by decide +kernel
theorem d15_38 : decode prog_211_method_3_code 38 = .ok (.iand, 1) := by decide +kernel
theorem d15_39 : decode prog_211_method_3_code 39 = .ok (.istore_n 3, 1) := by decide +kernel
theorem d15_40 : decode prog_211_method_3_code 40 = .ok (.bipush 7, 2) := by decide +kernel
theorem d15_42 : decode prog_211_method_3_code 42 = .ok (.istore 4, 2) := by decide +kernel
theorem d15_44 : decode prog_211_method_3_code 44 = .ok (.iload_n 2, 1) := by decide +kernel
theorem d15_45 : decode prog_211_method_3_code 45 = .ok (.ifCond .ge 33, 3) := by decide +kernel
theorem d15_78 : decode prog_211_method_3_code 78 = .ok (.aload_n 0, 1) := by decide +kernel
theorem d15_79 : decode prog_211_method_3_code 79 = .ok (.aload_n 0, 1) := by decide +kernel
theorem d15_80 : decode prog_211_method_3_code 80 = .ok (.getfield 26, 3) := by decide +kernel
theorem d15_83 : decode prog_211_method_3_code 83 = .ok (.ifCond .ge 7, 3) := by decide +kernel
theorem d15_86 : decode prog_211_method_3_code 86 = .ok (.iload_n 3, 1) := by decide +kernel
theorem d15_87 : decode prog_211_method_3_code 87 = .ok (.goto 9, 3) := by decide +kernel
theorem d15_90 : decode prog_211_method_3_code 90 = .ok (.aload_n 0, 1) := by decide +kernel
theorem d15_91 : decode prog_211_method_3_code 91 = .ok (.getfield 26, 3) := by decide +kernel
theorem d15_94 : decode prog_211_method_3_code 94 = .ok (.iload_n 3, 1) := by decide +kernel
theorem d15_95 : decode prog_211_method_3_code 95 = .ok (.iadd, 1) := by decide +kernel
theorem d15_96 : decode prog_211_method_3_code 96 = .ok (.putfield 26, 3) := by decide +kernel
theorem d15_99 : decode prog_211_method_3_code 99 = .ok (.iconst 1, 1) := by decide +kernel
theorem d15_100 : decode prog_211_method_3_code 100 = .ok (.ireturn, 1) := by decide +kernel
theorem d16_0 : decode prog_211_method_4_code 0 = .ok (.aload_n 0, 1) := by decide +kernel
theorem d16_1 : decode prog_211_method_4_code 1 = .ok (.getfield 26, 3) := by decide +kernel
theorem d16_4 : decode prog_211_method_4_code 4 = .ok (.ireturn, 1) := by decide +kernel
theorem pd_0 : parseMethodDescriptor "([JII)V" = some ⟨[(.array .long), .int, .int], none⟩ := by decide +kernel
theorem pd_1 : parseMethodDescriptor "(Ljava/util/DualPivotQuicksort$Sorter;[JIII)V" = some ⟨[(.object "java/util/DualPivotQuicksort$Sorter"), (.array .long), .int, .int, .int], none⟩ := by decide +kernel
theorem pd_2 : parseMethodDescriptor "(III)V" = some ⟨[.int, .int, .int], none⟩ := by decide +kernel
theorem pd_3 : parseMethodDescriptor "([JIII)V" = some ⟨[(.array .long), .int, .int, .int], none⟩ := by decide +kernel
theorem pd_4 : parseMethodDescriptor "([I)[C" = some ⟨[(.array .int)], some (.array .char)⟩ := by decide +kernel
theorem pd_5 : parseMethodDescriptor "(I)I" = some ⟨[.int], some .int⟩ := by decide +kernel
theorem pd_6 : parseMethodDescriptor "(J)I" = some ⟨[.long], some .int⟩ := by decide +kernel
theorem pd_7 : parseMethodDescriptor "([I[B[I[I[JI)V" = some ⟨[(.array .int), (.array .byte), (.array .int), (.array .int), (.array .long), .int], none⟩ := by decide +kernel
theorem pd_8 : parseMethodDescriptor "()V" = some ⟨[], none⟩ := by decide +kernel
theorem pd_9 : parseMethodDescriptor "(I)V" = some ⟨[.int], none⟩ := by decide +kernel
theorem pd_10 : parseMethodDescriptor "()Lcom/example/syntagma/syntagma/service/DocumentText;" = some ⟨[], some (.object "com/example/syntagma/syntagma/service/DocumentText")⟩ := by decide +kernel
theorem pd_11 : parseMethodDescriptor "(Lcom/example/syntagma/syntagma/service/DocumentText;I)V" = some ⟨[(.object "com/example/syntagma/syntagma/service/DocumentText"), .int], none⟩ := by decide +kernel
theorem pd_12 : parseMethodDescriptor "()Z" = some ⟨[], some .boolean⟩ := by decide +kernel
theorem pd_13 : parseMethodDescriptor "()I" = some ⟨[], some .int⟩ := by decide +kernel
def own_key (n : Int32) (w : Int64) : Int64 := ((n.toInt64) <<< ((32 : Int32) &&& 0x3f).toInt64) ||| w
def own_r3 (z : Int32) : Prop := z = 0 ∨ z = 1 ∨ z = 2
theorem own_toI {n : Int32} (h : ¬ n < 0) : 0 ≤ n.toInt := by rw [Int32.lt_iff_toInt_lt] at h; have e : (0 : Int32).toInt = 0 := rfl; omega
theorem own_nneg (x : Int32) : ∃ z : Int32, x &&& (2147483647 : Int32) = z ∧ ¬ z < 0 := by
  refine ⟨_, rfl, ?_⟩
  have h := c_and x (2147483647 : Int32) (by decide)
  rw [Int32.lt_iff_toInt_lt]; have e : (0 : Int32).toInt = 0 := rfl; omega
theorem own_lcT {x y : Int64} (h : lcmpW x y < (0 : Int32)) : x < y := (lw_lt x y).mp h
theorem own_lcF {x y : Int64} (h : ¬ lcmpW x y < (0 : Int32)) : ¬ x < y := fun q => h ((lw_lt x y).mpr q)
theorem own_lce {a b : Int32} (h : a = b) : lcmpW (b.toInt64) (a.toInt64) = (0 : Int32) := by subst h; exact (lw_eq _ _).mpr rfl
theorem own_i2li (n : Int32) : n.toInt64.toInt32 = n := by
  apply Int32.toInt_inj.mp
  have a := c_l2i n.toInt64; have b := c_i2l n; have r := rng32 n; have r2 := rng32 n.toInt64.toInt32
  omega
theorem own_lcn {a b : Int32} (h : ¬ a = b) : ¬ lcmpW (b.toInt64) (a.toInt64) = (0 : Int32) := fun q => h (by
  have e := (lw_eq _ _).mp q
  have := congrArg Int64.toInt32 e
  rw [own_i2li, own_i2li] at this; exact this.symm)
theorem own_keyI {n : Int32} {w : Int64} (hn : ¬ n < 0) (hw : 0 ≤ w.toInt ∧ w.toInt < 3) : (own_key n w).toInt = n.toInt * 4294967296 + w.toInt := by
  have h0 := own_toI hn
  have r := rng32 n
  have a := c_i2l n
  have b := c_lshl n.toInt64 (32 : Int32) 32 (by decide)
  have rb := rng64 (n.toInt64 <<< ((32 : Int32) &&& 0x3f).toInt64)
  rw [a] at b
  have e : (n.toInt64 <<< ((32 : Int32) &&& 0x3f).toInt64).toInt = n.toInt * 4294967296 := by
    have e2 : ((2 ^ 32 : Nat) : Int) = 4294967296 := by decide
    rw [e2] at b; omega
  have d := c_orL (n.toInt64 <<< ((32 : Int32) &&& 0x3f).toInt64) w 32 (by decide) 4294967296 (by decide) (by rw [e]; omega) hw.1 (by omega)
  have rd := rng64 (own_key n w)
  have d2 : ((own_key n w).toInt - (n.toInt * 4294967296 + w.toInt)) % 18446744073709551616 = 0 := by rw [← e]; exact d
  omega
theorem own_k1 {n : Int32} (hn : ¬ n < 0) {w : Int64} {r : Int32} (hw : w.toInt = r.toInt) (hr : own_r3 r) :
    (((own_key n w).toUInt64 >>> ((32 : Int32) &&& 0x3f).toInt64.toUInt64).toInt64) = n.toInt64 ∧ (own_key n w).toInt32 = r ∧ n.toInt64.toInt32 = n ∧ own_r3 r := by
  have hr' : 0 ≤ r.toInt ∧ r.toInt < 3 := by rcases hr with rfl | rfl | rfl <;> decide
  have k := own_keyI hn (w := w) (by omega)
  have h0 := own_toI hn; have r0 := rng32 n; have a := c_i2l n
  refine ⟨Int64.toInt_inj.mp ?_, Int32.toInt_inj.mp ?_, own_i2li n, hr⟩
  · rw [c_lushr (own_key n w) (32 : Int32) 32 (by decide) (by decide), k, a]
    have e2 : ((2 ^ 32 : Nat) : Int) = 4294967296 := by decide
    rw [e2]; omega
  · have b := c_l2i (own_key n w); have r2 := rng32 (own_key n w).toInt32
    omega
theorem own_klt {n k : Int32} {v w : Int64} (hn : ¬ n < 0) (hk : ¬ k < 0) (hv : 0 ≤ v.toInt ∧ v.toInt < 3) (hw : 0 ≤ w.toInt ∧ w.toInt < 3) (h : w.toInt < v.toInt) : own_key n v < own_key k w ↔ n < k := by
  rw [Int64.lt_iff_toInt_lt, Int32.lt_iff_toInt_lt, own_keyI hn hv, own_keyI hk hw]
  omega
def own_srt (q0 q1 q2 s0 s1 s2 : Int64) : Prop :=
  (s0 = q0 ∧ s1 = q1 ∧ s2 = q2 ∧ ¬ q1 < q0 ∧ ¬ q2 < q1) ∨
  (s0 = q1 ∧ s1 = q0 ∧ s2 = q2 ∧ q1 < q0 ∧ ¬ q2 < q0) ∨
  (s0 = q1 ∧ s1 = q2 ∧ s2 = q0 ∧ q1 < q0 ∧ q2 < q0 ∧ ¬ q2 < q1) ∨
  (s0 = q2 ∧ s1 = q1 ∧ s2 = q0 ∧ q1 < q0 ∧ q2 < q0 ∧ q2 < q1) ∨
  (s0 = q0 ∧ s1 = q2 ∧ s2 = q1 ∧ ¬ q1 < q0 ∧ q2 < q1 ∧ ¬ q2 < q0) ∨
  (s0 = q2 ∧ s1 = q0 ∧ s2 = q1 ∧ ¬ q1 < q0 ∧ q2 < q1 ∧ q2 < q0)
def own_perm (n0 n1 n2 m0 r0 m1 r1 m2 r2 : Int32) : Prop :=
  (m0 = n0 ∧ r0 = 0 ∧ m1 = n1 ∧ r1 = 1 ∧ m2 = n2 ∧ r2 = 2 ∧ ¬ n1 < n0 ∧ ¬ n2 < n1) ∨
  (m0 = n1 ∧ r0 = 1 ∧ m1 = n0 ∧ r1 = 0 ∧ m2 = n2 ∧ r2 = 2 ∧ n1 < n0 ∧ ¬ n2 < n0) ∨
  (m0 = n1 ∧ r0 = 1 ∧ m1 = n2 ∧ r1 = 2 ∧ m2 = n0 ∧ r2 = 0 ∧ n1 < n0 ∧ n2 < n0 ∧ ¬ n2 < n1) ∨
  (m0 = n2 ∧ r0 = 2 ∧ m1 = n1 ∧ r1 = 1 ∧ m2 = n0 ∧ r2 = 0 ∧ n1 < n0 ∧ n2 < n0 ∧ n2 < n1) ∨
  (m0 = n0 ∧ r0 = 0 ∧ m1 = n2 ∧ r1 = 2 ∧ m2 = n1 ∧ r2 = 1 ∧ ¬ n1 < n0 ∧ n2 < n1 ∧ ¬ n2 < n0) ∨
  (m0 = n2 ∧ r0 = 2 ∧ m1 = n0 ∧ r1 = 0 ∧ m2 = n1 ∧ r2 = 1 ∧ ¬ n1 < n0 ∧ n2 < n1 ∧ n2 < n0)
theorem own_dec {n0 n1 n2 : Int32} {s0 s1 s2 : Int64} (h : own_srt (own_key n0 (0 : Int64)) (own_key n1 (1 : Int64)) (own_key n2 (2 : Int64)) s0 s1 s2) (h0 : ¬ n0 < 0) (h1 : ¬ n1 < 0) (h2 : ¬ n2 < 0) : ∃ m0 r0 m1 r1 m2 r2 : Int32, own_perm n0 n1 n2 m0 r0 m1 r1 m2 r2 ∧ ((s0.toUInt64 >>> ((32 : Int32) &&& 0x3f).toInt64.toUInt64).toInt64) = (m0.toInt64) ∧ (s0.toInt32) = r0 ∧ ((m0.toInt64).toInt32) = m0 ∧ own_r3 r0 ∧ ((s1.toUInt64 >>> ((32 : Int32) &&& 0x3f).toInt64.toUInt64).toInt64) = (m1.toInt64) ∧ (s1.toInt32) = r1 ∧ ((m1.toInt64).toInt32) = m1 ∧ own_r3 r1 ∧ ((s2.toUInt64 >>> ((32 : Int32) &&& 0x3f).toInt64.toUInt64).toInt64) = (m2.toInt64) ∧ (s2.toInt32) = r2 ∧ ((m2.toInt64).toInt32) = m2 ∧ own_r3 r2 := by
  have l10 := own_klt (v := (1 : Int64)) (w := (0 : Int64)) h1 h0 (by decide) (by decide) (by decide)
  have l20 := own_klt (v := (2 : Int64)) (w := (0 : Int64)) h2 h0 (by decide) (by decide) (by decide)
  have l21 := own_klt (v := (2 : Int64)) (w := (1 : Int64)) h2 h1 (by decide) (by decide) (by decide)
  have k0 := own_k1 (w := (0 : Int64)) (r := (0 : Int32)) h0 rfl (Or.inl rfl)
  have k1 := own_k1 (w := (1 : Int64)) (r := (1 : Int32)) h1 rfl (Or.inr (Or.inl rfl))
  have k2 := own_k1 (w := (2 : Int64)) (r := (2 : Int32)) h2 rfl (Or.inr (Or.inr rfl))
  rcases h with ⟨rfl, rfl, rfl, c0, c1⟩ | ⟨rfl, rfl, rfl, c0, c1⟩ | ⟨rfl, rfl, rfl, c0, c1, c2⟩ | ⟨rfl, rfl, rfl, c0, c1, c2⟩ | ⟨rfl, rfl, rfl, c0, c1, c2⟩ | ⟨rfl, rfl, rfl, c0, c1, c2⟩
  · exact ⟨n0, 0, n1, 1, n2, 2, Or.inl ⟨rfl, rfl, rfl, rfl, rfl, rfl, fun q => c0 (l10.mpr q), fun q => c1 (l21.mpr q)⟩, k0.1, k0.2.1, k0.2.2.1, k0.2.2.2, k1.1, k1.2.1, k1.2.2.1, k1.2.2.2, k2.1, k2.2.1, k2.2.2.1, k2.2.2.2⟩
  · exact ⟨n1, 1, n0, 0, n2, 2, Or.inr (Or.inl ⟨rfl, rfl, rfl, rfl, rfl, rfl, l10.mp c0, fun q => c1 (l20.mpr q)⟩), k1.1, k1.2.1, k1.2.2.1, k1.2.2.2, k0.1, k0.2.1, k0.2.2.1, k0.2.2.2, k2.1, k2.2.1, k2.2.2.1, k2.2.2.2⟩
  · exact ⟨n1, 1, n2, 2, n0, 0, Or.inr (Or.inr (Or.inl ⟨rfl, rfl, rfl, rfl, rfl, rfl, l10.mp c0, l20.mp c1, fun q => c2 (l21.mpr q)⟩)), k1.1, k1.2.1, k1.2.2.1, k1.2.2.2, k2.1, k2.2.1, k2.2.2.1, k2.2.2.2, k0.1, k0.2.1, k0.2.2.1, k0.2.2.2⟩
  · exact ⟨n2, 2, n1, 1, n0, 0, Or.inr (Or.inr (Or.inr (Or.inl ⟨rfl, rfl, rfl, rfl, rfl, rfl, l10.mp c0, l20.mp c1, l21.mp c2⟩))), k2.1, k2.2.1, k2.2.2.1, k2.2.2.2, k1.1, k1.2.1, k1.2.2.1, k1.2.2.2, k0.1, k0.2.1, k0.2.2.1, k0.2.2.2⟩
  · exact ⟨n0, 0, n2, 2, n1, 1, Or.inr (Or.inr (Or.inr (Or.inr (Or.inl ⟨rfl, rfl, rfl, rfl, rfl, rfl, fun q => c0 (l10.mpr q), l21.mp c1, fun q => c2 (l20.mpr q)⟩)))), k0.1, k0.2.1, k0.2.2.1, k0.2.2.2, k2.1, k2.2.1, k2.2.2.1, k2.2.2.2, k1.1, k1.2.1, k1.2.2.1, k1.2.2.2⟩
  · exact ⟨n2, 2, n0, 0, n1, 1, Or.inr (Or.inr (Or.inr (Or.inr (Or.inr (⟨rfl, rfl, rfl, rfl, rfl, rfl, fun q => c0 (l10.mpr q), l21.mp c1, l20.mp c2⟩))))), k2.1, k2.2.1, k2.2.2.1, k2.2.2.2, k0.1, k0.2.1, k0.2.2.1, k0.2.2.2, k1.1, k1.2.1, k1.2.2.1, k1.2.2.2⟩
theorem own_r8 {r : Int32} (h : own_r3 r) : r.toInt8.toInt32 = r := by rcases h with rfl | rfl | rfl <;> decide
theorem own_r8n {r : Int32} (h : own_r3 r) : nar .byte r = r := by rcases h with rfl | rfl | rfl <;> decide
theorem own_d8 {r q : Int32} (h : own_r3 r) (h' : own_r3 q) : (r - q).toInt8.toInt32 = (r - q) := by rcases h with rfl | rfl | rfl <;> rcases h' with rfl | rfl | rfl <;> decide
theorem own_d8n {r q : Int32} (h : own_r3 r) (h' : own_r3 q) : nar .byte (r - q) = (r - q) := by rcases h with rfl | rfl | rfl <;> rcases h' with rfl | rfl | rfl <;> decide
theorem own_r7s {r : Int32} (h : own_r3 r) : ((r.toUInt32 >>> ((7 : Int32) &&& 31).toUInt32).toInt32) = (0 : Int32) := by rcases h with rfl | rfl | rfl <;> decide
theorem own_r128 {r : Int32} (h : own_r3 r) : r < (128 : Int32) := by rcases h with rfl | rfl | rfl <;> decide
theorem own_d128 {r q : Int32} (h : own_r3 r) (h' : own_r3 q) : (r - q) < (128 : Int32) := by rcases h with rfl | rfl | rfl <;> rcases h' with rfl | rfl | rfl <;> decide
theorem own_r127 {r : Int32} (h : own_r3 r) : (r &&& (127 : Int32)) = r := by rcases h with rfl | rfl | rfl <;> decide
theorem own_r0 {r : Int32} (h : own_r3 r) : ¬ r < (0 : Int32) := by rcases h with rfl | rfl | rfl <;> decide
theorem own_23 {c : Int32} (h : c < (2 : Int32)) : c < (3 : Int32) := by
  rw [Int32.lt_iff_toInt_lt] at h ⊢
  have e2 : (2 : Int32).toInt = 2 := rfl
  have e3 : (3 : Int32).toInt = 3 := rfl
  omega
theorem own_nc0 : nar .char ((0 : Int32).toUInt32.toUInt16.toUInt32.toInt32) = (0 : Int32) := by decide
theorem own_nc1 : nar .char ((1 : Int32).toUInt32.toUInt16.toUInt32.toInt32) = (1 : Int32) := by decide
theorem own_nc2 : nar .char ((2 : Int32).toUInt32.toUInt16.toUInt32.toInt32) = (2 : Int32) := by decide
theorem own_nc3 : nar .char ((3 : Int32).toUInt32.toUInt16.toUInt32.toInt32) = (3 : Int32) := by decide
theorem own_t {k n0 n1 n2 t : Int32} (h : (if k = (0 : Int32) then n0 else (if k = (1 : Int32) then n1 else n2)) = t) : t = n0 ∨ t = n1 ∨ t = n2 := by
  subst h; split
  · exact Or.inl rfl
  · split
    · exact Or.inr (Or.inl rfl)
    · exact Or.inr (Or.inr rfl)
def own_a4 (a b c d j : Int32) : Int32 := if j = 0 then a else if j = 1 then b else if j = 2 then c else d
def own_a3 (a b c j : Int32) : Int32 := if j = 0 then a else if j = 1 then b else c
def own_j4 (j z : Int32) : Prop := ¬ j < 0 ∧ j < z ∧ (j = 0 ∨ j = 1 ∨ j = 2 ∨ j = 3)
theorem own_j4in {j z : Int32} (h : own_j4 j z) : ¬ j < 0 ∧ j < z := ⟨h.1, h.2.1⟩
theorem own_a4at {j z t1 t2 t3 : Int32} (h : own_j4 j z) : ([.int (0 : Int32), .int t1, .int t2, .int t3] : List Value).getD j.toNatClampNeg (.int 0) = .int (own_a4 (0 : Int32) t1 t2 t3 j) := by
  rcases h.2.2 with rfl | rfl | rfl | rfl <;> rfl
theorem own_n3in {j : Int32} (h : own_r3 j) : ¬ j < 0 ∧ j < (3 : Int32) := by rcases h with rfl | rfl | rfl <;> decide
theorem own_a3at {j a b c : Int32} (h : own_r3 j) : ([.int a, .int b, .int c] : List Value).getD j.toNatClampNeg (.int 0) = .int (own_a3 a b c j) := by
  rcases h with rfl | rfl | rfl <;> rfl
theorem own_a3r {j a b c : Int32} (h : own_r3 a ∧ own_r3 b ∧ own_r3 c) : own_r3 (own_a3 a b c j) := by
  unfold own_a3; split
  · exact h.1
  · split
    · exact h.2.1
    · exact h.2.2
def own_le (nx en : Int32) : Prop := ¬ nx < 0 ∧ ¬ en < nx ∧ ¬ (3 : Int32) < en
theorem own_leIn {nx en : Int32} (h : own_le nx en) (n : ¬ nx = en) : own_r3 nx := by
  obtain ⟨h1, h2, h3⟩ := h
  simp only [Int32.lt_iff_toInt_lt, ← Int32.toInt_inj] at h1 h2 h3 n
  have e0 : (0 : Int32).toInt = 0 := rfl
  have e3 : (3 : Int32).toInt = 3 := rfl
  have q : nx.toInt = 0 ∨ nx.toInt = 1 ∨ nx.toInt = 2 := by omega
  rcases q with q | q | q
  · exact Or.inl (Int32.toInt_inj.mp q)
  · exact Or.inr (Or.inl (Int32.toInt_inj.mp q))
  · exact Or.inr (Or.inr (Int32.toInt_inj.mp q))
def own_next (nx en ps g0 g1 g2 v nx' ps' : Int32) : Prop := (nx = en ∧ v = 0 ∧ nx' = nx ∧ ps' = ps) ∨ (¬ nx = en ∧ v = 1 ∧ nx' = nx + 1 ∧ ((ps < 0 ∧ ps' = own_a3 g0 g1 g2 nx) ∨ (¬ ps < 0 ∧ ps' = ps + own_a3 g0 g1 g2 nx)))
theorem own_leN {nx en ps g0 g1 g2 v nx' ps' : Int32} (h : own_le nx en) (n : own_next nx en ps g0 g1 g2 v nx' ps') : own_le nx' en := by
  rcases n with ⟨-, -, rfl, -⟩ | ⟨ne, -, rfl, -⟩
  · exact h
  · have r := own_leIn h ne
    obtain ⟨h1, h2, h3⟩ := h
    simp only [Int32.lt_iff_toInt_lt, ← Int32.toInt_inj] at h2 h3 ne
    have e3 : (3 : Int32).toInt = 3 := rfl
    rcases r with rfl | rfl | rfl
    · refine ⟨by decide, ?_, by rw [Int32.lt_iff_toInt_lt]; omega⟩
      rw [Int32.lt_iff_toInt_lt]; have e : ((0 : Int32) + 1).toInt = 1 := rfl; have e' : (0 : Int32).toInt = 0 := rfl; omega
    · refine ⟨by decide, ?_, by rw [Int32.lt_iff_toInt_lt]; omega⟩
      rw [Int32.lt_iff_toInt_lt]; have e : ((1 : Int32) + 1).toInt = 2 := rfl; have e' : (1 : Int32).toInt = 1 := rfl; omega
    · refine ⟨by decide, ?_, by rw [Int32.lt_iff_toInt_lt]; omega⟩
      rw [Int32.lt_iff_toInt_lt]; have e : ((2 : Int32) + 1).toInt = 3 := rfl; have e' : (2 : Int32).toInt = 2 := rfl; omega
def own_bld (n0 n1 n2 z t1 t2 t3 g0 g1 g2 : Int32) : Prop := ∃ m0 r0 m1 r1 m2 r2 : Int32, own_perm n0 n1 n2 m0 r0 m1 r1 m2 r2 ∧
  ((¬ m0 = m1 ∧ ¬ m1 = m2 ∧ z = 4 ∧ t1 = 1 ∧ t2 = 2 ∧ t3 = 3 ∧ g0 = r0 ∧ g1 = r1 ∧ g2 = r2) ∨
   (m0 = m1 ∧ ¬ m1 = m2 ∧ z = 3 ∧ t1 = 2 ∧ t2 = 3 ∧ t3 = 0 ∧ g0 = r0 ∧ g1 = r1 - r0 ∧ g2 = r2) ∨
   (¬ m0 = m1 ∧ m1 = m2 ∧ z = 3 ∧ t1 = 1 ∧ t2 = 3 ∧ t3 = 0 ∧ g0 = r0 ∧ g1 = r1 ∧ g2 = r2 - r1) ∨
   (m0 = m1 ∧ m1 = m2 ∧ z = 2 ∧ t1 = 3 ∧ t2 = 0 ∧ t3 = 0 ∧ g0 = r0 ∧ g1 = r1 - r0 ∧ g2 = r2 - r1))
def own_tab (b0 b1 b2 l0 l1 l2 z t1 t2 t3 g0 g1 g2 : Int32) : Prop :=
  (b0 = 1 ∧ b1 = 0 ∧ b2 = 0 ∧ l0 = 0 ∧ l1 = 0 ∧ l2 = 0 ∧ z = 4 ∧ t1 = 1 ∧ t2 = 2 ∧ t3 = 3 ∧ g0 = 0 ∧ g1 = 1 ∧ g2 = 2) ∨
  (b0 = 0 ∧ b1 = 1 ∧ b2 = 0 ∧ l0 = 1 ∧ l1 = 0 ∧ l2 = 0 ∧ z = 4 ∧ t1 = 1 ∧ t2 = 2 ∧ t3 = 3 ∧ g0 = 0 ∧ g1 = 1 ∧ g2 = 2) ∨
  (b0 = 0 ∧ b1 = 0 ∧ b2 = 1 ∧ l0 = 1 ∧ l1 = 1 ∧ l2 = 0 ∧ z = 4 ∧ t1 = 1 ∧ t2 = 2 ∧ t3 = 3 ∧ g0 = 0 ∧ g1 = 1 ∧ g2 = 2) ∨
  (b0 = 1 ∧ b1 = 1 ∧ b2 = 0 ∧ l0 = 0 ∧ l1 = 0 ∧ l2 = 0 ∧ z = 3 ∧ t1 = 2 ∧ t2 = 3 ∧ t3 = 0 ∧ g0 = 0 ∧ g1 = 1 ∧ g2 = 2) ∨
  (b0 = 0 ∧ b1 = 0 ∧ b2 = 1 ∧ l0 = 1 ∧ l1 = 0 ∧ l2 = 0 ∧ z = 3 ∧ t1 = 2 ∧ t2 = 3 ∧ t3 = 0 ∧ g0 = 0 ∧ g1 = 1 ∧ g2 = 2) ∨
  (b0 = 1 ∧ b1 = 0 ∧ b2 = 0 ∧ l0 = 0 ∧ l1 = 0 ∧ l2 = 0 ∧ z = 3 ∧ t1 = 1 ∧ t2 = 3 ∧ t3 = 0 ∧ g0 = 0 ∧ g1 = 1 ∧ g2 = 1) ∨
  (b0 = 0 ∧ b1 = 1 ∧ b2 = 1 ∧ l0 = 1 ∧ l1 = 0 ∧ l2 = 0 ∧ z = 3 ∧ t1 = 1 ∧ t2 = 3 ∧ t3 = 0 ∧ g0 = 0 ∧ g1 = 1 ∧ g2 = 1) ∨
  (b0 = 1 ∧ b1 = 1 ∧ b2 = 1 ∧ l0 = 0 ∧ l1 = 0 ∧ l2 = 0 ∧ z = 2 ∧ t1 = 3 ∧ t2 = 0 ∧ t3 = 0 ∧ g0 = 0 ∧ g1 = 1 ∧ g2 = 1) ∨
  (b0 = 1 ∧ b1 = 0 ∧ b2 = 0 ∧ l0 = 0 ∧ l1 = 1 ∧ l2 = 0 ∧ z = 4 ∧ t1 = 1 ∧ t2 = 2 ∧ t3 = 3 ∧ g0 = 1 ∧ g1 = 0 ∧ g2 = 2) ∨
  (b0 = 0 ∧ b1 = 1 ∧ b2 = 0 ∧ l0 = 0 ∧ l1 = 0 ∧ l2 = 0 ∧ z = 4 ∧ t1 = 1 ∧ t2 = 2 ∧ t3 = 3 ∧ g0 = 1 ∧ g1 = 0 ∧ g2 = 2) ∨
  (b0 = 0 ∧ b1 = 0 ∧ b2 = 1 ∧ l0 = 1 ∧ l1 = 1 ∧ l2 = 0 ∧ z = 4 ∧ t1 = 1 ∧ t2 = 2 ∧ t3 = 3 ∧ g0 = 1 ∧ g1 = 0 ∧ g2 = 2) ∨
  (b0 = 1 ∧ b1 = 0 ∧ b2 = 1 ∧ l0 = 0 ∧ l1 = 1 ∧ l2 = 0 ∧ z = 3 ∧ t1 = 1 ∧ t2 = 3 ∧ t3 = 0 ∧ g0 = 1 ∧ g1 = 0 ∧ g2 = 2) ∨
  (b0 = 0 ∧ b1 = 1 ∧ b2 = 0 ∧ l0 = 0 ∧ l1 = 0 ∧ l2 = 0 ∧ z = 3 ∧ t1 = 1 ∧ t2 = 3 ∧ t3 = 0 ∧ g0 = 1 ∧ g1 = 0 ∧ g2 = 2) ∨
  (b0 = 1 ∧ b1 = 0 ∧ b2 = 0 ∧ l0 = 0 ∧ l1 = 1 ∧ l2 = 1 ∧ z = 4 ∧ t1 = 1 ∧ t2 = 2 ∧ t3 = 3 ∧ g0 = 1 ∧ g1 = 2 ∧ g2 = 0) ∨
  (b0 = 0 ∧ b1 = 1 ∧ b2 = 0 ∧ l0 = 0 ∧ l1 = 0 ∧ l2 = 0 ∧ z = 4 ∧ t1 = 1 ∧ t2 = 2 ∧ t3 = 3 ∧ g0 = 1 ∧ g1 = 2 ∧ g2 = 0) ∨
  (b0 = 0 ∧ b1 = 0 ∧ b2 = 1 ∧ l0 = 0 ∧ l1 = 1 ∧ l2 = 0 ∧ z = 4 ∧ t1 = 1 ∧ t2 = 2 ∧ t3 = 3 ∧ g0 = 1 ∧ g1 = 2 ∧ g2 = 0) ∨
  (b0 = 1 ∧ b1 = 0 ∧ b2 = 0 ∧ l0 = 0 ∧ l1 = 1 ∧ l2 = 0 ∧ z = 3 ∧ t1 = 2 ∧ t2 = 3 ∧ t3 = 0 ∧ g0 = 1 ∧ g1 = 1 ∧ g2 = 0) ∨
  (b0 = 0 ∧ b1 = 1 ∧ b2 = 1 ∧ l0 = 0 ∧ l1 = 0 ∧ l2 = 0 ∧ z = 3 ∧ t1 = 2 ∧ t2 = 3 ∧ t3 = 0 ∧ g0 = 1 ∧ g1 = 1 ∧ g2 = 0) ∨
  (b0 = 1 ∧ b1 = 0 ∧ b2 = 0 ∧ l0 = 0 ∧ l1 = 1 ∧ l2 = 1 ∧ z = 4 ∧ t1 = 1 ∧ t2 = 2 ∧ t3 = 3 ∧ g0 = 2 ∧ g1 = 1 ∧ g2 = 0) ∨
  (b0 = 0 ∧ b1 = 1 ∧ b2 = 0 ∧ l0 = 0 ∧ l1 = 0 ∧ l2 = 1 ∧ z = 4 ∧ t1 = 1 ∧ t2 = 2 ∧ t3 = 3 ∧ g0 = 2 ∧ g1 = 1 ∧ g2 = 0) ∨
  (b0 = 0 ∧ b1 = 0 ∧ b2 = 1 ∧ l0 = 0 ∧ l1 = 0 ∧ l2 = 0 ∧ z = 4 ∧ t1 = 1 ∧ t2 = 2 ∧ t3 = 3 ∧ g0 = 2 ∧ g1 = 1 ∧ g2 = 0) ∨
  (b0 = 1 ∧ b1 = 0 ∧ b2 = 0 ∧ l0 = 0 ∧ l1 = 0 ∧ l2 = 0 ∧ z = 4 ∧ t1 = 1 ∧ t2 = 2 ∧ t3 = 3 ∧ g0 = 0 ∧ g1 = 2 ∧ g2 = 1) ∨
  (b0 = 0 ∧ b1 = 1 ∧ b2 = 0 ∧ l0 = 1 ∧ l1 = 0 ∧ l2 = 1 ∧ z = 4 ∧ t1 = 1 ∧ t2 = 2 ∧ t3 = 3 ∧ g0 = 0 ∧ g1 = 2 ∧ g2 = 1) ∨
  (b0 = 0 ∧ b1 = 0 ∧ b2 = 1 ∧ l0 = 1 ∧ l1 = 0 ∧ l2 = 0 ∧ z = 4 ∧ t1 = 1 ∧ t2 = 2 ∧ t3 = 3 ∧ g0 = 0 ∧ g1 = 2 ∧ g2 = 1) ∨
  (b0 = 1 ∧ b1 = 0 ∧ b2 = 1 ∧ l0 = 0 ∧ l1 = 0 ∧ l2 = 0 ∧ z = 3 ∧ t1 = 2 ∧ t2 = 3 ∧ t3 = 0 ∧ g0 = 0 ∧ g1 = 2 ∧ g2 = 1) ∨
  (b0 = 0 ∧ b1 = 1 ∧ b2 = 0 ∧ l0 = 1 ∧ l1 = 0 ∧ l2 = 0 ∧ z = 3 ∧ t1 = 2 ∧ t2 = 3 ∧ t3 = 0 ∧ g0 = 0 ∧ g1 = 2 ∧ g2 = 1) ∨
  (b0 = 1 ∧ b1 = 0 ∧ b2 = 0 ∧ l0 = 0 ∧ l1 = 0 ∧ l2 = 1 ∧ z = 4 ∧ t1 = 1 ∧ t2 = 2 ∧ t3 = 3 ∧ g0 = 2 ∧ g1 = 0 ∧ g2 = 1) ∨
  (b0 = 0 ∧ b1 = 1 ∧ b2 = 0 ∧ l0 = 1 ∧ l1 = 0 ∧ l2 = 1 ∧ z = 4 ∧ t1 = 1 ∧ t2 = 2 ∧ t3 = 3 ∧ g0 = 2 ∧ g1 = 0 ∧ g2 = 1) ∨
  (b0 = 0 ∧ b1 = 0 ∧ b2 = 1 ∧ l0 = 0 ∧ l1 = 0 ∧ l2 = 0 ∧ z = 4 ∧ t1 = 1 ∧ t2 = 2 ∧ t3 = 3 ∧ g0 = 2 ∧ g1 = 0 ∧ g2 = 1) ∨
  (b0 = 1 ∧ b1 = 1 ∧ b2 = 0 ∧ l0 = 0 ∧ l1 = 0 ∧ l2 = 1 ∧ z = 3 ∧ t1 = 1 ∧ t2 = 3 ∧ t3 = 0 ∧ g0 = 2 ∧ g1 = 0 ∧ g2 = 1) ∨
  (b0 = 0 ∧ b1 = 0 ∧ b2 = 1 ∧ l0 = 0 ∧ l1 = 0 ∧ l2 = 0 ∧ z = 3 ∧ t1 = 1 ∧ t2 = 3 ∧ t3 = 0 ∧ g0 = 2 ∧ g1 = 0 ∧ g2 = 1)
theorem own_tabOf {n0 n1 n2 t b0 b1 b2 l0 l1 l2 z t1 t2 t3 g0 g1 g2 : Int32} (hb : own_bld n0 n1 n2 z t1 t2 t3 g0 g1 g2) (ht : t = n0 ∨ t = n1 ∨ t = n2) (hb0 : (if n0 = t then (1 : Int32) else (0 : Int32)) = b0) (hb1 : (if n1 = t then (1 : Int32) else (0 : Int32)) = b1) (hb2 : (if n2 = t then (1 : Int32) else (0 : Int32)) = b2) (hl0 : (if n0 < t then (1 : Int32) else (0 : Int32)) = l0) (hl1 : (if n1 < t then (if n1 = n0 then (0 : Int32) else (1 : Int32)) else (0 : Int32)) = l1) (hl2 : (if n2 < t then (if n2 = n0 then (0 : Int32) else (if n2 = n1 then (0 : Int32) else (1 : Int32))) else (0 : Int32)) = l2) : own_tab b0 b1 b2 l0 l1 l2 z t1 t2 t3 g0 g1 g2 := by
  obtain ⟨m0, r0, m1, r1, m2, r2, hp, hc⟩ := hb
  have hsplit : ∀ {P : Prop}, (t = n0 → P) → (t = n1 → P) → (t = n2 → P) → P := fun a b c => Or.elim ht a (fun q => Or.elim q b c)
  rcases hp with ⟨rfl, rfl, rfl, rfl, rfl, rfl, c0, c1⟩ | ⟨rfl, rfl, rfl, rfl, rfl, rfl, c0, c1⟩ | ⟨rfl, rfl, rfl, rfl, rfl, rfl, c0, c1, c2⟩ | ⟨rfl, rfl, rfl, rfl, rfl, rfl, c0, c1, c2⟩ | ⟨rfl, rfl, rfl, rfl, rfl, rfl, c0, c1, c2⟩ | ⟨rfl, rfl, rfl, rfl, rfl, rfl, c0, c1, c2⟩
  · rcases hc with ⟨d0, d1, rfl, rfl, rfl, rfl, rfl, rfl, rfl⟩ | ⟨d0, d1, rfl, rfl, rfl, rfl, rfl, rfl, rfl⟩ | ⟨d0, d1, rfl, rfl, rfl, rfl, rfl, rfl, rfl⟩ | ⟨d0, d1, rfl, rfl, rfl, rfl, rfl, rfl, rfl⟩
    · simp only [Int32.lt_iff_toInt_lt, ← Int32.toInt_inj] at c0 c1 d0 d1
      refine hsplit (fun e => ?_) (fun e => ?_) (fun e => ?_)
      · subst e
        rw [if_pos (by first | rfl | (rw [← Int32.toInt_inj]; omega))] at hb0
        rw [if_neg (by rw [← Int32.toInt_inj]; omega)] at hb1
        rw [if_neg (by rw [← Int32.toInt_inj]; omega)] at hb2
        rw [if_neg (by rw [Int32.lt_iff_toInt_lt]; omega)] at hl0
        rw [if_neg (by rw [Int32.lt_iff_toInt_lt]; omega)] at hl1
        rw [if_neg (by rw [Int32.lt_iff_toInt_lt]; omega)] at hl2
        subst hb0 hb1 hb2 hl0 hl1 hl2
        exact Or.inl ⟨rfl, rfl, rfl, rfl, rfl, rfl, rfl, rfl, rfl, rfl, by decide, by decide, by decide⟩
      · subst e
        rw [if_neg (by rw [← Int32.toInt_inj]; omega)] at hb0
        rw [if_pos (by first | rfl | (rw [← Int32.toInt_inj]; omega))] at hb1
        rw [if_neg (by rw [← Int32.toInt_inj]; omega)] at hb2
        rw [if_pos (by rw [Int32.lt_iff_toInt_lt]; omega)] at hl0
        rw [if_neg (by rw [Int32.lt_iff_toInt_lt]; omega)] at hl1
        rw [if_neg (by rw [Int32.lt_iff_toInt_lt]; omega)] at hl2
        subst hb0 hb1 hb2 hl0 hl1 hl2
        exact Or.inr (Or.inl ⟨rfl, rfl, rfl, rfl, rfl, rfl, rfl, rfl, rfl, rfl, by decide, by decide, by decide⟩)
      · subst e
        rw [if_neg (by rw [← Int32.toInt_inj]; omega)] at hb0
        rw [if_neg (by rw [← Int32.toInt_inj]; omega)] at hb1
        rw [if_pos (by first | rfl | (rw [← Int32.toInt_inj]; omega))] at hb2
        rw [if_pos (by rw [Int32.lt_iff_toInt_lt]; omega)] at hl0
        rw [if_pos (by rw [Int32.lt_iff_toInt_lt]; omega), if_neg (by rw [← Int32.toInt_inj]; omega)] at hl1
        rw [if_neg (by rw [Int32.lt_iff_toInt_lt]; omega)] at hl2
        subst hb0 hb1 hb2 hl0 hl1 hl2
        exact Or.inr (Or.inr (Or.inl ⟨rfl, rfl, rfl, rfl, rfl, rfl, rfl, rfl, rfl, rfl, by decide, by decide, by decide⟩))
    · simp only [Int32.lt_iff_toInt_lt, ← Int32.toInt_inj] at c0 c1 d0 d1
      refine hsplit (fun e => ?_) (fun e => ?_) (fun e => ?_)
      · subst e
        rw [if_pos (by first | rfl | (rw [← Int32.toInt_inj]; omega))] at hb0
        rw [if_pos (by first | rfl | (rw [← Int32.toInt_inj]; omega))] at hb1
        rw [if_neg (by rw [← Int32.toInt_inj]; omega)] at hb2
        rw [if_neg (by rw [Int32.lt_iff_toInt_lt]; omega)] at hl0
        rw [if_neg (by rw [Int32.lt_iff_toInt_lt]; omega)] at hl1
        rw [if_neg (by rw [Int32.lt_iff_toInt_lt]; omega)] at hl2
        subst hb0 hb1 hb2 hl0 hl1 hl2
        exact Or.inr (Or.inr (Or.inr (Or.inl ⟨rfl, rfl, rfl, rfl, rfl, rfl, rfl, rfl, rfl, rfl, by decide, by decide, by decide⟩)))
      · subst e
        rw [if_pos (by first | rfl | (rw [← Int32.toInt_inj]; omega))] at hb0
        rw [if_pos (by first | rfl | (rw [← Int32.toInt_inj]; omega))] at hb1
        rw [if_neg (by rw [← Int32.toInt_inj]; omega)] at hb2
        rw [if_neg (by rw [Int32.lt_iff_toInt_lt]; omega)] at hl0
        rw [if_neg (by rw [Int32.lt_iff_toInt_lt]; omega)] at hl1
        rw [if_neg (by rw [Int32.lt_iff_toInt_lt]; omega)] at hl2
        subst hb0 hb1 hb2 hl0 hl1 hl2
        exact Or.inr (Or.inr (Or.inr (Or.inl ⟨rfl, rfl, rfl, rfl, rfl, rfl, rfl, rfl, rfl, rfl, by decide, by decide, by decide⟩)))
      · subst e
        rw [if_neg (by rw [← Int32.toInt_inj]; omega)] at hb0
        rw [if_neg (by rw [← Int32.toInt_inj]; omega)] at hb1
        rw [if_pos (by first | rfl | (rw [← Int32.toInt_inj]; omega))] at hb2
        rw [if_pos (by rw [Int32.lt_iff_toInt_lt]; omega)] at hl0
        rw [if_pos (by rw [Int32.lt_iff_toInt_lt]; omega), if_pos (by first | rfl | (rw [← Int32.toInt_inj]; omega))] at hl1
        rw [if_neg (by rw [Int32.lt_iff_toInt_lt]; omega)] at hl2
        subst hb0 hb1 hb2 hl0 hl1 hl2
        exact Or.inr (Or.inr (Or.inr (Or.inr (Or.inl ⟨rfl, rfl, rfl, rfl, rfl, rfl, rfl, rfl, rfl, rfl, by decide, by decide, by decide⟩))))
    · simp only [Int32.lt_iff_toInt_lt, ← Int32.toInt_inj] at c0 c1 d0 d1
      refine hsplit (fun e => ?_) (fun e => ?_) (fun e => ?_)
      · subst e
        rw [if_pos (by first | rfl | (rw [← Int32.toInt_inj]; omega))] at hb0
        rw [if_neg (by rw [← Int32.toInt_inj]; omega)] at hb1
        rw [if_neg (by rw [← Int32.toInt_inj]; omega)] at hb2
        rw [if_neg (by rw [Int32.lt_iff_toInt_lt]; omega)] at hl0
        rw [if_neg (by rw [Int32.lt_iff_toInt_lt]; omega)] at hl1
        rw [if_neg (by rw [Int32.lt_iff_toInt_lt]; omega)] at hl2
        subst hb0 hb1 hb2 hl0 hl1 hl2
        exact Or.inr (Or.inr (Or.inr (Or.inr (Or.inr (Or.inl ⟨rfl, rfl, rfl, rfl, rfl, rfl, rfl, rfl, rfl, rfl, by decide, by decide, by decide⟩)))))
      · subst e
        rw [if_neg (by rw [← Int32.toInt_inj]; omega)] at hb0
        rw [if_pos (by first | rfl | (rw [← Int32.toInt_inj]; omega))] at hb1
        rw [if_pos (by first | rfl | (rw [← Int32.toInt_inj]; omega))] at hb2
        rw [if_pos (by rw [Int32.lt_iff_toInt_lt]; omega)] at hl0
        rw [if_neg (by rw [Int32.lt_iff_toInt_lt]; omega)] at hl1
        rw [if_neg (by rw [Int32.lt_iff_toInt_lt]; omega)] at hl2
        subst hb0 hb1 hb2 hl0 hl1 hl2
        exact Or.inr (Or.inr (Or.inr (Or.inr (Or.inr (Or.inr (Or.inl ⟨rfl, rfl, rfl, rfl, rfl, rfl, rfl, rfl, rfl, rfl, by decide, by decide, by decide⟩))))))
      · subst e
        rw [if_neg (by rw [← Int32.toInt_inj]; omega)] at hb0
        rw [if_pos (by first | rfl | (rw [← Int32.toInt_inj]; omega))] at hb1
        rw [if_pos (by first | rfl | (rw [← Int32.toInt_inj]; omega))] at hb2
        rw [if_pos (by rw [Int32.lt_iff_toInt_lt]; omega)] at hl0
        rw [if_neg (by rw [Int32.lt_iff_toInt_lt]; omega)] at hl1
        rw [if_neg (by rw [Int32.lt_iff_toInt_lt]; omega)] at hl2
        subst hb0 hb1 hb2 hl0 hl1 hl2
        exact Or.inr (Or.inr (Or.inr (Or.inr (Or.inr (Or.inr (Or.inl ⟨rfl, rfl, rfl, rfl, rfl, rfl, rfl, rfl, rfl, rfl, by decide, by decide, by decide⟩))))))
    · simp only [Int32.lt_iff_toInt_lt, ← Int32.toInt_inj] at c0 c1 d0 d1
      refine hsplit (fun e => ?_) (fun e => ?_) (fun e => ?_)
      · subst e
        rw [if_pos (by first | rfl | (rw [← Int32.toInt_inj]; omega))] at hb0
        rw [if_pos (by first | rfl | (rw [← Int32.toInt_inj]; omega))] at hb1
        rw [if_pos (by first | rfl | (rw [← Int32.toInt_inj]; omega))] at hb2
        rw [if_neg (by rw [Int32.lt_iff_toInt_lt]; omega)] at hl0
        rw [if_neg (by rw [Int32.lt_iff_toInt_lt]; omega)] at hl1
        rw [if_neg (by rw [Int32.lt_iff_toInt_lt]; omega)] at hl2
        subst hb0 hb1 hb2 hl0 hl1 hl2
        exact Or.inr (Or.inr (Or.inr (Or.inr (Or.inr (Or.inr (Or.inr (Or.inl ⟨rfl, rfl, rfl, rfl, rfl, rfl, rfl, rfl, rfl, rfl, by decide, by decide, by decide⟩)))))))
      · subst e
        rw [if_pos (by first | rfl | (rw [← Int32.toInt_inj]; omega))] at hb0
        rw [if_pos (by first | rfl | (rw [← Int32.toInt_inj]; omega))] at hb1
        rw [if_pos (by first | rfl | (rw [← Int32.toInt_inj]; omega))] at hb2
        rw [if_neg (by rw [Int32.lt_iff_toInt_lt]; omega)] at hl0
        rw [if_neg (by rw [Int32.lt_iff_toInt_lt]; omega)] at hl1
        rw [if_neg (by rw [Int32.lt_iff_toInt_lt]; omega)] at hl2
        subst hb0 hb1 hb2 hl0 hl1 hl2
        exact Or.inr (Or.inr (Or.inr (Or.inr (Or.inr (Or.inr (Or.inr (Or.inl ⟨rfl, rfl, rfl, rfl, rfl, rfl, rfl, rfl, rfl, rfl, by decide, by decide, by decide⟩)))))))
      · subst e
        rw [if_pos (by first | rfl | (rw [← Int32.toInt_inj]; omega))] at hb0
        rw [if_pos (by first | rfl | (rw [← Int32.toInt_inj]; omega))] at hb1
        rw [if_pos (by first | rfl | (rw [← Int32.toInt_inj]; omega))] at hb2
        rw [if_neg (by rw [Int32.lt_iff_toInt_lt]; omega)] at hl0
        rw [if_neg (by rw [Int32.lt_iff_toInt_lt]; omega)] at hl1
        rw [if_neg (by rw [Int32.lt_iff_toInt_lt]; omega)] at hl2
        subst hb0 hb1 hb2 hl0 hl1 hl2
        exact Or.inr (Or.inr (Or.inr (Or.inr (Or.inr (Or.inr (Or.inr (Or.inl ⟨rfl, rfl, rfl, rfl, rfl, rfl, rfl, rfl, rfl, rfl, by decide, by decide, by decide⟩)))))))
  · rcases hc with ⟨d0, d1, rfl, rfl, rfl, rfl, rfl, rfl, rfl⟩ | ⟨d0, d1, rfl, rfl, rfl, rfl, rfl, rfl, rfl⟩ | ⟨d0, d1, rfl, rfl, rfl, rfl, rfl, rfl, rfl⟩ | ⟨d0, d1, rfl, rfl, rfl, rfl, rfl, rfl, rfl⟩
    · simp only [Int32.lt_iff_toInt_lt, ← Int32.toInt_inj] at c0 c1 d0 d1
      refine hsplit (fun e => ?_) (fun e => ?_) (fun e => ?_)
      · subst e
        rw [if_pos (by first | rfl | (rw [← Int32.toInt_inj]; omega))] at hb0
        rw [if_neg (by rw [← Int32.toInt_inj]; omega)] at hb1
        rw [if_neg (by rw [← Int32.toInt_inj]; omega)] at hb2
        rw [if_neg (by rw [Int32.lt_iff_toInt_lt]; omega)] at hl0
        rw [if_pos (by rw [Int32.lt_iff_toInt_lt]; omega), if_neg (by rw [← Int32.toInt_inj]; omega)] at hl1
        rw [if_neg (by rw [Int32.lt_iff_toInt_lt]; omega)] at hl2
        subst hb0 hb1 hb2 hl0 hl1 hl2
        exact Or.inr (Or.inr (Or.inr (Or.inr (Or.inr (Or.inr (Or.inr (Or.inr (Or.inl ⟨rfl, rfl, rfl, rfl, rfl, rfl, rfl, rfl, rfl, rfl, by decide, by decide, by decide⟩))))))))
      · subst e
        rw [if_neg (by rw [← Int32.toInt_inj]; omega)] at hb0
        rw [if_pos (by first | rfl | (rw [← Int32.toInt_inj]; omega))] at hb1
        rw [if_neg (by rw [← Int32.toInt_inj]; omega)] at hb2
        rw [if_neg (by rw [Int32.lt_iff_toInt_lt]; omega)] at hl0
        rw [if_neg (by rw [Int32.lt_iff_toInt_lt]; omega)] at hl1
        rw [if_neg (by rw [Int32.lt_iff_toInt_lt]; omega)] at hl2
        subst hb0 hb1 hb2 hl0 hl1 hl2
        exact Or.inr (Or.inr (Or.inr (Or.inr (Or.inr (Or.inr (Or.inr (Or.inr (Or.inr (Or.inl ⟨rfl, rfl, rfl, rfl, rfl, rfl, rfl, rfl, rfl, rfl, by decide, by decide, by decide⟩)))))))))
      · subst e
        rw [if_neg (by rw [← Int32.toInt_inj]; omega)] at hb0
        rw [if_neg (by rw [← Int32.toInt_inj]; omega)] at hb1
        rw [if_pos (by first | rfl | (rw [← Int32.toInt_inj]; omega))] at hb2
        rw [if_pos (by rw [Int32.lt_iff_toInt_lt]; omega)] at hl0
        rw [if_pos (by rw [Int32.lt_iff_toInt_lt]; omega), if_neg (by rw [← Int32.toInt_inj]; omega)] at hl1
        rw [if_neg (by rw [Int32.lt_iff_toInt_lt]; omega)] at hl2
        subst hb0 hb1 hb2 hl0 hl1 hl2
        exact Or.inr (Or.inr (Or.inr (Or.inr (Or.inr (Or.inr (Or.inr (Or.inr (Or.inr (Or.inr (Or.inl ⟨rfl, rfl, rfl, rfl, rfl, rfl, rfl, rfl, rfl, rfl, by decide, by decide, by decide⟩))))))))))
    · simp only [Int32.lt_iff_toInt_lt, ← Int32.toInt_inj] at c0 c1 d0 d1
      omega
    · simp only [Int32.lt_iff_toInt_lt, ← Int32.toInt_inj] at c0 c1 d0 d1
      refine hsplit (fun e => ?_) (fun e => ?_) (fun e => ?_)
      · subst e
        rw [if_pos (by first | rfl | (rw [← Int32.toInt_inj]; omega))] at hb0
        rw [if_neg (by rw [← Int32.toInt_inj]; omega)] at hb1
        rw [if_pos (by first | rfl | (rw [← Int32.toInt_inj]; omega))] at hb2
        rw [if_neg (by rw [Int32.lt_iff_toInt_lt]; omega)] at hl0
        rw [if_pos (by rw [Int32.lt_iff_toInt_lt]; omega), if_neg (by rw [← Int32.toInt_inj]; omega)] at hl1
        rw [if_neg (by rw [Int32.lt_iff_toInt_lt]; omega)] at hl2
        subst hb0 hb1 hb2 hl0 hl1 hl2
        exact Or.inr (Or.inr (Or.inr (Or.inr (Or.inr (Or.inr (Or.inr (Or.inr (Or.inr (Or.inr (Or.inr (Or.inl ⟨rfl, rfl, rfl, rfl, rfl, rfl, rfl, rfl, rfl, rfl, by decide, by decide, by decide⟩)))))))))))
      · subst e
        rw [if_neg (by rw [← Int32.toInt_inj]; omega)] at hb0
        rw [if_pos (by first | rfl | (rw [← Int32.toInt_inj]; omega))] at hb1
        rw [if_neg (by rw [← Int32.toInt_inj]; omega)] at hb2
        rw [if_neg (by rw [Int32.lt_iff_toInt_lt]; omega)] at hl0
        rw [if_neg (by rw [Int32.lt_iff_toInt_lt]; omega)] at hl1
        rw [if_neg (by rw [Int32.lt_iff_toInt_lt]; omega)] at hl2
        subst hb0 hb1 hb2 hl0 hl1 hl2
        exact Or.inr (Or.inr (Or.inr (Or.inr (Or.inr (Or.inr (Or.inr (Or.inr (Or.inr (Or.inr (Or.inr (Or.inr (Or.inl ⟨rfl, rfl, rfl, rfl, rfl, rfl, rfl, rfl, rfl, rfl, by decide, by decide, by decide⟩))))))))))))
      · subst e
        rw [if_pos (by first | rfl | (rw [← Int32.toInt_inj]; omega))] at hb0
        rw [if_neg (by rw [← Int32.toInt_inj]; omega)] at hb1
        rw [if_pos (by first | rfl | (rw [← Int32.toInt_inj]; omega))] at hb2
        rw [if_neg (by rw [Int32.lt_iff_toInt_lt]; omega)] at hl0
        rw [if_pos (by rw [Int32.lt_iff_toInt_lt]; omega), if_neg (by rw [← Int32.toInt_inj]; omega)] at hl1
        rw [if_neg (by rw [Int32.lt_iff_toInt_lt]; omega)] at hl2
        subst hb0 hb1 hb2 hl0 hl1 hl2
        exact Or.inr (Or.inr (Or.inr (Or.inr (Or.inr (Or.inr (Or.inr (Or.inr (Or.inr (Or.inr (Or.inr (Or.inl ⟨rfl, rfl, rfl, rfl, rfl, rfl, rfl, rfl, rfl, rfl, by decide, by decide, by decide⟩)))))))))))
    · simp only [Int32.lt_iff_toInt_lt, ← Int32.toInt_inj] at c0 c1 d0 d1
      omega
  · rcases hc with ⟨d0, d1, rfl, rfl, rfl, rfl, rfl, rfl, rfl⟩ | ⟨d0, d1, rfl, rfl, rfl, rfl, rfl, rfl, rfl⟩ | ⟨d0, d1, rfl, rfl, rfl, rfl, rfl, rfl, rfl⟩ | ⟨d0, d1, rfl, rfl, rfl, rfl, rfl, rfl, rfl⟩
    · simp only [Int32.lt_iff_toInt_lt, ← Int32.toInt_inj] at c0 c1 c2 d0 d1
      refine hsplit (fun e => ?_) (fun e => ?_) (fun e => ?_)
      · subst e
        rw [if_pos (by first | rfl | (rw [← Int32.toInt_inj]; omega))] at hb0
        rw [if_neg (by rw [← Int32.toInt_inj]; omega)] at hb1
        rw [if_neg (by rw [← Int32.toInt_inj]; omega)] at hb2
        rw [if_neg (by rw [Int32.lt_iff_toInt_lt]; omega)] at hl0
        rw [if_pos (by rw [Int32.lt_iff_toInt_lt]; omega), if_neg (by rw [← Int32.toInt_inj]; omega)] at hl1
        rw [if_pos (by rw [Int32.lt_iff_toInt_lt]; omega), if_neg (by rw [← Int32.toInt_inj]; omega), if_neg (by rw [← Int32.toInt_inj]; omega)] at hl2
        subst hb0 hb1 hb2 hl0 hl1 hl2
        exact Or.inr (Or.inr (Or.inr (Or.inr (Or.inr (Or.inr (Or.inr (Or.inr (Or.inr (Or.inr (Or.inr (Or.inr (Or.inr (Or.inl ⟨rfl, rfl, rfl, rfl, rfl, rfl, rfl, rfl, rfl, rfl, by decide, by decide, by decide⟩)))))))))))))
      · subst e
        rw [if_neg (by rw [← Int32.toInt_inj]; omega)] at hb0
        rw [if_pos (by first | rfl | (rw [← Int32.toInt_inj]; omega))] at hb1
        rw [if_neg (by rw [← Int32.toInt_inj]; omega)] at hb2
        rw [if_neg (by rw [Int32.lt_iff_toInt_lt]; omega)] at hl0
        rw [if_neg (by rw [Int32.lt_iff_toInt_lt]; omega)] at hl1
        rw [if_neg (by rw [Int32.lt_iff_toInt_lt]; omega)] at hl2
        subst hb0 hb1 hb2 hl0 hl1 hl2
        exact Or.inr (Or.inr (Or.inr (Or.inr (Or.inr (Or.inr (Or.inr (Or.inr (Or.inr (Or.inr (Or.inr (Or.inr (Or.inr (Or.inr (Or.inl ⟨rfl, rfl, rfl, rfl, rfl, rfl, rfl, rfl, rfl, rfl, by decide, by decide, by decide⟩))))))))))))))
      · subst e
        rw [if_neg (by rw [← Int32.toInt_inj]; omega)] at hb0
        rw [if_neg (by rw [← Int32.toInt_inj]; omega)] at hb1
        rw [if_pos (by first | rfl | (rw [← Int32.toInt_inj]; omega))] at hb2
        rw [if_neg (by rw [Int32.lt_iff_toInt_lt]; omega)] at hl0
        rw [if_pos (by rw [Int32.lt_iff_toInt_lt]; omega), if_neg (by rw [← Int32.toInt_inj]; omega)] at hl1
        rw [if_neg (by rw [Int32.lt_iff_toInt_lt]; omega)] at hl2
        subst hb0 hb1 hb2 hl0 hl1 hl2
        exact Or.inr (Or.inr (Or.inr (Or.inr (Or.inr (Or.inr (Or.inr (Or.inr (Or.inr (Or.inr (Or.inr (Or.inr (Or.inr (Or.inr (Or.inr (Or.inl ⟨rfl, rfl, rfl, rfl, rfl, rfl, rfl, rfl, rfl, rfl, by decide, by decide, by decide⟩)))))))))))))))
    · simp only [Int32.lt_iff_toInt_lt, ← Int32.toInt_inj] at c0 c1 c2 d0 d1
      refine hsplit (fun e => ?_) (fun e => ?_) (fun e => ?_)
      · subst e
        rw [if_pos (by first | rfl | (rw [← Int32.toInt_inj]; omega))] at hb0
        rw [if_neg (by rw [← Int32.toInt_inj]; omega)] at hb1
        rw [if_neg (by rw [← Int32.toInt_inj]; omega)] at hb2
        rw [if_neg (by rw [Int32.lt_iff_toInt_lt]; omega)] at hl0
        rw [if_pos (by rw [Int32.lt_iff_toInt_lt]; omega), if_neg (by rw [← Int32.toInt_inj]; omega)] at hl1
        rw [if_pos (by rw [Int32.lt_iff_toInt_lt]; omega), if_neg (by rw [← Int32.toInt_inj]; omega), if_pos (by first | rfl | (rw [← Int32.toInt_inj]; omega))] at hl2
        subst hb0 hb1 hb2 hl0 hl1 hl2
        exact Or.inr (Or.inr (Or.inr (Or.inr (Or.inr (Or.inr (Or.inr (Or.inr (Or.inr (Or.inr (Or.inr (Or.inr (Or.inr (Or.inr (Or.inr (Or.inr (Or.inl ⟨rfl, rfl, rfl, rfl, rfl, rfl, rfl, rfl, rfl, rfl, by decide, by decide, by decide⟩))))))))))))))))
      · subst e
        rw [if_neg (by rw [← Int32.toInt_inj]; omega)] at hb0
        rw [if_pos (by first | rfl | (rw [← Int32.toInt_inj]; omega))] at hb1
        rw [if_pos (by first | rfl | (rw [← Int32.toInt_inj]; omega))] at hb2
        rw [if_neg (by rw [Int32.lt_iff_toInt_lt]; omega)] at hl0
        rw [if_neg (by rw [Int32.lt_iff_toInt_lt]; omega)] at hl1
        rw [if_neg (by rw [Int32.lt_iff_toInt_lt]; omega)] at hl2
        subst hb0 hb1 hb2 hl0 hl1 hl2
        exact Or.inr (Or.inr (Or.inr (Or.inr (Or.inr (Or.inr (Or.inr (Or.inr (Or.inr (Or.inr (Or.inr (Or.inr (Or.inr (Or.inr (Or.inr (Or.inr (Or.inr (Or.inl ⟨rfl, rfl, rfl, rfl, rfl, rfl, rfl, rfl, rfl, rfl, by decide, by decide, by decide⟩)))))))))))))))))
      · subst e
        rw [if_neg (by rw [← Int32.toInt_inj]; omega)] at hb0
        rw [if_pos (by first | rfl | (rw [← Int32.toInt_inj]; omega))] at hb1
        rw [if_pos (by first | rfl | (rw [← Int32.toInt_inj]; omega))] at hb2
        rw [if_neg (by rw [Int32.lt_iff_toInt_lt]; omega)] at hl0
        rw [if_neg (by rw [Int32.lt_iff_toInt_lt]; omega)] at hl1
        rw [if_neg (by rw [Int32.lt_iff_toInt_lt]; omega)] at hl2
        subst hb0 hb1 hb2 hl0 hl1 hl2
        exact Or.inr (Or.inr (Or.inr (Or.inr (Or.inr (Or.inr (Or.inr (Or.inr (Or.inr (Or.inr (Or.inr (Or.inr (Or.inr (Or.inr (Or.inr (Or.inr (Or.inr (Or.inl ⟨rfl, rfl, rfl, rfl, rfl, rfl, rfl, rfl, rfl, rfl, by decide, by decide, by decide⟩)))))))))))))))))
    · simp only [Int32.lt_iff_toInt_lt, ← Int32.toInt_inj] at c0 c1 c2 d0 d1
      omega
    · simp only [Int32.lt_iff_toInt_lt, ← Int32.toInt_inj] at c0 c1 c2 d0 d1
      omega
  · rcases hc with ⟨d0, d1, rfl, rfl, rfl, rfl, rfl, rfl, rfl⟩ | ⟨d0, d1, rfl, rfl, rfl, rfl, rfl, rfl, rfl⟩ | ⟨d0, d1, rfl, rfl, rfl, rfl, rfl, rfl, rfl⟩ | ⟨d0, d1, rfl, rfl, rfl, rfl, rfl, rfl, rfl⟩
    · simp only [Int32.lt_iff_toInt_lt, ← Int32.toInt_inj] at c0 c1 c2 d0 d1
      refine hsplit (fun e => ?_) (fun e => ?_) (fun e => ?_)
      · subst e
        rw [if_pos (by first | rfl | (rw [← Int32.toInt_inj]; omega))] at hb0
        rw [if_neg (by rw [← Int32.toInt_inj]; omega)] at hb1
        rw [if_neg (by rw [← Int32.toInt_inj]; omega)] at hb2
        rw [if_neg (by rw [Int32.lt_iff_toInt_lt]; omega)] at hl0
        rw [if_pos (by rw [Int32.lt_iff_toInt_lt]; omega), if_neg (by rw [← Int32.toInt_inj]; omega)] at hl1
        rw [if_pos (by rw [Int32.lt_iff_toInt_lt]; omega), if_neg (by rw [← Int32.toInt_inj]; omega), if_neg (by rw [← Int32.toInt_inj]; omega)] at hl2
        subst hb0 hb1 hb2 hl0 hl1 hl2
        exact Or.inr (Or.inr (Or.inr (Or.inr (Or.inr (Or.inr (Or.inr (Or.inr (Or.inr (Or.inr (Or.inr (Or.inr (Or.inr (Or.inr (Or.inr (Or.inr (Or.inr (Or.inr (Or.inl ⟨rfl, rfl, rfl, rfl, rfl, rfl, rfl, rfl, rfl, rfl, by decide, by decide, by decide⟩))))))))))))))))))
      · subst e
        rw [if_neg (by rw [← Int32.toInt_inj]; omega)] at hb0
        rw [if_pos (by first | rfl | (rw [← Int32.toInt_inj]; omega))] at hb1
        rw [if_neg (by rw [← Int32.toInt_inj]; omega)] at hb2
        rw [if_neg (by rw [Int32.lt_iff_toInt_lt]; omega)] at hl0
        rw [if_neg (by rw [Int32.lt_iff_toInt_lt]; omega)] at hl1
        rw [if_pos (by rw [Int32.lt_iff_toInt_lt]; omega), if_neg (by rw [← Int32.toInt_inj]; omega), if_neg (by rw [← Int32.toInt_inj]; omega)] at hl2
        subst hb0 hb1 hb2 hl0 hl1 hl2
        exact Or.inr (Or.inr (Or.inr (Or.inr (Or.inr (Or.inr (Or.inr (Or.inr (Or.inr (Or.inr (Or.inr (Or.inr (Or.inr (Or.inr (Or.inr (Or.inr (Or.inr (Or.inr (Or.inr (Or.inl ⟨rfl, rfl, rfl, rfl, rfl, rfl, rfl, rfl, rfl, rfl, by decide, by decide, by decide⟩)))))))))))))))))))
      · subst e
        rw [if_neg (by rw [← Int32.toInt_inj]; omega)] at hb0
        rw [if_neg (by rw [← Int32.toInt_inj]; omega)] at hb1
        rw [if_pos (by first | rfl | (rw [← Int32.toInt_inj]; omega))] at hb2
        rw [if_neg (by rw [Int32.lt_iff_toInt_lt]; omega)] at hl0
        rw [if_neg (by rw [Int32.lt_iff_toInt_lt]; omega)] at hl1
        rw [if_neg (by rw [Int32.lt_iff_toInt_lt]; omega)] at hl2
        subst hb0 hb1 hb2 hl0 hl1 hl2
        exact Or.inr (Or.inr (Or.inr (Or.inr (Or.inr (Or.inr (Or.inr (Or.inr (Or.inr (Or.inr (Or.inr (Or.inr (Or.inr (Or.inr (Or.inr (Or.inr (Or.inr (Or.inr (Or.inr (Or.inr (Or.inl ⟨rfl, rfl, rfl, rfl, rfl, rfl, rfl, rfl, rfl, rfl, by decide, by decide, by decide⟩))))))))))))))))))))
    · simp only [Int32.lt_iff_toInt_lt, ← Int32.toInt_inj] at c0 c1 c2 d0 d1
      omega
    · simp only [Int32.lt_iff_toInt_lt, ← Int32.toInt_inj] at c0 c1 c2 d0 d1
      omega
    · simp only [Int32.lt_iff_toInt_lt, ← Int32.toInt_inj] at c0 c1 c2 d0 d1
      omega
  · rcases hc with ⟨d0, d1, rfl, rfl, rfl, rfl, rfl, rfl, rfl⟩ | ⟨d0, d1, rfl, rfl, rfl, rfl, rfl, rfl, rfl⟩ | ⟨d0, d1, rfl, rfl, rfl, rfl, rfl, rfl, rfl⟩ | ⟨d0, d1, rfl, rfl, rfl, rfl, rfl, rfl, rfl⟩
    · simp only [Int32.lt_iff_toInt_lt, ← Int32.toInt_inj] at c0 c1 c2 d0 d1
      refine hsplit (fun e => ?_) (fun e => ?_) (fun e => ?_)
      · subst e
        rw [if_pos (by first | rfl | (rw [← Int32.toInt_inj]; omega))] at hb0
        rw [if_neg (by rw [← Int32.toInt_inj]; omega)] at hb1
        rw [if_neg (by rw [← Int32.toInt_inj]; omega)] at hb2
        rw [if_neg (by rw [Int32.lt_iff_toInt_lt]; omega)] at hl0
        rw [if_neg (by rw [Int32.lt_iff_toInt_lt]; omega)] at hl1
        rw [if_neg (by rw [Int32.lt_iff_toInt_lt]; omega)] at hl2
        subst hb0 hb1 hb2 hl0 hl1 hl2
        exact Or.inr (Or.inr (Or.inr (Or.inr (Or.inr (Or.inr (Or.inr (Or.inr (Or.inr (Or.inr (Or.inr (Or.inr (Or.inr (Or.inr (Or.inr (Or.inr (Or.inr (Or.inr (Or.inr (Or.inr (Or.inr (Or.inl ⟨rfl, rfl, rfl, rfl, rfl, rfl, rfl, rfl, rfl, rfl, by decide, by decide, by decide⟩)))))))))))))))))))))
      · subst e
        rw [if_neg (by rw [← Int32.toInt_inj]; omega)] at hb0
        rw [if_pos (by first | rfl | (rw [← Int32.toInt_inj]; omega))] at hb1
        rw [if_neg (by rw [← Int32.toInt_inj]; omega)] at hb2
        rw [if_pos (by rw [Int32.lt_iff_toInt_lt]; omega)] at hl0
        rw [if_neg (by rw [Int32.lt_iff_toInt_lt]; omega)] at hl1
        rw [if_pos (by rw [Int32.lt_iff_toInt_lt]; omega), if_neg (by rw [← Int32.toInt_inj]; omega), if_neg (by rw [← Int32.toInt_inj]; omega)] at hl2
        subst hb0 hb1 hb2 hl0 hl1 hl2
        exact Or.inr (Or.inr (Or.inr (Or.inr (Or.inr (Or.inr (Or.inr (Or.inr (Or.inr (Or.inr (Or.inr (Or.inr (Or.inr (Or.inr (Or.inr (Or.inr (Or.inr (Or.inr (Or.inr (Or.inr (Or.inr (Or.inr (Or.inl ⟨rfl, rfl, rfl, rfl, rfl, rfl, rfl, rfl, rfl, rfl, by decide, by decide, by decide⟩))))))))))))))))))))))
      · subst e
        rw [if_neg (by rw [← Int32.toInt_inj]; omega)] at hb0
        rw [if_neg (by rw [← Int32.toInt_inj]; omega)] at hb1
        rw [if_pos (by first | rfl | (rw [← Int32.toInt_inj]; omega))] at hb2
        rw [if_pos (by rw [Int32.lt_iff_toInt_lt]; omega)] at hl0
        rw [if_neg (by rw [Int32.lt_iff_toInt_lt]; omega)] at hl1
        rw [if_neg (by rw [Int32.lt_iff_toInt_lt]; omega)] at hl2
        subst hb0 hb1 hb2 hl0 hl1 hl2
        exact Or.inr (Or.inr (Or.inr (Or.inr (Or.inr (Or.inr (Or.inr (Or.inr (Or.inr (Or.inr (Or.inr (Or.inr (Or.inr (Or.inr (Or.inr (Or.inr (Or.inr (Or.inr (Or.inr (Or.inr (Or.inr (Or.inr (Or.inr (Or.inl ⟨rfl, rfl, rfl, rfl, rfl, rfl, rfl, rfl, rfl, rfl, by decide, by decide, by decide⟩)))))))))))))))))))))))
    · simp only [Int32.lt_iff_toInt_lt, ← Int32.toInt_inj] at c0 c1 c2 d0 d1
      refine hsplit (fun e => ?_) (fun e => ?_) (fun e => ?_)
      · subst e
        rw [if_pos (by first | rfl | (rw [← Int32.toInt_inj]; omega))] at hb0
        rw [if_neg (by rw [← Int32.toInt_inj]; omega)] at hb1
        rw [if_pos (by first | rfl | (rw [← Int32.toInt_inj]; omega))] at hb2
        rw [if_neg (by rw [Int32.lt_iff_toInt_lt]; omega)] at hl0
        rw [if_neg (by rw [Int32.lt_iff_toInt_lt]; omega)] at hl1
        rw [if_neg (by rw [Int32.lt_iff_toInt_lt]; omega)] at hl2
        subst hb0 hb1 hb2 hl0 hl1 hl2
        exact Or.inr (Or.inr (Or.inr (Or.inr (Or.inr (Or.inr (Or.inr (Or.inr (Or.inr (Or.inr (Or.inr (Or.inr (Or.inr (Or.inr (Or.inr (Or.inr (Or.inr (Or.inr (Or.inr (Or.inr (Or.inr (Or.inr (Or.inr (Or.inr (Or.inl ⟨rfl, rfl, rfl, rfl, rfl, rfl, rfl, rfl, rfl, rfl, by decide, by decide, by decide⟩))))))))))))))))))))))))
      · subst e
        rw [if_neg (by rw [← Int32.toInt_inj]; omega)] at hb0
        rw [if_pos (by first | rfl | (rw [← Int32.toInt_inj]; omega))] at hb1
        rw [if_neg (by rw [← Int32.toInt_inj]; omega)] at hb2
        rw [if_pos (by rw [Int32.lt_iff_toInt_lt]; omega)] at hl0
        rw [if_neg (by rw [Int32.lt_iff_toInt_lt]; omega)] at hl1
        rw [if_pos (by rw [Int32.lt_iff_toInt_lt]; omega), if_pos (by first | rfl | (rw [← Int32.toInt_inj]; omega))] at hl2
        subst hb0 hb1 hb2 hl0 hl1 hl2
        exact Or.inr (Or.inr (Or.inr (Or.inr (Or.inr (Or.inr (Or.inr (Or.inr (Or.inr (Or.inr (Or.inr (Or.inr (Or.inr (Or.inr (Or.inr (Or.inr (Or.inr (Or.inr (Or.inr (Or.inr (Or.inr (Or.inr (Or.inr (Or.inr (Or.inr (Or.inl ⟨rfl, rfl, rfl, rfl, rfl, rfl, rfl, rfl, rfl, rfl, by decide, by decide, by decide⟩)))))))))))))))))))))))))
      · subst e
        rw [if_pos (by first | rfl | (rw [← Int32.toInt_inj]; omega))] at hb0
        rw [if_neg (by rw [← Int32.toInt_inj]; omega)] at hb1
        rw [if_pos (by first | rfl | (rw [← Int32.toInt_inj]; omega))] at hb2
        rw [if_neg (by rw [Int32.lt_iff_toInt_lt]; omega)] at hl0
        rw [if_neg (by rw [Int32.lt_iff_toInt_lt]; omega)] at hl1
        rw [if_neg (by rw [Int32.lt_iff_toInt_lt]; omega)] at hl2
        subst hb0 hb1 hb2 hl0 hl1 hl2
        exact Or.inr (Or.inr (Or.inr (Or.inr (Or.inr (Or.inr (Or.inr (Or.inr (Or.inr (Or.inr (Or.inr (Or.inr (Or.inr (Or.inr (Or.inr (Or.inr (Or.inr (Or.inr (Or.inr (Or.inr (Or.inr (Or.inr (Or.inr (Or.inr (Or.inl ⟨rfl, rfl, rfl, rfl, rfl, rfl, rfl, rfl, rfl, rfl, by decide, by decide, by decide⟩))))))))))))))))))))))))
    · simp only [Int32.lt_iff_toInt_lt, ← Int32.toInt_inj] at c0 c1 c2 d0 d1
      omega
    · simp only [Int32.lt_iff_toInt_lt, ← Int32.toInt_inj] at c0 c1 c2 d0 d1
      omega
  · rcases hc with ⟨d0, d1, rfl, rfl, rfl, rfl, rfl, rfl, rfl⟩ | ⟨d0, d1, rfl, rfl, rfl, rfl, rfl, rfl, rfl⟩ | ⟨d0, d1, rfl, rfl, rfl, rfl, rfl, rfl, rfl⟩ | ⟨d0, d1, rfl, rfl, rfl, rfl, rfl, rfl, rfl⟩
    · simp only [Int32.lt_iff_toInt_lt, ← Int32.toInt_inj] at c0 c1 c2 d0 d1
      refine hsplit (fun e => ?_) (fun e => ?_) (fun e => ?_)
      · subst e
        rw [if_pos (by first | rfl | (rw [← Int32.toInt_inj]; omega))] at hb0
        rw [if_neg (by rw [← Int32.toInt_inj]; omega)] at hb1
        rw [if_neg (by rw [← Int32.toInt_inj]; omega)] at hb2
        rw [if_neg (by rw [Int32.lt_iff_toInt_lt]; omega)] at hl0
        rw [if_neg (by rw [Int32.lt_iff_toInt_lt]; omega)] at hl1
        rw [if_pos (by rw [Int32.lt_iff_toInt_lt]; omega), if_neg (by rw [← Int32.toInt_inj]; omega), if_neg (by rw [← Int32.toInt_inj]; omega)] at hl2
        subst hb0 hb1 hb2 hl0 hl1 hl2
        exact Or.inr (Or.inr (Or.inr (Or.inr (Or.inr (Or.inr (Or.inr (Or.inr (Or.inr (Or.inr (Or.inr (Or.inr (Or.inr (Or.inr (Or.inr (Or.inr (Or.inr (Or.inr (Or.inr (Or.inr (Or.inr (Or.inr (Or.inr (Or.inr (Or.inr (Or.inr (Or.inl ⟨rfl, rfl, rfl, rfl, rfl, rfl, rfl, rfl, rfl, rfl, by decide, by decide, by decide⟩))))))))))))))))))))))))))
      · subst e
        rw [if_neg (by rw [← Int32.toInt_inj]; omega)] at hb0
        rw [if_pos (by first | rfl | (rw [← Int32.toInt_inj]; omega))] at hb1
        rw [if_neg (by rw [← Int32.toInt_inj]; omega)] at hb2
        rw [if_pos (by rw [Int32.lt_iff_toInt_lt]; omega)] at hl0
        rw [if_neg (by rw [Int32.lt_iff_toInt_lt]; omega)] at hl1
        rw [if_pos (by rw [Int32.lt_iff_toInt_lt]; omega), if_neg (by rw [← Int32.toInt_inj]; omega), if_neg (by rw [← Int32.toInt_inj]; omega)] at hl2
        subst hb0 hb1 hb2 hl0 hl1 hl2
        exact Or.inr (Or.inr (Or.inr (Or.inr (Or.inr (Or.inr (Or.inr (Or.inr (Or.inr (Or.inr (Or.inr (Or.inr (Or.inr (Or.inr (Or.inr (Or.inr (Or.inr (Or.inr (Or.inr (Or.inr (Or.inr (Or.inr (Or.inr (Or.inr (Or.inr (Or.inr (Or.inr (Or.inl ⟨rfl, rfl, rfl, rfl, rfl, rfl, rfl, rfl, rfl, rfl, by decide, by decide, by decide⟩)))))))))))))))))))))))))))
      · subst e
        rw [if_neg (by rw [← Int32.toInt_inj]; omega)] at hb0
        rw [if_neg (by rw [← Int32.toInt_inj]; omega)] at hb1
        rw [if_pos (by first | rfl | (rw [← Int32.toInt_inj]; omega))] at hb2
        rw [if_neg (by rw [Int32.lt_iff_toInt_lt]; omega)] at hl0
        rw [if_neg (by rw [Int32.lt_iff_toInt_lt]; omega)] at hl1
        rw [if_neg (by rw [Int32.lt_iff_toInt_lt]; omega)] at hl2
        subst hb0 hb1 hb2 hl0 hl1 hl2
        exact Or.inr (Or.inr (Or.inr (Or.inr (Or.inr (Or.inr (Or.inr (Or.inr (Or.inr (Or.inr (Or.inr (Or.inr (Or.inr (Or.inr (Or.inr (Or.inr (Or.inr (Or.inr (Or.inr (Or.inr (Or.inr (Or.inr (Or.inr (Or.inr (Or.inr (Or.inr (Or.inr (Or.inr (Or.inl ⟨rfl, rfl, rfl, rfl, rfl, rfl, rfl, rfl, rfl, rfl, by decide, by decide, by decide⟩))))))))))))))))))))))))))))
    · simp only [Int32.lt_iff_toInt_lt, ← Int32.toInt_inj] at c0 c1 c2 d0 d1
      omega
    · simp only [Int32.lt_iff_toInt_lt, ← Int32.toInt_inj] at c0 c1 c2 d0 d1
      refine hsplit (fun e => ?_) (fun e => ?_) (fun e => ?_)
      · subst e
        rw [if_pos (by first | rfl | (rw [← Int32.toInt_inj]; omega))] at hb0
        rw [if_pos (by first | rfl | (rw [← Int32.toInt_inj]; omega))] at hb1
        rw [if_neg (by rw [← Int32.toInt_inj]; omega)] at hb2
        rw [if_neg (by rw [Int32.lt_iff_toInt_lt]; omega)] at hl0
        rw [if_neg (by rw [Int32.lt_iff_toInt_lt]; omega)] at hl1
        rw [if_pos (by rw [Int32.lt_iff_toInt_lt]; omega), if_neg (by rw [← Int32.toInt_inj]; omega), if_neg (by rw [← Int32.toInt_inj]; omega)] at hl2
        subst hb0 hb1 hb2 hl0 hl1 hl2
        exact Or.inr (Or.inr (Or.inr (Or.inr (Or.inr (Or.inr (Or.inr (Or.inr (Or.inr (Or.inr (Or.inr (Or.inr (Or.inr (Or.inr (Or.inr (Or.inr (Or.inr (Or.inr (Or.inr (Or.inr (Or.inr (Or.inr (Or.inr (Or.inr (Or.inr (Or.inr (Or.inr (Or.inr (Or.inr (Or.inl ⟨rfl, rfl, rfl, rfl, rfl, rfl, rfl, rfl, rfl, rfl, by decide, by decide, by decide⟩)))))))))))))))))))))))))))))
      · subst e
        rw [if_pos (by first | rfl | (rw [← Int32.toInt_inj]; omega))] at hb0
        rw [if_pos (by first | rfl | (rw [← Int32.toInt_inj]; omega))] at hb1
        rw [if_neg (by rw [← Int32.toInt_inj]; omega)] at hb2
        rw [if_neg (by rw [Int32.lt_iff_toInt_lt]; omega)] at hl0
        rw [if_neg (by rw [Int32.lt_iff_toInt_lt]; omega)] at hl1
        rw [if_pos (by rw [Int32.lt_iff_toInt_lt]; omega), if_neg (by rw [← Int32.toInt_inj]; omega), if_neg (by rw [← Int32.toInt_inj]; omega)] at hl2
        subst hb0 hb1 hb2 hl0 hl1 hl2
        exact Or.inr (Or.inr (Or.inr (Or.inr (Or.inr (Or.inr (Or.inr (Or.inr (Or.inr (Or.inr (Or.inr (Or.inr (Or.inr (Or.inr (Or.inr (Or.inr (Or.inr (Or.inr (Or.inr (Or.inr (Or.inr (Or.inr (Or.inr (Or.inr (Or.inr (Or.inr (Or.inr (Or.inr (Or.inr (Or.inl ⟨rfl, rfl, rfl, rfl, rfl, rfl, rfl, rfl, rfl, rfl, by decide, by decide, by decide⟩)))))))))))))))))))))))))))))
      · subst e
        rw [if_neg (by rw [← Int32.toInt_inj]; omega)] at hb0
        rw [if_neg (by rw [← Int32.toInt_inj]; omega)] at hb1
        rw [if_pos (by first | rfl | (rw [← Int32.toInt_inj]; omega))] at hb2
        rw [if_neg (by rw [Int32.lt_iff_toInt_lt]; omega)] at hl0
        rw [if_neg (by rw [Int32.lt_iff_toInt_lt]; omega)] at hl1
        rw [if_neg (by rw [Int32.lt_iff_toInt_lt]; omega)] at hl2
        subst hb0 hb1 hb2 hl0 hl1 hl2
        exact Or.inr (Or.inr (Or.inr (Or.inr (Or.inr (Or.inr (Or.inr (Or.inr (Or.inr (Or.inr (Or.inr (Or.inr (Or.inr (Or.inr (Or.inr (Or.inr (Or.inr (Or.inr (Or.inr (Or.inr (Or.inr (Or.inr (Or.inr (Or.inr (Or.inr (Or.inr (Or.inr (Or.inr (Or.inr (Or.inr (⟨rfl, rfl, rfl, rfl, rfl, rfl, rfl, rfl, rfl, rfl, by decide, by decide, by decide⟩))))))))))))))))))))))))))))))
    · simp only [Int32.lt_iff_toInt_lt, ← Int32.toInt_inj] at c0 c1 c2 d0 d1
      omega
theorem own_bldG {n0 n1 n2 z t1 t2 t3 g0 g1 g2 : Int32} (hb : own_bld n0 n1 n2 z t1 t2 t3 g0 g1 g2) : own_r3 g0 ∧ own_r3 g1 ∧ own_r3 g2 := by
  rcases own_tabOf hb (Or.inl rfl) rfl rfl rfl rfl rfl rfl with ⟨-, -, -, -, -, -, rfl, rfl, rfl, rfl, rfl, rfl, rfl⟩ | ⟨-, -, -, -, -, -, rfl, rfl, rfl, rfl, rfl, rfl, rfl⟩ | ⟨-, -, -, -, -, -, rfl, rfl, rfl, rfl, rfl, rfl, rfl⟩ | ⟨-, -, -, -, -, -, rfl, rfl, rfl, rfl, rfl, rfl, rfl⟩ | ⟨-, -, -, -, -, -, rfl, rfl, rfl, rfl, rfl, rfl, rfl⟩ | ⟨-, -, -, -, -, -, rfl, rfl, rfl, rfl, rfl, rfl, rfl⟩ | ⟨-, -, -, -, -, -, rfl, rfl, rfl, rfl, rfl, rfl, rfl⟩ | ⟨-, -, -, -, -, -, rfl, rfl, rfl, rfl, rfl, rfl, rfl⟩ | ⟨-, -, -, -, -, -, rfl, rfl, rfl, rfl, rfl, rfl, rfl⟩ | ⟨-, -, -, -, -, -, rfl, rfl, rfl, rfl, rfl, rfl, rfl⟩ | ⟨-, -, -, -, -, -, rfl, rfl, rfl, rfl, rfl, rfl, rfl⟩ | ⟨-, -, -, -, -, -, rfl, rfl, rfl, rfl, rfl, rfl, rfl⟩ | ⟨-, -, -, -, -, -, rfl, rfl, rfl, rfl, rfl, rfl, rfl⟩ | ⟨-, -, -, -, -, -, rfl, rfl, rfl, rfl, rfl, rfl, rfl⟩ | ⟨-, -, -, -, -, -, rfl, rfl, rfl, rfl, rfl, rfl, rfl⟩ | ⟨-, -, -, -, -, -, rfl, rfl, rfl, rfl, rfl, rfl, rfl⟩ | ⟨-, -, -, -, -, -, rfl, rfl, rfl, rfl, rfl, rfl, rfl⟩ | ⟨-, -, -, -, -, -, rfl, rfl, rfl, rfl, rfl, rfl, rfl⟩ | ⟨-, -, -, -, -, -, rfl, rfl, rfl, rfl, rfl, rfl, rfl⟩ | ⟨-, -, -, -, -, -, rfl, rfl, rfl, rfl, rfl, rfl, rfl⟩ | ⟨-, -, -, -, -, -, rfl, rfl, rfl, rfl, rfl, rfl, rfl⟩ | ⟨-, -, -, -, -, -, rfl, rfl, rfl, rfl, rfl, rfl, rfl⟩ | ⟨-, -, -, -, -, -, rfl, rfl, rfl, rfl, rfl, rfl, rfl⟩ | ⟨-, -, -, -, -, -, rfl, rfl, rfl, rfl, rfl, rfl, rfl⟩ | ⟨-, -, -, -, -, -, rfl, rfl, rfl, rfl, rfl, rfl, rfl⟩ | ⟨-, -, -, -, -, -, rfl, rfl, rfl, rfl, rfl, rfl, rfl⟩ | ⟨-, -, -, -, -, -, rfl, rfl, rfl, rfl, rfl, rfl, rfl⟩ | ⟨-, -, -, -, -, -, rfl, rfl, rfl, rfl, rfl, rfl, rfl⟩ | ⟨-, -, -, -, -, -, rfl, rfl, rfl, rfl, rfl, rfl, rfl⟩ | ⟨-, -, -, -, -, -, rfl, rfl, rfl, rfl, rfl, rfl, rfl⟩ | ⟨-, -, -, -, -, -, rfl, rfl, rfl, rfl, rfl, rfl, rfl⟩ <;> (unfold own_r3; decide)
theorem own_bldP {n0 n1 n2 t l0 l1 l2 la pl z t1 t2 t3 g0 g1 g2 : Int32} (hb : own_bld n0 n1 n2 z t1 t2 t3 g0 g1 g2) (ht : t = n0 ∨ t = n1 ∨ t = n2) (hl0 : (if n0 < t then (1 : Int32) else (0 : Int32)) = l0) (hl1 : (if n1 < t then (if n1 = n0 then (0 : Int32) else (1 : Int32)) else (0 : Int32)) = l1) (hl2 : (if n2 < t then (if n2 = n0 then (0 : Int32) else (if n2 = n1 then (0 : Int32) else (1 : Int32))) else (0 : Int32)) = l2) (hla : (l0 + l1) = la) (hpl : (la + l2) = pl) : own_j4 pl z ∧ own_j4 (pl + (1 : Int32)) z ∧ own_le (own_a4 (0 : Int32) t1 t2 t3 pl) (own_a4 (0 : Int32) t1 t2 t3 (pl + (1 : Int32))) := by
  have q := own_tabOf hb ht rfl rfl rfl hl0 hl1 hl2
  subst hpl hla
  clear hl0 hl1 hl2 hb
  obtain ⟨b0, eb0⟩ : ∃ z : Int32, (if n0 = t then (1 : Int32) else (0 : Int32)) = z := ⟨_, rfl⟩
  obtain ⟨b1, eb1⟩ : ∃ z : Int32, (if n1 = t then (1 : Int32) else (0 : Int32)) = z := ⟨_, rfl⟩
  obtain ⟨b2, eb2⟩ : ∃ z : Int32, (if n2 = t then (1 : Int32) else (0 : Int32)) = z := ⟨_, rfl⟩
  rw [eb0, eb1, eb2] at q
  rcases q with ⟨-, -, -, rfl, rfl, rfl, rfl, rfl, rfl, rfl, rfl, rfl, rfl⟩ | ⟨-, -, -, rfl, rfl, rfl, rfl, rfl, rfl, rfl, rfl, rfl, rfl⟩ | ⟨-, -, -, rfl, rfl, rfl, rfl, rfl, rfl, rfl, rfl, rfl, rfl⟩ | ⟨-, -, -, rfl, rfl, rfl, rfl, rfl, rfl, rfl, rfl, rfl, rfl⟩ | ⟨-, -, -, rfl, rfl, rfl, rfl, rfl, rfl, rfl, rfl, rfl, rfl⟩ | ⟨-, -, -, rfl, rfl, rfl, rfl, rfl, rfl, rfl, rfl, rfl, rfl⟩ | ⟨-, -, -, rfl, rfl, rfl, rfl, rfl, rfl, rfl, rfl, rfl, rfl⟩ | ⟨-, -, -, rfl, rfl, rfl, rfl, rfl, rfl, rfl, rfl, rfl, rfl⟩ | ⟨-, -, -, rfl, rfl, rfl, rfl, rfl, rfl, rfl, rfl, rfl, rfl⟩ | ⟨-, -, -, rfl, rfl, rfl, rfl, rfl, rfl, rfl, rfl, rfl, rfl⟩ | ⟨-, -, -, rfl, rfl, rfl, rfl, rfl, rfl, rfl, rfl, rfl, rfl⟩ | ⟨-, -, -, rfl, rfl, rfl, rfl, rfl, rfl, rfl, rfl, rfl, rfl⟩ | ⟨-, -, -, rfl, rfl, rfl, rfl, rfl, rfl, rfl, rfl, rfl, rfl⟩ | ⟨-, -, -, rfl, rfl, rfl, rfl, rfl, rfl, rfl, rfl, rfl, rfl⟩ | ⟨-, -, -, rfl, rfl, rfl, rfl, rfl, rfl, rfl, rfl, rfl, rfl⟩ | ⟨-, -, -, rfl, rfl, rfl, rfl, rfl, rfl, rfl, rfl, rfl, rfl⟩ | ⟨-, -, -, rfl, rfl, rfl, rfl, rfl, rfl, rfl, rfl, rfl, rfl⟩ | ⟨-, -, -, rfl, rfl, rfl, rfl, rfl, rfl, rfl, rfl, rfl, rfl⟩ | ⟨-, -, -, rfl, rfl, rfl, rfl, rfl, rfl, rfl, rfl, rfl, rfl⟩ | ⟨-, -, -, rfl, rfl, rfl, rfl, rfl, rfl, rfl, rfl, rfl, rfl⟩ | ⟨-, -, -, rfl, rfl, rfl, rfl, rfl, rfl, rfl, rfl, rfl, rfl⟩ | ⟨-, -, -, rfl, rfl, rfl, rfl, rfl, rfl, rfl, rfl, rfl, rfl⟩ | ⟨-, -, -, rfl, rfl, rfl, rfl, rfl, rfl, rfl, rfl, rfl, rfl⟩ | ⟨-, -, -, rfl, rfl, rfl, rfl, rfl, rfl, rfl, rfl, rfl, rfl⟩ | ⟨-, -, -, rfl, rfl, rfl, rfl, rfl, rfl, rfl, rfl, rfl, rfl⟩ | ⟨-, -, -, rfl, rfl, rfl, rfl, rfl, rfl, rfl, rfl, rfl, rfl⟩ | ⟨-, -, -, rfl, rfl, rfl, rfl, rfl, rfl, rfl, rfl, rfl, rfl⟩ | ⟨-, -, -, rfl, rfl, rfl, rfl, rfl, rfl, rfl, rfl, rfl, rfl⟩ | ⟨-, -, -, rfl, rfl, rfl, rfl, rfl, rfl, rfl, rfl, rfl, rfl⟩ | ⟨-, -, -, rfl, rfl, rfl, rfl, rfl, rfl, rfl, rfl, rfl, rfl⟩ | ⟨-, -, -, rfl, rfl, rfl, rfl, rfl, rfl, rfl, rfl, rfl, rfl⟩ <;> exact ⟨by unfold own_j4; decide, by unfold own_j4; decide, by unfold own_le own_a4; decide⟩
theorem own_nextF {nx en ps g0 g1 g2 v nx' ps' : Int32} (n : own_next nx en ps g0 g1 g2 v nx' ps') : v = (if nx = en then 0 else 1) ∧ nx' = (if nx = en then nx else nx + 1) ∧ ps' = (if nx = en then ps else if ps < 0 then own_a3 g0 g1 g2 nx else ps + own_a3 g0 g1 g2 nx) := by
  rcases n with ⟨e, rfl, rfl, rfl⟩ | ⟨e, rfl, rfl, ⟨p, rfl⟩ | ⟨p, rfl⟩⟩
  · simp [e]
  · simp [e, p]
  · simp [e, p]
def own_fin (b0 b1 b2 pl t1 t2 t3 g0 g1 g2 : Int32) : Prop :=
  let en := own_a4 0 t1 t2 t3 (pl + 1)
  let f := fun (nx ps : Int32) => if nx = en then ((0 : Int32), nx, ps) else ((1 : Int32), nx + 1, if ps < 0 then own_a3 g0 g1 g2 nx else ps + own_a3 g0 g1 g2 nx)
  let a := f (own_a4 0 t1 t2 t3 pl) (-1)
  let b := f a.2.1 a.2.2
  let c := f b.2.1 b.2.2
  let d := f c.2.1 c.2.2
  let cnt := ((if b0 = (0 : Int32) then (0 : Int32) else (1 : Int32)) + (if b1 = (0 : Int32) then (0 : Int32) else (1 : Int32))) + (if b2 = (0 : Int32) then (0 : Int32) else (1 : Int32))
  let e1 := if b0 = (0 : Int32) then (if b1 = (0 : Int32) then (2 : Int32) else (1 : Int32)) else (0 : Int32)
  let e2 := if b0 = (0 : Int32) then (2 : Int32) else (if b1 = (0 : Int32) then (2 : Int32) else (1 : Int32))
  ¬ a.1 = (0 : Int32) ∧ a.2.2 = e1 ∧ (cnt < (2 : Int32) → b.1 = (0 : Int32) ∧ c.1 = (0 : Int32) ∧ d.1 = (0 : Int32)) ∧ (¬ cnt < (2 : Int32) → b.1 = (1 : Int32) ∧ b.2.2 = e2) ∧ (¬ cnt < (2 : Int32) → cnt < (3 : Int32) → c.1 = (0 : Int32) ∧ d.1 = (0 : Int32)) ∧ (¬ cnt < (3 : Int32) → c.1 = (1 : Int32) ∧ c.2.2 = (2 : Int32) ∧ d.1 = (0 : Int32))
theorem own_nextE {nx en ps g0 g1 g2 v nx' ps' : Int32} (n : own_next nx en ps g0 g1 g2 v nx' ps') : (v, nx', ps') = if nx = en then ((0 : Int32), nx, ps) else ((1 : Int32), nx + 1, if ps < 0 then own_a3 g0 g1 g2 nx else ps + own_a3 g0 g1 g2 nx) := by
  obtain ⟨rfl, rfl, rfl⟩ := own_nextF n
  by_cases e : nx = en <;> simp [e]
theorem own_final {n0 n1 n2 t b0 b1 b2 w0 w1 w2 ca cnt l0 l1 l2 la pl e1 e2 z t1 t2 t3 g0 g1 g2 r1 r2 r3 r4 x1 x2 x3 x4 p1 p2 p3 p4 : Int32} (ht : t = n0 ∨ t = n1 ∨ t = n2) (hb0 : (if n0 = t then (1 : Int32) else (0 : Int32)) = b0) (hb1 : (if n1 = t then (1 : Int32) else (0 : Int32)) = b1) (hb2 : (if n2 = t then (1 : Int32) else (0 : Int32)) = b2) (hw0 : (if b0 = (0 : Int32) then (0 : Int32) else (1 : Int32)) = w0) (hw1 : (if b1 = (0 : Int32) then (0 : Int32) else (1 : Int32)) = w1) (hw2 : (if b2 = (0 : Int32) then (0 : Int32) else (1 : Int32)) = w2) (hca : (w0 + w1) = ca) (hcnt : (ca + w2) = cnt) (hl0 : (if n0 < t then (1 : Int32) else (0 : Int32)) = l0) (hl1 : (if n1 < t then (if n1 = n0 then (0 : Int32) else (1 : Int32)) else (0 : Int32)) = l1) (hl2 : (if n2 < t then (if n2 = n0 then (0 : Int32) else (if n2 = n1 then (0 : Int32) else (1 : Int32))) else (0 : Int32)) = l2) (hla : (l0 + l1) = la) (hpl : (la + l2) = pl) (he1 : (if b0 = (0 : Int32) then (if b1 = (0 : Int32) then (2 : Int32) else (1 : Int32)) else (0 : Int32)) = e1) (he2 : (if b0 = (0 : Int32) then (2 : Int32) else (if b1 = (0 : Int32) then (2 : Int32) else (1 : Int32))) = e2)
    (hb : own_bld n0 n1 n2 z t1 t2 t3 g0 g1 g2) (N1 : own_next (own_a4 (0 : Int32) t1 t2 t3 pl) (own_a4 (0 : Int32) t1 t2 t3 (pl + (1 : Int32))) (-1) g0 g1 g2 r1 x1 p1) (N2 : own_next x1 (own_a4 (0 : Int32) t1 t2 t3 (pl + (1 : Int32))) p1 g0 g1 g2 r2 x2 p2) (N3 : own_next x2 (own_a4 (0 : Int32) t1 t2 t3 (pl + (1 : Int32))) p2 g0 g1 g2 r3 x3 p3) (N4 : own_next x3 (own_a4 (0 : Int32) t1 t2 t3 (pl + (1 : Int32))) p3 g0 g1 g2 r4 x4 p4) : ¬ r1 = (0 : Int32) ∧ p1 = e1 ∧ (cnt < (2 : Int32) → r2 = (0 : Int32) ∧ r3 = (0 : Int32) ∧ r4 = (0 : Int32)) ∧ (¬ cnt < (2 : Int32) → r2 = (1 : Int32) ∧ p2 = e2) ∧ (¬ cnt < (2 : Int32) → cnt < (3 : Int32) → r3 = (0 : Int32) ∧ r4 = (0 : Int32)) ∧ (¬ cnt < (3 : Int32) → r3 = (1 : Int32) ∧ p3 = (2 : Int32) ∧ r4 = (0 : Int32)) := by
  have q := own_tabOf hb ht hb0 hb1 hb2 hl0 hl1 hl2
  clear hb0 hb1 hb2 hl0 hl1 hl2 hb ht
  have main : own_fin b0 b1 b2 pl t1 t2 t3 g0 g1 g2 := by
    subst hpl hla
    clear N1 N2 N3 N4 he1 he2 hcnt hca hw0 hw1 hw2
    rcases q with ⟨rfl, rfl, rfl, rfl, rfl, rfl, rfl, rfl, rfl, rfl, rfl, rfl, rfl⟩ | ⟨rfl, rfl, rfl, rfl, rfl, rfl, rfl, rfl, rfl, rfl, rfl, rfl, rfl⟩ | ⟨rfl, rfl, rfl, rfl, rfl, rfl, rfl, rfl, rfl, rfl, rfl, rfl, rfl⟩ | ⟨rfl, rfl, rfl, rfl, rfl, rfl, rfl, rfl, rfl, rfl, rfl, rfl, rfl⟩ | ⟨rfl, rfl, rfl, rfl, rfl, rfl, rfl, rfl, rfl, rfl, rfl, rfl, rfl⟩ | ⟨rfl, rfl, rfl, rfl, rfl, rfl, rfl, rfl, rfl, rfl, rfl, rfl, rfl⟩ | ⟨rfl, rfl, rfl, rfl, rfl, rfl, rfl, rfl, rfl, rfl, rfl, rfl, rfl⟩ | ⟨rfl, rfl, rfl, rfl, rfl, rfl, rfl, rfl, rfl, rfl, rfl, rfl, rfl⟩ | ⟨rfl, rfl, rfl, rfl, rfl, rfl, rfl, rfl, rfl, rfl, rfl, rfl, rfl⟩ | ⟨rfl, rfl, rfl, rfl, rfl, rfl, rfl, rfl, rfl, rfl, rfl, rfl, rfl⟩ | ⟨rfl, rfl, rfl, rfl, rfl, rfl, rfl, rfl, rfl, rfl, rfl, rfl, rfl⟩ | ⟨rfl, rfl, rfl, rfl, rfl, rfl, rfl, rfl, rfl, rfl, rfl, rfl, rfl⟩ | ⟨rfl, rfl, rfl, rfl, rfl, rfl, rfl, rfl, rfl, rfl, rfl, rfl, rfl⟩ | ⟨rfl, rfl, rfl, rfl, rfl, rfl, rfl, rfl, rfl, rfl, rfl, rfl, rfl⟩ | ⟨rfl, rfl, rfl, rfl, rfl, rfl, rfl, rfl, rfl, rfl, rfl, rfl, rfl⟩ | ⟨rfl, rfl, rfl, rfl, rfl, rfl, rfl, rfl, rfl, rfl, rfl, rfl, rfl⟩ | ⟨rfl, rfl, rfl, rfl, rfl, rfl, rfl, rfl, rfl, rfl, rfl, rfl, rfl⟩ | ⟨rfl, rfl, rfl, rfl, rfl, rfl, rfl, rfl, rfl, rfl, rfl, rfl, rfl⟩ | ⟨rfl, rfl, rfl, rfl, rfl, rfl, rfl, rfl, rfl, rfl, rfl, rfl, rfl⟩ | ⟨rfl, rfl, rfl, rfl, rfl, rfl, rfl, rfl, rfl, rfl, rfl, rfl, rfl⟩ | ⟨rfl, rfl, rfl, rfl, rfl, rfl, rfl, rfl, rfl, rfl, rfl, rfl, rfl⟩ | ⟨rfl, rfl, rfl, rfl, rfl, rfl, rfl, rfl, rfl, rfl, rfl, rfl, rfl⟩ | ⟨rfl, rfl, rfl, rfl, rfl, rfl, rfl, rfl, rfl, rfl, rfl, rfl, rfl⟩ | ⟨rfl, rfl, rfl, rfl, rfl, rfl, rfl, rfl, rfl, rfl, rfl, rfl, rfl⟩ | ⟨rfl, rfl, rfl, rfl, rfl, rfl, rfl, rfl, rfl, rfl, rfl, rfl, rfl⟩ | ⟨rfl, rfl, rfl, rfl, rfl, rfl, rfl, rfl, rfl, rfl, rfl, rfl, rfl⟩ | ⟨rfl, rfl, rfl, rfl, rfl, rfl, rfl, rfl, rfl, rfl, rfl, rfl, rfl⟩ | ⟨rfl, rfl, rfl, rfl, rfl, rfl, rfl, rfl, rfl, rfl, rfl, rfl, rfl⟩ | ⟨rfl, rfl, rfl, rfl, rfl, rfl, rfl, rfl, rfl, rfl, rfl, rfl, rfl⟩ | ⟨rfl, rfl, rfl, rfl, rfl, rfl, rfl, rfl, rfl, rfl, rfl, rfl, rfl⟩ | ⟨rfl, rfl, rfl, rfl, rfl, rfl, rfl, rfl, rfl, rfl, rfl, rfl, rfl⟩ <;> (unfold own_fin own_a4 own_a3; decide)
  have f1 := own_nextE N1
  have f2 := own_nextE N2
  have f3 := own_nextE N3
  have f4 := own_nextE N4
  subst hcnt hca hw0 hw1 hw2 he1 he2
  unfold own_fin at main
  dsimp only at main
  have g1 : ∀ {a : Int32 × Int32 × Int32} {v x p : Int32}, (v, x, p) = a → v = a.1 ∧ x = a.2.1 ∧ p = a.2.2 := fun {a v x p} h => by subst h; exact ⟨rfl, rfl, rfl⟩
  obtain ⟨a1, a2, a3⟩ := g1 f1
  rw [← a2, ← a3] at main
  obtain ⟨b1', b2', b3'⟩ := g1 f2
  rw [← b2', ← b3'] at main
  obtain ⟨c1', c2', c3'⟩ := g1 f3
  rw [← c2', ← c3'] at main
  obtain ⟨d1', d2', d3'⟩ := g1 f4
  rw [← a1, ← b1', ← c1', ← d1'] at main
  exact main
theorem own_mvMN {Z s : State} {a0 args : Array Value} {own host : String} {index : Nat} {y : MethodName} (hZ : Z.Warmed39 s.vm) (w : (Jvm.Cond.methodLinkNest own index y host).before a0 Z = true) : (Jvm.Cond.methodLinkNest own index y host).before args s = true := (Cond.methodLinkNest_wide hZ w :)
section Own2
variable {p : Program} {l : Launch} {e : Env} {R : Room} {s : State} {m : MethodId} {args : Array Value} {below : List Frame} {meth : Method} {c : Code} {T : State} {locs : List Loc} {cells slots : Nat} {Z : State} {h : Heap}
/-- a nest-mate's private method -/
theorem own_privNest (X : Stand p l e R s m args below meth c T locs cells slots) (hx : p.tables.exec = Jvm.exec) {own host : String} {index n : Nat} {y : MethodName} {bytes : ByteArray} {maxL : Nat} {ret : Option FieldType}
    (hown : s.vm.findClass own = some m.cls) (hlink : (Jvm.Cond.methodLinkNest own index y host).before args s = true) (hinst : (Jvm.Cond.instanceMethod y).before args s = true) (hcls : (Jvm.Cond.instantiable y.cls n).before args s = true)
    (hpriv : s.PrivateAt y) (hcode : (Jvm.Cond.code y bytes maxL ret).before args s = true) (hy : y.cls ≠ "java/lang/invoke/MethodHandle" ∧ y.cls ≠ "java/lang/invoke/VarHandle")
    {W : Nat} {Pre : Pt → Array Value → Prop} {Post : Pt → Array Value → Option Value → Pt → Prop} (hK : Back l R p e below s args y 3 W Pre Post)
    {g : JFrame} (hg : g.method = m) (hsize : g.locals.size = c.maxLocals) {s₀ : State} (hcome : Steps p.tables e below s₀ (T.setTop g)) {a : Addr} {cell : Cell} (hcell : T.heap[a]? = some cell) (hobj : ∀ q, cell.vm ≠ .statics q)
    {argsL rest : List Value} (hlen : ∀ sig, parseMethodDescriptor y.desc = some sig → argsL.length = sig.parameters.length)
    (hstack : g.stack = argsL.reverse ++ .ref a :: rest) (hW : 2 * g.monitorRoom + (rest.map fun v => v.category).sum ≤ W) (hdg : decode c.code g.pc = .ok (.invokevirtual index, 3))
    (hpre : ∀ vm₁, s.WarmedH vm₁ → Pre ⟨T.setVm vm₁, locs, cells, slots⟩ (.ref a :: argsL).toArray) :
    ∃ (v : Option Value) (vm₁ : Vm) (B : Pt), s.WarmedH vm₁ ∧ Stand p l e R s m args below meth c B.U B.locs B.cells B.slots ∧ Post ⟨T.setVm vm₁, locs, cells, slots⟩ (.ref a :: argsL).toArray v B ∧
      Steps p.tables e below s₀ (B.U.setTop { g with pc := g.pc + 3, stack := v.toList ++ rest }) := by
  obtain ⟨mk, mM, hn, hm, hs, hab⟩ := Cond.instanceMethod_spec hinst
  obtain ⟨mM', cM, hm', -, -, -, -, -, -, hsig⟩ := Cond.code_spec hn hcode
  cases hm.symm.trans hm'
  obtain ⟨ci, ki, i1, i2, -, i4, -⟩ := Cond.instantiable_spec hcls
  have ec : mk.cls = ci := Option.some.inj ((findClass_of_methodNamed hn).symm.trans i1)
  have hki : s.vm.classes[mk.cls]? = some ki := by rw [ec]; exact i2
  have hni : ki.isInterface = false := by simp only [Bool.or_eq_false_iff] at i4; exact i4.1
  obtain ⟨vm₁, X₁, st⟩ := X.invokevirtualNest hx hown hlink hn hm hs hki hni hy (a := a) (cell := cell) hcell hobj (selectMethod_private hm (hpriv mk mM hn hm)) hm hab hki hni (g := g) hg (argsL := argsL) (rest := rest) (hlen _ hsig) hstack hdg
  obtain ⟨v, B, X', hpost, go⟩ := hK m meth c ⟨T.setVm vm₁, locs, cells, slots⟩ { g with stack := rest } (.invokevirtual index) mk (.ref a :: argsL).toArray X₁ hg hsize hdg hW (X₁.named hn) (hpre vm₁ X₁.warmed)
  exact ⟨v, vm₁, B, X₁.warmed, X', hpost, (hcome.trans (st _ fun acts => by rw [doInvoke_state]; exact Steps.refl _)).trans go⟩
/-- a store into an int[3] at a place that is 0, 1 or 2 -/
theorem own_st3 (X : Stand p l e R s m args below meth c T locs cells slots) (hx : p.tables.exec = Jvm.exec) (hZ : Z.Warmed39 s.vm) (eT : T.heap = h) {a : Addr} {k : ClassId} {v0 v1 v2 : Int32} (V : Arv Z h a k .int (3 : Int32) [.int v0, .int v1, .int v2] (.int 0)) {j x : Int32} (hj : own_r3 j)
    {g : JFrame} (hg : g.method = m) {rest : List Value} (hs : g.stack = .int x :: .int j :: .ref a :: rest) (hd : decode c.code g.pc = .ok (.iastore, 1)) :
    ∃ (T' : State) (h' : Heap) (sl : Nat) (w0 w1 w2 : Int32), Stand p l e R s m args below meth c T' (locs ++ [⟨a, sl⟩]) cells slots ∧ T'.heap = h' ∧ Wr h h' a sl (.int x) ∧ Arv Z h' a k .int (3 : Int32) [.int w0, .int w1, .int w2] (.int 0) ∧
      ∀ target, Steps p.tables e below (T'.setTop { g with pc := g.pc + 1, stack := rest }) target → Steps p.tables e below (T.setTop g) target := by
  obtain ⟨cl, A, q, S, M, H, U⟩ := id V
  obtain ⟨T', h', X', e', W', st⟩ := stI X hx hZ eT A (j := j) (inb_of S (own_n3in hj)) (g := g) hg hs hd
  rcases hj with rfl | rfl | rfl
  · exact ⟨T', h', _, x, v1, v2, X', e', W', Arv.set A q S M H U rfl W' 0 rfl (Nat.le_of_ble_eq_true rfl), st⟩
  · exact ⟨T', h', _, v0, x, v2, X', e', W', Arv.set A q S M H U rfl W' 1 rfl (Nat.le_of_ble_eq_true rfl), st⟩
  · exact ⟨T', h', _, v0, v1, x, X', e', W', Arv.set A q S M H U rfl W' 2 rfl (Nat.le_of_ble_eq_true rfl), st⟩
end Own2
theorem own_d3a {n0 n1 n2 m0 r0 m1 r1 m2 r2 : Int32} (hp : own_perm n0 n1 n2 m0 r0 m1 r1 m2 r2) (e : m0 = m1) : own_r3 (r1 - r0) := by
  rcases hp with ⟨rfl, rfl, rfl, rfl, rfl, rfl, c0, c1⟩ | ⟨rfl, rfl, rfl, rfl, rfl, rfl, c0, c1⟩ | ⟨rfl, rfl, rfl, rfl, rfl, rfl, c0, c1, c2⟩ | ⟨rfl, rfl, rfl, rfl, rfl, rfl, c0, c1, c2⟩ | ⟨rfl, rfl, rfl, rfl, rfl, rfl, c0, c1, c2⟩ | ⟨rfl, rfl, rfl, rfl, rfl, rfl, c0, c1, c2⟩
  · unfold own_r3; decide
  · simp only [Int32.lt_iff_toInt_lt, ← Int32.toInt_inj] at c0 c1 e
    omega
  · unfold own_r3; decide
  · simp only [Int32.lt_iff_toInt_lt, ← Int32.toInt_inj] at c0 c1 c2 e
    omega
  · unfold own_r3; decide
  · simp only [Int32.lt_iff_toInt_lt, ← Int32.toInt_inj] at c0 c1 c2 e
    omega
theorem own_d3b {n0 n1 n2 m0 r0 m1 r1 m2 r2 : Int32} (hp : own_perm n0 n1 n2 m0 r0 m1 r1 m2 r2) (e : m1 = m2) : own_r3 (r2 - r1) := by
  rcases hp with ⟨rfl, rfl, rfl, rfl, rfl, rfl, c0, c1⟩ | ⟨rfl, rfl, rfl, rfl, rfl, rfl, c0, c1⟩ | ⟨rfl, rfl, rfl, rfl, rfl, rfl, c0, c1, c2⟩ | ⟨rfl, rfl, rfl, rfl, rfl, rfl, c0, c1, c2⟩ | ⟨rfl, rfl, rfl, rfl, rfl, rfl, c0, c1, c2⟩ | ⟨rfl, rfl, rfl, rfl, rfl, rfl, c0, c1, c2⟩
  · unfold own_r3; decide
  · unfold own_r3; decide
  · simp only [Int32.lt_iff_toInt_lt, ← Int32.toInt_inj] at c0 c1 c2 e
    omega
  · simp only [Int32.lt_iff_toInt_lt, ← Int32.toInt_inj] at c0 c1 c2 e
    omega
  · simp only [Int32.lt_iff_toInt_lt, ← Int32.toInt_inj] at c0 c1 c2 e
    omega
  · unfold own_r3; decide
def Q_rmB (Z : State) (a1 : Addr) (h0 : Heap) (vv : Option Value) (h : Heap) (L : List Loc) : Prop := ∃ (ks : Addr) (kk : ClassId), vv = none ∧ Fr Z.heap.size L ∧ Keep h0 h [a1] ∧ (h0.size ≤ ks) ∧ Exa Z h a1 "com/example/syntagma/syntagma/service/DocumentText$Builder" ∧ Fld Z h a1 "com/example/syntagma/syntagma/service/DocumentText$Builder" "keys" "[J" (.ref ks) ∧ Fld Z h a1 "com/example/syntagma/syntagma/service/DocumentText$Builder" "words" "I" (.int 0) ∧ Fld Z h a1 "com/example/syntagma/syntagma/service/DocumentText$Builder" "breakCount" "I" (.int 0) ∧ Fld Z h a1 "com/example/syntagma/syntagma/service/DocumentText$Builder" "sentences" "I" (.int 0) ∧ Arv Z h ks kk .long (256 : Int32) [] (.long 0)
theorem ef_rmB (m : MethodId) (x0 : Addr)   : entryFrame m #[(.ref x0)] 1 = mkF m 0 #[.val (.ref x0)] [] := by first | rfl | (simp [entryFrame, mkF, argsToLocals, Value.category]; done)
set_option maxRecDepth 65536 in
set_option maxHeartbeats 40000000 in
theorem rmB (l : Launch) (Z : State) (a0 : Array Value) (hw : ∀ d ∈ tables_1, d.before a0 Z = true) (ws : List Jvm.Cond) (a1 : Addr) (h0 : Heap) (Z0 : Z.heap.size ≤ h0.size) (lo_a1 : Z.heap.size ≤ a1) (E_a1 : Exa Z h0 a1 "com/example/syntagma/syntagma/service/DocumentText$Builder") (Fk : Fld Z h0 a1 "com/example/syntagma/syntagma/service/DocumentText$Builder" "keys" "[J" .null) (Fb : Fld Z h0 a1 "com/example/syntagma/syntagma/service/DocumentText$Builder" "breakPositions" "[I" .null) (Fw : Fld Z h0 a1 "com/example/syntagma/syntagma/service/DocumentText$Builder" "words" "I" (.int 0)) (F_breakCount : Fld Z h0 a1 "com/example/syntagma/syntagma/service/DocumentText$Builder" "breakCount" "I" (.int 0)) (F_sentences : Fld Z h0 a1 "com/example/syntagma/syntagma/service/DocumentText$Builder" "sentences" "I" (.int 0)) :
    MetFree l yM0 (head1 (Jvm.Cond.code yM0 prog_210_method_1_code 1 none :: ws) ({ frames := 1, cells := 2, slots := 272, locals := 12 } : Room)) (fun a U => a = #[(.ref a1)] ∧ Z.Warmed39 U.vm ∧ U.heap = h0) (fun _ _ _ _ _ => True) (fun _ U o U' => ∃ v L, o = .returned v ∧ Q_rmB Z a1 h0 v U'.heap L ∧ FrameEnd U o U' L ({ frames := 1, cells := 2, slots := 272, locals := 12 } : Room).cells ({ frames := 1, cells := 2, slots := 272, locals := 12 } : Room).slots) := by
  refine MetFree.of_bodySF (plainFor_of_name (by first | (simp [plainName, overriddenIn]; done) | decide +kernel)) hisR ?_
  intro p e s m args below meth c s₁ Bd hml0 hP hK
  obtain ⟨rfl, hZ0', hh⟩ := hP
  have hx := Bd.exec
  have hby := Bd.bytes
  have hml : c.maxLocals = 1 := hml0
  have hZ0 : Z.Warmed39 s.vm := hZ0'
  have hown0 : s.vm.findClass "com/example/syntagma/syntagma/service/DocumentText$Builder" = some m.cls := findClass_of_methodNamed Bd.named
  have hnm := (name_of_methodNamed Bd.named Bd.method).1
  have hlk : meth.locks = false := Bd.notSynchronized
  have X0 : Stand p l e ({ frames := 1, cells := 2, slots := 272, locals := 12 } : Room) s m #[(.ref a1)] below meth c s₁ [] 0 0 := Stand.of_body Bd
  have e0 : s₁.heap = h0 := by rw [← hh, Bd.state]; rfl
  have N0 := Fr.nil Z.heap.size
  have KP0 : Keep h0 h0 ([a1] : List Addr) := Keep.refl _ _
  show Go p e below (fun t o => ∃ v L, o = .returned v ∧ Q_rmB Z a1 h0 v t.heap L ∧ FrameEnd s o t L ({ frames := 1, cells := 2, slots := 272, locals := 12 } : Room).cells ({ frames := 1, cells := 2, slots := 272, locals := 12 } : Room).slots) (s₁.setTop (entryFrame m #[(.ref a1)] 1))
  refine Go.on (w := s₁.setTop (mkF m 0 #[rv a1] [])) (fun t k => castTop (ef_rmB m a1) k) ?_
  have u_a1 : h0.size > a1 := E_a1.lt
  obtain ⟨T1, X1, e1, st1⟩ := initO X0 hx hZ0 hown0 (w_7 hw) (w_8 hw) (w_9 hw) e0 (g := (mkF m 1 #[rv a1] [(.ref a1)])) rfl (by rw [hml]; rfl) rfl (hb hby d0_1) (by decide) (W := 0) (by show 2 * 0 + _ ≤ _; exact Nat.le_of_eq rfl) (by decide)
  obtain ⟨T2, h2, k2, X2, e2, E2, A2, st2⟩ := newP (aty := .long) X1 hx hZ0 (w_10 hw) e1 (g := (mkF m 8 #[rv a1] [(.int 256), (.ref a1)])) rfl (hb hby d0_8) rfl (by decide : ¬ ((256 : Int32) < (0 : Int32))) (cap := 256) (by decide) (by decide) (by decide) (by decide)
  obtain ⟨b2, g2⟩ : ∃ z, z = h0.size := ⟨_, rfl⟩
  rw [← g2] at A2 st2
  have V2 : Arv Z h2 b2 k2 .long (256 : Int32) [] (.long 0) := Arv.new A2 (by decide : ¬ ((256 : Int32) < (0 : Int32)))
  have u2 : h2.size > b2 := V2.lt
  have z2 : h0.size ≤ h2.size := E2.1
  have KP2 : Keep h0 h2 ([a1] : List Addr) := KP0.ext E2
  have F3 := (E_a1.ext E2)
  have F4 := (Fk.ext E2)
  obtain ⟨T5, h5, X5, e5, W5, st5⟩ := putF X2 hx hZ0 hown0 (host := "") (Or.inl (w_11 hw)) Via.refl e2 F4 F3 (Or.inl (w_12 hw)) (w_2 hw) (ty := (.array .long)) (by decide) rfl rfl (g := (mkF m 10 #[rv a1] [(.ref b2), (.ref a1)])) rfl rfl (hb hby d0_10)
  have z5 : h2.size ≤ h5.size := Nat.le_of_eq W5.size.symm
  have KP5 : Keep h0 h5 ([a1] : List Addr) := KP2.wr W5 (Or.inl (List.mem_of_getElem? (i := 0) rfl))
  have N5 := Fr.snoc X5 N0 (by omega)
  have Fw5 := F4.same W5
  obtain ⟨T6, h6, k6, X6, e6, E6, A6, st6⟩ := newP (aty := .int) X5 hx hZ0 (w_13 hw) e5 (g := (mkF m 16 #[rv a1] [(.int 16), (.ref a1)])) rfl (hb hby d0_16) rfl (by decide : ¬ ((16 : Int32) < (0 : Int32))) (cap := 16) (by decide) (by decide) (by decide) (by decide)
  obtain ⟨b6, g6⟩ : ∃ z, z = h5.size := ⟨_, rfl⟩
  rw [← g6] at A6 st6
  have V6 : Arv Z h6 b6 k6 .int (16 : Int32) [(.int 0), (.int 0), (.int 0), (.int 0), (.int 0), (.int 0), (.int 0), (.int 0), (.int 0), (.int 0), (.int 0), (.int 0), (.int 0), (.int 0), (.int 0), (.int 0)] (.int 0) := (Arv.new A6 (by decide : ¬ ((16 : Int32) < (0 : Int32)))).pad (pad_rep [] (.int 0) 16)
  have u6 : h6.size > b6 := V6.lt
  have z6 : h5.size ≤ h6.size := E6.1
  have KP6 : Keep h0 h6 ([a1] : List Addr) := KP5.ext E6
  have F7 := ((F3.wr W5).ext E6)
  have F8 := (((Fb.ext E2).other W5 (Or.inr (slot_ne (Or.inl (w_15 hw)) (Or.inl (w_12 hw)) (by decide) (t := (.array .int)) (t' := (.array .long)) (by decide) (by decide)))).ext E6)
  obtain ⟨T9, h9, X9, e9, W9, st9⟩ := putF X6 hx hZ0 hown0 (host := "") (Or.inl (w_14 hw)) Via.refl e6 F8 F7 (Or.inl (w_15 hw)) (w_2 hw) (ty := (.array .int)) (by decide) rfl rfl (g := (mkF m 18 #[rv a1] [(.ref b6), (.ref a1)])) rfl rfl (hb hby d0_18)
  have z9 : h6.size ≤ h9.size := Nat.le_of_eq W9.size.symm
  have KP9 : Keep h0 h9 ([a1] : List Addr) := KP6.wr W9 (Or.inl (List.mem_of_getElem? (i := 0) rfl))
  have N9 := Fr.snoc X9 N5 (by omega)
  have Fw9 := F8.same W9
  have F10 := (F7.wr W9)
  have F11 := ((Fw5.ext E6).other W9 (Or.inr (slot_ne (Or.inl (w_12 hw)) (Or.inl (w_15 hw)) (by decide) (t := (.array .long)) (t' := (.array .int)) (by decide) (by decide))))
  have F12 := ((((Fw.ext E2).other W5 (Or.inr (slot_ne (Or.inl (w_22 hw)) (Or.inl (w_12 hw)) (by decide) (t := .int) (t' := (.array .long)) (by decide) (by decide)))).ext E6).other W9 (Or.inr (slot_ne (Or.inl (w_22 hw)) (Or.inl (w_15 hw)) (by decide) (t := .int) (t' := (.array .int)) (by decide) (by decide))))
  have F13 := ((((F_breakCount.ext E2).other W5 (Or.inr (slot_ne (Or.inl (w_54 hw)) (Or.inl (w_12 hw)) (by decide) (t := .int) (t' := (.array .long)) (by decide) (by decide)))).ext E6).other W9 (Or.inr (slot_ne (Or.inl (w_54 hw)) (Or.inl (w_15 hw)) (by decide) (t := .int) (t' := (.array .int)) (by decide) (by decide))))
  have F14 := ((((F_sentences.ext E2).other W5 (Or.inr (slot_ne (Or.inl (w_59 hw)) (Or.inl (w_12 hw)) (by decide) (t := .int) (t' := (.array .long)) (by decide) (by decide)))).ext E6).other W9 (Or.inr (slot_ne (Or.inl (w_59 hw)) (Or.inl (w_15 hw)) (by decide) (t := .int) (t' := (.array .int)) (by decide) (by decide))))
  have F15 := (((V2.other W5 (show @Ne Nat b2 a1 by omega)).ext E6).other W9 (show @Ne Nat b2 a1 by omega))
  refine Go.on (w := T9.setTop (mkF m 21 #[rv a1] [])) (fun t k => XS.aloadN X0.here hx rfl (hb hby d0_0) rfl rfl (st1 _ (XS.aloadN X1.here hx rfl (hb hby d0_4) rfl rfl (XS.sipush X1.here hx rfl (hb hby d0_5) (st2 _ (st5 _ (XS.aloadN X5.here hx rfl (hb hby d0_13) rfl rfl (XS.bipush X5.here hx rfl (hb hby d0_14) (st6 _ (st9 _ k)))))))))) ?_
  refine Go.finH X9 hlk (v := none) (fun _ => rfl) (fun fs hr => ?_) (endH (Q := Q_rmB Z a1 h0) (by rw [e9]; exact ⟨b2, k2, rfl, N9, KP9, (by omega), F10, F11, F12, F13, F14, F15⟩) (by decide) (by decide))
  exact X9.returnOut hx Bd.returns (hb hby d0_21) hr
def Q_rmAdd0 (Z : State) (a1 : Addr) (i1 : Int32) (ks : Addr) (kk : ClassId) (h0 : Heap) (vv : Option Value) (h : Heap) (L : List Loc) : Prop := vv = none ∧ Fr Z.heap.size L ∧ Keep h0 h [a1, ks] ∧ Exa Z h a1 "com/example/syntagma/syntagma/service/DocumentText$Builder" ∧ Fld Z h a1 "com/example/syntagma/syntagma/service/DocumentText$Builder" "keys" "[J" (.ref ks) ∧ Fld Z h a1 "com/example/syntagma/syntagma/service/DocumentText$Builder" "words" "I" (.int 1) ∧ Fld Z h a1 "com/example/syntagma/syntagma/service/DocumentText$Builder" "breakCount" "I" (.int 0) ∧ Fld Z h a1 "com/example/syntagma/syntagma/service/DocumentText$Builder" "sentences" "I" (.int 0) ∧ Arv Z h ks kk .long (256 : Int32) [(.long (own_key i1 (0 : Int64)))] (.long 0)
theorem ef_rmAdd0 (m : MethodId) (x0 : Addr) (x1 : Int32)   : entryFrame m #[(.ref x0), (.int x1)] 2 = mkF m 0 #[.val (.ref x0), .val (.int x1)] [] := by first | rfl | (simp [entryFrame, mkF, argsToLocals, Value.category]; done)
set_option maxRecDepth 65536 in
set_option maxHeartbeats 40000000 in
theorem rmAdd0 (l : Launch) (Z : State) (a0 : Array Value) (hw : ∀ d ∈ tables_1, d.before a0 Z = true) (ws : List Jvm.Cond) (a1 : Addr) (i1 : Int32) (ks : Addr) (kk : ClassId) (h0 : Heap) (Z0 : Z.heap.size ≤ h0.size) (lo_a1 : Z.heap.size ≤ a1) (lo_ks : Z.heap.size ≤ ks) (ne_a1_ks : a1 ≠ ks) (E_a1 : Exa Z h0 a1 "com/example/syntagma/syntagma/service/DocumentText$Builder") (Fk : Fld Z h0 a1 "com/example/syntagma/syntagma/service/DocumentText$Builder" "keys" "[J" (.ref ks)) (Fw : Fld Z h0 a1 "com/example/syntagma/syntagma/service/DocumentText$Builder" "words" "I" (.int 0)) (F_breakCount : Fld Z h0 a1 "com/example/syntagma/syntagma/service/DocumentText$Builder" "breakCount" "I" (.int 0)) (F_sentences : Fld Z h0 a1 "com/example/syntagma/syntagma/service/DocumentText$Builder" "sentences" "I" (.int 0)) (Vk : Arv Z h0 ks kk .long (256 : Int32) [] (.long 0)) :
    MetFree l yM2 (head1 (Jvm.Cond.code yM2 prog_210_method_2_code 2 none :: ws) ({ frames := 0, cells := 0, slots := 0, locals := 0 } : Room)) (fun a U => a = #[(.ref a1), (.int i1)] ∧ Z.Warmed39 U.vm ∧ U.heap = h0) (fun _ _ _ _ _ => True) (fun _ U o U' => ∃ v L, o = .returned v ∧ Q_rmAdd0 Z a1 i1 ks kk h0 v U'.heap L ∧ FrameEnd U o U' L ({ frames := 0, cells := 0, slots := 0, locals := 0 } : Room).cells ({ frames := 0, cells := 0, slots := 0, locals := 0 } : Room).slots) := by
  refine MetFree.of_bodySF (plainFor_of_name (by first | (simp [plainName, overriddenIn]; done) | decide +kernel)) hisR ?_
  intro p e s m args below meth c s₁ Bd hml0 hP hK
  obtain ⟨rfl, hZ0', hh⟩ := hP
  have hx := Bd.exec
  have hby := Bd.bytes
  have hml : c.maxLocals = 2 := hml0
  have hZ0 : Z.Warmed39 s.vm := hZ0'
  have hown0 : s.vm.findClass "com/example/syntagma/syntagma/service/DocumentText$Builder" = some m.cls := findClass_of_methodNamed Bd.named
  have hnm := (name_of_methodNamed Bd.named Bd.method).1
  have hlk : meth.locks = false := Bd.notSynchronized
  have X0 : Stand p l e ({ frames := 0, cells := 0, slots := 0, locals := 0 } : Room) s m #[(.ref a1), (.int i1)] below meth c s₁ [] 0 0 := Stand.of_body Bd
  have e0 : s₁.heap = h0 := by rw [← hh, Bd.state]; rfl
  have N0 := Fr.nil Z.heap.size
  have KP0 : Keep h0 h0 ([a1, ks] : List Addr) := Keep.refl _ _
  show Go p e below (fun t o => ∃ v L, o = .returned v ∧ Q_rmAdd0 Z a1 i1 ks kk h0 v t.heap L ∧ FrameEnd s o t L ({ frames := 0, cells := 0, slots := 0, locals := 0 } : Room).cells ({ frames := 0, cells := 0, slots := 0, locals := 0 } : Room).slots) (s₁.setTop (entryFrame m #[(.ref a1), (.int i1)] 2))
  refine Go.on (w := s₁.setTop (mkF m 0 #[rv a1, iv i1] [])) (fun t k => castTop (ef_rmAdd0 m a1 i1) k) ?_
  have u_a1 : h0.size > a1 := E_a1.lt
  have u_ks : h0.size > ks := Vk.lt
  obtain ⟨T16, X16, e16, st16⟩ := getF X0 hx hZ0 hown0 (host := "") (Or.inl (w_21 hw)) Via.refl e0 Fw (g := (mkF m 1 #[rv a1, iv i1] [(.ref a1)])) rfl rfl (hb hby d1_1)
  obtain ⟨T17, X17, e17, st17⟩ := getF X16 hx hZ0 hown0 (host := "") (Or.inl (w_11 hw)) Via.refl e16 Fk (g := (mkF m 5 #[rv a1, iv i1] [(.ref a1), (.int 0)])) rfl rfl (hb hby d1_5)
  obtain ⟨cl18, Ar18, q18, S18, M18, H18, U18⟩ := id Vk
  refine Go.on (w := T17.setTop (mkF m 8 #[rv a1, iv i1] [(.ref ks), (.int 0)])) (fun t k => XS.aloadN X0.here hx rfl (hb hby d1_0) rfl rfl (st16 _ (XS.aloadN X16.here hx rfl (hb hby d1_4) rfl rfl (st17 _ k)))) ?_
  refine Go.on (w := T17.setTop (mkF m 9 #[rv a1, iv i1] [(.int 256), (.int 0)])) (fun t k => X17.arraylength hx (by rw [e17]; exact Ar18.1) (State.isArrayOf_alike hZ0.alike Ar18.2.1) (g := (mkF m 8 #[rv a1, iv i1] [(.ref ks), (.int 0)])) rfl rfl (hb hby d1_8) _ (by rw [len_of S18 M18]; exact k)) ?_
  obtain ⟨T19, X19, e19, st19⟩ := getF X17 hx hZ0 hown0 (host := "") (Or.inl (w_11 hw)) Via.refl e17 Fk (g := (mkF m 30 #[rv a1, iv i1] [(.ref a1)])) rfl rfl (hb hby d1_30)
  obtain ⟨T20, X20, e20, st20⟩ := getF X19 hx hZ0 hown0 (host := "") (Or.inl (w_21 hw)) Via.refl e19 Fw (g := (mkF m 34 #[rv a1, iv i1] [(.ref a1), (.ref ks)])) rfl rfl (hb hby d1_34)
  obtain ⟨T21, X21, e21, st21⟩ := getF X20 hx hZ0 hown0 (host := "") (Or.inl (w_21 hw)) Via.refl e20 Fw (g := (mkF m 43 #[rv a1, iv i1] [(.ref a1), (.long ((i1.toInt64) <<< ((32 : Int32) &&& 0x3f).toInt64)), (.int 0), (.ref ks)])) rfl rfl (hb hby d1_43)
  refine Go.on (w := T21.setTop (mkF m 46 #[rv a1, iv i1] [(.int 0), (.long ((i1.toInt64) <<< ((32 : Int32) &&& 0x3f).toInt64)), (.int 0), (.ref ks)])) (fun t k => XS.icmpYes X17.here hx rfl (pc0 := 9) (pc' := 29) rfl (hb hby d1_9) rfl (feq (by decide : ¬ ((0 : Int32) = (256 : Int32)))).2 (by decide) (by decide) (XS.aloadN X17.here hx rfl (hb hby d1_29) rfl rfl (st19 _ (XS.aloadN X19.here hx rfl (hb hby d1_33) rfl rfl (st20 _ (XS.iloadN X20.here hx rfl (hb hby d1_37) rfl (XS.i2l X20.here hx rfl (hb hby d1_38) rfl (XS.bipush X20.here hx rfl (hb hby d1_39) (XS.lshl X20.here hx rfl (hb hby d1_41) rfl (XS.aloadN X20.here hx rfl (hb hby d1_42) rfl rfl (st21 _ k))))))))))) ?_
  refine Go.on (w := T21.setTop (mkF m 47 #[rv a1, iv i1] [(.long 0), (.long ((i1.toInt64) <<< ((32 : Int32) &&& 0x3f).toInt64)), (.int 0), (.ref ks)])) (fun t k => XS.i2l X21.here hx rfl (hb hby d1_46) rfl (by rw [(by decide : ((0 : Int32).toInt64) = (0 : Int64))]; exact k)) ?_
  refine Go.on (w := T21.setTop (mkF m 48 #[rv a1, iv i1] [(.long (own_key i1 (0 : Int64))), (.int 0), (.ref ks)])) (fun t k => XS.lor X21.here hx rfl (hb hby d1_47) rfl (by rw [(rfl : (((i1.toInt64) <<< ((32 : Int32) &&& 0x3f).toInt64) ||| (0 : Int64)) = (own_key i1 (0 : Int64)))]; exact k)) ?_
  have V23 : Arv Z h0 ks kk .long (256 : Int32) [(.long 0)] (.long 0) := Vk.pad (pad_rep [] (.long 0) 1)
  obtain ⟨cl22, Ar22, q22, S22, M22, H22, U22⟩ := id V23
  obtain ⟨T22, h22, X22, e22, W22, st22⟩ := stJ X21 hx hZ0 e21 Ar22 (j := (0 : Int32)) (inb_of S22 ⟨(by decide), (by decide)⟩) (g := (mkF m 48 #[rv a1, iv i1] [(.long (own_key i1 (0 : Int64))), (.int 0), (.ref ks)])) rfl rfl (hb hby d1_48)
  have V22 : Arv Z h22 ks kk .long (256 : Int32) [(.long (own_key i1 (0 : Int64)))] (.long 0) := (Arv.set Ar22 q22 S22 M22 H22 U22 rfl W22 0 rfl (Nat.le_of_ble_eq_true rfl))
  have z22 : h0.size ≤ h22.size := Nat.le_of_eq W22.size.symm
  have KP22 : Keep h0 h22 ([a1, ks] : List Addr) := KP0.wr W22 (Or.inl (List.mem_of_getElem? (i := 1) rfl))
  have N22 := Fr.snoc X22 N0 (by omega)
  have F24 := (Fw.other W22 (Or.inl ne_a1_ks))
  obtain ⟨T25, X25, e25, st25⟩ := getF X22 hx hZ0 hown0 (host := "") (Or.inl (w_21 hw)) Via.refl e22 F24 (g := (mkF m 51 #[rv a1, iv i1] [(.ref a1), (.ref a1)])) rfl rfl (hb hby d1_51)
  refine Go.on (w := T25.setTop (mkF m 55 #[rv a1, iv i1] [(.int 1), (.int 0), (.ref a1)])) (fun t k => st22 _ (XS.aloadN X22.here hx rfl (hb hby d1_49) rfl rfl (XS.dup X22.here hx rfl (hb hby d1_50) rfl rfl (st25 _ (XS.iconst X25.here hx rfl (hb hby d1_54) k))))) ?_
  refine Go.on (w := T25.setTop (mkF m 56 #[rv a1, iv i1] [(.int 1), (.ref a1)])) (fun t k => XS.iadd X25.here hx rfl (hb hby d1_55) rfl (by rw [(by decide : ((0 : Int32) + (1 : Int32)) = (1 : Int32))]; exact k)) ?_
  have F26 := (E_a1.wr W22)
  obtain ⟨T27, h27, X27, e27, W27, st27⟩ := putF X25 hx hZ0 hown0 (host := "") (Or.inl (w_21 hw)) Via.refl e25 F24 F26 (Or.inl (w_22 hw)) (w_2 hw) (ty := .int) (by decide) rfl rfl (g := (mkF m 56 #[rv a1, iv i1] [(.int 1), (.ref a1)])) rfl rfl (hb hby d1_56)
  have z27 : h22.size ≤ h27.size := Nat.le_of_eq W27.size.symm
  have KP27 : Keep h0 h27 ([a1, ks] : List Addr) := KP22.wr W27 (Or.inl (List.mem_of_getElem? (i := 0) rfl))
  have N27 := Fr.snoc X27 N22 (by omega)
  have Fw27 := F24.same W27
  have F28 := (F26.wr W27)
  have F29 := ((Fk.other W22 (Or.inl ne_a1_ks)).other W27 (Or.inr (slot_ne (Or.inl (w_12 hw)) (Or.inl (w_22 hw)) (by decide) (t := (.array .long)) (t' := .int) (by decide) (by decide))))
  have F30 := ((F_breakCount.other W22 (Or.inl ne_a1_ks)).other W27 (Or.inr (slot_ne (Or.inl (w_54 hw)) (Or.inl (w_22 hw)) (by decide) (t := .int) (t' := .int) (by decide) (by decide))))
  have F31 := ((F_sentences.other W22 (Or.inl ne_a1_ks)).other W27 (Or.inr (slot_ne (Or.inl (w_59 hw)) (Or.inl (w_22 hw)) (by decide) (t := .int) (t' := .int) (by decide) (by decide))))
  have F32 := (V22.other W27 (Ne.symm ne_a1_ks))
  refine Go.on (w := T27.setTop (mkF m 59 #[rv a1, iv i1] [])) (fun t k => st27 _ k) ?_
  refine Go.finH X27 hlk (v := none) (fun _ => rfl) (fun fs hr => ?_) (endH (Q := Q_rmAdd0 Z a1 i1 ks kk h0) (by rw [e27]; exact ⟨rfl, N27, KP27, F28, F29, Fw27, F30, F31, F32⟩) (by decide) (by decide))
  exact X27.returnOut hx Bd.returns (hb hby d1_59) hr
def Q_rmAdd1 (Z : State) (a1 : Addr) (i1 : Int32) (ks : Addr) (kk : ClassId) (q0 : Int64) (h0 : Heap) (vv : Option Value) (h : Heap) (L : List Loc) : Prop := vv = none ∧ Fr Z.heap.size L ∧ Keep h0 h [a1, ks] ∧ Exa Z h a1 "com/example/syntagma/syntagma/service/DocumentText$Builder" ∧ Fld Z h a1 "com/example/syntagma/syntagma/service/DocumentText$Builder" "keys" "[J" (.ref ks) ∧ Fld Z h a1 "com/example/syntagma/syntagma/service/DocumentText$Builder" "words" "I" (.int 2) ∧ Fld Z h a1 "com/example/syntagma/syntagma/service/DocumentText$Builder" "breakCount" "I" (.int 0) ∧ Fld Z h a1 "com/example/syntagma/syntagma/service/DocumentText$Builder" "sentences" "I" (.int 0) ∧ Arv Z h ks kk .long (256 : Int32) [(.long q0), (.long (own_key i1 (1 : Int64)))] (.long 0)
theorem ef_rmAdd1 (m : MethodId) (x0 : Addr) (x1 : Int32)   : entryFrame m #[(.ref x0), (.int x1)] 2 = mkF m 0 #[.val (.ref x0), .val (.int x1)] [] := by first | rfl | (simp [entryFrame, mkF, argsToLocals, Value.category]; done)
set_option maxRecDepth 65536 in
set_option maxHeartbeats 40000000 in
theorem rmAdd1 (l : Launch) (Z : State) (a0 : Array Value) (hw : ∀ d ∈ tables_1, d.before a0 Z = true) (ws : List Jvm.Cond) (a1 : Addr) (i1 : Int32) (ks : Addr) (kk : ClassId) (q0 : Int64) (h0 : Heap) (Z0 : Z.heap.size ≤ h0.size) (lo_a1 : Z.heap.size ≤ a1) (lo_ks : Z.heap.size ≤ ks) (ne_a1_ks : a1 ≠ ks) (E_a1 : Exa Z h0 a1 "com/example/syntagma/syntagma/service/DocumentText$Builder") (Fk : Fld Z h0 a1 "com/example/syntagma/syntagma/service/DocumentText$Builder" "keys" "[J" (.ref ks)) (Fw : Fld Z h0 a1 "com/example/syntagma/syntagma/service/DocumentText$Builder" "words" "I" (.int 1)) (F_breakCount : Fld Z h0 a1 "com/example/syntagma/syntagma/service/DocumentText$Builder" "breakCount" "I" (.int 0)) (F_sentences : Fld Z h0 a1 "com/example/syntagma/syntagma/service/DocumentText$Builder" "sentences" "I" (.int 0)) (Vk : Arv Z h0 ks kk .long (256 : Int32) [(.long q0)] (.long 0)) :
    MetFree l yM2 (head1 (Jvm.Cond.code yM2 prog_210_method_2_code 2 none :: ws) ({ frames := 0, cells := 0, slots := 0, locals := 0 } : Room)) (fun a U => a = #[(.ref a1), (.int i1)] ∧ Z.Warmed39 U.vm ∧ U.heap = h0) (fun _ _ _ _ _ => True) (fun _ U o U' => ∃ v L, o = .returned v ∧ Q_rmAdd1 Z a1 i1 ks kk q0 h0 v U'.heap L ∧ FrameEnd U o U' L ({ frames := 0, cells := 0, slots := 0, locals := 0 } : Room).cells ({ frames := 0, cells := 0, slots := 0, locals := 0 } : Room).slots) := by
  refine MetFree.of_bodySF (plainFor_of_name (by first | (simp [plainName, overriddenIn]; done) | decide +kernel)) hisR ?_
  intro p e s m args below meth c s₁ Bd hml0 hP hK
  obtain ⟨rfl, hZ0', hh⟩ := hP
  have hx := Bd.exec
  have hby := Bd.bytes
  have hml : c.maxLocals = 2 := hml0
  have hZ0 : Z.Warmed39 s.vm := hZ0'
  have hown0 : s.vm.findClass "com/example/syntagma/syntagma/service/DocumentText$Builder" = some m.cls := findClass_of_methodNamed Bd.named
  have hnm := (name_of_methodNamed Bd.named Bd.method).1
  have hlk : meth.locks = false := Bd.notSynchronized
  have X0 : Stand p l e ({ frames := 0, cells := 0, slots := 0, locals := 0 } : Room) s m #[(.ref a1), (.int i1)] below meth c s₁ [] 0 0 := Stand.of_body Bd
  have e0 : s₁.heap = h0 := by rw [← hh, Bd.state]; rfl
  have N0 := Fr.nil Z.heap.size
  have KP0 : Keep h0 h0 ([a1, ks] : List Addr) := Keep.refl _ _
  show Go p e below (fun t o => ∃ v L, o = .returned v ∧ Q_rmAdd1 Z a1 i1 ks kk q0 h0 v t.heap L ∧ FrameEnd s o t L ({ frames := 0, cells := 0, slots := 0, locals := 0 } : Room).cells ({ frames := 0, cells := 0, slots := 0, locals := 0 } : Room).slots) (s₁.setTop (entryFrame m #[(.ref a1), (.int i1)] 2))
  refine Go.on (w := s₁.setTop (mkF m 0 #[rv a1, iv i1] [])) (fun t k => castTop (ef_rmAdd1 m a1 i1) k) ?_
  have u_a1 : h0.size > a1 := E_a1.lt
  have u_ks : h0.size > ks := Vk.lt
  obtain ⟨T33, X33, e33, st33⟩ := getF X0 hx hZ0 hown0 (host := "") (Or.inl (w_21 hw)) Via.refl e0 Fw (g := (mkF m 1 #[rv a1, iv i1] [(.ref a1)])) rfl rfl (hb hby d1_1)
  obtain ⟨T34, X34, e34, st34⟩ := getF X33 hx hZ0 hown0 (host := "") (Or.inl (w_11 hw)) Via.refl e33 Fk (g := (mkF m 5 #[rv a1, iv i1] [(.ref a1), (.int 1)])) rfl rfl (hb hby d1_5)
  obtain ⟨cl35, Ar35, q35, S35, M35, H35, U35⟩ := id Vk
  refine Go.on (w := T34.setTop (mkF m 8 #[rv a1, iv i1] [(.ref ks), (.int 1)])) (fun t k => XS.aloadN X0.here hx rfl (hb hby d1_0) rfl rfl (st33 _ (XS.aloadN X33.here hx rfl (hb hby d1_4) rfl rfl (st34 _ k)))) ?_
  refine Go.on (w := T34.setTop (mkF m 9 #[rv a1, iv i1] [(.int 256), (.int 1)])) (fun t k => X34.arraylength hx (by rw [e34]; exact Ar35.1) (State.isArrayOf_alike hZ0.alike Ar35.2.1) (g := (mkF m 8 #[rv a1, iv i1] [(.ref ks), (.int 1)])) rfl rfl (hb hby d1_8) _ (by rw [len_of S35 M35]; exact k)) ?_
  obtain ⟨T36, X36, e36, st36⟩ := getF X34 hx hZ0 hown0 (host := "") (Or.inl (w_11 hw)) Via.refl e34 Fk (g := (mkF m 30 #[rv a1, iv i1] [(.ref a1)])) rfl rfl (hb hby d1_30)
  obtain ⟨T37, X37, e37, st37⟩ := getF X36 hx hZ0 hown0 (host := "") (Or.inl (w_21 hw)) Via.refl e36 Fw (g := (mkF m 34 #[rv a1, iv i1] [(.ref a1), (.ref ks)])) rfl rfl (hb hby d1_34)
  obtain ⟨T38, X38, e38, st38⟩ := getF X37 hx hZ0 hown0 (host := "") (Or.inl (w_21 hw)) Via.refl e37 Fw (g := (mkF m 43 #[rv a1, iv i1] [(.ref a1), (.long ((i1.toInt64) <<< ((32 : Int32) &&& 0x3f).toInt64)), (.int 1), (.ref ks)])) rfl rfl (hb hby d1_43)
  refine Go.on (w := T38.setTop (mkF m 46 #[rv a1, iv i1] [(.int 1), (.long ((i1.toInt64) <<< ((32 : Int32) &&& 0x3f).toInt64)), (.int 1), (.ref ks)])) (fun t k => XS.icmpYes X34.here hx rfl (pc0 := 9) (pc' := 29) rfl (hb hby d1_9) rfl (feq (by decide : ¬ ((1 : Int32) = (256 : Int32)))).2 (by decide) (by decide) (XS.aloadN X34.here hx rfl (hb hby d1_29) rfl rfl (st36 _ (XS.aloadN X36.here hx rfl (hb hby d1_33) rfl rfl (st37 _ (XS.iloadN X37.here hx rfl (hb hby d1_37) rfl (XS.i2l X37.here hx rfl (hb hby d1_38) rfl (XS.bipush X37.here hx rfl (hb hby d1_39) (XS.lshl X37.here hx rfl (hb hby d1_41) rfl (XS.aloadN X37.here hx rfl (hb hby d1_42) rfl rfl (st38 _ k))))))))))) ?_
  refine Go.on (w := T38.setTop (mkF m 47 #[rv a1, iv i1] [(.long 1), (.long ((i1.toInt64) <<< ((32 : Int32) &&& 0x3f).toInt64)), (.int 1), (.ref ks)])) (fun t k => XS.i2l X38.here hx rfl (hb hby d1_46) rfl (by rw [(by decide : ((1 : Int32).toInt64) = (1 : Int64))]; exact k)) ?_
  refine Go.on (w := T38.setTop (mkF m 48 #[rv a1, iv i1] [(.long (own_key i1 (1 : Int64))), (.int 1), (.ref ks)])) (fun t k => XS.lor X38.here hx rfl (hb hby d1_47) rfl (by rw [(rfl : (((i1.toInt64) <<< ((32 : Int32) &&& 0x3f).toInt64) ||| (1 : Int64)) = (own_key i1 (1 : Int64)))]; exact k)) ?_
  have V40 : Arv Z h0 ks kk .long (256 : Int32) [(.long q0), (.long 0)] (.long 0) := Vk.pad (pad_rep [(.long q0)] (.long 0) 1)
  obtain ⟨cl39, Ar39, q39, S39, M39, H39, U39⟩ := id V40
  obtain ⟨T39, h39, X39, e39, W39, st39⟩ := stJ X38 hx hZ0 e38 Ar39 (j := (1 : Int32)) (inb_of S39 ⟨(by decide), (by decide)⟩) (g := (mkF m 48 #[rv a1, iv i1] [(.long (own_key i1 (1 : Int64))), (.int 1), (.ref ks)])) rfl rfl (hb hby d1_48)
  have V39 : Arv Z h39 ks kk .long (256 : Int32) [(.long q0), (.long (own_key i1 (1 : Int64)))] (.long 0) := (Arv.set Ar39 q39 S39 M39 H39 U39 rfl W39 1 rfl (Nat.le_of_ble_eq_true rfl))
  have z39 : h0.size ≤ h39.size := Nat.le_of_eq W39.size.symm
  have KP39 : Keep h0 h39 ([a1, ks] : List Addr) := KP0.wr W39 (Or.inl (List.mem_of_getElem? (i := 1) rfl))
  have N39 := Fr.snoc X39 N0 (by omega)
  have F41 := (Fw.other W39 (Or.inl ne_a1_ks))
  obtain ⟨T42, X42, e42, st42⟩ := getF X39 hx hZ0 hown0 (host := "") (Or.inl (w_21 hw)) Via.refl e39 F41 (g := (mkF m 51 #[rv a1, iv i1] [(.ref a1), (.ref a1)])) rfl rfl (hb hby d1_51)
  refine Go.on (w := T42.setTop (mkF m 55 #[rv a1, iv i1] [(.int 1), (.int 1), (.ref a1)])) (fun t k => st39 _ (XS.aloadN X39.here hx rfl (hb hby d1_49) rfl rfl (XS.dup X39.here hx rfl (hb hby d1_50) rfl rfl (st42 _ (XS.iconst X42.here hx rfl (hb hby d1_54) k))))) ?_
  refine Go.on (w := T42.setTop (mkF m 56 #[rv a1, iv i1] [(.int 2), (.ref a1)])) (fun t k => XS.iadd X42.here hx rfl (hb hby d1_55) rfl (by rw [(by decide : ((1 : Int32) + (1 : Int32)) = (2 : Int32))]; exact k)) ?_
  have F43 := (E_a1.wr W39)
  obtain ⟨T44, h44, X44, e44, W44, st44⟩ := putF X42 hx hZ0 hown0 (host := "") (Or.inl (w_21 hw)) Via.refl e42 F41 F43 (Or.inl (w_22 hw)) (w_2 hw) (ty := .int) (by decide) rfl rfl (g := (mkF m 56 #[rv a1, iv i1] [(.int 2), (.ref a1)])) rfl rfl (hb hby d1_56)
  have z44 : h39.size ≤ h44.size := Nat.le_of_eq W44.size.symm
  have KP44 : Keep h0 h44 ([a1, ks] : List Addr) := KP39.wr W44 (Or.inl (List.mem_of_getElem? (i := 0) rfl))
  have N44 := Fr.snoc X44 N39 (by omega)
  have Fw44 := F41.same W44
  have F45 := (F43.wr W44)
  have F46 := ((Fk.other W39 (Or.inl ne_a1_ks)).other W44 (Or.inr (slot_ne (Or.inl (w_12 hw)) (Or.inl (w_22 hw)) (by decide) (t := (.array .long)) (t' := .int) (by decide) (by decide))))
  have F47 := ((F_breakCount.other W39 (Or.inl ne_a1_ks)).other W44 (Or.inr (slot_ne (Or.inl (w_54 hw)) (Or.inl (w_22 hw)) (by decide) (t := .int) (t' := .int) (by decide) (by decide))))
  have F48 := ((F_sentences.other W39 (Or.inl ne_a1_ks)).other W44 (Or.inr (slot_ne (Or.inl (w_59 hw)) (Or.inl (w_22 hw)) (by decide) (t := .int) (t' := .int) (by decide) (by decide))))
  have F49 := (V39.other W44 (Ne.symm ne_a1_ks))
  refine Go.on (w := T44.setTop (mkF m 59 #[rv a1, iv i1] [])) (fun t k => st44 _ k) ?_
  refine Go.finH X44 hlk (v := none) (fun _ => rfl) (fun fs hr => ?_) (endH (Q := Q_rmAdd1 Z a1 i1 ks kk q0 h0) (by rw [e44]; exact ⟨rfl, N44, KP44, F45, F46, Fw44, F47, F48, F49⟩) (by decide) (by decide))
  exact X44.returnOut hx Bd.returns (hb hby d1_59) hr
def Q_rmAdd2 (Z : State) (a1 : Addr) (i1 : Int32) (ks : Addr) (kk : ClassId) (q0 : Int64) (q1 : Int64) (h0 : Heap) (vv : Option Value) (h : Heap) (L : List Loc) : Prop := vv = none ∧ Fr Z.heap.size L ∧ Keep h0 h [a1, ks] ∧ Exa Z h a1 "com/example/syntagma/syntagma/service/DocumentText$Builder" ∧ Fld Z h a1 "com/example/syntagma/syntagma/service/DocumentText$Builder" "keys" "[J" (.ref ks) ∧ Fld Z h a1 "com/example/syntagma/syntagma/service/DocumentText$Builder" "words" "I" (.int 3) ∧ Fld Z h a1 "com/example/syntagma/syntagma/service/DocumentText$Builder" "breakCount" "I" (.int 0) ∧ Fld Z h a1 "com/example/syntagma/syntagma/service/DocumentText$Builder" "sentences" "I" (.int 0) ∧ Arv Z h ks kk .long (256 : Int32) [(.long q0), (.long q1), (.long (own_key i1 (2 : Int64)))] (.long 0)
theorem ef_rmAdd2 (m : MethodId) (x0 : Addr) (x1 : Int32)   : entryFrame m #[(.ref x0), (.int x1)] 2 = mkF m 0 #[.val (.ref x0), .val (.int x1)] [] := by first | rfl | (simp [entryFrame, mkF, argsToLocals, Value.category]; done)
set_option maxRecDepth 65536 in
set_option maxHeartbeats 40000000 in
theorem rmAdd2 (l : Launch) (Z : State) (a0 : Array Value) (hw : ∀ d ∈ tables_1, d.before a0 Z = true) (ws : List Jvm.Cond) (a1 : Addr) (i1 : Int32) (ks : Addr) (kk : ClassId) (q0 : Int64) (q1 : Int64) (h0 : Heap) (Z0 : Z.heap.size ≤ h0.size) (lo_a1 : Z.heap.size ≤ a1) (lo_ks : Z.heap.size ≤ ks) (ne_a1_ks : a1 ≠ ks) (E_a1 : Exa Z h0 a1 "com/example/syntagma/syntagma/service/DocumentText$Builder") (Fk : Fld Z h0 a1 "com/example/syntagma/syntagma/service/DocumentText$Builder" "keys" "[J" (.ref ks)) (Fw : Fld Z h0 a1 "com/example/syntagma/syntagma/service/DocumentText$Builder" "words" "I" (.int 2)) (F_breakCount : Fld Z h0 a1 "com/example/syntagma/syntagma/service/DocumentText$Builder" "breakCount" "I" (.int 0)) (F_sentences : Fld Z h0 a1 "com/example/syntagma/syntagma/service/DocumentText$Builder" "sentences" "I" (.int 0)) (Vk : Arv Z h0 ks kk .long (256 : Int32) [(.long q0), (.long q1)] (.long 0)) :
    MetFree l yM2 (head1 (Jvm.Cond.code yM2 prog_210_method_2_code 2 none :: ws) ({ frames := 0, cells := 0, slots := 0, locals := 0 } : Room)) (fun a U => a = #[(.ref a1), (.int i1)] ∧ Z.Warmed39 U.vm ∧ U.heap = h0) (fun _ _ _ _ _ => True) (fun _ U o U' => ∃ v L, o = .returned v ∧ Q_rmAdd2 Z a1 i1 ks kk q0 q1 h0 v U'.heap L ∧ FrameEnd U o U' L ({ frames := 0, cells := 0, slots := 0, locals := 0 } : Room).cells ({ frames := 0, cells := 0, slots := 0, locals := 0 } : Room).slots) := by
  refine MetFree.of_bodySF (plainFor_of_name (by first | (simp [plainName, overriddenIn]; done) | decide +kernel)) hisR ?_
  intro p e s m args below meth c s₁ Bd hml0 hP hK
  obtain ⟨rfl, hZ0', hh⟩ := hP
  have hx := Bd.exec
  have hby := Bd.bytes
  have hml : c.maxLocals = 2 := hml0
  have hZ0 : Z.Warmed39 s.vm := hZ0'
  have hown0 : s.vm.findClass "com/example/syntagma/syntagma/service/DocumentText$Builder" = some m.cls := findClass_of_methodNamed Bd.named
  have hnm := (name_of_methodNamed Bd.named Bd.method).1
  have hlk : meth.locks = false := Bd.notSynchronized
  have X0 : Stand p l e ({ frames := 0, cells := 0, slots := 0, locals := 0 } : Room) s m #[(.ref a1), (.int i1)] below meth c s₁ [] 0 0 := Stand.of_body Bd
  have e0 : s₁.heap = h0 := by rw [← hh, Bd.state]; rfl
  have N0 := Fr.nil Z.heap.size
  have KP0 : Keep h0 h0 ([a1, ks] : List Addr) := Keep.refl _ _
  show Go p e below (fun t o => ∃ v L, o = .returned v ∧ Q_rmAdd2 Z a1 i1 ks kk q0 q1 h0 v t.heap L ∧ FrameEnd s o t L ({ frames := 0, cells := 0, slots := 0, locals := 0 } : Room).cells ({ frames := 0, cells := 0, slots := 0, locals := 0 } : Room).slots) (s₁.setTop (entryFrame m #[(.ref a1), (.int i1)] 2))
  refine Go.on (w := s₁.setTop (mkF m 0 #[rv a1, iv i1] [])) (fun t k => castTop (ef_rmAdd2 m a1 i1) k) ?_
  have u_a1 : h0.size > a1 := E_a1.lt
  have u_ks : h0.size > ks := Vk.lt
  obtain ⟨T50, X50, e50, st50⟩ := getF X0 hx hZ0 hown0 (host := "") (Or.inl (w_21 hw)) Via.refl e0 Fw (g := (mkF m 1 #[rv a1, iv i1] [(.ref a1)])) rfl rfl (hb hby d1_1)
  obtain ⟨T51, X51, e51, st51⟩ := getF X50 hx hZ0 hown0 (host := "") (Or.inl (w_11 hw)) Via.refl e50 Fk (g := (mkF m 5 #[rv a1, iv i1] [(.ref a1), (.int 2)])) rfl rfl (hb hby d1_5)
  obtain ⟨cl52, Ar52, q52, S52, M52, H52, U52⟩ := id Vk
  refine Go.on (w := T51.setTop (mkF m 8 #[rv a1, iv i1] [(.ref ks), (.int 2)])) (fun t k => XS.aloadN X0.here hx rfl (hb hby d1_0) rfl rfl (st50 _ (XS.aloadN X50.here hx rfl (hb hby d1_4) rfl rfl (st51 _ k)))) ?_
  refine Go.on (w := T51.setTop (mkF m 9 #[rv a1, iv i1] [(.int 256), (.int 2)])) (fun t k => X51.arraylength hx (by rw [e51]; exact Ar52.1) (State.isArrayOf_alike hZ0.alike Ar52.2.1) (g := (mkF m 8 #[rv a1, iv i1] [(.ref ks), (.int 2)])) rfl rfl (hb hby d1_8) _ (by rw [len_of S52 M52]; exact k)) ?_
  obtain ⟨T53, X53, e53, st53⟩ := getF X51 hx hZ0 hown0 (host := "") (Or.inl (w_11 hw)) Via.refl e51 Fk (g := (mkF m 30 #[rv a1, iv i1] [(.ref a1)])) rfl rfl (hb hby d1_30)
  obtain ⟨T54, X54, e54, st54⟩ := getF X53 hx hZ0 hown0 (host := "") (Or.inl (w_21 hw)) Via.refl e53 Fw (g := (mkF m 34 #[rv a1, iv i1] [(.ref a1), (.ref ks)])) rfl rfl (hb hby d1_34)
  obtain ⟨T55, X55, e55, st55⟩ := getF X54 hx hZ0 hown0 (host := "") (Or.inl (w_21 hw)) Via.refl e54 Fw (g := (mkF m 43 #[rv a1, iv i1] [(.ref a1), (.long ((i1.toInt64) <<< ((32 : Int32) &&& 0x3f).toInt64)), (.int 2), (.ref ks)])) rfl rfl (hb hby d1_43)
  refine Go.on (w := T55.setTop (mkF m 46 #[rv a1, iv i1] [(.int 2), (.long ((i1.toInt64) <<< ((32 : Int32) &&& 0x3f).toInt64)), (.int 2), (.ref ks)])) (fun t k => XS.icmpYes X51.here hx rfl (pc0 := 9) (pc' := 29) rfl (hb hby d1_9) rfl (feq (by decide : ¬ ((2 : Int32) = (256 : Int32)))).2 (by decide) (by decide) (XS.aloadN X51.here hx rfl (hb hby d1_29) rfl rfl (st53 _ (XS.aloadN X53.here hx rfl (hb hby d1_33) rfl rfl (st54 _ (XS.iloadN X54.here hx rfl (hb hby d1_37) rfl (XS.i2l X54.here hx rfl (hb hby d1_38) rfl (XS.bipush X54.here hx rfl (hb hby d1_39) (XS.lshl X54.here hx rfl (hb hby d1_41) rfl (XS.aloadN X54.here hx rfl (hb hby d1_42) rfl rfl (st55 _ k))))))))))) ?_
  refine Go.on (w := T55.setTop (mkF m 47 #[rv a1, iv i1] [(.long 2), (.long ((i1.toInt64) <<< ((32 : Int32) &&& 0x3f).toInt64)), (.int 2), (.ref ks)])) (fun t k => XS.i2l X55.here hx rfl (hb hby d1_46) rfl (by rw [(by decide : ((2 : Int32).toInt64) = (2 : Int64))]; exact k)) ?_
  refine Go.on (w := T55.setTop (mkF m 48 #[rv a1, iv i1] [(.long (own_key i1 (2 : Int64))), (.int 2), (.ref ks)])) (fun t k => XS.lor X55.here hx rfl (hb hby d1_47) rfl (by rw [(rfl : (((i1.toInt64) <<< ((32 : Int32) &&& 0x3f).toInt64) ||| (2 : Int64)) = (own_key i1 (2 : Int64)))]; exact k)) ?_
  have V57 : Arv Z h0 ks kk .long (256 : Int32) [(.long q0), (.long q1), (.long 0)] (.long 0) := Vk.pad (pad_rep [(.long q0), (.long q1)] (.long 0) 1)
  obtain ⟨cl56, Ar56, q56, S56, M56, H56, U56⟩ := id V57
  obtain ⟨T56, h56, X56, e56, W56, st56⟩ := stJ X55 hx hZ0 e55 Ar56 (j := (2 : Int32)) (inb_of S56 ⟨(by decide), (by decide)⟩) (g := (mkF m 48 #[rv a1, iv i1] [(.long (own_key i1 (2 : Int64))), (.int 2), (.ref ks)])) rfl rfl (hb hby d1_48)
  have V56 : Arv Z h56 ks kk .long (256 : Int32) [(.long q0), (.long q1), (.long (own_key i1 (2 : Int64)))] (.long 0) := (Arv.set Ar56 q56 S56 M56 H56 U56 rfl W56 2 rfl (Nat.le_of_ble_eq_true rfl))
  have z56 : h0.size ≤ h56.size := Nat.le_of_eq W56.size.symm
  have KP56 : Keep h0 h56 ([a1, ks] : List Addr) := KP0.wr W56 (Or.inl (List.mem_of_getElem? (i := 1) rfl))
  have N56 := Fr.snoc X56 N0 (by omega)
  have F58 := (Fw.other W56 (Or.inl ne_a1_ks))
  obtain ⟨T59, X59, e59, st59⟩ := getF X56 hx hZ0 hown0 (host := "") (Or.inl (w_21 hw)) Via.refl e56 F58 (g := (mkF m 51 #[rv a1, iv i1] [(.ref a1), (.ref a1)])) rfl rfl (hb hby d1_51)
  refine Go.on (w := T59.setTop (mkF m 55 #[rv a1, iv i1] [(.int 1), (.int 2), (.ref a1)])) (fun t k => st56 _ (XS.aloadN X56.here hx rfl (hb hby d1_49) rfl rfl (XS.dup X56.here hx rfl (hb hby d1_50) rfl rfl (st59 _ (XS.iconst X59.here hx rfl (hb hby d1_54) k))))) ?_
  refine Go.on (w := T59.setTop (mkF m 56 #[rv a1, iv i1] [(.int 3), (.ref a1)])) (fun t k => XS.iadd X59.here hx rfl (hb hby d1_55) rfl (by rw [(by decide : ((2 : Int32) + (1 : Int32)) = (3 : Int32))]; exact k)) ?_
  have F60 := (E_a1.wr W56)
  obtain ⟨T61, h61, X61, e61, W61, st61⟩ := putF X59 hx hZ0 hown0 (host := "") (Or.inl (w_21 hw)) Via.refl e59 F58 F60 (Or.inl (w_22 hw)) (w_2 hw) (ty := .int) (by decide) rfl rfl (g := (mkF m 56 #[rv a1, iv i1] [(.int 3), (.ref a1)])) rfl rfl (hb hby d1_56)
  have z61 : h56.size ≤ h61.size := Nat.le_of_eq W61.size.symm
  have KP61 : Keep h0 h61 ([a1, ks] : List Addr) := KP56.wr W61 (Or.inl (List.mem_of_getElem? (i := 0) rfl))
  have N61 := Fr.snoc X61 N56 (by omega)
  have Fw61 := F58.same W61
  have F62 := (F60.wr W61)
  have F63 := ((Fk.other W56 (Or.inl ne_a1_ks)).other W61 (Or.inr (slot_ne (Or.inl (w_12 hw)) (Or.inl (w_22 hw)) (by decide) (t := (.array .long)) (t' := .int) (by decide) (by decide))))
  have F64 := ((F_breakCount.other W56 (Or.inl ne_a1_ks)).other W61 (Or.inr (slot_ne (Or.inl (w_54 hw)) (Or.inl (w_22 hw)) (by decide) (t := .int) (t' := .int) (by decide) (by decide))))
  have F65 := ((F_sentences.other W56 (Or.inl ne_a1_ks)).other W61 (Or.inr (slot_ne (Or.inl (w_59 hw)) (Or.inl (w_22 hw)) (by decide) (t := .int) (t' := .int) (by decide) (by decide))))
  have F66 := (V56.other W61 (Ne.symm ne_a1_ks))
  refine Go.on (w := T61.setTop (mkF m 59 #[rv a1, iv i1] [])) (fun t k => st61 _ k) ?_
  refine Go.finH X61 hlk (v := none) (fun _ => rfl) (fun fs hr => ?_) (endH (Q := Q_rmAdd2 Z a1 i1 ks kk q0 q1 h0) (by rw [e61]; exact ⟨rfl, N61, KP61, F62, F63, Fw61, F64, F65, F66⟩) (by decide) (by decide))
  exact X61.returnOut hx Bd.returns (hb hby d1_59) hr
def Q_rmRng (Z : State) (u : Unit) (h0 : Heap) (vv : Option Value) (h : Heap) (L : List Loc) : Prop := vv = none ∧ Fr Z.heap.size L ∧ h = h0
theorem ef_rmRng (m : MethodId) (x0 : Int32) (x1 : Int32) (x2 : Int32)   : entryFrame m #[(.int x0), (.int x1), (.int x2)] 3 = mkF m 0 #[.val (.int x0), .val (.int x1), .val (.int x2)] [] := by first | rfl | (simp [entryFrame, mkF, argsToLocals, Value.category]; done)
set_option maxRecDepth 65536 in
set_option maxHeartbeats 40000000 in
theorem rmRng (l : Launch) (Z : State) (a0 : Array Value) (hw : ∀ d ∈ tables_1, d.before a0 Z = true) (ws : List Jvm.Cond) (u : Unit) (h0 : Heap) :
    MetFree l yM5 (head1 (Jvm.Cond.code yM5 jdk_65_method_30_code 3 none :: ws) ({ frames := 0, cells := 0, slots := 0, locals := 0 } : Room)) (fun a U => a = #[(.int 256), (.int 0), (.int 3)] ∧ Z.Warmed39 U.vm ∧ U.heap = h0) (fun _ _ _ _ _ => True) (fun _ U o U' => ∃ v L, o = .returned v ∧ Q_rmRng Z u h0 v U'.heap L ∧ FrameEnd U o U' L ({ frames := 0, cells := 0, slots := 0, locals := 0 } : Room).cells ({ frames := 0, cells := 0, slots := 0, locals := 0 } : Room).slots) := by
  refine MetFree.of_bodySF (plainFor_of_name (by first | (simp [plainName, overriddenIn]; done) | decide +kernel)) hisR ?_
  intro p e s m args below meth c s₁ Bd hml0 hP hK
  obtain ⟨rfl, hZ0', hh⟩ := hP
  have hx := Bd.exec
  have hby := Bd.bytes
  have hml : c.maxLocals = 3 := hml0
  have hZ0 : Z.Warmed39 s.vm := hZ0'
  have hown0 : s.vm.findClass "java/util/Arrays" = some m.cls := findClass_of_methodNamed Bd.named
  have hnm := (name_of_methodNamed Bd.named Bd.method).1
  have hlk : meth.locks = false := Bd.notSynchronized
  have X0 : Stand p l e ({ frames := 0, cells := 0, slots := 0, locals := 0 } : Room) s m #[(.int 256), (.int 0), (.int 3)] below meth c s₁ [] 0 0 := Stand.of_body Bd
  have e0 : s₁.heap = h0 := by rw [← hh, Bd.state]; rfl
  have N0 := Fr.nil Z.heap.size
  have KP0 : Keep h0 h0 ([] : List Addr) := Keep.refl _ _
  show Go p e below (fun t o => ∃ v L, o = .returned v ∧ Q_rmRng Z u h0 v t.heap L ∧ FrameEnd s o t L ({ frames := 0, cells := 0, slots := 0, locals := 0 } : Room).cells ({ frames := 0, cells := 0, slots := 0, locals := 0 } : Room).slots) (s₁.setTop (entryFrame m #[(.int 256), (.int 0), (.int 3)] 3))
  refine Go.on (w := s₁.setTop (mkF m 0 #[iv 256, iv 0, iv 3] [])) (fun t k => castTop (ef_rmRng m (256 : Int32) (0 : Int32) (3 : Int32)) k) ?_
  refine Go.on (w := s₁.setTop (mkF m 73 #[iv 256, iv 0, iv 3] [])) (fun t k => XS.iloadN X0.here hx rfl (hb hby d2_0) rfl (XS.iloadN X0.here hx rfl (hb hby d2_1) rfl (XS.icmpYes X0.here hx rfl (pc0 := 2) (pc' := 46) rfl (hb hby d2_2) rfl (flt (by decide : ¬ ((3 : Int32) < (0 : Int32)))).2.2.2 (by decide) (by decide) (XS.iloadN X0.here hx rfl (hb hby d2_46) rfl (XS.ifYes X0.here hx rfl (pc0 := 47) (pc' := 59) rfl (hb hby d2_47) rfl ((if0 _ _).trans (flt (by decide : ¬ ((0 : Int32) < (0 : Int32)))).2.1) (by decide) (by decide) (XS.iloadN X0.here hx rfl (hb hby d2_59) rfl (XS.iloadN X0.here hx rfl (hb hby d2_60) rfl (XS.icmpYes X0.here hx rfl (pc0 := 61) (pc' := 73) rfl (hb hby d2_61) rfl (flt (by decide : ¬ ((256 : Int32) < (3 : Int32)))).2.2.2 (by decide) (by decide) k)))))))) ?_
  refine Go.finH X0 hlk (v := none) (fun _ => rfl) (fun fs hr => ?_) (endH (Q := Q_rmRng Z u h0) (by rw [e0]; exact ⟨rfl, N0, rfl⟩) (by decide) (by decide))
  exact X0.returnOut hx Bd.returns (hb hby d2_73) hr
def Q_rmIns (Z : State) (ks : Addr) (kk : ClassId) (q0 : Int64) (q1 : Int64) (q2 : Int64) (h0 : Heap) (vv : Option Value) (h : Heap) (L : List Loc) : Prop := ∃ (s0 : Int64) (s1 : Int64) (s2 : Int64), vv = none ∧ Fr Z.heap.size L ∧ Keep h0 h [ks] ∧ Arv Z h ks kk .long (256 : Int32) [(.long s0), (.long s1), (.long s2)] (.long 0) ∧ (own_srt q0 q1 q2 s0 s1 s2)
theorem ef_rmIns (m : MethodId) (x0 : Addr) (x1 : Int32) (x2 : Int32)   : entryFrame m #[(.ref x0), (.int x1), (.int x2)] 7 = mkF m 0 #[.val (.ref x0), .val (.int x1), .val (.int x2), .unset, .unset, .unset, .unset] [] := by first | rfl | (simp [entryFrame, mkF, argsToLocals, Value.category]; done)
set_option maxRecDepth 65536 in
set_option maxHeartbeats 40000000 in
theorem rmIns (l : Launch) (Z : State) (a0 : Array Value) (hw : ∀ d ∈ tables_1, d.before a0 Z = true) (ws : List Jvm.Cond) (ks : Addr) (kk : ClassId) (q0 : Int64) (q1 : Int64) (q2 : Int64) (h0 : Heap) (Z0 : Z.heap.size ≤ h0.size) (lo_ks : Z.heap.size ≤ ks) (Vk : Arv Z h0 ks kk .long (256 : Int32) [(.long q0), (.long q1), (.long q2)] (.long 0)) :
    MetFree l yM8 (head1 (Jvm.Cond.code yM8 jdk_2529_method_15_code 7 none :: ws) ({ frames := 0, cells := 0, slots := 0, locals := 0 } : Room)) (fun a U => a = #[(.ref ks), (.int 0), (.int 3)] ∧ Z.Warmed39 U.vm ∧ U.heap = h0) (fun _ _ _ _ _ => True) (fun _ U o U' => ∃ v L, o = .returned v ∧ Q_rmIns Z ks kk q0 q1 q2 h0 v U'.heap L ∧ FrameEnd U o U' L ({ frames := 0, cells := 0, slots := 0, locals := 0 } : Room).cells ({ frames := 0, cells := 0, slots := 0, locals := 0 } : Room).slots) := by
  refine MetFree.of_bodySF (plainFor_of_name (by first | (simp [plainName, overriddenIn]; done) | decide +kernel)) hisR ?_
  intro p e s m args below meth c s₁ Bd hml0 hP hK
  obtain ⟨rfl, hZ0', hh⟩ := hP
  have hx := Bd.exec
  have hby := Bd.bytes
  have hml : c.maxLocals = 7 := hml0
  have hZ0 : Z.Warmed39 s.vm := hZ0'
  have hown0 : s.vm.findClass "java/util/DualPivotQuicksort" = some m.cls := findClass_of_methodNamed Bd.named
  have hnm := (name_of_methodNamed Bd.named Bd.method).1
  have hlk : meth.locks = false := Bd.notSynchronized
  have X0 : Stand p l e ({ frames := 0, cells := 0, slots := 0, locals := 0 } : Room) s m #[(.ref ks), (.int 0), (.int 3)] below meth c s₁ [] 0 0 := Stand.of_body Bd
  have e0 : s₁.heap = h0 := by rw [← hh, Bd.state]; rfl
  have N0 := Fr.nil Z.heap.size
  have KP0 : Keep h0 h0 ([ks] : List Addr) := Keep.refl _ _
  show Go p e below (fun t o => ∃ v L, o = .returned v ∧ Q_rmIns Z ks kk q0 q1 q2 h0 v t.heap L ∧ FrameEnd s o t L ({ frames := 0, cells := 0, slots := 0, locals := 0 } : Room).cells ({ frames := 0, cells := 0, slots := 0, locals := 0 } : Room).slots) (s₁.setTop (entryFrame m #[(.ref ks), (.int 0), (.int 3)] 7))
  refine Go.on (w := s₁.setTop (mkF m 0 #[rv ks, iv 0, iv 3, .unset, .unset, .unset, .unset] [])) (fun t k => castTop (ef_rmIns m ks (0 : Int32) (3 : Int32)) k) ?_
  have u_ks : h0.size > ks := Vk.lt
  obtain ⟨cl67, Ar67, q67, S67, M67, H67, U67⟩ := id Vk
  have hin67 := ((inb_of S67 ⟨(by decide), (by decide)⟩) : ¬ ((1 : Int32) < 0 ∨ cl67.slots.size ≤ ((1 : Int32)).toNatClampNeg))
  refine Go.on (w := s₁.setTop (mkF m 25 #[rv ks, iv 0, iv 3, iv 1, iv 1, .val (.long q1), .second] [(.int 1), (.int 1), (.ref ks), (.long q1)])) (fun t k => XS.iloadN X0.here hx rfl (hb hby d3_0) rfl (XS.istore X0.here hx rfl (hb hby d3_1) rfl (l' := #[rv ks, iv 0, iv 3, .unset, iv 0, .unset, .unset]) rfl (XS.iinc X0.here hx rfl (hb hby d3_3) rfl (l' := #[rv ks, iv 0, iv 3, .unset, iv 1, .unset, .unset]) rfl (XS.iload X0.here hx rfl (hb hby d3_6) rfl (XS.iloadN X0.here hx rfl (hb hby d3_8) rfl (XS.icmpNo X0.here hx rfl (hb hby d3_9) rfl (tlt (by decide : (1 : Int32) < (3 : Int32))).2.1 (XS.aloadN X0.here hx rfl (hb hby d3_12) rfl rfl (XS.iload X0.here hx rfl (hb hby d3_13) rfl (XS.dup X0.here hx rfl (hb hby d3_15) rfl rfl (XS.istoreN X0.here hx rfl (hb hby d3_16) rfl (l' := #[rv ks, iv 0, iv 3, iv 1, iv 1, .unset, .unset]) rfl (X0.laload hx (j := (1 : Int32)) (v := (.long q1)) (by rw [e0]; exact Ar67.1) (State.isArrayOf_alike hZ0.alike Ar67.2.1) Ar67.2.2 hin67 (H67.at hin67 rfl) (g := (mkF m 17 #[rv ks, iv 0, iv 3, iv 1, iv 1, .unset, .unset] [(.int 1), (.ref ks)])) rfl rfl (hb hby d3_17) _ (XS.lstore X0.here hx rfl (hb hby d3_18) rfl (l' := #[rv ks, iv 0, iv 3, iv 1, iv 1, .val (.long q1), .second]) rfl (XS.lload X0.here hx rfl (hb hby d3_20) rfl (XS.aloadN X0.here hx rfl (hb hby d3_22) rfl rfl (XS.iloadN X0.here hx rfl (hb hby d3_23) rfl (XS.iconst X0.here hx rfl (hb hby d3_24) k)))))))))))))))) ?_
  refine Go.on (w := s₁.setTop (mkF m 26 #[rv ks, iv 0, iv 3, iv 1, iv 1, .val (.long q1), .second] [(.int 0), (.ref ks), (.long q1)])) (fun t k => XS.isub X0.here hx rfl (hb hby d3_25) rfl (by rw [(by decide : ((1 : Int32) - (1 : Int32)) = (0 : Int32))]; exact k)) ?_
  obtain ⟨cl68, Ar68, q68, S68, M68, H68, U68⟩ := id Vk
  have hin68 := ((inb_of S68 ⟨(by decide), (by decide)⟩) : ¬ ((0 : Int32) < 0 ∨ cl68.slots.size ≤ ((0 : Int32)).toNatClampNeg))
  refine Go.on (w := s₁.setTop (mkF m 28 #[rv ks, iv 0, iv 3, iv 1, iv 1, .val (.long q1), .second] [(.int (lcmpW q1 q0))])) (fun t k => X0.laload hx (j := (0 : Int32)) (v := (.long q0)) (by rw [e0]; exact Ar68.1) (State.isArrayOf_alike hZ0.alike Ar68.2.1) Ar68.2.2 hin68 (H68.at hin68 rfl) (g := (mkF m 26 #[rv ks, iv 0, iv 3, iv 1, iv 1, .val (.long q1), .second] [(.int 0), (.ref ks), (.long q1)])) rfl rfl (hb hby d3_26) _ (XS.lcmp X0.here hx rfl (hb hby d3_27) rfl k)) ?_
  by_cases hc69 : (lcmpW q1 q0) < (0 : Int32)
  ·
    obtain ⟨cl70, Ar70, q70, S70, M70, H70, U70⟩ := id Vk
    have hin70 := ((inb_of S70 ⟨(by decide), (by decide)⟩) : ¬ ((0 : Int32) < 0 ∨ cl70.slots.size ≤ ((0 : Int32)).toNatClampNeg))
    refine Go.on (w := s₁.setTop (mkF m 51 #[rv ks, iv 0, iv 3, iv 0, iv 1, .val (.long q1), .second] [(.int 1), (.int 0), (.ref ks)])) (fun t k => XS.ifNo X0.here hx rfl (hb hby d3_28) rfl ((if0 _ _).trans (tlt hc69).2.1) (XS.iinc X0.here hx rfl (hb hby d3_31) rfl (l' := #[rv ks, iv 0, iv 3, iv 0, iv 1, .val (.long q1), .second]) rfl (XS.iloadN X0.here hx rfl (hb hby d3_34) rfl (XS.iloadN X0.here hx rfl (hb hby d3_35) rfl (XS.icmpNo X0.here hx rfl (hb hby d3_36) rfl (flt (by decide : ¬ ((0 : Int32) < (0 : Int32)))).1 (XS.lload X0.here hx rfl (hb hby d3_39) rfl (XS.aloadN X0.here hx rfl (hb hby d3_41) rfl rfl (XS.iloadN X0.here hx rfl (hb hby d3_42) rfl (X0.laload hx (j := (0 : Int32)) (v := (.long q0)) (by rw [e0]; exact Ar70.1) (State.isArrayOf_alike hZ0.alike Ar70.2.1) Ar70.2.2 hin70 (H70.at hin70 rfl) (g := (mkF m 43 #[rv ks, iv 0, iv 3, iv 0, iv 1, .val (.long q1), .second] [(.int 0), (.ref ks), (.long q1)])) rfl rfl (hb hby d3_43) _ (XS.lcmp X0.here hx rfl (hb hby d3_44) rfl (XS.ifNo X0.here hx rfl (hb hby d3_45) rfl ((if0 _ _).trans (tlt hc69).2.1) (XS.aloadN X0.here hx rfl (hb hby d3_48) rfl rfl (XS.iloadN X0.here hx rfl (hb hby d3_49) rfl (XS.iconst X0.here hx rfl (hb hby d3_50) k)))))))))))))) ?_
    refine Go.on (w := s₁.setTop (mkF m 52 #[rv ks, iv 0, iv 3, iv 0, iv 1, .val (.long q1), .second] [(.int 1), (.ref ks)])) (fun t k => XS.iadd X0.here hx rfl (hb hby d3_51) rfl (by rw [(by decide : ((0 : Int32) + (1 : Int32)) = (1 : Int32))]; exact k)) ?_
    obtain ⟨cl71, Ar71, q71, S71, M71, H71, U71⟩ := id Vk
    have hin71 := ((inb_of S71 ⟨(by decide), (by decide)⟩) : ¬ ((0 : Int32) < 0 ∨ cl71.slots.size ≤ ((0 : Int32)).toNatClampNeg))
    obtain ⟨cl72, Ar72, q72, S72, M72, H72, U72⟩ := id Vk
    obtain ⟨T72, h72, X72, e72, W72, st72⟩ := stJ X0 hx hZ0 e0 Ar72 (j := (1 : Int32)) (inb_of S72 ⟨(by decide), (by decide)⟩) (g := (mkF m 55 #[rv ks, iv 0, iv 3, iv 0, iv 1, .val (.long q1), .second] [(.long q0), (.int 1), (.ref ks)])) rfl rfl (hb hby d3_55)
    have V72 : Arv Z h72 ks kk .long (256 : Int32) [(.long q0), (.long q0), (.long q2)] (.long 0) := (Arv.set Ar72 q72 S72 M72 H72 U72 rfl W72 1 rfl (Nat.le_of_ble_eq_true rfl))
    have z72 : h0.size ≤ h72.size := Nat.le_of_eq W72.size.symm
    have KP72 : Keep h0 h72 ([ks] : List Addr) := KP0.wr W72 (Or.inl (List.mem_of_getElem? (i := 0) rfl))
    have N72 := Fr.snoc X72 N0 (by omega)
    refine Go.on (w := T72.setTop (mkF m 62 #[rv ks, iv 0, iv 3, iv (-1), iv 1, .val (.long q1), .second] [(.int 1), (.int (-1)), (.ref ks)])) (fun t k => XS.aloadN X0.here hx rfl (hb hby d3_52) rfl rfl (XS.iloadN X0.here hx rfl (hb hby d3_53) rfl (X0.laload hx (j := (0 : Int32)) (v := (.long q0)) (by rw [e0]; exact Ar71.1) (State.isArrayOf_alike hZ0.alike Ar71.2.1) Ar71.2.2 hin71 (H71.at hin71 rfl) (g := (mkF m 54 #[rv ks, iv 0, iv 3, iv 0, iv 1, .val (.long q1), .second] [(.int 0), (.ref ks), (.int 1), (.ref ks)])) rfl rfl (hb hby d3_54) _ (st72 _ (XS.goto X72.here hx rfl (pc0 := 56) (pc' := 31) rfl (hb hby d3_56) (by decide) (by decide) (XS.iinc X72.here hx rfl (hb hby d3_31) rfl (l' := #[rv ks, iv 0, iv 3, iv (-1), iv 1, .val (.long q1), .second]) rfl (XS.iloadN X72.here hx rfl (hb hby d3_34) rfl (XS.iloadN X72.here hx rfl (hb hby d3_35) rfl (XS.icmpYes X72.here hx rfl (pc0 := 36) (pc' := 59) rfl (hb hby d3_36) rfl (tlt (by decide : (-1 : Int32) < (0 : Int32))).1 (by decide) (by decide) (XS.aloadN X72.here hx rfl (hb hby d3_59) rfl rfl (XS.iloadN X72.here hx rfl (hb hby d3_60) rfl (XS.iconst X72.here hx rfl (hb hby d3_61) k)))))))))))) ?_
    refine Go.on (w := T72.setTop (mkF m 63 #[rv ks, iv 0, iv 3, iv (-1), iv 1, .val (.long q1), .second] [(.int 0), (.ref ks)])) (fun t k => XS.iadd X72.here hx rfl (hb hby d3_62) rfl (by rw [(by decide : ((-1 : Int32) + (1 : Int32)) = (0 : Int32))]; exact k)) ?_
    obtain ⟨cl73, Ar73, q73, S73, M73, H73, U73⟩ := id V72
    obtain ⟨T73, h73, X73, e73, W73, st73⟩ := stJ X72 hx hZ0 e72 Ar73 (j := (0 : Int32)) (inb_of S73 ⟨(by decide), (by decide)⟩) (g := (mkF m 65 #[rv ks, iv 0, iv 3, iv (-1), iv 1, .val (.long q1), .second] [(.long q1), (.int 0), (.ref ks)])) rfl rfl (hb hby d3_65)
    have V73 : Arv Z h73 ks kk .long (256 : Int32) [(.long q1), (.long q0), (.long q2)] (.long 0) := (Arv.set Ar73 q73 S73 M73 H73 U73 rfl W73 0 rfl (Nat.le_of_ble_eq_true rfl))
    have z73 : h72.size ≤ h73.size := Nat.le_of_eq W73.size.symm
    have KP73 : Keep h0 h73 ([ks] : List Addr) := KP72.wr W73 (Or.inl (List.mem_of_getElem? (i := 0) rfl))
    have N73 := Fr.snoc X73 N72 (by omega)
    obtain ⟨cl74, Ar74, q74, S74, M74, H74, U74⟩ := id V73
    have hin74 := ((inb_of S74 ⟨(by decide), (by decide)⟩) : ¬ ((2 : Int32) < 0 ∨ cl74.slots.size ≤ ((2 : Int32)).toNatClampNeg))
    refine Go.on (w := T73.setTop (mkF m 25 #[rv ks, iv 0, iv 3, iv 2, iv 2, .val (.long q2), .second] [(.int 1), (.int 2), (.ref ks), (.long q2)])) (fun t k => XS.lload X72.here hx rfl (hb hby d3_63) rfl (st73 _ (XS.goto X73.here hx rfl (pc0 := 66) (pc' := 3) rfl (hb hby d3_66) (by decide) (by decide) (XS.iinc X73.here hx rfl (hb hby d3_3) rfl (l' := #[rv ks, iv 0, iv 3, iv (-1), iv 2, .val (.long q1), .second]) rfl (XS.iload X73.here hx rfl (hb hby d3_6) rfl (XS.iloadN X73.here hx rfl (hb hby d3_8) rfl (XS.icmpNo X73.here hx rfl (hb hby d3_9) rfl (tlt (by decide : (2 : Int32) < (3 : Int32))).2.1 (XS.aloadN X73.here hx rfl (hb hby d3_12) rfl rfl (XS.iload X73.here hx rfl (hb hby d3_13) rfl (XS.dup X73.here hx rfl (hb hby d3_15) rfl rfl (XS.istoreN X73.here hx rfl (hb hby d3_16) rfl (l' := #[rv ks, iv 0, iv 3, iv 2, iv 2, .val (.long q1), .second]) rfl (X73.laload hx (j := (2 : Int32)) (v := (.long q2)) (by rw [e73]; exact Ar74.1) (State.isArrayOf_alike hZ0.alike Ar74.2.1) Ar74.2.2 hin74 (H74.at hin74 rfl) (g := (mkF m 17 #[rv ks, iv 0, iv 3, iv 2, iv 2, .val (.long q1), .second] [(.int 2), (.ref ks)])) rfl rfl (hb hby d3_17) _ (XS.lstore X73.here hx rfl (hb hby d3_18) rfl (l' := #[rv ks, iv 0, iv 3, iv 2, iv 2, .val (.long q2), .second]) rfl (XS.lload X73.here hx rfl (hb hby d3_20) rfl (XS.aloadN X73.here hx rfl (hb hby d3_22) rfl rfl (XS.iloadN X73.here hx rfl (hb hby d3_23) rfl (XS.iconst X73.here hx rfl (hb hby d3_24) k))))))))))))))))) ?_
    refine Go.on (w := T73.setTop (mkF m 26 #[rv ks, iv 0, iv 3, iv 2, iv 2, .val (.long q2), .second] [(.int 1), (.ref ks), (.long q2)])) (fun t k => XS.isub X73.here hx rfl (hb hby d3_25) rfl (by rw [(by decide : ((2 : Int32) - (1 : Int32)) = (1 : Int32))]; exact k)) ?_
    obtain ⟨cl75, Ar75, q75, S75, M75, H75, U75⟩ := id V73
    have hin75 := ((inb_of S75 ⟨(by decide), (by decide)⟩) : ¬ ((1 : Int32) < 0 ∨ cl75.slots.size ≤ ((1 : Int32)).toNatClampNeg))
    refine Go.on (w := T73.setTop (mkF m 28 #[rv ks, iv 0, iv 3, iv 2, iv 2, .val (.long q2), .second] [(.int (lcmpW q2 q0))])) (fun t k => X73.laload hx (j := (1 : Int32)) (v := (.long q0)) (by rw [e73]; exact Ar75.1) (State.isArrayOf_alike hZ0.alike Ar75.2.1) Ar75.2.2 hin75 (H75.at hin75 rfl) (g := (mkF m 26 #[rv ks, iv 0, iv 3, iv 2, iv 2, .val (.long q2), .second] [(.int 1), (.ref ks), (.long q2)])) rfl rfl (hb hby d3_26) _ (XS.lcmp X73.here hx rfl (hb hby d3_27) rfl k)) ?_
    by_cases hc76 : (lcmpW q2 q0) < (0 : Int32)
    ·
      obtain ⟨cl77, Ar77, q77, S77, M77, H77, U77⟩ := id V73
      have hin77 := ((inb_of S77 ⟨(by decide), (by decide)⟩) : ¬ ((1 : Int32) < 0 ∨ cl77.slots.size ≤ ((1 : Int32)).toNatClampNeg))
      refine Go.on (w := T73.setTop (mkF m 51 #[rv ks, iv 0, iv 3, iv 1, iv 2, .val (.long q2), .second] [(.int 1), (.int 1), (.ref ks)])) (fun t k => XS.ifNo X73.here hx rfl (hb hby d3_28) rfl ((if0 _ _).trans (tlt hc76).2.1) (XS.iinc X73.here hx rfl (hb hby d3_31) rfl (l' := #[rv ks, iv 0, iv 3, iv 1, iv 2, .val (.long q2), .second]) rfl (XS.iloadN X73.here hx rfl (hb hby d3_34) rfl (XS.iloadN X73.here hx rfl (hb hby d3_35) rfl (XS.icmpNo X73.here hx rfl (hb hby d3_36) rfl (flt (by decide : ¬ ((1 : Int32) < (0 : Int32)))).1 (XS.lload X73.here hx rfl (hb hby d3_39) rfl (XS.aloadN X73.here hx rfl (hb hby d3_41) rfl rfl (XS.iloadN X73.here hx rfl (hb hby d3_42) rfl (X73.laload hx (j := (1 : Int32)) (v := (.long q0)) (by rw [e73]; exact Ar77.1) (State.isArrayOf_alike hZ0.alike Ar77.2.1) Ar77.2.2 hin77 (H77.at hin77 rfl) (g := (mkF m 43 #[rv ks, iv 0, iv 3, iv 1, iv 2, .val (.long q2), .second] [(.int 1), (.ref ks), (.long q2)])) rfl rfl (hb hby d3_43) _ (XS.lcmp X73.here hx rfl (hb hby d3_44) rfl (XS.ifNo X73.here hx rfl (hb hby d3_45) rfl ((if0 _ _).trans (tlt hc76).2.1) (XS.aloadN X73.here hx rfl (hb hby d3_48) rfl rfl (XS.iloadN X73.here hx rfl (hb hby d3_49) rfl (XS.iconst X73.here hx rfl (hb hby d3_50) k)))))))))))))) ?_
      refine Go.on (w := T73.setTop (mkF m 52 #[rv ks, iv 0, iv 3, iv 1, iv 2, .val (.long q2), .second] [(.int 2), (.ref ks)])) (fun t k => XS.iadd X73.here hx rfl (hb hby d3_51) rfl (by rw [(by decide : ((1 : Int32) + (1 : Int32)) = (2 : Int32))]; exact k)) ?_
      obtain ⟨cl78, Ar78, q78, S78, M78, H78, U78⟩ := id V73
      have hin78 := ((inb_of S78 ⟨(by decide), (by decide)⟩) : ¬ ((1 : Int32) < 0 ∨ cl78.slots.size ≤ ((1 : Int32)).toNatClampNeg))
      obtain ⟨cl79, Ar79, q79, S79, M79, H79, U79⟩ := id V73
      obtain ⟨T79, h79, X79, e79, W79, st79⟩ := stJ X73 hx hZ0 e73 Ar79 (j := (2 : Int32)) (inb_of S79 ⟨(by decide), (by decide)⟩) (g := (mkF m 55 #[rv ks, iv 0, iv 3, iv 1, iv 2, .val (.long q2), .second] [(.long q0), (.int 2), (.ref ks)])) rfl rfl (hb hby d3_55)
      have V79 : Arv Z h79 ks kk .long (256 : Int32) [(.long q1), (.long q0), (.long q0)] (.long 0) := (Arv.set Ar79 q79 S79 M79 H79 U79 rfl W79 2 rfl (Nat.le_of_ble_eq_true rfl))
      have z79 : h73.size ≤ h79.size := Nat.le_of_eq W79.size.symm
      have KP79 : Keep h0 h79 ([ks] : List Addr) := KP73.wr W79 (Or.inl (List.mem_of_getElem? (i := 0) rfl))
      have N79 := Fr.snoc X79 N73 (by omega)
      obtain ⟨cl80, Ar80, q80, S80, M80, H80, U80⟩ := id V79
      have hin80 := ((inb_of S80 ⟨(by decide), (by decide)⟩) : ¬ ((0 : Int32) < 0 ∨ cl80.slots.size ≤ ((0 : Int32)).toNatClampNeg))
      refine Go.on (w := T79.setTop (mkF m 45 #[rv ks, iv 0, iv 3, iv 0, iv 2, .val (.long q2), .second] [(.int (lcmpW q2 q1))])) (fun t k => XS.aloadN X73.here hx rfl (hb hby d3_52) rfl rfl (XS.iloadN X73.here hx rfl (hb hby d3_53) rfl (X73.laload hx (j := (1 : Int32)) (v := (.long q0)) (by rw [e73]; exact Ar78.1) (State.isArrayOf_alike hZ0.alike Ar78.2.1) Ar78.2.2 hin78 (H78.at hin78 rfl) (g := (mkF m 54 #[rv ks, iv 0, iv 3, iv 1, iv 2, .val (.long q2), .second] [(.int 1), (.ref ks), (.int 2), (.ref ks)])) rfl rfl (hb hby d3_54) _ (st79 _ (XS.goto X79.here hx rfl (pc0 := 56) (pc' := 31) rfl (hb hby d3_56) (by decide) (by decide) (XS.iinc X79.here hx rfl (hb hby d3_31) rfl (l' := #[rv ks, iv 0, iv 3, iv 0, iv 2, .val (.long q2), .second]) rfl (XS.iloadN X79.here hx rfl (hb hby d3_34) rfl (XS.iloadN X79.here hx rfl (hb hby d3_35) rfl (XS.icmpNo X79.here hx rfl (hb hby d3_36) rfl (flt (by decide : ¬ ((0 : Int32) < (0 : Int32)))).1 (XS.lload X79.here hx rfl (hb hby d3_39) rfl (XS.aloadN X79.here hx rfl (hb hby d3_41) rfl rfl (XS.iloadN X79.here hx rfl (hb hby d3_42) rfl (X79.laload hx (j := (0 : Int32)) (v := (.long q1)) (by rw [e79]; exact Ar80.1) (State.isArrayOf_alike hZ0.alike Ar80.2.1) Ar80.2.2 hin80 (H80.at hin80 rfl) (g := (mkF m 43 #[rv ks, iv 0, iv 3, iv 0, iv 2, .val (.long q2), .second] [(.int 0), (.ref ks), (.long q2)])) rfl rfl (hb hby d3_43) _ (XS.lcmp X79.here hx rfl (hb hby d3_44) rfl k)))))))))))))) ?_
      by_cases hc81 : (lcmpW q2 q1) < (0 : Int32)
      ·
        refine Go.on (w := T79.setTop (mkF m 51 #[rv ks, iv 0, iv 3, iv 0, iv 2, .val (.long q2), .second] [(.int 1), (.int 0), (.ref ks)])) (fun t k => XS.ifNo X79.here hx rfl (hb hby d3_45) rfl ((if0 _ _).trans (tlt hc81).2.1) (XS.aloadN X79.here hx rfl (hb hby d3_48) rfl rfl (XS.iloadN X79.here hx rfl (hb hby d3_49) rfl (XS.iconst X79.here hx rfl (hb hby d3_50) k)))) ?_
        refine Go.on (w := T79.setTop (mkF m 52 #[rv ks, iv 0, iv 3, iv 0, iv 2, .val (.long q2), .second] [(.int 1), (.ref ks)])) (fun t k => XS.iadd X79.here hx rfl (hb hby d3_51) rfl (by rw [(by decide : ((0 : Int32) + (1 : Int32)) = (1 : Int32))]; exact k)) ?_
        obtain ⟨cl82, Ar82, q82, S82, M82, H82, U82⟩ := id V79
        have hin82 := ((inb_of S82 ⟨(by decide), (by decide)⟩) : ¬ ((0 : Int32) < 0 ∨ cl82.slots.size ≤ ((0 : Int32)).toNatClampNeg))
        obtain ⟨cl83, Ar83, q83, S83, M83, H83, U83⟩ := id V79
        obtain ⟨T83, h83, X83, e83, W83, st83⟩ := stJ X79 hx hZ0 e79 Ar83 (j := (1 : Int32)) (inb_of S83 ⟨(by decide), (by decide)⟩) (g := (mkF m 55 #[rv ks, iv 0, iv 3, iv 0, iv 2, .val (.long q2), .second] [(.long q1), (.int 1), (.ref ks)])) rfl rfl (hb hby d3_55)
        have V83 : Arv Z h83 ks kk .long (256 : Int32) [(.long q1), (.long q1), (.long q0)] (.long 0) := (Arv.set Ar83 q83 S83 M83 H83 U83 rfl W83 1 rfl (Nat.le_of_ble_eq_true rfl))
        have z83 : h79.size ≤ h83.size := Nat.le_of_eq W83.size.symm
        have KP83 : Keep h0 h83 ([ks] : List Addr) := KP79.wr W83 (Or.inl (List.mem_of_getElem? (i := 0) rfl))
        have N83 := Fr.snoc X83 N79 (by omega)
        refine Go.on (w := T83.setTop (mkF m 62 #[rv ks, iv 0, iv 3, iv (-1), iv 2, .val (.long q2), .second] [(.int 1), (.int (-1)), (.ref ks)])) (fun t k => XS.aloadN X79.here hx rfl (hb hby d3_52) rfl rfl (XS.iloadN X79.here hx rfl (hb hby d3_53) rfl (X79.laload hx (j := (0 : Int32)) (v := (.long q1)) (by rw [e79]; exact Ar82.1) (State.isArrayOf_alike hZ0.alike Ar82.2.1) Ar82.2.2 hin82 (H82.at hin82 rfl) (g := (mkF m 54 #[rv ks, iv 0, iv 3, iv 0, iv 2, .val (.long q2), .second] [(.int 0), (.ref ks), (.int 1), (.ref ks)])) rfl rfl (hb hby d3_54) _ (st83 _ (XS.goto X83.here hx rfl (pc0 := 56) (pc' := 31) rfl (hb hby d3_56) (by decide) (by decide) (XS.iinc X83.here hx rfl (hb hby d3_31) rfl (l' := #[rv ks, iv 0, iv 3, iv (-1), iv 2, .val (.long q2), .second]) rfl (XS.iloadN X83.here hx rfl (hb hby d3_34) rfl (XS.iloadN X83.here hx rfl (hb hby d3_35) rfl (XS.icmpYes X83.here hx rfl (pc0 := 36) (pc' := 59) rfl (hb hby d3_36) rfl (tlt (by decide : (-1 : Int32) < (0 : Int32))).1 (by decide) (by decide) (XS.aloadN X83.here hx rfl (hb hby d3_59) rfl rfl (XS.iloadN X83.here hx rfl (hb hby d3_60) rfl (XS.iconst X83.here hx rfl (hb hby d3_61) k)))))))))))) ?_
        refine Go.on (w := T83.setTop (mkF m 63 #[rv ks, iv 0, iv 3, iv (-1), iv 2, .val (.long q2), .second] [(.int 0), (.ref ks)])) (fun t k => XS.iadd X83.here hx rfl (hb hby d3_62) rfl (by rw [(by decide : ((-1 : Int32) + (1 : Int32)) = (0 : Int32))]; exact k)) ?_
        obtain ⟨cl84, Ar84, q84, S84, M84, H84, U84⟩ := id V83
        obtain ⟨T84, h84, X84, e84, W84, st84⟩ := stJ X83 hx hZ0 e83 Ar84 (j := (0 : Int32)) (inb_of S84 ⟨(by decide), (by decide)⟩) (g := (mkF m 65 #[rv ks, iv 0, iv 3, iv (-1), iv 2, .val (.long q2), .second] [(.long q2), (.int 0), (.ref ks)])) rfl rfl (hb hby d3_65)
        have V84 : Arv Z h84 ks kk .long (256 : Int32) [(.long q2), (.long q1), (.long q0)] (.long 0) := (Arv.set Ar84 q84 S84 M84 H84 U84 rfl W84 0 rfl (Nat.le_of_ble_eq_true rfl))
        have z84 : h83.size ≤ h84.size := Nat.le_of_eq W84.size.symm
        have KP84 : Keep h0 h84 ([ks] : List Addr) := KP83.wr W84 (Or.inl (List.mem_of_getElem? (i := 0) rfl))
        have N84 := Fr.snoc X84 N83 (by omega)
        refine Go.on (w := T84.setTop (mkF m 69 #[rv ks, iv 0, iv 3, iv (-1), iv 3, .val (.long q2), .second] [])) (fun t k => XS.lload X83.here hx rfl (hb hby d3_63) rfl (st84 _ (XS.goto X84.here hx rfl (pc0 := 66) (pc' := 3) rfl (hb hby d3_66) (by decide) (by decide) (XS.iinc X84.here hx rfl (hb hby d3_3) rfl (l' := #[rv ks, iv 0, iv 3, iv (-1), iv 3, .val (.long q2), .second]) rfl (XS.iload X84.here hx rfl (hb hby d3_6) rfl (XS.iloadN X84.here hx rfl (hb hby d3_8) rfl (XS.icmpYes X84.here hx rfl (pc0 := 9) (pc' := 69) rfl (hb hby d3_9) rfl (flt (by decide : ¬ ((3 : Int32) < (3 : Int32)))).2.1 (by decide) (by decide) k))))))) ?_
        refine Go.finH X84 hlk (v := none) (fun _ => rfl) (fun fs hr => ?_) (endH (Q := Q_rmIns Z ks kk q0 q1 q2 h0) (by rw [e84]; exact ⟨q2, q1, q0, rfl, N84, KP84, V84, Or.inr (Or.inr (Or.inr (Or.inl ⟨rfl, rfl, rfl, own_lcT hc69, own_lcT hc76, own_lcT hc81⟩)))⟩) (by decide) (by decide))
        exact X84.returnOut hx Bd.returns (hb hby d3_69) hr
      ·
        refine Go.on (w := T79.setTop (mkF m 62 #[rv ks, iv 0, iv 3, iv 0, iv 2, .val (.long q2), .second] [(.int 1), (.int 0), (.ref ks)])) (fun t k => XS.ifYes X79.here hx rfl (pc0 := 45) (pc' := 59) rfl (hb hby d3_45) rfl ((if0 _ _).trans (flt hc81).2.1) (by decide) (by decide) (XS.aloadN X79.here hx rfl (hb hby d3_59) rfl rfl (XS.iloadN X79.here hx rfl (hb hby d3_60) rfl (XS.iconst X79.here hx rfl (hb hby d3_61) k)))) ?_
        refine Go.on (w := T79.setTop (mkF m 63 #[rv ks, iv 0, iv 3, iv 0, iv 2, .val (.long q2), .second] [(.int 1), (.ref ks)])) (fun t k => XS.iadd X79.here hx rfl (hb hby d3_62) rfl (by rw [(by decide : ((0 : Int32) + (1 : Int32)) = (1 : Int32))]; exact k)) ?_
        obtain ⟨cl85, Ar85, q85, S85, M85, H85, U85⟩ := id V79
        obtain ⟨T85, h85, X85, e85, W85, st85⟩ := stJ X79 hx hZ0 e79 Ar85 (j := (1 : Int32)) (inb_of S85 ⟨(by decide), (by decide)⟩) (g := (mkF m 65 #[rv ks, iv 0, iv 3, iv 0, iv 2, .val (.long q2), .second] [(.long q2), (.int 1), (.ref ks)])) rfl rfl (hb hby d3_65)
        have V85 : Arv Z h85 ks kk .long (256 : Int32) [(.long q1), (.long q2), (.long q0)] (.long 0) := (Arv.set Ar85 q85 S85 M85 H85 U85 rfl W85 1 rfl (Nat.le_of_ble_eq_true rfl))
        have z85 : h79.size ≤ h85.size := Nat.le_of_eq W85.size.symm
        have KP85 : Keep h0 h85 ([ks] : List Addr) := KP79.wr W85 (Or.inl (List.mem_of_getElem? (i := 0) rfl))
        have N85 := Fr.snoc X85 N79 (by omega)
        refine Go.on (w := T85.setTop (mkF m 69 #[rv ks, iv 0, iv 3, iv 0, iv 3, .val (.long q2), .second] [])) (fun t k => XS.lload X79.here hx rfl (hb hby d3_63) rfl (st85 _ (XS.goto X85.here hx rfl (pc0 := 66) (pc' := 3) rfl (hb hby d3_66) (by decide) (by decide) (XS.iinc X85.here hx rfl (hb hby d3_3) rfl (l' := #[rv ks, iv 0, iv 3, iv 0, iv 3, .val (.long q2), .second]) rfl (XS.iload X85.here hx rfl (hb hby d3_6) rfl (XS.iloadN X85.here hx rfl (hb hby d3_8) rfl (XS.icmpYes X85.here hx rfl (pc0 := 9) (pc' := 69) rfl (hb hby d3_9) rfl (flt (by decide : ¬ ((3 : Int32) < (3 : Int32)))).2.1 (by decide) (by decide) k))))))) ?_
        refine Go.finH X85 hlk (v := none) (fun _ => rfl) (fun fs hr => ?_) (endH (Q := Q_rmIns Z ks kk q0 q1 q2 h0) (by rw [e85]; exact ⟨q1, q2, q0, rfl, N85, KP85, V85, Or.inr (Or.inr (Or.inl ⟨rfl, rfl, rfl, own_lcT hc69, own_lcT hc76, own_lcF hc81⟩))⟩) (by decide) (by decide))
        exact X85.returnOut hx Bd.returns (hb hby d3_69) hr
    ·
      refine Go.on (w := T73.setTop (mkF m 69 #[rv ks, iv 0, iv 3, iv 2, iv 3, .val (.long q2), .second] [])) (fun t k => XS.ifYes X73.here hx rfl (pc0 := 28) (pc' := 66) rfl (hb hby d3_28) rfl ((if0 _ _).trans (flt hc76).2.1) (by decide) (by decide) (XS.goto X73.here hx rfl (pc0 := 66) (pc' := 3) rfl (hb hby d3_66) (by decide) (by decide) (XS.iinc X73.here hx rfl (hb hby d3_3) rfl (l' := #[rv ks, iv 0, iv 3, iv 2, iv 3, .val (.long q2), .second]) rfl (XS.iload X73.here hx rfl (hb hby d3_6) rfl (XS.iloadN X73.here hx rfl (hb hby d3_8) rfl (XS.icmpYes X73.here hx rfl (pc0 := 9) (pc' := 69) rfl (hb hby d3_9) rfl (flt (by decide : ¬ ((3 : Int32) < (3 : Int32)))).2.1 (by decide) (by decide) k)))))) ?_
      refine Go.finH X73 hlk (v := none) (fun _ => rfl) (fun fs hr => ?_) (endH (Q := Q_rmIns Z ks kk q0 q1 q2 h0) (by rw [e73]; exact ⟨q1, q0, q2, rfl, N73, KP73, V73, Or.inr (Or.inl ⟨rfl, rfl, rfl, own_lcT hc69, own_lcF hc76⟩)⟩) (by decide) (by decide))
      exact X73.returnOut hx Bd.returns (hb hby d3_69) hr
  ·
    obtain ⟨cl86, Ar86, q86, S86, M86, H86, U86⟩ := id Vk
    have hin86 := ((inb_of S86 ⟨(by decide), (by decide)⟩) : ¬ ((2 : Int32) < 0 ∨ cl86.slots.size ≤ ((2 : Int32)).toNatClampNeg))
    refine Go.on (w := s₁.setTop (mkF m 25 #[rv ks, iv 0, iv 3, iv 2, iv 2, .val (.long q2), .second] [(.int 1), (.int 2), (.ref ks), (.long q2)])) (fun t k => XS.ifYes X0.here hx rfl (pc0 := 28) (pc' := 66) rfl (hb hby d3_28) rfl ((if0 _ _).trans (flt hc69).2.1) (by decide) (by decide) (XS.goto X0.here hx rfl (pc0 := 66) (pc' := 3) rfl (hb hby d3_66) (by decide) (by decide) (XS.iinc X0.here hx rfl (hb hby d3_3) rfl (l' := #[rv ks, iv 0, iv 3, iv 1, iv 2, .val (.long q1), .second]) rfl (XS.iload X0.here hx rfl (hb hby d3_6) rfl (XS.iloadN X0.here hx rfl (hb hby d3_8) rfl (XS.icmpNo X0.here hx rfl (hb hby d3_9) rfl (tlt (by decide : (2 : Int32) < (3 : Int32))).2.1 (XS.aloadN X0.here hx rfl (hb hby d3_12) rfl rfl (XS.iload X0.here hx rfl (hb hby d3_13) rfl (XS.dup X0.here hx rfl (hb hby d3_15) rfl rfl (XS.istoreN X0.here hx rfl (hb hby d3_16) rfl (l' := #[rv ks, iv 0, iv 3, iv 2, iv 2, .val (.long q1), .second]) rfl (X0.laload hx (j := (2 : Int32)) (v := (.long q2)) (by rw [e0]; exact Ar86.1) (State.isArrayOf_alike hZ0.alike Ar86.2.1) Ar86.2.2 hin86 (H86.at hin86 rfl) (g := (mkF m 17 #[rv ks, iv 0, iv 3, iv 2, iv 2, .val (.long q1), .second] [(.int 2), (.ref ks)])) rfl rfl (hb hby d3_17) _ (XS.lstore X0.here hx rfl (hb hby d3_18) rfl (l' := #[rv ks, iv 0, iv 3, iv 2, iv 2, .val (.long q2), .second]) rfl (XS.lload X0.here hx rfl (hb hby d3_20) rfl (XS.aloadN X0.here hx rfl (hb hby d3_22) rfl rfl (XS.iloadN X0.here hx rfl (hb hby d3_23) rfl (XS.iconst X0.here hx rfl (hb hby d3_24) k)))))))))))))))) ?_
    refine Go.on (w := s₁.setTop (mkF m 26 #[rv ks, iv 0, iv 3, iv 2, iv 2, .val (.long q2), .second] [(.int 1), (.ref ks), (.long q2)])) (fun t k => XS.isub X0.here hx rfl (hb hby d3_25) rfl (by rw [(by decide : ((2 : Int32) - (1 : Int32)) = (1 : Int32))]; exact k)) ?_
    obtain ⟨cl87, Ar87, q87, S87, M87, H87, U87⟩ := id Vk
    have hin87 := ((inb_of S87 ⟨(by decide), (by decide)⟩) : ¬ ((1 : Int32) < 0 ∨ cl87.slots.size ≤ ((1 : Int32)).toNatClampNeg))
    refine Go.on (w := s₁.setTop (mkF m 28 #[rv ks, iv 0, iv 3, iv 2, iv 2, .val (.long q2), .second] [(.int (lcmpW q2 q1))])) (fun t k => X0.laload hx (j := (1 : Int32)) (v := (.long q1)) (by rw [e0]; exact Ar87.1) (State.isArrayOf_alike hZ0.alike Ar87.2.1) Ar87.2.2 hin87 (H87.at hin87 rfl) (g := (mkF m 26 #[rv ks, iv 0, iv 3, iv 2, iv 2, .val (.long q2), .second] [(.int 1), (.ref ks), (.long q2)])) rfl rfl (hb hby d3_26) _ (XS.lcmp X0.here hx rfl (hb hby d3_27) rfl k)) ?_
    by_cases hc88 : (lcmpW q2 q1) < (0 : Int32)
    ·
      obtain ⟨cl89, Ar89, q89, S89, M89, H89, U89⟩ := id Vk
      have hin89 := ((inb_of S89 ⟨(by decide), (by decide)⟩) : ¬ ((1 : Int32) < 0 ∨ cl89.slots.size ≤ ((1 : Int32)).toNatClampNeg))
      refine Go.on (w := s₁.setTop (mkF m 51 #[rv ks, iv 0, iv 3, iv 1, iv 2, .val (.long q2), .second] [(.int 1), (.int 1), (.ref ks)])) (fun t k => XS.ifNo X0.here hx rfl (hb hby d3_28) rfl ((if0 _ _).trans (tlt hc88).2.1) (XS.iinc X0.here hx rfl (hb hby d3_31) rfl (l' := #[rv ks, iv 0, iv 3, iv 1, iv 2, .val (.long q2), .second]) rfl (XS.iloadN X0.here hx rfl (hb hby d3_34) rfl (XS.iloadN X0.here hx rfl (hb hby d3_35) rfl (XS.icmpNo X0.here hx rfl (hb hby d3_36) rfl (flt (by decide : ¬ ((1 : Int32) < (0 : Int32)))).1 (XS.lload X0.here hx rfl (hb hby d3_39) rfl (XS.aloadN X0.here hx rfl (hb hby d3_41) rfl rfl (XS.iloadN X0.here hx rfl (hb hby d3_42) rfl (X0.laload hx (j := (1 : Int32)) (v := (.long q1)) (by rw [e0]; exact Ar89.1) (State.isArrayOf_alike hZ0.alike Ar89.2.1) Ar89.2.2 hin89 (H89.at hin89 rfl) (g := (mkF m 43 #[rv ks, iv 0, iv 3, iv 1, iv 2, .val (.long q2), .second] [(.int 1), (.ref ks), (.long q2)])) rfl rfl (hb hby d3_43) _ (XS.lcmp X0.here hx rfl (hb hby d3_44) rfl (XS.ifNo X0.here hx rfl (hb hby d3_45) rfl ((if0 _ _).trans (tlt hc88).2.1) (XS.aloadN X0.here hx rfl (hb hby d3_48) rfl rfl (XS.iloadN X0.here hx rfl (hb hby d3_49) rfl (XS.iconst X0.here hx rfl (hb hby d3_50) k)))))))))))))) ?_
      refine Go.on (w := s₁.setTop (mkF m 52 #[rv ks, iv 0, iv 3, iv 1, iv 2, .val (.long q2), .second] [(.int 2), (.ref ks)])) (fun t k => XS.iadd X0.here hx rfl (hb hby d3_51) rfl (by rw [(by decide : ((1 : Int32) + (1 : Int32)) = (2 : Int32))]; exact k)) ?_
      obtain ⟨cl90, Ar90, q90, S90, M90, H90, U90⟩ := id Vk
      have hin90 := ((inb_of S90 ⟨(by decide), (by decide)⟩) : ¬ ((1 : Int32) < 0 ∨ cl90.slots.size ≤ ((1 : Int32)).toNatClampNeg))
      obtain ⟨cl91, Ar91, q91, S91, M91, H91, U91⟩ := id Vk
      obtain ⟨T91, h91, X91, e91, W91, st91⟩ := stJ X0 hx hZ0 e0 Ar91 (j := (2 : Int32)) (inb_of S91 ⟨(by decide), (by decide)⟩) (g := (mkF m 55 #[rv ks, iv 0, iv 3, iv 1, iv 2, .val (.long q2), .second] [(.long q1), (.int 2), (.ref ks)])) rfl rfl (hb hby d3_55)
      have V91 : Arv Z h91 ks kk .long (256 : Int32) [(.long q0), (.long q1), (.long q1)] (.long 0) := (Arv.set Ar91 q91 S91 M91 H91 U91 rfl W91 2 rfl (Nat.le_of_ble_eq_true rfl))
      have z91 : h0.size ≤ h91.size := Nat.le_of_eq W91.size.symm
      have KP91 : Keep h0 h91 ([ks] : List Addr) := KP0.wr W91 (Or.inl (List.mem_of_getElem? (i := 0) rfl))
      have N91 := Fr.snoc X91 N0 (by omega)
      obtain ⟨cl92, Ar92, q92, S92, M92, H92, U92⟩ := id V91
      have hin92 := ((inb_of S92 ⟨(by decide), (by decide)⟩) : ¬ ((0 : Int32) < 0 ∨ cl92.slots.size ≤ ((0 : Int32)).toNatClampNeg))
      refine Go.on (w := T91.setTop (mkF m 45 #[rv ks, iv 0, iv 3, iv 0, iv 2, .val (.long q2), .second] [(.int (lcmpW q2 q0))])) (fun t k => XS.aloadN X0.here hx rfl (hb hby d3_52) rfl rfl (XS.iloadN X0.here hx rfl (hb hby d3_53) rfl (X0.laload hx (j := (1 : Int32)) (v := (.long q1)) (by rw [e0]; exact Ar90.1) (State.isArrayOf_alike hZ0.alike Ar90.2.1) Ar90.2.2 hin90 (H90.at hin90 rfl) (g := (mkF m 54 #[rv ks, iv 0, iv 3, iv 1, iv 2, .val (.long q2), .second] [(.int 1), (.ref ks), (.int 2), (.ref ks)])) rfl rfl (hb hby d3_54) _ (st91 _ (XS.goto X91.here hx rfl (pc0 := 56) (pc' := 31) rfl (hb hby d3_56) (by decide) (by decide) (XS.iinc X91.here hx rfl (hb hby d3_31) rfl (l' := #[rv ks, iv 0, iv 3, iv 0, iv 2, .val (.long q2), .second]) rfl (XS.iloadN X91.here hx rfl (hb hby d3_34) rfl (XS.iloadN X91.here hx rfl (hb hby d3_35) rfl (XS.icmpNo X91.here hx rfl (hb hby d3_36) rfl (flt (by decide : ¬ ((0 : Int32) < (0 : Int32)))).1 (XS.lload X91.here hx rfl (hb hby d3_39) rfl (XS.aloadN X91.here hx rfl (hb hby d3_41) rfl rfl (XS.iloadN X91.here hx rfl (hb hby d3_42) rfl (X91.laload hx (j := (0 : Int32)) (v := (.long q0)) (by rw [e91]; exact Ar92.1) (State.isArrayOf_alike hZ0.alike Ar92.2.1) Ar92.2.2 hin92 (H92.at hin92 rfl) (g := (mkF m 43 #[rv ks, iv 0, iv 3, iv 0, iv 2, .val (.long q2), .second] [(.int 0), (.ref ks), (.long q2)])) rfl rfl (hb hby d3_43) _ (XS.lcmp X91.here hx rfl (hb hby d3_44) rfl k)))))))))))))) ?_
      by_cases hc93 : (lcmpW q2 q0) < (0 : Int32)
      ·
        refine Go.on (w := T91.setTop (mkF m 51 #[rv ks, iv 0, iv 3, iv 0, iv 2, .val (.long q2), .second] [(.int 1), (.int 0), (.ref ks)])) (fun t k => XS.ifNo X91.here hx rfl (hb hby d3_45) rfl ((if0 _ _).trans (tlt hc93).2.1) (XS.aloadN X91.here hx rfl (hb hby d3_48) rfl rfl (XS.iloadN X91.here hx rfl (hb hby d3_49) rfl (XS.iconst X91.here hx rfl (hb hby d3_50) k)))) ?_
        refine Go.on (w := T91.setTop (mkF m 52 #[rv ks, iv 0, iv 3, iv 0, iv 2, .val (.long q2), .second] [(.int 1), (.ref ks)])) (fun t k => XS.iadd X91.here hx rfl (hb hby d3_51) rfl (by rw [(by decide : ((0 : Int32) + (1 : Int32)) = (1 : Int32))]; exact k)) ?_
        obtain ⟨cl94, Ar94, q94, S94, M94, H94, U94⟩ := id V91
        have hin94 := ((inb_of S94 ⟨(by decide), (by decide)⟩) : ¬ ((0 : Int32) < 0 ∨ cl94.slots.size ≤ ((0 : Int32)).toNatClampNeg))
        obtain ⟨cl95, Ar95, q95, S95, M95, H95, U95⟩ := id V91
        obtain ⟨T95, h95, X95, e95, W95, st95⟩ := stJ X91 hx hZ0 e91 Ar95 (j := (1 : Int32)) (inb_of S95 ⟨(by decide), (by decide)⟩) (g := (mkF m 55 #[rv ks, iv 0, iv 3, iv 0, iv 2, .val (.long q2), .second] [(.long q0), (.int 1), (.ref ks)])) rfl rfl (hb hby d3_55)
        have V95 : Arv Z h95 ks kk .long (256 : Int32) [(.long q0), (.long q0), (.long q1)] (.long 0) := (Arv.set Ar95 q95 S95 M95 H95 U95 rfl W95 1 rfl (Nat.le_of_ble_eq_true rfl))
        have z95 : h91.size ≤ h95.size := Nat.le_of_eq W95.size.symm
        have KP95 : Keep h0 h95 ([ks] : List Addr) := KP91.wr W95 (Or.inl (List.mem_of_getElem? (i := 0) rfl))
        have N95 := Fr.snoc X95 N91 (by omega)
        refine Go.on (w := T95.setTop (mkF m 62 #[rv ks, iv 0, iv 3, iv (-1), iv 2, .val (.long q2), .second] [(.int 1), (.int (-1)), (.ref ks)])) (fun t k => XS.aloadN X91.here hx rfl (hb hby d3_52) rfl rfl (XS.iloadN X91.here hx rfl (hb hby d3_53) rfl (X91.laload hx (j := (0 : Int32)) (v := (.long q0)) (by rw [e91]; exact Ar94.1) (State.isArrayOf_alike hZ0.alike Ar94.2.1) Ar94.2.2 hin94 (H94.at hin94 rfl) (g := (mkF m 54 #[rv ks, iv 0, iv 3, iv 0, iv 2, .val (.long q2), .second] [(.int 0), (.ref ks), (.int 1), (.ref ks)])) rfl rfl (hb hby d3_54) _ (st95 _ (XS.goto X95.here hx rfl (pc0 := 56) (pc' := 31) rfl (hb hby d3_56) (by decide) (by decide) (XS.iinc X95.here hx rfl (hb hby d3_31) rfl (l' := #[rv ks, iv 0, iv 3, iv (-1), iv 2, .val (.long q2), .second]) rfl (XS.iloadN X95.here hx rfl (hb hby d3_34) rfl (XS.iloadN X95.here hx rfl (hb hby d3_35) rfl (XS.icmpYes X95.here hx rfl (pc0 := 36) (pc' := 59) rfl (hb hby d3_36) rfl (tlt (by decide : (-1 : Int32) < (0 : Int32))).1 (by decide) (by decide) (XS.aloadN X95.here hx rfl (hb hby d3_59) rfl rfl (XS.iloadN X95.here hx rfl (hb hby d3_60) rfl (XS.iconst X95.here hx rfl (hb hby d3_61) k)))))))))))) ?_
        refine Go.on (w := T95.setTop (mkF m 63 #[rv ks, iv 0, iv 3, iv (-1), iv 2, .val (.long q2), .second] [(.int 0), (.ref ks)])) (fun t k => XS.iadd X95.here hx rfl (hb hby d3_62) rfl (by rw [(by decide : ((-1 : Int32) + (1 : Int32)) = (0 : Int32))]; exact k)) ?_
        obtain ⟨cl96, Ar96, q96, S96, M96, H96, U96⟩ := id V95
        obtain ⟨T96, h96, X96, e96, W96, st96⟩ := stJ X95 hx hZ0 e95 Ar96 (j := (0 : Int32)) (inb_of S96 ⟨(by decide), (by decide)⟩) (g := (mkF m 65 #[rv ks, iv 0, iv 3, iv (-1), iv 2, .val (.long q2), .second] [(.long q2), (.int 0), (.ref ks)])) rfl rfl (hb hby d3_65)
        have V96 : Arv Z h96 ks kk .long (256 : Int32) [(.long q2), (.long q0), (.long q1)] (.long 0) := (Arv.set Ar96 q96 S96 M96 H96 U96 rfl W96 0 rfl (Nat.le_of_ble_eq_true rfl))
        have z96 : h95.size ≤ h96.size := Nat.le_of_eq W96.size.symm
        have KP96 : Keep h0 h96 ([ks] : List Addr) := KP95.wr W96 (Or.inl (List.mem_of_getElem? (i := 0) rfl))
        have N96 := Fr.snoc X96 N95 (by omega)
        refine Go.on (w := T96.setTop (mkF m 69 #[rv ks, iv 0, iv 3, iv (-1), iv 3, .val (.long q2), .second] [])) (fun t k => XS.lload X95.here hx rfl (hb hby d3_63) rfl (st96 _ (XS.goto X96.here hx rfl (pc0 := 66) (pc' := 3) rfl (hb hby d3_66) (by decide) (by decide) (XS.iinc X96.here hx rfl (hb hby d3_3) rfl (l' := #[rv ks, iv 0, iv 3, iv (-1), iv 3, .val (.long q2), .second]) rfl (XS.iload X96.here hx rfl (hb hby d3_6) rfl (XS.iloadN X96.here hx rfl (hb hby d3_8) rfl (XS.icmpYes X96.here hx rfl (pc0 := 9) (pc' := 69) rfl (hb hby d3_9) rfl (flt (by decide : ¬ ((3 : Int32) < (3 : Int32)))).2.1 (by decide) (by decide) k))))))) ?_
        refine Go.finH X96 hlk (v := none) (fun _ => rfl) (fun fs hr => ?_) (endH (Q := Q_rmIns Z ks kk q0 q1 q2 h0) (by rw [e96]; exact ⟨q2, q0, q1, rfl, N96, KP96, V96, Or.inr (Or.inr (Or.inr (Or.inr (Or.inr (⟨rfl, rfl, rfl, own_lcF hc69, own_lcT hc88, own_lcT hc93⟩)))))⟩) (by decide) (by decide))
        exact X96.returnOut hx Bd.returns (hb hby d3_69) hr
      ·
        refine Go.on (w := T91.setTop (mkF m 62 #[rv ks, iv 0, iv 3, iv 0, iv 2, .val (.long q2), .second] [(.int 1), (.int 0), (.ref ks)])) (fun t k => XS.ifYes X91.here hx rfl (pc0 := 45) (pc' := 59) rfl (hb hby d3_45) rfl ((if0 _ _).trans (flt hc93).2.1) (by decide) (by decide) (XS.aloadN X91.here hx rfl (hb hby d3_59) rfl rfl (XS.iloadN X91.here hx rfl (hb hby d3_60) rfl (XS.iconst X91.here hx rfl (hb hby d3_61) k)))) ?_
        refine Go.on (w := T91.setTop (mkF m 63 #[rv ks, iv 0, iv 3, iv 0, iv 2, .val (.long q2), .second] [(.int 1), (.ref ks)])) (fun t k => XS.iadd X91.here hx rfl (hb hby d3_62) rfl (by rw [(by decide : ((0 : Int32) + (1 : Int32)) = (1 : Int32))]; exact k)) ?_
        obtain ⟨cl97, Ar97, q97, S97, M97, H97, U97⟩ := id V91
        obtain ⟨T97, h97, X97, e97, W97, st97⟩ := stJ X91 hx hZ0 e91 Ar97 (j := (1 : Int32)) (inb_of S97 ⟨(by decide), (by decide)⟩) (g := (mkF m 65 #[rv ks, iv 0, iv 3, iv 0, iv 2, .val (.long q2), .second] [(.long q2), (.int 1), (.ref ks)])) rfl rfl (hb hby d3_65)
        have V97 : Arv Z h97 ks kk .long (256 : Int32) [(.long q0), (.long q2), (.long q1)] (.long 0) := (Arv.set Ar97 q97 S97 M97 H97 U97 rfl W97 1 rfl (Nat.le_of_ble_eq_true rfl))
        have z97 : h91.size ≤ h97.size := Nat.le_of_eq W97.size.symm
        have KP97 : Keep h0 h97 ([ks] : List Addr) := KP91.wr W97 (Or.inl (List.mem_of_getElem? (i := 0) rfl))
        have N97 := Fr.snoc X97 N91 (by omega)
        refine Go.on (w := T97.setTop (mkF m 69 #[rv ks, iv 0, iv 3, iv 0, iv 3, .val (.long q2), .second] [])) (fun t k => XS.lload X91.here hx rfl (hb hby d3_63) rfl (st97 _ (XS.goto X97.here hx rfl (pc0 := 66) (pc' := 3) rfl (hb hby d3_66) (by decide) (by decide) (XS.iinc X97.here hx rfl (hb hby d3_3) rfl (l' := #[rv ks, iv 0, iv 3, iv 0, iv 3, .val (.long q2), .second]) rfl (XS.iload X97.here hx rfl (hb hby d3_6) rfl (XS.iloadN X97.here hx rfl (hb hby d3_8) rfl (XS.icmpYes X97.here hx rfl (pc0 := 9) (pc' := 69) rfl (hb hby d3_9) rfl (flt (by decide : ¬ ((3 : Int32) < (3 : Int32)))).2.1 (by decide) (by decide) k))))))) ?_
        refine Go.finH X97 hlk (v := none) (fun _ => rfl) (fun fs hr => ?_) (endH (Q := Q_rmIns Z ks kk q0 q1 q2 h0) (by rw [e97]; exact ⟨q0, q2, q1, rfl, N97, KP97, V97, Or.inr (Or.inr (Or.inr (Or.inr (Or.inl ⟨rfl, rfl, rfl, own_lcF hc69, own_lcT hc88, own_lcF hc93⟩))))⟩) (by decide) (by decide))
        exact X97.returnOut hx Bd.returns (hb hby d3_69) hr
    ·
      refine Go.on (w := s₁.setTop (mkF m 69 #[rv ks, iv 0, iv 3, iv 2, iv 3, .val (.long q2), .second] [])) (fun t k => XS.ifYes X0.here hx rfl (pc0 := 28) (pc' := 66) rfl (hb hby d3_28) rfl ((if0 _ _).trans (flt hc88).2.1) (by decide) (by decide) (XS.goto X0.here hx rfl (pc0 := 66) (pc' := 3) rfl (hb hby d3_66) (by decide) (by decide) (XS.iinc X0.here hx rfl (hb hby d3_3) rfl (l' := #[rv ks, iv 0, iv 3, iv 2, iv 3, .val (.long q2), .second]) rfl (XS.iload X0.here hx rfl (hb hby d3_6) rfl (XS.iloadN X0.here hx rfl (hb hby d3_8) rfl (XS.icmpYes X0.here hx rfl (pc0 := 9) (pc' := 69) rfl (hb hby d3_9) rfl (flt (by decide : ¬ ((3 : Int32) < (3 : Int32)))).2.1 (by decide) (by decide) k)))))) ?_
      refine Go.finH X0 hlk (v := none) (fun _ => rfl) (fun fs hr => ?_) (endH (Q := Q_rmIns Z ks kk q0 q1 q2 h0) (by rw [e0]; exact ⟨q0, q1, q2, rfl, N0, KP0, Vk, Or.inl ⟨rfl, rfl, rfl, own_lcF hc69, own_lcF hc88⟩⟩) (by decide) (by decide))
      exact X0.returnOut hx Bd.returns (hb hby d3_69) hr
def Q_rmS5 (Z : State) (ks : Addr) (kk : ClassId) (q0 : Int64) (q1 : Int64) (q2 : Int64) (h0 : Heap) (vv : Option Value) (h : Heap) (L : List Loc) : Prop := ∃ (s0 : Int64) (s1 : Int64) (s2 : Int64), vv = none ∧ Fr Z.heap.size L ∧ Keep h0 h [ks] ∧ Arv Z h ks kk .long (256 : Int32) [(.long s0), (.long s1), (.long s2)] (.long 0) ∧ (own_srt q0 q1 q2 s0 s1 s2)
theorem ef_rmS5 (m : MethodId) (x1 : Addr) (x2 : Int32) (x3 : Int32) (x4 : Int32)   : entryFrame m #[.null, (.ref x1), (.int x2), (.int x3), (.int x4)] 25 = mkF m 0 #[.val .null, .val (.ref x1), .val (.int x2), .val (.int x3), .val (.int x4), .unset, .unset, .unset, .unset, .unset, .unset, .unset, .unset, .unset, .unset, .unset, .unset, .unset, .unset, .unset, .unset, .unset, .unset, .unset, .unset] [] := by first | (simp [entryFrame, mkF, argsToLocals, Value.category]; done) | rfl
set_option maxRecDepth 65536 in
set_option maxHeartbeats 40000000 in
theorem rmS5 (l : Launch) (Z : State) (a0 : Array Value) (hw : ∀ d ∈ tables_1, d.before a0 Z = true) (ws : List Jvm.Cond) (ks : Addr) (kk : ClassId) (q0 : Int64) (q1 : Int64) (q2 : Int64) (h0 : Heap) (Z0 : Z.heap.size ≤ h0.size) (lo_ks : Z.heap.size ≤ ks) (Vk : Arv Z h0 ks kk .long (256 : Int32) [(.long q0), (.long q1), (.long q2)] (.long 0)) :
    MetFree l yM7 (head1 (Jvm.Cond.code yM7 jdk_2529_method_13_code 25 none :: ws) ({ frames := 1, cells := 0, slots := 0, locals := 18 } : Room)) (fun a U => a = #[.null, (.ref ks), (.int 0), (.int 0), (.int 3)] ∧ Z.Warmed39 U.vm ∧ U.heap = h0) (fun _ _ _ _ _ => True) (fun _ U o U' => ∃ v L, o = .returned v ∧ Q_rmS5 Z ks kk q0 q1 q2 h0 v U'.heap L ∧ FrameEnd U o U' L ({ frames := 1, cells := 0, slots := 0, locals := 18 } : Room).cells ({ frames := 1, cells := 0, slots := 0, locals := 18 } : Room).slots) := by
  refine MetFree.of_bodySF (plainFor_of_name (by first | (simp [plainName, overriddenIn]; done) | decide +kernel)) hisR ?_
  intro p e s m args below meth c s₁ Bd hml0 hP hK
  obtain ⟨rfl, hZ0', hh⟩ := hP
  have hx := Bd.exec
  have hby := Bd.bytes
  have hml : c.maxLocals = 25 := hml0
  have hZ0 : Z.Warmed39 s.vm := hZ0'
  have hown0 : s.vm.findClass "java/util/DualPivotQuicksort" = some m.cls := findClass_of_methodNamed Bd.named
  have hnm := (name_of_methodNamed Bd.named Bd.method).1
  have hlk : meth.locks = false := Bd.notSynchronized
  have X0 : Stand p l e ({ frames := 1, cells := 0, slots := 0, locals := 18 } : Room) s m #[.null, (.ref ks), (.int 0), (.int 0), (.int 3)] below meth c s₁ [] 0 0 := Stand.of_body Bd
  have e0 : s₁.heap = h0 := by rw [← hh, Bd.state]; rfl
  have N0 := Fr.nil Z.heap.size
  have KP0 : Keep h0 h0 ([ks] : List Addr) := Keep.refl _ _
  show Go p e below (fun t o => ∃ v L, o = .returned v ∧ Q_rmS5 Z ks kk q0 q1 q2 h0 v t.heap L ∧ FrameEnd s o t L ({ frames := 1, cells := 0, slots := 0, locals := 18 } : Room).cells ({ frames := 1, cells := 0, slots := 0, locals := 18 } : Room).slots) (s₁.setTop (entryFrame m #[.null, (.ref ks), (.int 0), (.int 0), (.int 3)] 25))
  refine Go.on (w := s₁.setTop (mkF m 0 #[.val .null, rv ks, iv 0, iv 0, iv 3, .unset, .unset, .unset, .unset, .unset, .unset, .unset, .unset, .unset, .unset, .unset, .unset, .unset, .unset, .unset, .unset, .unset, .unset, .unset, .unset] [])) (fun t k => castTop (ef_rmS5 m ks (0 : Int32) (0 : Int32) (3 : Int32)) k) ?_
  have u_ks : h0.size > ks := Vk.lt
  refine Go.on (w := s₁.setTop (mkF m 3 #[.val .null, rv ks, iv 0, iv 0, iv 3, .unset, .unset, .unset, .unset, .unset, .unset, .unset, .unset, .unset, .unset, .unset, .unset, .unset, .unset, .unset, .unset, .unset, .unset, .unset, .unset] [(.int 1), (.int 3)])) (fun t k => XS.iload X0.here hx rfl (hb hby d4_0) rfl (XS.iconst X0.here hx rfl (hb hby d4_2) k)) ?_
  refine Go.on (w := s₁.setTop (mkF m 4 #[.val .null, rv ks, iv 0, iv 0, iv 3, .unset, .unset, .unset, .unset, .unset, .unset, .unset, .unset, .unset, .unset, .unset, .unset, .unset, .unset, .unset, .unset, .unset, .unset, .unset, .unset] [(.int 2)])) (fun t k => XS.isub X0.here hx rfl (hb hby d4_3) rfl (by rw [(by decide : ((3 : Int32) - (1 : Int32)) = (2 : Int32))]; exact k)) ?_
  refine Go.on (w := s₁.setTop (mkF m 9 #[.val .null, rv ks, iv 0, iv 0, iv 3, iv 2, .unset, .unset, .unset, .unset, .unset, .unset, .unset, .unset, .unset, .unset, .unset, .unset, .unset, .unset, .unset, .unset, .unset, .unset, .unset] [(.int 0), (.int 3)])) (fun t k => XS.istore X0.here hx rfl (hb hby d4_4) rfl (l' := #[.val .null, rv ks, iv 0, iv 0, iv 3, iv 2, .unset, .unset, .unset, .unset, .unset, .unset, .unset, .unset, .unset, .unset, .unset, .unset, .unset, .unset, .unset, .unset, .unset, .unset, .unset]) rfl (XS.iload X0.here hx rfl (hb hby d4_6) rfl (XS.iloadN X0.here hx rfl (hb hby d4_8) rfl k))) ?_
  refine Go.on (w := s₁.setTop (mkF m 10 #[.val .null, rv ks, iv 0, iv 0, iv 3, iv 2, .unset, .unset, .unset, .unset, .unset, .unset, .unset, .unset, .unset, .unset, .unset, .unset, .unset, .unset, .unset, .unset, .unset, .unset, .unset] [(.int 3)])) (fun t k => XS.isub X0.here hx rfl (hb hby d4_9) rfl (by rw [(by decide : ((3 : Int32) - (0 : Int32)) = (3 : Int32))]; exact k)) ?_
  refine Go.on (w := s₁.setTop (mkF m 17 #[.val .null, rv ks, iv 0, iv 0, iv 3, iv 2, iv 3, .unset, .unset, .unset, .unset, .unset, .unset, .unset, .unset, .unset, .unset, .unset, .unset, .unset, .unset, .unset, .unset, .unset, .unset] [(.int 0), (.int 65), (.int 3)])) (fun t k => XS.istore X0.here hx rfl (hb hby d4_10) rfl (l' := #[.val .null, rv ks, iv 0, iv 0, iv 3, iv 2, iv 3, .unset, .unset, .unset, .unset, .unset, .unset, .unset, .unset, .unset, .unset, .unset, .unset, .unset, .unset, .unset, .unset, .unset, .unset]) rfl (XS.iload X0.here hx rfl (hb hby d4_12) rfl (XS.bipush X0.here hx rfl (hb hby d4_14) (XS.iloadN X0.here hx rfl (hb hby d4_16) rfl k)))) ?_
  refine Go.on (w := s₁.setTop (mkF m 18 #[.val .null, rv ks, iv 0, iv 0, iv 3, iv 2, iv 3, .unset, .unset, .unset, .unset, .unset, .unset, .unset, .unset, .unset, .unset, .unset, .unset, .unset, .unset, .unset, .unset, .unset, .unset] [(.int 65), (.int 3)])) (fun t k => XS.iadd X0.here hx rfl (hb hby d4_17) rfl (by rw [(by decide : ((65 : Int32) + (0 : Int32)) = (65 : Int32))]; exact k)) ?_
  refine Go.on (w := s₁.setTop (mkF m 23 #[.val .null, rv ks, iv 0, iv 0, iv 3, iv 2, iv 3, .unset, .unset, .unset, .unset, .unset, .unset, .unset, .unset, .unset, .unset, .unset, .unset, .unset, .unset, .unset, .unset, .unset, .unset] [(.int 1), (.int 0)])) (fun t k => XS.icmpNo X0.here hx rfl (hb hby d4_18) rfl (tlt (by decide : (3 : Int32) < (65 : Int32))).2.1 (XS.iloadN X0.here hx rfl (hb hby d4_21) rfl (XS.iconst X0.here hx rfl (hb hby d4_22) k))) ?_
  refine Go.on (w := s₁.setTop (mkF m 24 #[.val .null, rv ks, iv 0, iv 0, iv 3, iv 2, iv 3, .unset, .unset, .unset, .unset, .unset, .unset, .unset, .unset, .unset, .unset, .unset, .unset, .unset, .unset, .unset, .unset, .unset, .unset] [(.int 0)])) (fun t k => XS.iand X0.here hx rfl (hb hby d4_23) rfl (by rw [(by decide : ((0 : Int32) &&& (1 : Int32)) = (0 : Int32))]; exact k)) ?_
  obtain ⟨v98, _, ⟨T98, L98, k98, n98⟩, -, X98, ⟨Lc98, hQ98, l98, y98, z98⟩, st98⟩ := Jvm.LawKit.callS X0 hx (y := yM8) hown0 (mvT hZ0 (w_42 hw)) (mvT hZ0 (w_43 hw)) (mvT hZ0 (w_37 hw)) (mvT hZ0 (w_44 hw)) (by decide) (backOf (W := 0) (rmIns l Z a0 hw [] ks kk q0 q1 q2 h0 (by omega) (by omega) Vk) hZ0 (w_44 hw) (w_37 hw) (by decide) (by decide)) (g := (mkF m 57 #[.val .null, rv ks, iv 0, iv 0, iv 3, iv 2, iv 3, .unset, .unset, .unset, .unset, .unset, .unset, .unset, .unset, .unset, .unset, .unset, .unset, .unset, .unset, .unset, .unset, .unset, .unset] [(.int 3), (.int 0), (.ref ks)])) rfl (by rw [hml]; rfl) (argsL := [(.ref ks), (.int 0), (.int 3)]) (rest := []) (lenOf pd_0 rfl) rfl (by show 2 * 0 + _ ≤ _; exact Nat.le_of_eq rfl) (hb hby d4_57) (fun _ _ => ⟨rfl, e0, (by decide : 0 + 0 ≤ _), (by decide : 0 + 0 ≤ _)⟩)
  dsimp only [Pt.U, Pt.locs, Pt.cells, Pt.slots] at X98 l98 y98 z98 st98 hQ98
  subst l98 y98 z98
  obtain ⟨s0_98, s1_98, s2_98, rfl, Nq98, K98, f98_0, f98_1⟩ := hQ98
  have N98 := Fr.app N0 Nq98
  have eK98 : T98.heap = T98.heap := rfl
  have z98 : h0.size ≤ T98.heap.size := K98.1
  have KP98 : Keep h0 T98.heap ([ks] : List Addr) := KP0.trans K98 (allS (P := fun x => x ∈ ([ks] : List Addr) ∨ h0.size ≤ x) (Or.inl (List.mem_of_getElem? (i := 0) rfl)) all0)
  refine Go.on (w := T98.setTop (mkF m 60 #[.val .null, rv ks, iv 0, iv 0, iv 3, iv 2, iv 3, .unset, .unset, .unset, .unset, .unset, .unset, .unset, .unset, .unset, .unset, .unset, .unset, .unset, .unset, .unset, .unset, .unset, .unset] [])) (fun t k => XS.ifYes X0.here hx rfl (pc0 := 24) (pc' := 46) rfl (hb hby d4_24) rfl ((if0 _ _).trans (flt (by decide : ¬ ((0 : Int32) < (0 : Int32)))).2.2.2) (by decide) (by decide) (XS.iload X0.here hx rfl (hb hby d4_46) rfl (XS.bipush X0.here hx rfl (hb hby d4_48) (XS.icmpNo X0.here hx rfl (hb hby d4_50) rfl (tlt (by decide : (3 : Int32) < (44 : Int32))).2.1 (XS.aloadN X0.here hx rfl (hb hby d4_53) rfl rfl (XS.iloadN X0.here hx rfl (hb hby d4_54) rfl (XS.iload X0.here hx rfl (hb hby d4_55) rfl (st98 _ k)))))))) ?_
  refine Go.finH X98 hlk (v := none) (fun _ => rfl) (fun fs hr => ?_) (endH (Q := Q_rmS5 Z ks kk q0 q1 q2 h0) (by rw [eK98]; exact ⟨s0_98, s1_98, s2_98, rfl, N98, KP98, f98_0, f98_1⟩) (by decide) (by decide))
  exact X98.returnOut hx Bd.returns (hb hby d4_60) hr
def Q_rmS4 (Z : State) (ks : Addr) (kk : ClassId) (q0 : Int64) (q1 : Int64) (q2 : Int64) (h0 : Heap) (vv : Option Value) (h : Heap) (L : List Loc) : Prop := ∃ (s0 : Int64) (s1 : Int64) (s2 : Int64), vv = none ∧ Fr Z.heap.size L ∧ Keep h0 h [ks] ∧ Arv Z h ks kk .long (256 : Int32) [(.long s0), (.long s1), (.long s2)] (.long 0) ∧ (own_srt q0 q1 q2 s0 s1 s2)
theorem ef_rmS4 (m : MethodId) (x0 : Addr) (x1 : Int32) (x2 : Int32) (x3 : Int32)   : entryFrame m #[(.ref x0), (.int x1), (.int x2), (.int x3)] 7 = mkF m 0 #[.val (.ref x0), .val (.int x1), .val (.int x2), .val (.int x3), .unset, .unset, .unset] [] := by first | rfl | (simp [entryFrame, mkF, argsToLocals, Value.category]; done)
set_option maxRecDepth 65536 in
set_option maxHeartbeats 40000000 in
theorem rmS4 (l : Launch) (Z : State) (a0 : Array Value) (hw : ∀ d ∈ tables_1, d.before a0 Z = true) (ws : List Jvm.Cond) (ks : Addr) (kk : ClassId) (q0 : Int64) (q1 : Int64) (q2 : Int64) (h0 : Heap) (Z0 : Z.heap.size ≤ h0.size) (lo_ks : Z.heap.size ≤ ks) (Vk : Arv Z h0 ks kk .long (256 : Int32) [(.long q0), (.long q1), (.long q2)] (.long 0)) :
    MetFree l yM6 (head1 (Jvm.Cond.code yM6 jdk_2529_method_12_code 7 none :: ws) ({ frames := 2, cells := 0, slots := 0, locals := 54 } : Room)) (fun a U => a = #[(.ref ks), (.int 0), (.int 0), (.int 3)] ∧ Z.Warmed39 U.vm ∧ U.heap = h0) (fun _ _ _ _ _ => True) (fun _ U o U' => ∃ v L, o = .returned v ∧ Q_rmS4 Z ks kk q0 q1 q2 h0 v U'.heap L ∧ FrameEnd U o U' L ({ frames := 2, cells := 0, slots := 0, locals := 54 } : Room).cells ({ frames := 2, cells := 0, slots := 0, locals := 54 } : Room).slots) := by
  refine MetFree.of_bodySF (plainFor_of_name (by first | (simp [plainName, overriddenIn]; done) | decide +kernel)) hisR ?_
  intro p e s m args below meth c s₁ Bd hml0 hP hK
  obtain ⟨rfl, hZ0', hh⟩ := hP
  have hx := Bd.exec
  have hby := Bd.bytes
  have hml : c.maxLocals = 7 := hml0
  have hZ0 : Z.Warmed39 s.vm := hZ0'
  have hown0 : s.vm.findClass "java/util/DualPivotQuicksort" = some m.cls := findClass_of_methodNamed Bd.named
  have hnm := (name_of_methodNamed Bd.named Bd.method).1
  have hlk : meth.locks = false := Bd.notSynchronized
  have X0 : Stand p l e ({ frames := 2, cells := 0, slots := 0, locals := 54 } : Room) s m #[(.ref ks), (.int 0), (.int 0), (.int 3)] below meth c s₁ [] 0 0 := Stand.of_body Bd
  have e0 : s₁.heap = h0 := by rw [← hh, Bd.state]; rfl
  have N0 := Fr.nil Z.heap.size
  have KP0 : Keep h0 h0 ([ks] : List Addr) := Keep.refl _ _
  show Go p e below (fun t o => ∃ v L, o = .returned v ∧ Q_rmS4 Z ks kk q0 q1 q2 h0 v t.heap L ∧ FrameEnd s o t L ({ frames := 2, cells := 0, slots := 0, locals := 54 } : Room).cells ({ frames := 2, cells := 0, slots := 0, locals := 54 } : Room).slots) (s₁.setTop (entryFrame m #[(.ref ks), (.int 0), (.int 0), (.int 3)] 7))
  refine Go.on (w := s₁.setTop (mkF m 0 #[rv ks, iv 0, iv 0, iv 3, .unset, .unset, .unset] [])) (fun t k => castTop (ef_rmS4 m ks (0 : Int32) (0 : Int32) (3 : Int32)) k) ?_
  have u_ks : h0.size > ks := Vk.lt
  refine Go.on (w := s₁.setTop (mkF m 2 #[rv ks, iv 0, iv 0, iv 3, .unset, .unset, .unset] [(.int 0), (.int 3)])) (fun t k => XS.iloadN X0.here hx rfl (hb hby d5_0) rfl (XS.iloadN X0.here hx rfl (hb hby d5_1) rfl k)) ?_
  refine Go.on (w := s₁.setTop (mkF m 3 #[rv ks, iv 0, iv 0, iv 3, .unset, .unset, .unset] [(.int 3)])) (fun t k => XS.isub X0.here hx rfl (hb hby d5_2) rfl (by rw [(by decide : ((3 : Int32) - (0 : Int32)) = (3 : Int32))]; exact k)) ?_
  obtain ⟨v99, _, ⟨T99, L99, k99, n99⟩, -, X99, ⟨Lc99, hQ99, l99, y99, z99⟩, st99⟩ := Jvm.LawKit.callS X0 hx (y := yM7) hown0 (mvT hZ0 (w_39 hw)) (mvT hZ0 (w_40 hw)) (mvT hZ0 (w_37 hw)) (mvT hZ0 (w_41 hw)) (by decide) (backOf (W := 0) (rmS5 l Z a0 hw [] ks kk q0 q1 q2 h0 (by omega) (by omega) Vk) hZ0 (w_41 hw) (w_37 hw) (by decide) (by decide)) (g := (mkF m 73 #[rv ks, iv 0, iv 0, iv 3, iv 3, .unset, .unset] [(.int 3), (.int 0), (.int 0), (.ref ks), .null])) rfl (by rw [hml]; rfl) (argsL := [.null, (.ref ks), (.int 0), (.int 0), (.int 3)]) (rest := []) (lenOf pd_1 rfl) rfl (by show 2 * 0 + _ ≤ _; exact Nat.le_of_eq rfl) (hb hby d5_73) (fun _ _ => ⟨rfl, e0, (by decide : 0 + 0 ≤ _), (by decide : 0 + 0 ≤ _)⟩)
  dsimp only [Pt.U, Pt.locs, Pt.cells, Pt.slots] at X99 l99 y99 z99 st99 hQ99
  subst l99 y99 z99
  obtain ⟨s0_99, s1_99, s2_99, rfl, Nq99, K99, f99_0, f99_1⟩ := hQ99
  have N99 := Fr.app N0 Nq99
  have eK99 : T99.heap = T99.heap := rfl
  have z99 : h0.size ≤ T99.heap.size := K99.1
  have KP99 : Keep h0 T99.heap ([ks] : List Addr) := KP0.trans K99 (allS (P := fun x => x ∈ ([ks] : List Addr) ∨ h0.size ≤ x) (Or.inl (List.mem_of_getElem? (i := 0) rfl)) all0)
  refine Go.on (w := T99.setTop (mkF m 76 #[rv ks, iv 0, iv 0, iv 3, iv 3, .unset, .unset] [])) (fun t k => XS.istore X0.here hx rfl (hb hby d5_3) rfl (l' := #[rv ks, iv 0, iv 0, iv 3, iv 3, .unset, .unset]) rfl (XS.iloadN X0.here hx rfl (hb hby d5_5) rfl (XS.iconst X0.here hx rfl (hb hby d5_6) (XS.icmpYes X0.here hx rfl (pc0 := 7) (pc' := 68) rfl (hb hby d5_7) rfl (flt (by decide : ¬ ((1 : Int32) < (0 : Int32)))).2.2.2 (by decide) (by decide) (XS.aconstNull X0.here hx rfl (hb hby d5_68) (XS.aloadN X0.here hx rfl (hb hby d5_69) rfl rfl (XS.iconst X0.here hx rfl (hb hby d5_70) (XS.iloadN X0.here hx rfl (hb hby d5_71) rfl (XS.iloadN X0.here hx rfl (hb hby d5_72) rfl (st99 _ k)))))))))) ?_
  refine Go.finH X99 hlk (v := none) (fun _ => rfl) (fun fs hr => ?_) (endH (Q := Q_rmS4 Z ks kk q0 q1 q2 h0) (by rw [eK99]; exact ⟨s0_99, s1_99, s2_99, rfl, N99, KP99, f99_0, f99_1⟩) (by decide) (by decide))
  exact X99.returnOut hx Bd.returns (hb hby d5_76) hr
def Q_rmS3 (Z : State) (ks : Addr) (kk : ClassId) (q0 : Int64) (q1 : Int64) (q2 : Int64) (h0 : Heap) (vv : Option Value) (h : Heap) (L : List Loc) : Prop := ∃ (s0 : Int64) (s1 : Int64) (s2 : Int64), vv = none ∧ Fr Z.heap.size L ∧ Keep h0 h [ks] ∧ Arv Z h ks kk .long (256 : Int32) [(.long s0), (.long s1), (.long s2)] (.long 0) ∧ (own_srt q0 q1 q2 s0 s1 s2)
theorem ef_rmS3 (m : MethodId) (x0 : Addr) (x1 : Int32) (x2 : Int32)   : entryFrame m #[(.ref x0), (.int x1), (.int x2)] 3 = mkF m 0 #[.val (.ref x0), .val (.int x1), .val (.int x2)] [] := by first | rfl | (simp [entryFrame, mkF, argsToLocals, Value.category]; done)
set_option maxRecDepth 65536 in
set_option maxHeartbeats 40000000 in
theorem rmS3 (l : Launch) (Z : State) (a0 : Array Value) (hw : ∀ d ∈ tables_1, d.before a0 Z = true) (ws : List Jvm.Cond) (ks : Addr) (kk : ClassId) (q0 : Int64) (q1 : Int64) (q2 : Int64) (h0 : Heap) (Z0 : Z.heap.size ≤ h0.size) (lo_ks : Z.heap.size ≤ ks) (Vk : Arv Z h0 ks kk .long (256 : Int32) [(.long q0), (.long q1), (.long q2)] (.long 0)) :
    MetFree l yM4 (head1 (Jvm.Cond.code yM4 jdk_65_method_5_code 3 none :: ws) ({ frames := 3, cells := 0, slots := 0, locals := 72 } : Room)) (fun a U => a = #[(.ref ks), (.int 0), (.int 3)] ∧ Z.Warmed39 U.vm ∧ U.heap = h0) (fun _ _ _ _ _ => True) (fun _ U o U' => ∃ v L, o = .returned v ∧ Q_rmS3 Z ks kk q0 q1 q2 h0 v U'.heap L ∧ FrameEnd U o U' L ({ frames := 3, cells := 0, slots := 0, locals := 72 } : Room).cells ({ frames := 3, cells := 0, slots := 0, locals := 72 } : Room).slots) := by
  refine MetFree.of_bodySF (plainFor_of_name (by first | (simp [plainName, overriddenIn]; done) | decide +kernel)) hisR ?_
  intro p e s m args below meth c s₁ Bd hml0 hP hK
  obtain ⟨rfl, hZ0', hh⟩ := hP
  have hx := Bd.exec
  have hby := Bd.bytes
  have hml : c.maxLocals = 3 := hml0
  have hZ0 : Z.Warmed39 s.vm := hZ0'
  have hown0 : s.vm.findClass "java/util/Arrays" = some m.cls := findClass_of_methodNamed Bd.named
  have hnm := (name_of_methodNamed Bd.named Bd.method).1
  have hlk : meth.locks = false := Bd.notSynchronized
  have X0 : Stand p l e ({ frames := 3, cells := 0, slots := 0, locals := 72 } : Room) s m #[(.ref ks), (.int 0), (.int 3)] below meth c s₁ [] 0 0 := Stand.of_body Bd
  have e0 : s₁.heap = h0 := by rw [← hh, Bd.state]; rfl
  have N0 := Fr.nil Z.heap.size
  have KP0 : Keep h0 h0 ([ks] : List Addr) := Keep.refl _ _
  show Go p e below (fun t o => ∃ v L, o = .returned v ∧ Q_rmS3 Z ks kk q0 q1 q2 h0 v t.heap L ∧ FrameEnd s o t L ({ frames := 3, cells := 0, slots := 0, locals := 72 } : Room).cells ({ frames := 3, cells := 0, slots := 0, locals := 72 } : Room).slots) (s₁.setTop (entryFrame m #[(.ref ks), (.int 0), (.int 3)] 3))
  refine Go.on (w := s₁.setTop (mkF m 0 #[rv ks, iv 0, iv 3] [])) (fun t k => castTop (ef_rmS3 m ks (0 : Int32) (3 : Int32)) k) ?_
  have u_ks : h0.size > ks := Vk.lt
  obtain ⟨cl100, Ar100, q100, S100, M100, H100, U100⟩ := id Vk
  refine Go.on (w := s₁.setTop (mkF m 1 #[rv ks, iv 0, iv 3] [(.ref ks)])) (fun t k => XS.aloadN X0.here hx rfl (hb hby d6_0) rfl rfl k) ?_
  refine Go.on (w := s₁.setTop (mkF m 2 #[rv ks, iv 0, iv 3] [(.int 256)])) (fun t k => X0.arraylength hx (by rw [e0]; exact Ar100.1) (State.isArrayOf_alike hZ0.alike Ar100.2.1) (g := (mkF m 1 #[rv ks, iv 0, iv 3] [(.ref ks)])) rfl rfl (hb hby d6_1) _ (by rw [len_of S100 M100]; exact k)) ?_
  obtain ⟨v101, _, ⟨T101, L101, k101, n101⟩, -, X101, ⟨Lc101, hQ101, l101, y101, z101⟩, st101⟩ := Jvm.LawKit.callS X0 hx (y := yM5) hown0 (mvT hZ0 (w_32 hw)) (mvT hZ0 (w_33 hw)) (mvT hZ0 (w_30 hw)) (mvT hZ0 (w_34 hw)) (by decide) (backOf (W := 0) (rmRng l Z a0 hw [] () h0 ) hZ0 (w_34 hw) (w_30 hw) (by decide) (by decide)) (g := (mkF m 4 #[rv ks, iv 0, iv 3] [(.int 3), (.int 0), (.int 256)])) rfl (by rw [hml]; rfl) (argsL := [(.int 256), (.int 0), (.int 3)]) (rest := []) (lenOf pd_2 rfl) rfl (by show 2 * 0 + _ ≤ _; exact Nat.le_of_eq rfl) (hb hby d6_4) (fun _ _ => ⟨rfl, e0, (by decide : 0 + 0 ≤ _), (by decide : 0 + 0 ≤ _)⟩)
  dsimp only [Pt.U, Pt.locs, Pt.cells, Pt.slots] at X101 l101 y101 z101 st101 hQ101
  subst l101 y101 z101
  obtain ⟨rfl, Nq101, eh101⟩ := hQ101
  have N101 := Fr.app N0 Nq101
  obtain ⟨v102, _, ⟨T102, L102, k102, n102⟩, -, X102, ⟨Lc102, hQ102, l102, y102, z102⟩, st102⟩ := Jvm.LawKit.callS X101 hx (y := yM6) hown0 (mvT hZ0 (w_35 hw)) (mvT hZ0 (w_36 hw)) (mvT hZ0 (w_37 hw)) (mvT hZ0 (w_38 hw)) (by decide) (backOf (W := 0) (rmS4 l Z a0 hw [] ks kk q0 q1 q2 h0 (by omega) (by omega) Vk) hZ0 (w_38 hw) (w_37 hw) (by decide) (by decide)) (g := (mkF m 11 #[rv ks, iv 0, iv 3] [(.int 3), (.int 0), (.int 0), (.ref ks)])) rfl (by rw [hml]; rfl) (argsL := [(.ref ks), (.int 0), (.int 0), (.int 3)]) (rest := []) (lenOf pd_3 rfl) rfl (by show 2 * 0 + _ ≤ _; exact Nat.le_of_eq rfl) (hb hby d6_11) (fun _ _ => ⟨rfl, eh101, (by decide : 0 + 0 ≤ _), (by decide : 0 + 0 ≤ _)⟩)
  dsimp only [Pt.U, Pt.locs, Pt.cells, Pt.slots] at X102 l102 y102 z102 st102 hQ102
  subst l102 y102 z102
  obtain ⟨s0_102, s1_102, s2_102, rfl, Nq102, K102, f102_0, f102_1⟩ := hQ102
  have N102 := Fr.app N101 Nq102
  have eK102 : T102.heap = T102.heap := rfl
  have z102 : h0.size ≤ T102.heap.size := K102.1
  have KP102 : Keep h0 T102.heap ([ks] : List Addr) := KP0.trans K102 (allS (P := fun x => x ∈ ([ks] : List Addr) ∨ h0.size ≤ x) (Or.inl (List.mem_of_getElem? (i := 0) rfl)) all0)
  refine Go.on (w := T102.setTop (mkF m 14 #[rv ks, iv 0, iv 3] [])) (fun t k => XS.iloadN X0.here hx rfl (hb hby d6_2) rfl (XS.iloadN X0.here hx rfl (hb hby d6_3) rfl (st101 _ (XS.aloadN X101.here hx rfl (hb hby d6_7) rfl rfl (XS.iconst X101.here hx rfl (hb hby d6_8) (XS.iloadN X101.here hx rfl (hb hby d6_9) rfl (XS.iloadN X101.here hx rfl (hb hby d6_10) rfl (st102 _ k)))))))) ?_
  refine Go.finH X102 hlk (v := none) (fun _ => rfl) (fun fs hr => ?_) (endH (Q := Q_rmS3 Z ks kk q0 q1 q2 h0) (by rw [eK102]; exact ⟨s0_102, s1_102, s2_102, rfl, N102, KP102, f102_0, f102_1⟩) (by decide) (by decide))
  exact X102.returnOut hx Bd.returns (hb hby d6_14) hr
def Q_rmByt (Z : State) (i1 : Int32) (h0 : Heap) (vv : Option Value) (h : Heap) (L : List Loc) : Prop := vv = some (.int 1) ∧ Fr Z.heap.size L ∧ h = h0
theorem ef_rmByt (m : MethodId) (x0 : Int32)   : entryFrame m #[(.int x0)] 3 = mkF m 0 #[.val (.int x0), .unset, .unset] [] := by first | rfl | (simp [entryFrame, mkF, argsToLocals, Value.category]; done)
set_option maxRecDepth 65536 in
set_option maxHeartbeats 40000000 in
theorem rmByt (l : Launch) (Z : State) (a0 : Array Value) (hw : ∀ d ∈ tables_1, d.before a0 Z = true) (ws : List Jvm.Cond) (i1 : Int32) (h0 : Heap) (hb7 : ((i1.toUInt32 >>> ((7 : Int32) &&& 31).toUInt32).toInt32) = (0 : Int32)) :
    MetFree l yM9 (head1 (Jvm.Cond.code yM9 prog_210_method_6_code 3 (some .int) :: ws) ({ frames := 0, cells := 0, slots := 0, locals := 0 } : Room)) (fun a U => a = #[(.int i1)] ∧ Z.Warmed39 U.vm ∧ U.heap = h0) (fun _ _ _ _ _ => True) (fun _ U o U' => ∃ v L, o = .returned v ∧ Q_rmByt Z i1 h0 v U'.heap L ∧ FrameEnd U o U' L ({ frames := 0, cells := 0, slots := 0, locals := 0 } : Room).cells ({ frames := 0, cells := 0, slots := 0, locals := 0 } : Room).slots) := by
  refine MetFree.of_bodySF (plainFor_of_name (by first | (simp [plainName, overriddenIn]; done) | decide +kernel)) hisR ?_
  intro p e s m args below meth c s₁ Bd hml0 hP hK
  obtain ⟨rfl, hZ0', hh⟩ := hP
  have hx := Bd.exec
  have hby := Bd.bytes
  have hml : c.maxLocals = 3 := hml0
  have hZ0 : Z.Warmed39 s.vm := hZ0'
  have hown0 : s.vm.findClass "com/example/syntagma/syntagma/service/DocumentText$Builder" = some m.cls := findClass_of_methodNamed Bd.named
  have hnm := (name_of_methodNamed Bd.named Bd.method).1
  have hlk : meth.locks = false := Bd.notSynchronized
  have X0 : Stand p l e ({ frames := 0, cells := 0, slots := 0, locals := 0 } : Room) s m #[(.int i1)] below meth c s₁ [] 0 0 := Stand.of_body Bd
  have e0 : s₁.heap = h0 := by rw [← hh, Bd.state]; rfl
  have N0 := Fr.nil Z.heap.size
  have KP0 : Keep h0 h0 ([] : List Addr) := Keep.refl _ _
  show Go p e below (fun t o => ∃ v L, o = .returned v ∧ Q_rmByt Z i1 h0 v t.heap L ∧ FrameEnd s o t L ({ frames := 0, cells := 0, slots := 0, locals := 0 } : Room).cells ({ frames := 0, cells := 0, slots := 0, locals := 0 } : Room).slots) (s₁.setTop (entryFrame m #[(.int i1)] 3))
  refine Go.on (w := s₁.setTop (mkF m 0 #[iv i1, .unset, .unset] [])) (fun t k => castTop (ef_rmByt m i1) k) ?_
  refine Go.on (w := s₁.setTop (mkF m 5 #[iv i1, iv 1, .unset] [(.int 7), (.int i1)])) (fun t k => XS.iconst X0.here hx rfl (hb hby d7_0) (XS.istoreN X0.here hx rfl (hb hby d7_1) rfl (l' := #[iv i1, iv 1, .unset]) rfl (XS.iloadN X0.here hx rfl (hb hby d7_2) rfl (XS.bipush X0.here hx rfl (hb hby d7_3) k)))) ?_
  refine Go.on (w := s₁.setTop (mkF m 6 #[iv i1, iv 1, .unset] [(.int 0)])) (fun t k => XS.iushr X0.here hx rfl (hb hby d7_5) rfl (by rw [(hb7 : ((i1.toUInt32 >>> ((7 : Int32) &&& 31).toUInt32).toInt32) = (0 : Int32))]; exact k)) ?_
  refine Go.on (w := s₁.setTop (mkF m 23 #[iv i1, iv 1, iv 0] [(.int 1)])) (fun t k => XS.istoreN X0.here hx rfl (hb hby d7_6) rfl (l' := #[iv i1, iv 1, iv 0]) rfl (XS.iloadN X0.here hx rfl (hb hby d7_7) rfl (XS.ifYes X0.here hx rfl (pc0 := 8) (pc' := 22) rfl (hb hby d7_8) rfl ((if0 _ _).trans (flt (by decide : ¬ ((0 : Int32) < (0 : Int32)))).2.2.2) (by decide) (by decide) (XS.iloadN X0.here hx rfl (hb hby d7_22) rfl k)))) ?_
  refine Go.finH X0 hlk (v := some (.int 1)) (fun h => by rw [Bd.returns] at h; cases h) (fun fs hr => ?_) (endH (Q := Q_rmByt Z i1 h0) (by rw [e0]; exact ⟨rfl, N0, rfl⟩) (by decide) (by decide))
  exact retOut X0 hx Bd.returns rfl (Or.inl ⟨rfl, Or.inl rfl, _, rfl⟩) (hb hby d7_23) hr
def Q_rmTie (Z : State) (u : Unit) (h0 : Heap) (vv : Option Value) (h : Heap) (L : List Loc) : Prop := vv = some (.int 3) ∧ Fr Z.heap.size L ∧ h = h0
theorem ef_rmTie (m : MethodId) (x0 : Int64)   : entryFrame m #[(.long x0)] 2 = mkF m 0 #[.val (.long x0), .second] [] := by first | rfl | (simp [entryFrame, mkF, argsToLocals, Value.category]; done)
set_option maxRecDepth 65536 in
set_option maxHeartbeats 40000000 in
theorem rmTie (l : Launch) (Z : State) (a0 : Array Value) (hw : ∀ d ∈ tables_1, d.before a0 Z = true) (ws : List Jvm.Cond) (u : Unit) (h0 : Heap) :
    MetFree l yM10 (head1 (Jvm.Cond.code yM10 jdk_29_method_43_code 2 (some .int) :: ws) ({ frames := 0, cells := 0, slots := 0, locals := 0 } : Room)) (fun a U => a = #[(.long 3)] ∧ Z.Warmed39 U.vm ∧ U.heap = h0) (fun _ _ _ _ _ => True) (fun _ U o U' => ∃ v L, o = .returned v ∧ Q_rmTie Z u h0 v U'.heap L ∧ FrameEnd U o U' L ({ frames := 0, cells := 0, slots := 0, locals := 0 } : Room).cells ({ frames := 0, cells := 0, slots := 0, locals := 0 } : Room).slots) := by
  refine MetFree.of_bodySF (Jvm.Free.JP.mathPlain rfl (by decide +kernel)) hisR ?_
  intro p e s m args below meth c s₁ Bd hml0 hP hK
  obtain ⟨rfl, hZ0', hh⟩ := hP
  have hx := Bd.exec
  have hby := Bd.bytes
  have hml : c.maxLocals = 2 := hml0
  have hZ0 : Z.Warmed39 s.vm := hZ0'
  have hown0 : s.vm.findClass "java/lang/Math" = some m.cls := findClass_of_methodNamed Bd.named
  have hnm := (name_of_methodNamed Bd.named Bd.method).1
  have hlk : meth.locks = false := Bd.notSynchronized
  have X0 : Stand p l e ({ frames := 0, cells := 0, slots := 0, locals := 0 } : Room) s m #[(.long 3)] below meth c s₁ [] 0 0 := Stand.of_body Bd
  have e0 : s₁.heap = h0 := by rw [← hh, Bd.state]; rfl
  have N0 := Fr.nil Z.heap.size
  have KP0 : Keep h0 h0 ([] : List Addr) := Keep.refl _ _
  show Go p e below (fun t o => ∃ v L, o = .returned v ∧ Q_rmTie Z u h0 v t.heap L ∧ FrameEnd s o t L ({ frames := 0, cells := 0, slots := 0, locals := 0 } : Room).cells ({ frames := 0, cells := 0, slots := 0, locals := 0 } : Room).slots) (s₁.setTop (entryFrame m #[(.long 3)] 2))
  refine Go.on (w := s₁.setTop (mkF m 0 #[.val (.long 3), .second] [])) (fun t k => castTop (ef_rmTie m (3 : Int64)) k) ?_
  refine Go.on (w := s₁.setTop (mkF m 1 #[.val (.long 3), .second] [(.long 3)])) (fun t k => XS.lloadN X0.here hx rfl (hb hby d8_0) rfl k) ?_
  refine Go.on (w := s₁.setTop (mkF m 2 #[.val (.long 3), .second] [(.int 3)])) (fun t k => XS.l2i X0.here hx rfl (hb hby d8_1) rfl (by rw [(by decide : ((3 : Int64).toInt32) = (3 : Int32))]; exact k)) ?_
  refine Go.on (w := s₁.setTop (mkF m 3 #[.val (.long 3), .second] [(.long 3)])) (fun t k => XS.i2l X0.here hx rfl (hb hby d8_2) rfl (by rw [(by decide : ((3 : Int32).toInt64) = (3 : Int64))]; exact k)) ?_
  refine Go.on (w := s₁.setTop (mkF m 19 #[.val (.long 3), .second] [(.long 3)])) (fun t k => XS.lloadN X0.here hx rfl (hb hby d8_3) rfl (XS.lcmp X0.here hx rfl (hb hby d8_4) rfl (XS.ifYes X0.here hx rfl (pc0 := 5) (pc' := 18) rfl (hb hby d8_5) rfl ((if0 _ _).trans (teq (by decide : (lcmpW (3 : Int64) (3 : Int64)) = (0 : Int32))).1) (by decide) (by decide) (XS.lloadN X0.here hx rfl (hb hby d8_18) rfl k)))) ?_
  refine Go.on (w := s₁.setTop (mkF m 20 #[.val (.long 3), .second] [(.int 3)])) (fun t k => XS.l2i X0.here hx rfl (hb hby d8_19) rfl (by rw [(by decide : ((3 : Int64).toInt32) = (3 : Int32))]; exact k)) ?_
  refine Go.finH X0 hlk (v := some (.int 3)) (fun h => by rw [Bd.returns] at h; cases h) (fun fs hr => ?_) (endH (Q := Q_rmTie Z u h0) (by rw [e0]; exact ⟨rfl, N0, rfl⟩) (by decide) (by decide))
  exact retOut X0 hx Bd.returns rfl (Or.inl ⟨rfl, Or.inl rfl, _, rfl⟩) (hb hby d8_20) hr
def Q_rmNar2 (Z : State) (a1 : Addr) (k1 : ClassId) (v0 : Int32) (v1 : Int32) (h0 : Heap) (vv : Option Value) (h : Heap) (L : List Loc) : Prop := ∃ (r : Addr) (kr : ClassId), vv = some (.ref r) ∧ Fr Z.heap.size L ∧ Keep h0 h [] ∧ (h0.size ≤ r) ∧ Arv Z h r kr .char (2 : Int32) [(.int (nar .char (v0.toUInt32.toUInt16.toUInt32.toInt32))), (.int (nar .char (v1.toUInt32.toUInt16.toUInt32.toInt32)))] (.int 0)
theorem ef_rmNar2 (m : MethodId) (x0 : Addr)   : entryFrame m #[(.ref x0)] 3 = mkF m 0 #[.val (.ref x0), .unset, .unset] [] := by first | rfl | (simp [entryFrame, mkF, argsToLocals, Value.category]; done)
set_option maxRecDepth 65536 in
set_option maxHeartbeats 40000000 in
theorem rmNar2 (l : Launch) (Z : State) (a0 : Array Value) (hw : ∀ d ∈ tables_1, d.before a0 Z = true) (ws : List Jvm.Cond) (a1 : Addr) (k1 : ClassId) (v0 : Int32) (v1 : Int32) (h0 : Heap) (Z0 : Z.heap.size ≤ h0.size) (Va : Arv Z h0 a1 k1 .int (2 : Int32) [(.int v0), (.int v1)] (.int 0)) :
    MetFree l yM12 (head1 (Jvm.Cond.code yM12 prog_209_method_2_code 3 (some (.array .char)) :: ws) ({ frames := 0, cells := 1, slots := 2, locals := 0 } : Room)) (fun a U => a = #[(.ref a1)] ∧ Z.Warmed39 U.vm ∧ U.heap = h0) (fun _ _ _ _ _ => True) (fun _ U o U' => ∃ v L, o = .returned v ∧ Q_rmNar2 Z a1 k1 v0 v1 h0 v U'.heap L ∧ FrameEnd U o U' L ({ frames := 0, cells := 1, slots := 2, locals := 0 } : Room).cells ({ frames := 0, cells := 1, slots := 2, locals := 0 } : Room).slots) := by
  refine MetFree.of_bodySF (plainFor_of_name (by first | (simp [plainName, overriddenIn]; done) | decide +kernel)) hisR ?_
  intro p e s m args below meth c s₁ Bd hml0 hP hK
  obtain ⟨rfl, hZ0', hh⟩ := hP
  have hx := Bd.exec
  have hby := Bd.bytes
  have hml : c.maxLocals = 3 := hml0
  have hZ0 : Z.Warmed39 s.vm := hZ0'
  have hown0 : s.vm.findClass "com/example/syntagma/syntagma/service/DocumentText" = some m.cls := findClass_of_methodNamed Bd.named
  have hnm := (name_of_methodNamed Bd.named Bd.method).1
  have hlk : meth.locks = false := Bd.notSynchronized
  have X0 : Stand p l e ({ frames := 0, cells := 1, slots := 2, locals := 0 } : Room) s m #[(.ref a1)] below meth c s₁ [] 0 0 := Stand.of_body Bd
  have e0 : s₁.heap = h0 := by rw [← hh, Bd.state]; rfl
  have N0 := Fr.nil Z.heap.size
  have KP0 : Keep h0 h0 ([] : List Addr) := Keep.refl _ _
  show Go p e below (fun t o => ∃ v L, o = .returned v ∧ Q_rmNar2 Z a1 k1 v0 v1 h0 v t.heap L ∧ FrameEnd s o t L ({ frames := 0, cells := 1, slots := 2, locals := 0 } : Room).cells ({ frames := 0, cells := 1, slots := 2, locals := 0 } : Room).slots) (s₁.setTop (entryFrame m #[(.ref a1)] 3))
  refine Go.on (w := s₁.setTop (mkF m 0 #[rv a1, .unset, .unset] [])) (fun t k => castTop (ef_rmNar2 m a1) k) ?_
  have u_a1 : h0.size > a1 := Va.lt
  obtain ⟨cl103, Ar103, q103, S103, M103, H103, U103⟩ := id Va
  refine Go.on (w := s₁.setTop (mkF m 1 #[rv a1, .unset, .unset] [(.ref a1)])) (fun t k => XS.aloadN X0.here hx rfl (hb hby d9_0) rfl rfl k) ?_
  refine Go.on (w := s₁.setTop (mkF m 2 #[rv a1, .unset, .unset] [(.int 2)])) (fun t k => X0.arraylength hx (by rw [e0]; exact Ar103.1) (State.isArrayOf_alike hZ0.alike Ar103.2.1) (g := (mkF m 1 #[rv a1, .unset, .unset] [(.ref a1)])) rfl rfl (hb hby d9_1) _ (by rw [len_of S103 M103]; exact k)) ?_
  obtain ⟨T104, h104, k104, X104, e104, E104, A104, st104⟩ := newP (aty := .char) X0 hx hZ0 (w_80 hw) e0 (g := (mkF m 2 #[rv a1, .unset, .unset] [(.int 2)])) rfl (hb hby d9_2) rfl (by decide : ¬ ((2 : Int32) < (0 : Int32))) (cap := 2) (by decide) (by decide) (by decide) (by decide)
  obtain ⟨b104, g104⟩ : ∃ z, z = h0.size := ⟨_, rfl⟩
  rw [← g104] at A104 st104
  have V104 : Arv Z h104 b104 k104 .char (2 : Int32) [(.int 0), (.int 0)] (.int 0) := (Arv.new A104 (by decide : ¬ ((2 : Int32) < (0 : Int32)))).pad (pad_rep [] (.int 0) 2)
  have u104 : h104.size > b104 := V104.lt
  have z104 : h0.size ≤ h104.size := E104.1
  have KP104 : Keep h0 h104 ([] : List Addr) := KP0.ext E104
  have F105 := (Va.ext E104)
  obtain ⟨cl106, Ar106, q106, S106, M106, H106, U106⟩ := id F105
  refine Go.on (w := T104.setTop (mkF m 9 #[rv a1, rv b104, iv 0] [(.ref a1), (.int 0)])) (fun t k => st104 _ (XS.astoreN X104.here hx rfl (hb hby d9_4) rfl rfl (l' := #[rv a1, rv b104, .unset]) rfl (XS.iconst X104.here hx rfl (hb hby d9_5) (XS.istoreN X104.here hx rfl (hb hby d9_6) rfl (l' := #[rv a1, rv b104, iv 0]) rfl (XS.iloadN X104.here hx rfl (hb hby d9_7) rfl (XS.aloadN X104.here hx rfl (hb hby d9_8) rfl rfl k)))))) ?_
  refine Go.on (w := T104.setTop (mkF m 10 #[rv a1, rv b104, iv 0] [(.int 2), (.int 0)])) (fun t k => X104.arraylength hx (by rw [e104]; exact Ar106.1) (State.isArrayOf_alike hZ0.alike Ar106.2.1) (g := (mkF m 9 #[rv a1, rv b104, iv 0] [(.ref a1), (.int 0)])) rfl rfl (hb hby d9_9) _ (by rw [len_of S106 M106]; exact k)) ?_
  obtain ⟨cl107, Ar107, q107, S107, M107, H107, U107⟩ := id F105
  have hin107 := ((inb_of S107 ⟨(by decide), (by decide)⟩) : ¬ ((0 : Int32) < 0 ∨ cl107.slots.size ≤ ((0 : Int32)).toNatClampNeg))
  obtain ⟨cl108, Ar108, q108, S108, M108, H108, U108⟩ := id V104
  obtain ⟨T108, h108, X108, e108, W108, st108⟩ := stC X104 hx hZ0 e104 Ar108 (j := (0 : Int32)) (inb_of S108 ⟨(by decide), (by decide)⟩) (g := (mkF m 19 #[rv a1, rv b104, iv 0] [(.int (v0.toUInt32.toUInt16.toUInt32.toInt32)), (.int 0), (.ref b104)])) rfl rfl (hb hby d9_19)
  have V108 : Arv Z h108 b104 k104 .char (2 : Int32) [(.int (nar .char (v0.toUInt32.toUInt16.toUInt32.toInt32))), (.int 0)] (.int 0) := (Arv.set Ar108 q108 S108 M108 H108 U108 (fits_nar_char _) W108 0 rfl (Nat.le_of_ble_eq_true rfl))
  have z108 : h104.size ≤ h108.size := Nat.le_of_eq W108.size.symm
  have KP108 : Keep h0 h108 ([] : List Addr) := KP104.wr W108 (Or.inr (by omega))
  have N108 := Fr.snoc X108 N0 (by omega)
  have F109 := (F105.other W108 (show @Ne Nat a1 b104 by omega))
  obtain ⟨cl110, Ar110, q110, S110, M110, H110, U110⟩ := id F109
  refine Go.on (w := T108.setTop (mkF m 9 #[rv a1, rv b104, iv 1] [(.ref a1), (.int 1)])) (fun t k => XS.icmpNo X104.here hx rfl (hb hby d9_10) rfl (tlt (by decide : (0 : Int32) < (2 : Int32))).2.1 (XS.aloadN X104.here hx rfl (hb hby d9_13) rfl rfl (XS.iloadN X104.here hx rfl (hb hby d9_14) rfl (XS.aloadN X104.here hx rfl (hb hby d9_15) rfl rfl (XS.iloadN X104.here hx rfl (hb hby d9_16) rfl (X104.iaload hx (j := (0 : Int32)) (v := (.int v0)) (by rw [e104]; exact Ar107.1) (State.isArrayOf_alike hZ0.alike Ar107.2.1) Ar107.2.2 hin107 (H107.at hin107 rfl) (g := (mkF m 17 #[rv a1, rv b104, iv 0] [(.int 0), (.ref a1), (.int 0), (.ref b104)])) rfl rfl (hb hby d9_17) _ (XS.i2c X104.here hx rfl (hb hby d9_18) rfl (st108 _ (XS.iinc X108.here hx rfl (hb hby d9_20) rfl (l' := #[rv a1, rv b104, iv 1]) rfl (XS.goto X108.here hx rfl (pc0 := 23) (pc' := 7) rfl (hb hby d9_23) (by decide) (by decide) (XS.iloadN X108.here hx rfl (hb hby d9_7) rfl (XS.aloadN X108.here hx rfl (hb hby d9_8) rfl rfl k)))))))))))) ?_
  refine Go.on (w := T108.setTop (mkF m 10 #[rv a1, rv b104, iv 1] [(.int 2), (.int 1)])) (fun t k => X108.arraylength hx (by rw [e108]; exact Ar110.1) (State.isArrayOf_alike hZ0.alike Ar110.2.1) (g := (mkF m 9 #[rv a1, rv b104, iv 1] [(.ref a1), (.int 1)])) rfl rfl (hb hby d9_9) _ (by rw [len_of S110 M110]; exact k)) ?_
  obtain ⟨cl111, Ar111, q111, S111, M111, H111, U111⟩ := id F109
  have hin111 := ((inb_of S111 ⟨(by decide), (by decide)⟩) : ¬ ((1 : Int32) < 0 ∨ cl111.slots.size ≤ ((1 : Int32)).toNatClampNeg))
  obtain ⟨cl112, Ar112, q112, S112, M112, H112, U112⟩ := id V108
  obtain ⟨T112, h112, X112, e112, W112, st112⟩ := stC X108 hx hZ0 e108 Ar112 (j := (1 : Int32)) (inb_of S112 ⟨(by decide), (by decide)⟩) (g := (mkF m 19 #[rv a1, rv b104, iv 1] [(.int (v1.toUInt32.toUInt16.toUInt32.toInt32)), (.int 1), (.ref b104)])) rfl rfl (hb hby d9_19)
  have V112 : Arv Z h112 b104 k104 .char (2 : Int32) [(.int (nar .char (v0.toUInt32.toUInt16.toUInt32.toInt32))), (.int (nar .char (v1.toUInt32.toUInt16.toUInt32.toInt32)))] (.int 0) := (Arv.set Ar112 q112 S112 M112 H112 U112 (fits_nar_char _) W112 1 rfl (Nat.le_of_ble_eq_true rfl))
  have z112 : h108.size ≤ h112.size := Nat.le_of_eq W112.size.symm
  have KP112 : Keep h0 h112 ([] : List Addr) := KP108.wr W112 (Or.inr (by omega))
  have N112 := Fr.snoc X112 N108 (by omega)
  have F113 := (F109.other W112 (show @Ne Nat a1 b104 by omega))
  obtain ⟨cl114, Ar114, q114, S114, M114, H114, U114⟩ := id F113
  refine Go.on (w := T112.setTop (mkF m 9 #[rv a1, rv b104, iv 2] [(.ref a1), (.int 2)])) (fun t k => XS.icmpNo X108.here hx rfl (hb hby d9_10) rfl (tlt (by decide : (1 : Int32) < (2 : Int32))).2.1 (XS.aloadN X108.here hx rfl (hb hby d9_13) rfl rfl (XS.iloadN X108.here hx rfl (hb hby d9_14) rfl (XS.aloadN X108.here hx rfl (hb hby d9_15) rfl rfl (XS.iloadN X108.here hx rfl (hb hby d9_16) rfl (X108.iaload hx (j := (1 : Int32)) (v := (.int v1)) (by rw [e108]; exact Ar111.1) (State.isArrayOf_alike hZ0.alike Ar111.2.1) Ar111.2.2 hin111 (H111.at hin111 rfl) (g := (mkF m 17 #[rv a1, rv b104, iv 1] [(.int 1), (.ref a1), (.int 1), (.ref b104)])) rfl rfl (hb hby d9_17) _ (XS.i2c X108.here hx rfl (hb hby d9_18) rfl (st112 _ (XS.iinc X112.here hx rfl (hb hby d9_20) rfl (l' := #[rv a1, rv b104, iv 2]) rfl (XS.goto X112.here hx rfl (pc0 := 23) (pc' := 7) rfl (hb hby d9_23) (by decide) (by decide) (XS.iloadN X112.here hx rfl (hb hby d9_7) rfl (XS.aloadN X112.here hx rfl (hb hby d9_8) rfl rfl k)))))))))))) ?_
  refine Go.on (w := T112.setTop (mkF m 10 #[rv a1, rv b104, iv 2] [(.int 2), (.int 2)])) (fun t k => X112.arraylength hx (by rw [e112]; exact Ar114.1) (State.isArrayOf_alike hZ0.alike Ar114.2.1) (g := (mkF m 9 #[rv a1, rv b104, iv 2] [(.ref a1), (.int 2)])) rfl rfl (hb hby d9_9) _ (by rw [len_of S114 M114]; exact k)) ?_
  refine Go.on (w := T112.setTop (mkF m 27 #[rv a1, rv b104, iv 2] [(.ref b104)])) (fun t k => XS.icmpYes X112.here hx rfl (pc0 := 10) (pc' := 26) rfl (hb hby d9_10) rfl (flt (by decide : ¬ ((2 : Int32) < (2 : Int32)))).2.1 (by decide) (by decide) (XS.aloadN X112.here hx rfl (hb hby d9_26) rfl rfl k)) ?_
  refine Go.finH X112 hlk (v := some (.ref b104)) (fun h => by rw [Bd.returns] at h; cases h) (fun fs hr => ?_) (endH (Q := Q_rmNar2 Z a1 k1 v0 v1 h0) (by rw [e112]; exact ⟨b104, k104, rfl, N112, KP112, (by omega), V112⟩) (by decide) (by decide))
  exact retOut X112 hx Bd.returns rfl (Or.inr (Or.inr (Or.inr (Or.inr ⟨rfl, rfl, rfl⟩)))) (hb hby d9_27) hr
def Q_rmNar3 (Z : State) (a1 : Addr) (k1 : ClassId) (v0 : Int32) (v1 : Int32) (v2 : Int32) (h0 : Heap) (vv : Option Value) (h : Heap) (L : List Loc) : Prop := ∃ (r : Addr) (kr : ClassId), vv = some (.ref r) ∧ Fr Z.heap.size L ∧ Keep h0 h [] ∧ (h0.size ≤ r) ∧ Arv Z h r kr .char (3 : Int32) [(.int (nar .char (v0.toUInt32.toUInt16.toUInt32.toInt32))), (.int (nar .char (v1.toUInt32.toUInt16.toUInt32.toInt32))), (.int (nar .char (v2.toUInt32.toUInt16.toUInt32.toInt32)))] (.int 0)
theorem ef_rmNar3 (m : MethodId) (x0 : Addr)   : entryFrame m #[(.ref x0)] 3 = mkF m 0 #[.val (.ref x0), .unset, .unset] [] := by first | rfl | (simp [entryFrame, mkF, argsToLocals, Value.category]; done)
set_option maxRecDepth 65536 in
set_option maxHeartbeats 40000000 in
theorem rmNar3 (l : Launch) (Z : State) (a0 : Array Value) (hw : ∀ d ∈ tables_1, d.before a0 Z = true) (ws : List Jvm.Cond) (a1 : Addr) (k1 : ClassId) (v0 : Int32) (v1 : Int32) (v2 : Int32) (h0 : Heap) (Z0 : Z.heap.size ≤ h0.size) (Va : Arv Z h0 a1 k1 .int (3 : Int32) [(.int v0), (.int v1), (.int v2)] (.int 0)) :
    MetFree l yM12 (head1 (Jvm.Cond.code yM12 prog_209_method_2_code 3 (some (.array .char)) :: ws) ({ frames := 0, cells := 1, slots := 3, locals := 0 } : Room)) (fun a U => a = #[(.ref a1)] ∧ Z.Warmed39 U.vm ∧ U.heap = h0) (fun _ _ _ _ _ => True) (fun _ U o U' => ∃ v L, o = .returned v ∧ Q_rmNar3 Z a1 k1 v0 v1 v2 h0 v U'.heap L ∧ FrameEnd U o U' L ({ frames := 0, cells := 1, slots := 3, locals := 0 } : Room).cells ({ frames := 0, cells := 1, slots := 3, locals := 0 } : Room).slots) := by
  refine MetFree.of_bodySF (plainFor_of_name (by first | (simp [plainName, overriddenIn]; done) | decide +kernel)) hisR ?_
  intro p e s m args below meth c s₁ Bd hml0 hP hK
  obtain ⟨rfl, hZ0', hh⟩ := hP
  have hx := Bd.exec
  have hby := Bd.bytes
  have hml : c.maxLocals = 3 := hml0
  have hZ0 : Z.Warmed39 s.vm := hZ0'
  have hown0 : s.vm.findClass "com/example/syntagma/syntagma/service/DocumentText" = some m.cls := findClass_of_methodNamed Bd.named
  have hnm := (name_of_methodNamed Bd.named Bd.method).1
  have hlk : meth.locks = false := Bd.notSynchronized
  have X0 : Stand p l e ({ frames := 0, cells := 1, slots := 3, locals := 0 } : Room) s m #[(.ref a1)] below meth c s₁ [] 0 0 := Stand.of_body Bd
  have e0 : s₁.heap = h0 := by rw [← hh, Bd.state]; rfl
  have N0 := Fr.nil Z.heap.size
  have KP0 : Keep h0 h0 ([] : List Addr) := Keep.refl _ _
  show Go p e below (fun t o => ∃ v L, o = .returned v ∧ Q_rmNar3 Z a1 k1 v0 v1 v2 h0 v t.heap L ∧ FrameEnd s o t L ({ frames := 0, cells := 1, slots := 3, locals := 0 } : Room).cells ({ frames := 0, cells := 1, slots := 3, locals := 0 } : Room).slots) (s₁.setTop (entryFrame m #[(.ref a1)] 3))
  refine Go.on (w := s₁.setTop (mkF m 0 #[rv a1, .unset, .unset] [])) (fun t k => castTop (ef_rmNar3 m a1) k) ?_
  have u_a1 : h0.size > a1 := Va.lt
  obtain ⟨cl115, Ar115, q115, S115, M115, H115, U115⟩ := id Va
  refine Go.on (w := s₁.setTop (mkF m 1 #[rv a1, .unset, .unset] [(.ref a1)])) (fun t k => XS.aloadN X0.here hx rfl (hb hby d9_0) rfl rfl k) ?_
  refine Go.on (w := s₁.setTop (mkF m 2 #[rv a1, .unset, .unset] [(.int 3)])) (fun t k => X0.arraylength hx (by rw [e0]; exact Ar115.1) (State.isArrayOf_alike hZ0.alike Ar115.2.1) (g := (mkF m 1 #[rv a1, .unset, .unset] [(.ref a1)])) rfl rfl (hb hby d9_1) _ (by rw [len_of S115 M115]; exact k)) ?_
  obtain ⟨T116, h116, k116, X116, e116, E116, A116, st116⟩ := newP (aty := .char) X0 hx hZ0 (w_80 hw) e0 (g := (mkF m 2 #[rv a1, .unset, .unset] [(.int 3)])) rfl (hb hby d9_2) rfl (by decide : ¬ ((3 : Int32) < (0 : Int32))) (cap := 3) (by decide) (by decide) (by decide) (by decide)
  obtain ⟨b116, g116⟩ : ∃ z, z = h0.size := ⟨_, rfl⟩
  rw [← g116] at A116 st116
  have V116 : Arv Z h116 b116 k116 .char (3 : Int32) [(.int 0), (.int 0), (.int 0)] (.int 0) := (Arv.new A116 (by decide : ¬ ((3 : Int32) < (0 : Int32)))).pad (pad_rep [] (.int 0) 3)
  have u116 : h116.size > b116 := V116.lt
  have z116 : h0.size ≤ h116.size := E116.1
  have KP116 : Keep h0 h116 ([] : List Addr) := KP0.ext E116
  have F117 := (Va.ext E116)
  obtain ⟨cl118, Ar118, q118, S118, M118, H118, U118⟩ := id F117
  refine Go.on (w := T116.setTop (mkF m 9 #[rv a1, rv b116, iv 0] [(.ref a1), (.int 0)])) (fun t k => st116 _ (XS.astoreN X116.here hx rfl (hb hby d9_4) rfl rfl (l' := #[rv a1, rv b116, .unset]) rfl (XS.iconst X116.here hx rfl (hb hby d9_5) (XS.istoreN X116.here hx rfl (hb hby d9_6) rfl (l' := #[rv a1, rv b116, iv 0]) rfl (XS.iloadN X116.here hx rfl (hb hby d9_7) rfl (XS.aloadN X116.here hx rfl (hb hby d9_8) rfl rfl k)))))) ?_
  refine Go.on (w := T116.setTop (mkF m 10 #[rv a1, rv b116, iv 0] [(.int 3), (.int 0)])) (fun t k => X116.arraylength hx (by rw [e116]; exact Ar118.1) (State.isArrayOf_alike hZ0.alike Ar118.2.1) (g := (mkF m 9 #[rv a1, rv b116, iv 0] [(.ref a1), (.int 0)])) rfl rfl (hb hby d9_9) _ (by rw [len_of S118 M118]; exact k)) ?_
  obtain ⟨cl119, Ar119, q119, S119, M119, H119, U119⟩ := id F117
  have hin119 := ((inb_of S119 ⟨(by decide), (by decide)⟩) : ¬ ((0 : Int32) < 0 ∨ cl119.slots.size ≤ ((0 : Int32)).toNatClampNeg))
  obtain ⟨cl120, Ar120, q120, S120, M120, H120, U120⟩ := id V116
  obtain ⟨T120, h120, X120, e120, W120, st120⟩ := stC X116 hx hZ0 e116 Ar120 (j := (0 : Int32)) (inb_of S120 ⟨(by decide), (by decide)⟩) (g := (mkF m 19 #[rv a1, rv b116, iv 0] [(.int (v0.toUInt32.toUInt16.toUInt32.toInt32)), (.int 0), (.ref b116)])) rfl rfl (hb hby d9_19)
  have V120 : Arv Z h120 b116 k116 .char (3 : Int32) [(.int (nar .char (v0.toUInt32.toUInt16.toUInt32.toInt32))), (.int 0), (.int 0)] (.int 0) := (Arv.set Ar120 q120 S120 M120 H120 U120 (fits_nar_char _) W120 0 rfl (Nat.le_of_ble_eq_true rfl))
  have z120 : h116.size ≤ h120.size := Nat.le_of_eq W120.size.symm
  have KP120 : Keep h0 h120 ([] : List Addr) := KP116.wr W120 (Or.inr (by omega))
  have N120 := Fr.snoc X120 N0 (by omega)
  have F121 := (F117.other W120 (show @Ne Nat a1 b116 by omega))
  obtain ⟨cl122, Ar122, q122, S122, M122, H122, U122⟩ := id F121
  refine Go.on (w := T120.setTop (mkF m 9 #[rv a1, rv b116, iv 1] [(.ref a1), (.int 1)])) (fun t k => XS.icmpNo X116.here hx rfl (hb hby d9_10) rfl (tlt (by decide : (0 : Int32) < (3 : Int32))).2.1 (XS.aloadN X116.here hx rfl (hb hby d9_13) rfl rfl (XS.iloadN X116.here hx rfl (hb hby d9_14) rfl (XS.aloadN X116.here hx rfl (hb hby d9_15) rfl rfl (XS.iloadN X116.here hx rfl (hb hby d9_16) rfl (X116.iaload hx (j := (0 : Int32)) (v := (.int v0)) (by rw [e116]; exact Ar119.1) (State.isArrayOf_alike hZ0.alike Ar119.2.1) Ar119.2.2 hin119 (H119.at hin119 rfl) (g := (mkF m 17 #[rv a1, rv b116, iv 0] [(.int 0), (.ref a1), (.int 0), (.ref b116)])) rfl rfl (hb hby d9_17) _ (XS.i2c X116.here hx rfl (hb hby d9_18) rfl (st120 _ (XS.iinc X120.here hx rfl (hb hby d9_20) rfl (l' := #[rv a1, rv b116, iv 1]) rfl (XS.goto X120.here hx rfl (pc0 := 23) (pc' := 7) rfl (hb hby d9_23) (by decide) (by decide) (XS.iloadN X120.here hx rfl (hb hby d9_7) rfl (XS.aloadN X120.here hx rfl (hb hby d9_8) rfl rfl k)))))))))))) ?_
  refine Go.on (w := T120.setTop (mkF m 10 #[rv a1, rv b116, iv 1] [(.int 3), (.int 1)])) (fun t k => X120.arraylength hx (by rw [e120]; exact Ar122.1) (State.isArrayOf_alike hZ0.alike Ar122.2.1) (g := (mkF m 9 #[rv a1, rv b116, iv 1] [(.ref a1), (.int 1)])) rfl rfl (hb hby d9_9) _ (by rw [len_of S122 M122]; exact k)) ?_
  obtain ⟨cl123, Ar123, q123, S123, M123, H123, U123⟩ := id F121
  have hin123 := ((inb_of S123 ⟨(by decide), (by decide)⟩) : ¬ ((1 : Int32) < 0 ∨ cl123.slots.size ≤ ((1 : Int32)).toNatClampNeg))
  obtain ⟨cl124, Ar124, q124, S124, M124, H124, U124⟩ := id V120
  obtain ⟨T124, h124, X124, e124, W124, st124⟩ := stC X120 hx hZ0 e120 Ar124 (j := (1 : Int32)) (inb_of S124 ⟨(by decide), (by decide)⟩) (g := (mkF m 19 #[rv a1, rv b116, iv 1] [(.int (v1.toUInt32.toUInt16.toUInt32.toInt32)), (.int 1), (.ref b116)])) rfl rfl (hb hby d9_19)
  have V124 : Arv Z h124 b116 k116 .char (3 : Int32) [(.int (nar .char (v0.toUInt32.toUInt16.toUInt32.toInt32))), (.int (nar .char (v1.toUInt32.toUInt16.toUInt32.toInt32))), (.int 0)] (.int 0) := (Arv.set Ar124 q124 S124 M124 H124 U124 (fits_nar_char _) W124 1 rfl (Nat.le_of_ble_eq_true rfl))
  have z124 : h120.size ≤ h124.size := Nat.le_of_eq W124.size.symm
  have KP124 : Keep h0 h124 ([] : List Addr) := KP120.wr W124 (Or.inr (by omega))
  have N124 := Fr.snoc X124 N120 (by omega)
  have F125 := (F121.other W124 (show @Ne Nat a1 b116 by omega))
  obtain ⟨cl126, Ar126, q126, S126, M126, H126, U126⟩ := id F125
  refine Go.on (w := T124.setTop (mkF m 9 #[rv a1, rv b116, iv 2] [(.ref a1), (.int 2)])) (fun t k => XS.icmpNo X120.here hx rfl (hb hby d9_10) rfl (tlt (by decide : (1 : Int32) < (3 : Int32))).2.1 (XS.aloadN X120.here hx rfl (hb hby d9_13) rfl rfl (XS.iloadN X120.here hx rfl (hb hby d9_14) rfl (XS.aloadN X120.here hx rfl (hb hby d9_15) rfl rfl (XS.iloadN X120.here hx rfl (hb hby d9_16) rfl (X120.iaload hx (j := (1 : Int32)) (v := (.int v1)) (by rw [e120]; exact Ar123.1) (State.isArrayOf_alike hZ0.alike Ar123.2.1) Ar123.2.2 hin123 (H123.at hin123 rfl) (g := (mkF m 17 #[rv a1, rv b116, iv 1] [(.int 1), (.ref a1), (.int 1), (.ref b116)])) rfl rfl (hb hby d9_17) _ (XS.i2c X120.here hx rfl (hb hby d9_18) rfl (st124 _ (XS.iinc X124.here hx rfl (hb hby d9_20) rfl (l' := #[rv a1, rv b116, iv 2]) rfl (XS.goto X124.here hx rfl (pc0 := 23) (pc' := 7) rfl (hb hby d9_23) (by decide) (by decide) (XS.iloadN X124.here hx rfl (hb hby d9_7) rfl (XS.aloadN X124.here hx rfl (hb hby d9_8) rfl rfl k)))))))))))) ?_
  refine Go.on (w := T124.setTop (mkF m 10 #[rv a1, rv b116, iv 2] [(.int 3), (.int 2)])) (fun t k => X124.arraylength hx (by rw [e124]; exact Ar126.1) (State.isArrayOf_alike hZ0.alike Ar126.2.1) (g := (mkF m 9 #[rv a1, rv b116, iv 2] [(.ref a1), (.int 2)])) rfl rfl (hb hby d9_9) _ (by rw [len_of S126 M126]; exact k)) ?_
  obtain ⟨cl127, Ar127, q127, S127, M127, H127, U127⟩ := id F125
  have hin127 := ((inb_of S127 ⟨(by decide), (by decide)⟩) : ¬ ((2 : Int32) < 0 ∨ cl127.slots.size ≤ ((2 : Int32)).toNatClampNeg))
  obtain ⟨cl128, Ar128, q128, S128, M128, H128, U128⟩ := id V124
  obtain ⟨T128, h128, X128, e128, W128, st128⟩ := stC X124 hx hZ0 e124 Ar128 (j := (2 : Int32)) (inb_of S128 ⟨(by decide), (by decide)⟩) (g := (mkF m 19 #[rv a1, rv b116, iv 2] [(.int (v2.toUInt32.toUInt16.toUInt32.toInt32)), (.int 2), (.ref b116)])) rfl rfl (hb hby d9_19)
  have V128 : Arv Z h128 b116 k116 .char (3 : Int32) [(.int (nar .char (v0.toUInt32.toUInt16.toUInt32.toInt32))), (.int (nar .char (v1.toUInt32.toUInt16.toUInt32.toInt32))), (.int (nar .char (v2.toUInt32.toUInt16.toUInt32.toInt32)))] (.int 0) := (Arv.set Ar128 q128 S128 M128 H128 U128 (fits_nar_char _) W128 2 rfl (Nat.le_of_ble_eq_true rfl))
  have z128 : h124.size ≤ h128.size := Nat.le_of_eq W128.size.symm
  have KP128 : Keep h0 h128 ([] : List Addr) := KP124.wr W128 (Or.inr (by omega))
  have N128 := Fr.snoc X128 N124 (by omega)
  have F129 := (F125.other W128 (show @Ne Nat a1 b116 by omega))
  obtain ⟨cl130, Ar130, q130, S130, M130, H130, U130⟩ := id F129
  refine Go.on (w := T128.setTop (mkF m 9 #[rv a1, rv b116, iv 3] [(.ref a1), (.int 3)])) (fun t k => XS.icmpNo X124.here hx rfl (hb hby d9_10) rfl (tlt (by decide : (2 : Int32) < (3 : Int32))).2.1 (XS.aloadN X124.here hx rfl (hb hby d9_13) rfl rfl (XS.iloadN X124.here hx rfl (hb hby d9_14) rfl (XS.aloadN X124.here hx rfl (hb hby d9_15) rfl rfl (XS.iloadN X124.here hx rfl (hb hby d9_16) rfl (X124.iaload hx (j := (2 : Int32)) (v := (.int v2)) (by rw [e124]; exact Ar127.1) (State.isArrayOf_alike hZ0.alike Ar127.2.1) Ar127.2.2 hin127 (H127.at hin127 rfl) (g := (mkF m 17 #[rv a1, rv b116, iv 2] [(.int 2), (.ref a1), (.int 2), (.ref b116)])) rfl rfl (hb hby d9_17) _ (XS.i2c X124.here hx rfl (hb hby d9_18) rfl (st128 _ (XS.iinc X128.here hx rfl (hb hby d9_20) rfl (l' := #[rv a1, rv b116, iv 3]) rfl (XS.goto X128.here hx rfl (pc0 := 23) (pc' := 7) rfl (hb hby d9_23) (by decide) (by decide) (XS.iloadN X128.here hx rfl (hb hby d9_7) rfl (XS.aloadN X128.here hx rfl (hb hby d9_8) rfl rfl k)))))))))))) ?_
  refine Go.on (w := T128.setTop (mkF m 10 #[rv a1, rv b116, iv 3] [(.int 3), (.int 3)])) (fun t k => X128.arraylength hx (by rw [e128]; exact Ar130.1) (State.isArrayOf_alike hZ0.alike Ar130.2.1) (g := (mkF m 9 #[rv a1, rv b116, iv 3] [(.ref a1), (.int 3)])) rfl rfl (hb hby d9_9) _ (by rw [len_of S130 M130]; exact k)) ?_
  refine Go.on (w := T128.setTop (mkF m 27 #[rv a1, rv b116, iv 3] [(.ref b116)])) (fun t k => XS.icmpYes X128.here hx rfl (pc0 := 10) (pc' := 26) rfl (hb hby d9_10) rfl (flt (by decide : ¬ ((3 : Int32) < (3 : Int32)))).2.1 (by decide) (by decide) (XS.aloadN X128.here hx rfl (hb hby d9_26) rfl rfl k)) ?_
  refine Go.finH X128 hlk (v := some (.ref b116)) (fun h => by rw [Bd.returns] at h; cases h) (fun fs hr => ?_) (endH (Q := Q_rmNar3 Z a1 k1 v0 v1 v2 h0) (by rw [e128]; exact ⟨b116, k116, rfl, N128, KP128, (by omega), V128⟩) (by decide) (by decide))
  exact retOut X128 hx Bd.returns rfl (Or.inr (Or.inr (Or.inr (Or.inr ⟨rfl, rfl, rfl⟩)))) (hb hby d9_27) hr
def Q_rmNar4 (Z : State) (a1 : Addr) (k1 : ClassId) (v0 : Int32) (v1 : Int32) (v2 : Int32) (v3 : Int32) (h0 : Heap) (vv : Option Value) (h : Heap) (L : List Loc) : Prop := ∃ (r : Addr) (kr : ClassId), vv = some (.ref r) ∧ Fr Z.heap.size L ∧ Keep h0 h [] ∧ (h0.size ≤ r) ∧ Arv Z h r kr .char (4 : Int32) [(.int (nar .char (v0.toUInt32.toUInt16.toUInt32.toInt32))), (.int (nar .char (v1.toUInt32.toUInt16.toUInt32.toInt32))), (.int (nar .char (v2.toUInt32.toUInt16.toUInt32.toInt32))), (.int (nar .char (v3.toUInt32.toUInt16.toUInt32.toInt32)))] (.int 0)
theorem ef_rmNar4 (m : MethodId) (x0 : Addr)   : entryFrame m #[(.ref x0)] 3 = mkF m 0 #[.val (.ref x0), .unset, .unset] [] := by first | rfl | (simp [entryFrame, mkF, argsToLocals, Value.category]; done)
set_option maxRecDepth 65536 in
set_option maxHeartbeats 40000000 in
theorem rmNar4 (l : Launch) (Z : State) (a0 : Array Value) (hw : ∀ d ∈ tables_1, d.before a0 Z = true) (ws : List Jvm.Cond) (a1 : Addr) (k1 : ClassId) (v0 : Int32) (v1 : Int32) (v2 : Int32) (v3 : Int32) (h0 : Heap) (Z0 : Z.heap.size ≤ h0.size) (Va : Arv Z h0 a1 k1 .int (4 : Int32) [(.int v0), (.int v1), (.int v2), (.int v3)] (.int 0)) :
    MetFree l yM12 (head1 (Jvm.Cond.code yM12 prog_209_method_2_code 3 (some (.array .char)) :: ws) ({ frames := 0, cells := 1, slots := 4, locals := 0 } : Room)) (fun a U => a = #[(.ref a1)] ∧ Z.Warmed39 U.vm ∧ U.heap = h0) (fun _ _ _ _ _ => True) (fun _ U o U' => ∃ v L, o = .returned v ∧ Q_rmNar4 Z a1 k1 v0 v1 v2 v3 h0 v U'.heap L ∧ FrameEnd U o U' L ({ frames := 0, cells := 1, slots := 4, locals := 0 } : Room).cells ({ frames := 0, cells := 1, slots := 4, locals := 0 } : Room).slots) := by
  refine MetFree.of_bodySF (plainFor_of_name (by first | (simp [plainName, overriddenIn]; done) | decide +kernel)) hisR ?_
  intro p e s m args below meth c s₁ Bd hml0 hP hK
  obtain ⟨rfl, hZ0', hh⟩ := hP
  have hx := Bd.exec
  have hby := Bd.bytes
  have hml : c.maxLocals = 3 := hml0
  have hZ0 : Z.Warmed39 s.vm := hZ0'
  have hown0 : s.vm.findClass "com/example/syntagma/syntagma/service/DocumentText" = some m.cls := findClass_of_methodNamed Bd.named
  have hnm := (name_of_methodNamed Bd.named Bd.method).1
  have hlk : meth.locks = false := Bd.notSynchronized
  have X0 : Stand p l e ({ frames := 0, cells := 1, slots := 4, locals := 0 } : Room) s m #[(.ref a1)] below meth c s₁ [] 0 0 := Stand.of_body Bd
  have e0 : s₁.heap = h0 := by rw [← hh, Bd.state]; rfl
  have N0 := Fr.nil Z.heap.size
  have KP0 : Keep h0 h0 ([] : List Addr) := Keep.refl _ _
  show Go p e below (fun t o => ∃ v L, o = .returned v ∧ Q_rmNar4 Z a1 k1 v0 v1 v2 v3 h0 v t.heap L ∧ FrameEnd s o t L ({ frames := 0, cells := 1, slots := 4, locals := 0 } : Room).cells ({ frames := 0, cells := 1, slots := 4, locals := 0 } : Room).slots) (s₁.setTop (entryFrame m #[(.ref a1)] 3))
  refine Go.on (w := s₁.setTop (mkF m 0 #[rv a1, .unset, .unset] [])) (fun t k => castTop (ef_rmNar4 m a1) k) ?_
  have u_a1 : h0.size > a1 := Va.lt
  obtain ⟨cl131, Ar131, q131, S131, M131, H131, U131⟩ := id Va
  refine Go.on (w := s₁.setTop (mkF m 1 #[rv a1, .unset, .unset] [(.ref a1)])) (fun t k => XS.aloadN X0.here hx rfl (hb hby d9_0) rfl rfl k) ?_
  refine Go.on (w := s₁.setTop (mkF m 2 #[rv a1, .unset, .unset] [(.int 4)])) (fun t k => X0.arraylength hx (by rw [e0]; exact Ar131.1) (State.isArrayOf_alike hZ0.alike Ar131.2.1) (g := (mkF m 1 #[rv a1, .unset, .unset] [(.ref a1)])) rfl rfl (hb hby d9_1) _ (by rw [len_of S131 M131]; exact k)) ?_
  obtain ⟨T132, h132, k132, X132, e132, E132, A132, st132⟩ := newP (aty := .char) X0 hx hZ0 (w_80 hw) e0 (g := (mkF m 2 #[rv a1, .unset, .unset] [(.int 4)])) rfl (hb hby d9_2) rfl (by decide : ¬ ((4 : Int32) < (0 : Int32))) (cap := 4) (by decide) (by decide) (by decide) (by decide)
  obtain ⟨b132, g132⟩ : ∃ z, z = h0.size := ⟨_, rfl⟩
  rw [← g132] at A132 st132
  have V132 : Arv Z h132 b132 k132 .char (4 : Int32) [(.int 0), (.int 0), (.int 0), (.int 0)] (.int 0) := (Arv.new A132 (by decide : ¬ ((4 : Int32) < (0 : Int32)))).pad (pad_rep [] (.int 0) 4)
  have u132 : h132.size > b132 := V132.lt
  have z132 : h0.size ≤ h132.size := E132.1
  have KP132 : Keep h0 h132 ([] : List Addr) := KP0.ext E132
  have F133 := (Va.ext E132)
  obtain ⟨cl134, Ar134, q134, S134, M134, H134, U134⟩ := id F133
  refine Go.on (w := T132.setTop (mkF m 9 #[rv a1, rv b132, iv 0] [(.ref a1), (.int 0)])) (fun t k => st132 _ (XS.astoreN X132.here hx rfl (hb hby d9_4) rfl rfl (l' := #[rv a1, rv b132, .unset]) rfl (XS.iconst X132.here hx rfl (hb hby d9_5) (XS.istoreN X132.here hx rfl (hb hby d9_6) rfl (l' := #[rv a1, rv b132, iv 0]) rfl (XS.iloadN X132.here hx rfl (hb hby d9_7) rfl (XS.aloadN X132.here hx rfl (hb hby d9_8) rfl rfl k)))))) ?_
  refine Go.on (w := T132.setTop (mkF m 10 #[rv a1, rv b132, iv 0] [(.int 4), (.int 0)])) (fun t k => X132.arraylength hx (by rw [e132]; exact Ar134.1) (State.isArrayOf_alike hZ0.alike Ar134.2.1) (g := (mkF m 9 #[rv a1, rv b132, iv 0] [(.ref a1), (.int 0)])) rfl rfl (hb hby d9_9) _ (by rw [len_of S134 M134]; exact k)) ?_
  obtain ⟨cl135, Ar135, q135, S135, M135, H135, U135⟩ := id F133
  have hin135 := ((inb_of S135 ⟨(by decide), (by decide)⟩) : ¬ ((0 : Int32) < 0 ∨ cl135.slots.size ≤ ((0 : Int32)).toNatClampNeg))
  obtain ⟨cl136, Ar136, q136, S136, M136, H136, U136⟩ := id V132
  obtain ⟨T136, h136, X136, e136, W136, st136⟩ := stC X132 hx hZ0 e132 Ar136 (j := (0 : Int32)) (inb_of S136 ⟨(by decide), (by decide)⟩) (g := (mkF m 19 #[rv a1, rv b132, iv 0] [(.int (v0.toUInt32.toUInt16.toUInt32.toInt32)), (.int 0), (.ref b132)])) rfl rfl (hb hby d9_19)
  have V136 : Arv Z h136 b132 k132 .char (4 : Int32) [(.int (nar .char (v0.toUInt32.toUInt16.toUInt32.toInt32))), (.int 0), (.int 0), (.int 0)] (.int 0) := (Arv.set Ar136 q136 S136 M136 H136 U136 (fits_nar_char _) W136 0 rfl (Nat.le_of_ble_eq_true rfl))
  have z136 : h132.size ≤ h136.size := Nat.le_of_eq W136.size.symm
  have KP136 : Keep h0 h136 ([] : List Addr) := KP132.wr W136 (Or.inr (by omega))
  have N136 := Fr.snoc X136 N0 (by omega)
  have F137 := (F133.other W136 (show @Ne Nat a1 b132 by omega))
  obtain ⟨cl138, Ar138, q138, S138, M138, H138, U138⟩ := id F137
  refine Go.on (w := T136.setTop (mkF m 9 #[rv a1, rv b132, iv 1] [(.ref a1), (.int 1)])) (fun t k => XS.icmpNo X132.here hx rfl (hb hby d9_10) rfl (tlt (by decide : (0 : Int32) < (4 : Int32))).2.1 (XS.aloadN X132.here hx rfl (hb hby d9_13) rfl rfl (XS.iloadN X132.here hx rfl (hb hby d9_14) rfl (XS.aloadN X132.here hx rfl (hb hby d9_15) rfl rfl (XS.iloadN X132.here hx rfl (hb hby d9_16) rfl (X132.iaload hx (j := (0 : Int32)) (v := (.int v0)) (by rw [e132]; exact Ar135.1) (State.isArrayOf_alike hZ0.alike Ar135.2.1) Ar135.2.2 hin135 (H135.at hin135 rfl) (g := (mkF m 17 #[rv a1, rv b132, iv 0] [(.int 0), (.ref a1), (.int 0), (.ref b132)])) rfl rfl (hb hby d9_17) _ (XS.i2c X132.here hx rfl (hb hby d9_18) rfl (st136 _ (XS.iinc X136.here hx rfl (hb hby d9_20) rfl (l' := #[rv a1, rv b132, iv 1]) rfl (XS.goto X136.here hx rfl (pc0 := 23) (pc' := 7) rfl (hb hby d9_23) (by decide) (by decide) (XS.iloadN X136.here hx rfl (hb hby d9_7) rfl (XS.aloadN X136.here hx rfl (hb hby d9_8) rfl rfl k)))))))))))) ?_
  refine Go.on (w := T136.setTop (mkF m 10 #[rv a1, rv b132, iv 1] [(.int 4), (.int 1)])) (fun t k => X136.arraylength hx (by rw [e136]; exact Ar138.1) (State.isArrayOf_alike hZ0.alike Ar138.2.1) (g := (mkF m 9 #[rv a1, rv b132, iv 1] [(.ref a1), (.int 1)])) rfl rfl (hb hby d9_9) _ (by rw [len_of S138 M138]; exact k)) ?_
  obtain ⟨cl139, Ar139, q139, S139, M139, H139, U139⟩ := id F137
  have hin139 := ((inb_of S139 ⟨(by decide), (by decide)⟩) : ¬ ((1 : Int32) < 0 ∨ cl139.slots.size ≤ ((1 : Int32)).toNatClampNeg))
  obtain ⟨cl140, Ar140, q140, S140, M140, H140, U140⟩ := id V136
  obtain ⟨T140, h140, X140, e140, W140, st140⟩ := stC X136 hx hZ0 e136 Ar140 (j := (1 : Int32)) (inb_of S140 ⟨(by decide), (by decide)⟩) (g := (mkF m 19 #[rv a1, rv b132, iv 1] [(.int (v1.toUInt32.toUInt16.toUInt32.toInt32)), (.int 1), (.ref b132)])) rfl rfl (hb hby d9_19)
  have V140 : Arv Z h140 b132 k132 .char (4 : Int32) [(.int (nar .char (v0.toUInt32.toUInt16.toUInt32.toInt32))), (.int (nar .char (v1.toUInt32.toUInt16.toUInt32.toInt32))), (.int 0), (.int 0)] (.int 0) := (Arv.set Ar140 q140 S140 M140 H140 U140 (fits_nar_char _) W140 1 rfl (Nat.le_of_ble_eq_true rfl))
  have z140 : h136.size ≤ h140.size := Nat.le_of_eq W140.size.symm
  have KP140 : Keep h0 h140 ([] : List Addr) := KP136.wr W140 (Or.inr (by omega))
  have N140 := Fr.snoc X140 N136 (by omega)
  have F141 := (F137.other W140 (show @Ne Nat a1 b132 by omega))
  obtain ⟨cl142, Ar142, q142, S142, M142, H142, U142⟩ := id F141
  refine Go.on (w := T140.setTop (mkF m 9 #[rv a1, rv b132, iv 2] [(.ref a1), (.int 2)])) (fun t k => XS.icmpNo X136.here hx rfl (hb hby d9_10) rfl (tlt (by decide : (1 : Int32) < (4 : Int32))).2.1 (XS.aloadN X136.here hx rfl (hb hby d9_13) rfl rfl (XS.iloadN X136.here hx rfl (hb hby d9_14) rfl (XS.aloadN X136.here hx rfl (hb hby d9_15) rfl rfl (XS.iloadN X136.here hx rfl (hb hby d9_16) rfl (X136.iaload hx (j := (1 : Int32)) (v := (.int v1)) (by rw [e136]; exact Ar139.1) (State.isArrayOf_alike hZ0.alike Ar139.2.1) Ar139.2.2 hin139 (H139.at hin139 rfl) (g := (mkF m 17 #[rv a1, rv b132, iv 1] [(.int 1), (.ref a1), (.int 1), (.ref b132)])) rfl rfl (hb hby d9_17) _ (XS.i2c X136.here hx rfl (hb hby d9_18) rfl (st140 _ (XS.iinc X140.here hx rfl (hb hby d9_20) rfl (l' := #[rv a1, rv b132, iv 2]) rfl (XS.goto X140.here hx rfl (pc0 := 23) (pc' := 7) rfl (hb hby d9_23) (by decide) (by decide) (XS.iloadN X140.here hx rfl (hb hby d9_7) rfl (XS.aloadN X140.here hx rfl (hb hby d9_8) rfl rfl k)))))))))))) ?_
  refine Go.on (w := T140.setTop (mkF m 10 #[rv a1, rv b132, iv 2] [(.int 4), (.int 2)])) (fun t k => X140.arraylength hx (by rw [e140]; exact Ar142.1) (State.isArrayOf_alike hZ0.alike Ar142.2.1) (g := (mkF m 9 #[rv a1, rv b132, iv 2] [(.ref a1), (.int 2)])) rfl rfl (hb hby d9_9) _ (by rw [len_of S142 M142]; exact k)) ?_
  obtain ⟨cl143, Ar143, q143, S143, M143, H143, U143⟩ := id F141
  have hin143 := ((inb_of S143 ⟨(by decide), (by decide)⟩) : ¬ ((2 : Int32) < 0 ∨ cl143.slots.size ≤ ((2 : Int32)).toNatClampNeg))
  obtain ⟨cl144, Ar144, q144, S144, M144, H144, U144⟩ := id V140
  obtain ⟨T144, h144, X144, e144, W144, st144⟩ := stC X140 hx hZ0 e140 Ar144 (j := (2 : Int32)) (inb_of S144 ⟨(by decide), (by decide)⟩) (g := (mkF m 19 #[rv a1, rv b132, iv 2] [(.int (v2.toUInt32.toUInt16.toUInt32.toInt32)), (.int 2), (.ref b132)])) rfl rfl (hb hby d9_19)
  have V144 : Arv Z h144 b132 k132 .char (4 : Int32) [(.int (nar .char (v0.toUInt32.toUInt16.toUInt32.toInt32))), (.int (nar .char (v1.toUInt32.toUInt16.toUInt32.toInt32))), (.int (nar .char (v2.toUInt32.toUInt16.toUInt32.toInt32))), (.int 0)] (.int 0) := (Arv.set Ar144 q144 S144 M144 H144 U144 (fits_nar_char _) W144 2 rfl (Nat.le_of_ble_eq_true rfl))
  have z144 : h140.size ≤ h144.size := Nat.le_of_eq W144.size.symm
  have KP144 : Keep h0 h144 ([] : List Addr) := KP140.wr W144 (Or.inr (by omega))
  have N144 := Fr.snoc X144 N140 (by omega)
  have F145 := (F141.other W144 (show @Ne Nat a1 b132 by omega))
  obtain ⟨cl146, Ar146, q146, S146, M146, H146, U146⟩ := id F145
  refine Go.on (w := T144.setTop (mkF m 9 #[rv a1, rv b132, iv 3] [(.ref a1), (.int 3)])) (fun t k => XS.icmpNo X140.here hx rfl (hb hby d9_10) rfl (tlt (by decide : (2 : Int32) < (4 : Int32))).2.1 (XS.aloadN X140.here hx rfl (hb hby d9_13) rfl rfl (XS.iloadN X140.here hx rfl (hb hby d9_14) rfl (XS.aloadN X140.here hx rfl (hb hby d9_15) rfl rfl (XS.iloadN X140.here hx rfl (hb hby d9_16) rfl (X140.iaload hx (j := (2 : Int32)) (v := (.int v2)) (by rw [e140]; exact Ar143.1) (State.isArrayOf_alike hZ0.alike Ar143.2.1) Ar143.2.2 hin143 (H143.at hin143 rfl) (g := (mkF m 17 #[rv a1, rv b132, iv 2] [(.int 2), (.ref a1), (.int 2), (.ref b132)])) rfl rfl (hb hby d9_17) _ (XS.i2c X140.here hx rfl (hb hby d9_18) rfl (st144 _ (XS.iinc X144.here hx rfl (hb hby d9_20) rfl (l' := #[rv a1, rv b132, iv 3]) rfl (XS.goto X144.here hx rfl (pc0 := 23) (pc' := 7) rfl (hb hby d9_23) (by decide) (by decide) (XS.iloadN X144.here hx rfl (hb hby d9_7) rfl (XS.aloadN X144.here hx rfl (hb hby d9_8) rfl rfl k)))))))))))) ?_
  refine Go.on (w := T144.setTop (mkF m 10 #[rv a1, rv b132, iv 3] [(.int 4), (.int 3)])) (fun t k => X144.arraylength hx (by rw [e144]; exact Ar146.1) (State.isArrayOf_alike hZ0.alike Ar146.2.1) (g := (mkF m 9 #[rv a1, rv b132, iv 3] [(.ref a1), (.int 3)])) rfl rfl (hb hby d9_9) _ (by rw [len_of S146 M146]; exact k)) ?_
  obtain ⟨cl147, Ar147, q147, S147, M147, H147, U147⟩ := id F145
  have hin147 := ((inb_of S147 ⟨(by decide), (by decide)⟩) : ¬ ((3 : Int32) < 0 ∨ cl147.slots.size ≤ ((3 : Int32)).toNatClampNeg))
  obtain ⟨cl148, Ar148, q148, S148, M148, H148, U148⟩ := id V144
  obtain ⟨T148, h148, X148, e148, W148, st148⟩ := stC X144 hx hZ0 e144 Ar148 (j := (3 : Int32)) (inb_of S148 ⟨(by decide), (by decide)⟩) (g := (mkF m 19 #[rv a1, rv b132, iv 3] [(.int (v3.toUInt32.toUInt16.toUInt32.toInt32)), (.int 3), (.ref b132)])) rfl rfl (hb hby d9_19)
  have V148 : Arv Z h148 b132 k132 .char (4 : Int32) [(.int (nar .char (v0.toUInt32.toUInt16.toUInt32.toInt32))), (.int (nar .char (v1.toUInt32.toUInt16.toUInt32.toInt32))), (.int (nar .char (v2.toUInt32.toUInt16.toUInt32.toInt32))), (.int (nar .char (v3.toUInt32.toUInt16.toUInt32.toInt32)))] (.int 0) := (Arv.set Ar148 q148 S148 M148 H148 U148 (fits_nar_char _) W148 3 rfl (Nat.le_of_ble_eq_true rfl))
  have z148 : h144.size ≤ h148.size := Nat.le_of_eq W148.size.symm
  have KP148 : Keep h0 h148 ([] : List Addr) := KP144.wr W148 (Or.inr (by omega))
  have N148 := Fr.snoc X148 N144 (by omega)
  have F149 := (F145.other W148 (show @Ne Nat a1 b132 by omega))
  obtain ⟨cl150, Ar150, q150, S150, M150, H150, U150⟩ := id F149
  refine Go.on (w := T148.setTop (mkF m 9 #[rv a1, rv b132, iv 4] [(.ref a1), (.int 4)])) (fun t k => XS.icmpNo X144.here hx rfl (hb hby d9_10) rfl (tlt (by decide : (3 : Int32) < (4 : Int32))).2.1 (XS.aloadN X144.here hx rfl (hb hby d9_13) rfl rfl (XS.iloadN X144.here hx rfl (hb hby d9_14) rfl (XS.aloadN X144.here hx rfl (hb hby d9_15) rfl rfl (XS.iloadN X144.here hx rfl (hb hby d9_16) rfl (X144.iaload hx (j := (3 : Int32)) (v := (.int v3)) (by rw [e144]; exact Ar147.1) (State.isArrayOf_alike hZ0.alike Ar147.2.1) Ar147.2.2 hin147 (H147.at hin147 rfl) (g := (mkF m 17 #[rv a1, rv b132, iv 3] [(.int 3), (.ref a1), (.int 3), (.ref b132)])) rfl rfl (hb hby d9_17) _ (XS.i2c X144.here hx rfl (hb hby d9_18) rfl (st148 _ (XS.iinc X148.here hx rfl (hb hby d9_20) rfl (l' := #[rv a1, rv b132, iv 4]) rfl (XS.goto X148.here hx rfl (pc0 := 23) (pc' := 7) rfl (hb hby d9_23) (by decide) (by decide) (XS.iloadN X148.here hx rfl (hb hby d9_7) rfl (XS.aloadN X148.here hx rfl (hb hby d9_8) rfl rfl k)))))))))))) ?_
  refine Go.on (w := T148.setTop (mkF m 10 #[rv a1, rv b132, iv 4] [(.int 4), (.int 4)])) (fun t k => X148.arraylength hx (by rw [e148]; exact Ar150.1) (State.isArrayOf_alike hZ0.alike Ar150.2.1) (g := (mkF m 9 #[rv a1, rv b132, iv 4] [(.ref a1), (.int 4)])) rfl rfl (hb hby d9_9) _ (by rw [len_of S150 M150]; exact k)) ?_
  refine Go.on (w := T148.setTop (mkF m 27 #[rv a1, rv b132, iv 4] [(.ref b132)])) (fun t k => XS.icmpYes X148.here hx rfl (pc0 := 10) (pc' := 26) rfl (hb hby d9_10) rfl (flt (by decide : ¬ ((4 : Int32) < (4 : Int32)))).2.1 (by decide) (by decide) (XS.aloadN X148.here hx rfl (hb hby d9_26) rfl rfl k)) ?_
  refine Go.finH X148 hlk (v := some (.ref b132)) (fun h => by rw [Bd.returns] at h; cases h) (fun fs hr => ?_) (endH (Q := Q_rmNar4 Z a1 k1 v0 v1 v2 v3 h0) (by rw [e148]; exact ⟨b132, k132, rfl, N148, KP148, (by omega), V148⟩) (by decide) (by decide))
  exact retOut X148 hx Bd.returns rfl (Or.inr (Or.inr (Or.inr (Or.inr ⟨rfl, rfl, rfl⟩)))) (hb hby d9_27) hr
def Q_rmDT1 (Z : State) (a1 : Addr) (ab : Addr) (av : Addr) (kv : ClassId) (ag : Addr) (kg : ClassId) (aq : Addr) (kt : ClassId) (al : Addr) (kl : ClassId) (x0 : Int32) (g0 : Int32) (g1 : Int32) (g2 : Int32) (t0 : Int32) (t1 : Int32) (l0 : Int32) (l1 : Int32) (l2 : Int32) (h0 : Heap) (vv : Option Value) (h : Heap) (L : List Loc) : Prop := ∃ (ns : Addr) (kn : ClassId), vv = none ∧ Fr Z.heap.size L ∧ Keep h0 h [a1] ∧ (h0.size ≤ ns) ∧ Exa Z h a1 "com/example/syntagma/syntagma/service/DocumentText" ∧ Fld Z h a1 "com/example/syntagma/syntagma/service/DocumentText" "gaps" "[B" (.ref ag) ∧ Fld Z h a1 "com/example/syntagma/syntagma/service/DocumentText" "narrowStarts" "[C" (.ref ns) ∧ Arv Z h ns kn .char (2 : Int32) [(.int (nar .char (t0.toUInt32.toUInt16.toUInt32.toInt32))), (.int (nar .char (t1.toUInt32.toUInt16.toUInt32.toInt32)))] (.int 0)
theorem ef_rmDT1 (m : MethodId) (x0 : Addr) (x1 : Addr) (x2 : Addr) (x3 : Addr) (x4 : Addr) (x5 : Addr) (x6 : Int32)   : entryFrame m #[(.ref x0), (.ref x1), (.ref x2), (.ref x3), (.ref x4), (.ref x5), (.int x6)] 7 = mkF m 0 #[.val (.ref x0), .val (.ref x1), .val (.ref x2), .val (.ref x3), .val (.ref x4), .val (.ref x5), .val (.int x6)] [] := by first | rfl | (simp [entryFrame, mkF, argsToLocals, Value.category]; done)
set_option maxRecDepth 65536 in
set_option maxHeartbeats 40000000 in
theorem rmDT1 (l : Launch) (Z : State) (a0 : Array Value) (hw : ∀ d ∈ tables_1, d.before a0 Z = true) (ws : List Jvm.Cond) (a1 : Addr) (ab : Addr) (av : Addr) (kv : ClassId) (ag : Addr) (kg : ClassId) (aq : Addr) (kt : ClassId) (al : Addr) (kl : ClassId) (x0 : Int32) (g0 : Int32) (g1 : Int32) (g2 : Int32) (t0 : Int32) (t1 : Int32) (l0 : Int32) (l1 : Int32) (l2 : Int32) (h0 : Heap) (Z0 : Z.heap.size ≤ h0.size) (lo_a1 : Z.heap.size ≤ a1) (E_a1 : Exa Z h0 a1 "com/example/syntagma/syntagma/service/DocumentText") (F_vocabulary : Fld Z h0 a1 "com/example/syntagma/syntagma/service/DocumentText" "vocabulary" "[I" .null) (F_gaps : Fld Z h0 a1 "com/example/syntagma/syntagma/service/DocumentText" "gaps" "[B" .null) (F_stretched : Fld Z h0 a1 "com/example/syntagma/syntagma/service/DocumentText" "stretched" "Z" (.int 0)) (F_breaks : Fld Z h0 a1 "com/example/syntagma/syntagma/service/DocumentText" "breaks" "[J" .null) (F_words : Fld Z h0 a1 "com/example/syntagma/syntagma/service/DocumentText" "words" "I" (.int 0)) (F_firstSentenceWords : Fld Z h0 a1 "com/example/syntagma/syntagma/service/DocumentText" "firstSentenceWords" "I" (.int 0)) (F_narrowStarts : Fld Z h0 a1 "com/example/syntagma/syntagma/service/DocumentText" "narrowStarts" "[C" .null) (F_wideStarts : Fld Z h0 a1 "com/example/syntagma/syntagma/service/DocumentText" "wideStarts" "[I" .null) (F_narrowPlaces : Fld Z h0 a1 "com/example/syntagma/syntagma/service/DocumentText" "narrowPlaces" "[C" .null) (F_widePlaces : Fld Z h0 a1 "com/example/syntagma/syntagma/service/DocumentText" "widePlaces" "[I" .null) (ne_av_a1 : av ≠ a1) (ne_ag_a1 : ag ≠ a1) (ne_aq_a1 : aq ≠ a1) (ne_al_a1 : al ≠ a1) (V_av : Arv Z h0 av kv .int (1 : Int32) [(.int x0)] (.int 0)) (V_ag : Arv Z h0 ag kg .byte (3 : Int32) [(.int g0), (.int g1), (.int g2)] (.int 0)) (V_aq : Arv Z h0 aq kt .int (2 : Int32) [(.int t0), (.int t1)] (.int 0)) (V_al : Arv Z h0 al kl .int (3 : Int32) [(.int l0), (.int l1), (.int l2)] (.int 0)) :
    MetFree l yM11 (head1 (Jvm.Cond.code yM11 prog_209_method_1_code 7 none :: ws) ({ frames := 1, cells := 2, slots := 5, locals := 15 } : Room)) (fun a U => a = #[(.ref a1), (.ref av), (.ref ag), (.ref aq), (.ref al), (.ref ab), (.int 3)] ∧ Z.Warmed39 U.vm ∧ U.heap = h0) (fun _ _ _ _ _ => True) (fun _ U o U' => ∃ v L, o = .returned v ∧ Q_rmDT1 Z a1 ab av kv ag kg aq kt al kl x0 g0 g1 g2 t0 t1 l0 l1 l2 h0 v U'.heap L ∧ FrameEnd U o U' L ({ frames := 1, cells := 2, slots := 5, locals := 15 } : Room).cells ({ frames := 1, cells := 2, slots := 5, locals := 15 } : Room).slots) := by
  refine MetFree.of_bodySF (plainFor_of_name (by first | (simp [plainName, overriddenIn]; done) | decide +kernel)) hisR ?_
  intro p e s m args below meth c s₁ Bd hml0 hP hK
  obtain ⟨rfl, hZ0', hh⟩ := hP
  have hx := Bd.exec
  have hby := Bd.bytes
  have hml : c.maxLocals = 7 := hml0
  have hZ0 : Z.Warmed39 s.vm := hZ0'
  have hown0 : s.vm.findClass "com/example/syntagma/syntagma/service/DocumentText" = some m.cls := findClass_of_methodNamed Bd.named
  have hnm := (name_of_methodNamed Bd.named Bd.method).1
  have hlk : meth.locks = false := Bd.notSynchronized
  have X0 : Stand p l e ({ frames := 1, cells := 2, slots := 5, locals := 15 } : Room) s m #[(.ref a1), (.ref av), (.ref ag), (.ref aq), (.ref al), (.ref ab), (.int 3)] below meth c s₁ [] 0 0 := Stand.of_body Bd
  have e0 : s₁.heap = h0 := by rw [← hh, Bd.state]; rfl
  have N0 := Fr.nil Z.heap.size
  have KP0 : Keep h0 h0 ([a1] : List Addr) := Keep.refl _ _
  show Go p e below (fun t o => ∃ v L, o = .returned v ∧ Q_rmDT1 Z a1 ab av kv ag kg aq kt al kl x0 g0 g1 g2 t0 t1 l0 l1 l2 h0 v t.heap L ∧ FrameEnd s o t L ({ frames := 1, cells := 2, slots := 5, locals := 15 } : Room).cells ({ frames := 1, cells := 2, slots := 5, locals := 15 } : Room).slots) (s₁.setTop (entryFrame m #[(.ref a1), (.ref av), (.ref ag), (.ref aq), (.ref al), (.ref ab), (.int 3)] 7))
  refine Go.on (w := s₁.setTop (mkF m 0 #[rv a1, rv av, rv ag, rv aq, rv al, rv ab, iv 3] [])) (fun t k => castTop (ef_rmDT1 m a1 av ag aq al ab (3 : Int32)) k) ?_
  have u_a1 : h0.size > a1 := E_a1.lt
  have u_av : h0.size > av := V_av.lt
  have u_ag : h0.size > ag := V_ag.lt
  have u_aq : h0.size > aq := V_aq.lt
  have u_al : h0.size > al := V_al.lt
  obtain ⟨T151, X151, e151, st151⟩ := initO X0 hx hZ0 hown0 (w_63 hw) (w_8 hw) (w_9 hw) e0 (g := (mkF m 1 #[rv a1, rv av, rv ag, rv aq, rv al, rv ab, iv 3] [(.ref a1)])) rfl (by rw [hml]; rfl) rfl (hb hby d10_1) (by decide) (W := 0) (by show 2 * 0 + _ ≤ _; exact Nat.le_of_eq rfl) (by decide)
  obtain ⟨T152, h152, X152, e152, W152, st152⟩ := putF X151 hx hZ0 hown0 (host := "") (Or.inl (w_64 hw)) Via.refl e151 F_vocabulary E_a1 (Or.inr ⟨(w_65 hw), rfl, hnm⟩) (w_56 hw) (ty := (.array .int)) (by decide) rfl rfl (g := (mkF m 6 #[rv a1, rv av, rv ag, rv aq, rv al, rv ab, iv 3] [(.ref av), (.ref a1)])) rfl rfl (hb hby d10_6)
  have z152 : h0.size ≤ h152.size := Nat.le_of_eq W152.size.symm
  have KP152 : Keep h0 h152 ([a1] : List Addr) := KP0.wr W152 (Or.inl (List.mem_of_getElem? (i := 0) rfl))
  have N152 := Fr.snoc X152 N0 (by omega)
  have Fw152 := F_vocabulary.same W152
  have F153 := (E_a1.wr W152)
  have F154 := (F_gaps.other W152 (Or.inr (slot_ne (Or.inr (w_67 hw)) (Or.inr (w_65 hw)) (by decide) (t := (.array .byte)) (t' := (.array .int)) (by decide) (by decide))))
  obtain ⟨T155, h155, X155, e155, W155, st155⟩ := putF X152 hx hZ0 hown0 (host := "") (Or.inl (w_66 hw)) Via.refl e152 F154 F153 (Or.inr ⟨(w_67 hw), rfl, hnm⟩) (w_56 hw) (ty := (.array .byte)) (by decide) rfl rfl (g := (mkF m 11 #[rv a1, rv av, rv ag, rv aq, rv al, rv ab, iv 3] [(.ref ag), (.ref a1)])) rfl rfl (hb hby d10_11)
  have z155 : h152.size ≤ h155.size := Nat.le_of_eq W155.size.symm
  have KP155 : Keep h0 h155 ([a1] : List Addr) := KP152.wr W155 (Or.inl (List.mem_of_getElem? (i := 0) rfl))
  have N155 := Fr.snoc X155 N152 (by omega)
  have Fw155 := F154.same W155
  have F156 := ((V_ag.other W152 ne_ag_a1).other W155 ne_ag_a1)
  obtain ⟨cl157, Ar157, q157, S157, M157, H157, U157⟩ := id F156
  refine Go.on (w := T155.setTop (mkF m 16 #[rv a1, rv av, rv ag, rv aq, rv al, rv ab, iv 3] [(.ref ag), (.ref a1)])) (fun t k => XS.aloadN X0.here hx rfl (hb hby d10_0) rfl rfl (st151 _ (XS.aloadN X151.here hx rfl (hb hby d10_4) rfl rfl (XS.aloadN X151.here hx rfl (hb hby d10_5) rfl rfl (st152 _ (XS.aloadN X152.here hx rfl (hb hby d10_9) rfl rfl (XS.aloadN X152.here hx rfl (hb hby d10_10) rfl rfl (st155 _ (XS.aloadN X155.here hx rfl (hb hby d10_14) rfl rfl (XS.aloadN X155.here hx rfl (hb hby d10_15) rfl rfl k)))))))))) ?_
  refine Go.on (w := T155.setTop (mkF m 17 #[rv a1, rv av, rv ag, rv aq, rv al, rv ab, iv 3] [(.int 3), (.ref a1)])) (fun t k => X155.arraylength hx (by rw [e155]; exact Ar157.1) (State.isArrayOf_alike hZ0.alike Ar157.2.1) (g := (mkF m 16 #[rv a1, rv av, rv ag, rv aq, rv al, rv ab, iv 3] [(.ref ag), (.ref a1)])) rfl rfl (hb hby d10_16) _ (by rw [len_of S157 M157]; exact k)) ?_
  have F158 := ((V_al.other W152 ne_al_a1).other W155 ne_al_a1)
  obtain ⟨cl159, Ar159, q159, S159, M159, H159, U159⟩ := id F158
  refine Go.on (w := T155.setTop (mkF m 19 #[rv a1, rv av, rv ag, rv aq, rv al, rv ab, iv 3] [(.ref al), (.int 3), (.ref a1)])) (fun t k => XS.aload X155.here hx rfl (hb hby d10_17) rfl rfl k) ?_
  refine Go.on (w := T155.setTop (mkF m 20 #[rv a1, rv av, rv ag, rv aq, rv al, rv ab, iv 3] [(.int 3), (.int 3), (.ref a1)])) (fun t k => X155.arraylength hx (by rw [e155]; exact Ar159.1) (State.isArrayOf_alike hZ0.alike Ar159.2.1) (g := (mkF m 19 #[rv a1, rv av, rv ag, rv aq, rv al, rv ab, iv 3] [(.ref al), (.int 3), (.ref a1)])) rfl rfl (hb hby d10_19) _ (by rw [len_of S159 M159]; exact k)) ?_
  have F160 := (F153.wr W155)
  have F161 := ((F_stretched.other W152 (Or.inr (slot_ne (Or.inr (w_69 hw)) (Or.inr (w_65 hw)) (by decide) (t := .boolean) (t' := (.array .int)) (by decide) (by decide)))).other W155 (Or.inr (slot_ne (Or.inr (w_69 hw)) (Or.inr (w_67 hw)) (by decide) (t := .boolean) (t' := (.array .byte)) (by decide) (by decide))))
  obtain ⟨T162, h162, X162, e162, W162, st162⟩ := putFN X155 hx hZ0 hown0 (w_68 hw) Via.refl e155 F161 F160 (Or.inr ⟨(w_69 hw), rfl, hnm⟩) (w_56 hw) (ty := .boolean) (v' := (.int 0)) (by decide) rfl rfl (g := (mkF m 28 #[rv a1, rv av, rv ag, rv aq, rv al, rv ab, iv 3] [(.int 0), (.ref a1)])) rfl rfl (hb hby d10_28)
  have z162 : h155.size ≤ h162.size := Nat.le_of_eq W162.size.symm
  have KP162 : Keep h0 h162 ([a1] : List Addr) := KP155.wr W162 (Or.inl (List.mem_of_getElem? (i := 0) rfl))
  have N162 := Fr.snoc X162 N155 (by omega)
  have Fw162 := F161.same W162
  have F163 := (F160.wr W162)
  have F164 := (((F_breaks.other W152 (Or.inr (slot_ne (Or.inr (w_71 hw)) (Or.inr (w_65 hw)) (by decide) (t := (.array .long)) (t' := (.array .int)) (by decide) (by decide)))).other W155 (Or.inr (slot_ne (Or.inr (w_71 hw)) (Or.inr (w_67 hw)) (by decide) (t := (.array .long)) (t' := (.array .byte)) (by decide) (by decide)))).other W162 (Or.inr (slot_ne (Or.inr (w_71 hw)) (Or.inr (w_69 hw)) (by decide) (t := (.array .long)) (t' := .boolean) (by decide) (by decide))))
  obtain ⟨T165, h165, X165, e165, W165, st165⟩ := putF X162 hx hZ0 hown0 (host := "") (Or.inl (w_70 hw)) Via.refl e162 F164 F163 (Or.inr ⟨(w_71 hw), rfl, hnm⟩) (w_56 hw) (ty := (.array .long)) (by decide) rfl rfl (g := (mkF m 34 #[rv a1, rv av, rv ag, rv aq, rv al, rv ab, iv 3] [(.ref ab), (.ref a1)])) rfl rfl (hb hby d10_34)
  have z165 : h162.size ≤ h165.size := Nat.le_of_eq W165.size.symm
  have KP165 : Keep h0 h165 ([a1] : List Addr) := KP162.wr W165 (Or.inl (List.mem_of_getElem? (i := 0) rfl))
  have N165 := Fr.snoc X165 N162 (by omega)
  have Fw165 := F164.same W165
  have F166 := ((F158.other W162 ne_al_a1).other W165 ne_al_a1)
  obtain ⟨cl167, Ar167, q167, S167, M167, H167, U167⟩ := id F166
  refine Go.on (w := T165.setTop (mkF m 40 #[rv a1, rv av, rv ag, rv aq, rv al, rv ab, iv 3] [(.ref al), (.ref a1)])) (fun t k => XS.icmpYes X155.here hx rfl (pc0 := 20) (pc' := 27) rfl (hb hby d10_20) rfl (flt (by decide : ¬ ((3 : Int32) < (3 : Int32)))).2.2.2 (by decide) (by decide) (XS.iconst X155.here hx rfl (hb hby d10_27) (st162 _ (XS.aloadN X162.here hx rfl (hb hby d10_31) rfl rfl (XS.aload X162.here hx rfl (hb hby d10_32) rfl rfl (st165 _ (XS.aloadN X165.here hx rfl (hb hby d10_37) rfl rfl (XS.aload X165.here hx rfl (hb hby d10_38) rfl rfl k)))))))) ?_
  refine Go.on (w := T165.setTop (mkF m 41 #[rv a1, rv av, rv ag, rv aq, rv al, rv ab, iv 3] [(.int 3), (.ref a1)])) (fun t k => X165.arraylength hx (by rw [e165]; exact Ar167.1) (State.isArrayOf_alike hZ0.alike Ar167.2.1) (g := (mkF m 40 #[rv a1, rv av, rv ag, rv aq, rv al, rv ab, iv 3] [(.ref al), (.ref a1)])) rfl rfl (hb hby d10_40) _ (by rw [len_of S167 M167]; exact k)) ?_
  have F168 := (F163.wr W165)
  have F169 := ((((F_words.other W152 (Or.inr (slot_ne (Or.inr (w_73 hw)) (Or.inr (w_65 hw)) (by decide) (t := .int) (t' := (.array .int)) (by decide) (by decide)))).other W155 (Or.inr (slot_ne (Or.inr (w_73 hw)) (Or.inr (w_67 hw)) (by decide) (t := .int) (t' := (.array .byte)) (by decide) (by decide)))).other W162 (Or.inr (slot_ne (Or.inr (w_73 hw)) (Or.inr (w_69 hw)) (by decide) (t := .int) (t' := .boolean) (by decide) (by decide)))).other W165 (Or.inr (slot_ne (Or.inr (w_73 hw)) (Or.inr (w_71 hw)) (by decide) (t := .int) (t' := (.array .long)) (by decide) (by decide))))
  obtain ⟨T170, h170, X170, e170, W170, st170⟩ := putF X165 hx hZ0 hown0 (host := "") (Or.inl (w_72 hw)) Via.refl e165 F169 F168 (Or.inr ⟨(w_73 hw), rfl, hnm⟩) (w_56 hw) (ty := .int) (by decide) rfl rfl (g := (mkF m 41 #[rv a1, rv av, rv ag, rv aq, rv al, rv ab, iv 3] [(.int 3), (.ref a1)])) rfl rfl (hb hby d10_41)
  have z170 : h165.size ≤ h170.size := Nat.le_of_eq W170.size.symm
  have KP170 : Keep h0 h170 ([a1] : List Addr) := KP165.wr W170 (Or.inl (List.mem_of_getElem? (i := 0) rfl))
  have N170 := Fr.snoc X170 N165 (by omega)
  have Fw170 := F169.same W170
  have F171 := (F168.wr W170)
  have F172 := (((((F_firstSentenceWords.other W152 (Or.inr (slot_ne (Or.inr (w_75 hw)) (Or.inr (w_65 hw)) (by decide) (t := .int) (t' := (.array .int)) (by decide) (by decide)))).other W155 (Or.inr (slot_ne (Or.inr (w_75 hw)) (Or.inr (w_67 hw)) (by decide) (t := .int) (t' := (.array .byte)) (by decide) (by decide)))).other W162 (Or.inr (slot_ne (Or.inr (w_75 hw)) (Or.inr (w_69 hw)) (by decide) (t := .int) (t' := .boolean) (by decide) (by decide)))).other W165 (Or.inr (slot_ne (Or.inr (w_75 hw)) (Or.inr (w_71 hw)) (by decide) (t := .int) (t' := (.array .long)) (by decide) (by decide)))).other W170 (Or.inr (slot_ne (Or.inr (w_75 hw)) (Or.inr (w_73 hw)) (by decide) (t := .int) (t' := .int) (by decide) (by decide))))
  obtain ⟨T173, h173, X173, e173, W173, st173⟩ := putF X170 hx hZ0 hown0 (host := "") (Or.inl (w_74 hw)) Via.refl e170 F172 F171 (Or.inr ⟨(w_75 hw), rfl, hnm⟩) (w_56 hw) (ty := .int) (by decide) rfl rfl (g := (mkF m 47 #[rv a1, rv av, rv ag, rv aq, rv al, rv ab, iv 3] [(.int 3), (.ref a1)])) rfl rfl (hb hby d10_47)
  have z173 : h170.size ≤ h173.size := Nat.le_of_eq W173.size.symm
  have KP173 : Keep h0 h173 ([a1] : List Addr) := KP170.wr W173 (Or.inl (List.mem_of_getElem? (i := 0) rfl))
  have N173 := Fr.snoc X173 N170 (by omega)
  have Fw173 := F172.same W173
  have F174 := ((((F156.other W162 ne_ag_a1).other W165 ne_ag_a1).other W170 ne_ag_a1).other W173 ne_ag_a1)
  obtain ⟨cl175, Ar175, q175, S175, M175, H175, U175⟩ := id F174
  refine Go.on (w := T173.setTop (mkF m 51 #[rv a1, rv av, rv ag, rv aq, rv al, rv ab, iv 3] [(.ref ag)])) (fun t k => st170 _ (XS.aloadN X170.here hx rfl (hb hby d10_44) rfl rfl (XS.iload X170.here hx rfl (hb hby d10_45) rfl (st173 _ (XS.aloadN X173.here hx rfl (hb hby d10_50) rfl rfl k))))) ?_
  refine Go.on (w := T173.setTop (mkF m 52 #[rv a1, rv av, rv ag, rv aq, rv al, rv ab, iv 3] [(.int 3)])) (fun t k => X173.arraylength hx (by rw [e173]; exact Ar175.1) (State.isArrayOf_alike hZ0.alike Ar175.2.1) (g := (mkF m 51 #[rv a1, rv av, rv ag, rv aq, rv al, rv ab, iv 3] [(.ref ag)])) rfl rfl (hb hby d10_51) _ (by rw [len_of S175 M175]; exact k)) ?_
  have F177 := ((((((V_aq.other W152 ne_aq_a1).other W155 ne_aq_a1).other W162 ne_aq_a1).other W165 ne_aq_a1).other W170 ne_aq_a1).other W173 ne_aq_a1)
  obtain ⟨v176, _, ⟨T176, L176, k176, n176⟩, -, X176, ⟨Lc176, hQ176, l176, y176, z176⟩, st176⟩ := Jvm.LawKit.callS X173 hx (y := yM12) hown0 (mvT hZ0 (w_77 hw)) (mvT hZ0 (w_78 hw)) (mvT hZ0 (w_57 hw)) (mvT hZ0 (w_79 hw)) (by decide) (backOf (W := 1) (rmNar2 l Z a0 hw [] aq kt t0 t1 h173 (by omega) F177) hZ0 (w_79 hw) (w_57 hw) (by decide) (by decide)) (g := (mkF m 59 #[rv a1, rv av, rv ag, rv aq, rv al, rv ab, iv 3] [(.ref aq), (.ref a1)])) rfl (by rw [hml]; rfl) (argsL := [(.ref aq)]) (rest := [(.ref a1)]) (lenOf pd_4 rfl) rfl (by show 2 * 0 + _ ≤ _; exact Nat.le_of_eq rfl) (hb hby d10_59) (fun _ _ => ⟨rfl, e173, (by decide : 0 + 1 ≤ _), (by decide : 0 + 2 ≤ _)⟩)
  dsimp only [Pt.U, Pt.locs, Pt.cells, Pt.slots] at X176 l176 y176 z176 st176 hQ176
  subst l176 y176 z176
  obtain ⟨r_176, kr_176, rfl, Nq176, K176, f176_0, f176_1⟩ := hQ176
  have N176 := Fr.app N173 Nq176
  have eK176 : T176.heap = T176.heap := rfl
  have z176 : h173.size ≤ T176.heap.size := K176.1
  have KP176 : Keep h0 T176.heap ([a1] : List Addr) := KP173.trans K176 all0
  have u176_1 : T176.heap.size > r_176 := f176_1.lt
  have F178 := ((F171.wr W173).keep K176)
  have F179 := (((((((F_narrowStarts.other W152 (Or.inr (slot_ne (Or.inr (w_82 hw)) (Or.inr (w_65 hw)) (by decide) (t := (.array .char)) (t' := (.array .int)) (by decide) (by decide)))).other W155 (Or.inr (slot_ne (Or.inr (w_82 hw)) (Or.inr (w_67 hw)) (by decide) (t := (.array .char)) (t' := (.array .byte)) (by decide) (by decide)))).other W162 (Or.inr (slot_ne (Or.inr (w_82 hw)) (Or.inr (w_69 hw)) (by decide) (t := (.array .char)) (t' := .boolean) (by decide) (by decide)))).other W165 (Or.inr (slot_ne (Or.inr (w_82 hw)) (Or.inr (w_71 hw)) (by decide) (t := (.array .char)) (t' := (.array .long)) (by decide) (by decide)))).other W170 (Or.inr (slot_ne (Or.inr (w_82 hw)) (Or.inr (w_73 hw)) (by decide) (t := (.array .char)) (t' := .int) (by decide) (by decide)))).other W173 (Or.inr (slot_ne (Or.inr (w_82 hw)) (Or.inr (w_75 hw)) (by decide) (t := (.array .char)) (t' := .int) (by decide) (by decide)))).keep K176 nin0)
  obtain ⟨T180, h180, X180, e180, W180, st180⟩ := putF X176 hx hZ0 hown0 (host := "") (Or.inl (w_81 hw)) Via.refl eK176 F179 F178 (Or.inr ⟨(w_82 hw), rfl, hnm⟩) (w_56 hw) (ty := (.array .char)) (by decide) rfl rfl (g := (mkF m 62 #[rv a1, rv av, rv ag, rv aq, rv al, rv ab, iv 3] [(.ref r_176), (.ref a1)])) rfl rfl (hb hby d10_62)
  have z180 : T176.heap.size ≤ h180.size := Nat.le_of_eq W180.size.symm
  have KP180 : Keep h0 h180 ([a1] : List Addr) := KP176.wr W180 (Or.inl (List.mem_of_getElem? (i := 0) rfl))
  have N180 := Fr.snoc X180 N176 (by omega)
  have Fw180 := F179.same W180
  have F181 := (F178.wr W180)
  have F182 := ((((((((F_wideStarts.other W152 (Or.inr (slot_ne (Or.inr (w_84 hw)) (Or.inr (w_65 hw)) (by decide) (t := (.array .int)) (t' := (.array .int)) (by decide) (by decide)))).other W155 (Or.inr (slot_ne (Or.inr (w_84 hw)) (Or.inr (w_67 hw)) (by decide) (t := (.array .int)) (t' := (.array .byte)) (by decide) (by decide)))).other W162 (Or.inr (slot_ne (Or.inr (w_84 hw)) (Or.inr (w_69 hw)) (by decide) (t := (.array .int)) (t' := .boolean) (by decide) (by decide)))).other W165 (Or.inr (slot_ne (Or.inr (w_84 hw)) (Or.inr (w_71 hw)) (by decide) (t := (.array .int)) (t' := (.array .long)) (by decide) (by decide)))).other W170 (Or.inr (slot_ne (Or.inr (w_84 hw)) (Or.inr (w_73 hw)) (by decide) (t := (.array .int)) (t' := .int) (by decide) (by decide)))).other W173 (Or.inr (slot_ne (Or.inr (w_84 hw)) (Or.inr (w_75 hw)) (by decide) (t := (.array .int)) (t' := .int) (by decide) (by decide)))).keep K176 nin0).other W180 (Or.inr (slot_ne (Or.inr (w_84 hw)) (Or.inr (w_82 hw)) (by decide) (t := (.array .int)) (t' := (.array .char)) (by decide) (by decide))))
  obtain ⟨T183, h183, X183, e183, W183, st183⟩ := putF X180 hx hZ0 hown0 (host := "") (Or.inl (w_83 hw)) Via.refl e180 F182 F181 (Or.inr ⟨(w_84 hw), rfl, hnm⟩) (w_56 hw) (ty := (.array .int)) (by decide) rfl rfl (g := (mkF m 67 #[rv a1, rv av, rv ag, rv aq, rv al, rv ab, iv 3] [.null, (.ref a1)])) rfl rfl (hb hby d10_67)
  have z183 : h180.size ≤ h183.size := Nat.le_of_eq W183.size.symm
  have KP183 : Keep h0 h183 ([a1] : List Addr) := KP180.wr W183 (Or.inl (List.mem_of_getElem? (i := 0) rfl))
  have N183 := Fr.snoc X183 N180 (by omega)
  have Fw183 := F182.same W183
  have F184 := (((((((((V_av.other W152 ne_av_a1).other W155 ne_av_a1).other W162 ne_av_a1).other W165 ne_av_a1).other W170 ne_av_a1).other W173 ne_av_a1).keep K176 nin0).other W180 ne_av_a1).other W183 ne_av_a1)
  obtain ⟨cl185, Ar185, q185, S185, M185, H185, U185⟩ := id F184
  refine Go.on (w := T183.setTop (mkF m 84 #[rv a1, rv av, rv ag, rv aq, rv al, rv ab, iv 3] [(.ref av)])) (fun t k => X173.ldcInt hx hown0 (mvT hZ0 (w_76 hw)) (g := (mkF m 52 #[rv a1, rv av, rv ag, rv aq, rv al, rv ab, iv 3] [(.int 3)])) rfl (hb hby d10_52) _ (XS.icmpNo X173.here hx rfl (hb hby d10_54) rfl (flt (by decide : ¬ ((65535 : Int32) < (3 : Int32)))).2.2.1 (XS.aloadN X173.here hx rfl (hb hby d10_57) rfl rfl (XS.aloadN X173.here hx rfl (hb hby d10_58) rfl rfl (st176 _ (st180 _ (XS.aloadN X180.here hx rfl (hb hby d10_65) rfl rfl (XS.aconstNull X180.here hx rfl (hb hby d10_66) (st183 _ (XS.goto X183.here hx rfl (pc0 := 70) (pc' := 83) rfl (hb hby d10_70) (by decide) (by decide) (XS.aloadN X183.here hx rfl (hb hby d10_83) rfl rfl k))))))))))) ?_
  refine Go.on (w := T183.setTop (mkF m 85 #[rv a1, rv av, rv ag, rv aq, rv al, rv ab, iv 3] [(.int 1)])) (fun t k => X183.arraylength hx (by rw [e183]; exact Ar185.1) (State.isArrayOf_alike hZ0.alike Ar185.2.1) (g := (mkF m 84 #[rv a1, rv av, rv ag, rv aq, rv al, rv ab, iv 3] [(.ref av)])) rfl rfl (hb hby d10_84) _ (by rw [len_of S185 M185]; exact k)) ?_
  have F187 := (((((F166.other W170 ne_al_a1).other W173 ne_al_a1).keep K176 nin0).other W180 ne_al_a1).other W183 ne_al_a1)
  obtain ⟨v186, _, ⟨T186, L186, k186, n186⟩, -, X186, ⟨Lc186, hQ186, l186, y186, z186⟩, st186⟩ := Jvm.LawKit.callS X183 hx (y := yM12) hown0 (mvT hZ0 (w_77 hw)) (mvT hZ0 (w_78 hw)) (mvT hZ0 (w_57 hw)) (mvT hZ0 (w_79 hw)) (by decide) (backOf (W := 1) (rmNar3 l Z a0 hw [] al kl l0 l1 l2 h183 (by omega) F187) hZ0 (w_79 hw) (w_57 hw) (by decide) (by decide)) (g := (mkF m 93 #[rv a1, rv av, rv ag, rv aq, rv al, rv ab, iv 3] [(.ref al), (.ref a1)])) rfl (by rw [hml]; rfl) (argsL := [(.ref al)]) (rest := [(.ref a1)]) (lenOf pd_4 rfl) rfl (by show 2 * 0 + _ ≤ _; exact Nat.le_of_eq rfl) (hb hby d10_93) (fun _ _ => ⟨rfl, e183, (by decide : 1 + 1 ≤ _), (by decide : 2 + 3 ≤ _)⟩)
  dsimp only [Pt.U, Pt.locs, Pt.cells, Pt.slots] at X186 l186 y186 z186 st186 hQ186
  subst l186 y186 z186
  obtain ⟨r_186, kr_186, rfl, Nq186, K186, f186_0, f186_1⟩ := hQ186
  have N186 := Fr.app N183 Nq186
  have eK186 : T186.heap = T186.heap := rfl
  have z186 : h183.size ≤ T186.heap.size := K186.1
  have KP186 : Keep h0 T186.heap ([a1] : List Addr) := KP183.trans K186 all0
  have u186_1 : T186.heap.size > r_186 := f186_1.lt
  have F188 := ((F181.wr W183).keep K186)
  have F189 := ((((((((((F_narrowPlaces.other W152 (Or.inr (slot_ne (Or.inr (w_87 hw)) (Or.inr (w_65 hw)) (by decide) (t := (.array .char)) (t' := (.array .int)) (by decide) (by decide)))).other W155 (Or.inr (slot_ne (Or.inr (w_87 hw)) (Or.inr (w_67 hw)) (by decide) (t := (.array .char)) (t' := (.array .byte)) (by decide) (by decide)))).other W162 (Or.inr (slot_ne (Or.inr (w_87 hw)) (Or.inr (w_69 hw)) (by decide) (t := (.array .char)) (t' := .boolean) (by decide) (by decide)))).other W165 (Or.inr (slot_ne (Or.inr (w_87 hw)) (Or.inr (w_71 hw)) (by decide) (t := (.array .char)) (t' := (.array .long)) (by decide) (by decide)))).other W170 (Or.inr (slot_ne (Or.inr (w_87 hw)) (Or.inr (w_73 hw)) (by decide) (t := (.array .char)) (t' := .int) (by decide) (by decide)))).other W173 (Or.inr (slot_ne (Or.inr (w_87 hw)) (Or.inr (w_75 hw)) (by decide) (t := (.array .char)) (t' := .int) (by decide) (by decide)))).keep K176 nin0).other W180 (Or.inr (slot_ne (Or.inr (w_87 hw)) (Or.inr (w_82 hw)) (by decide) (t := (.array .char)) (t' := (.array .char)) (by decide) (by decide)))).other W183 (Or.inr (slot_ne (Or.inr (w_87 hw)) (Or.inr (w_84 hw)) (by decide) (t := (.array .char)) (t' := (.array .int)) (by decide) (by decide)))).keep K186 nin0)
  obtain ⟨T190, h190, X190, e190, W190, st190⟩ := putF X186 hx hZ0 hown0 (host := "") (Or.inl (w_86 hw)) Via.refl eK186 F189 F188 (Or.inr ⟨(w_87 hw), rfl, hnm⟩) (w_56 hw) (ty := (.array .char)) (by decide) rfl rfl (g := (mkF m 96 #[rv a1, rv av, rv ag, rv aq, rv al, rv ab, iv 3] [(.ref r_186), (.ref a1)])) rfl rfl (hb hby d10_96)
  have z190 : T186.heap.size ≤ h190.size := Nat.le_of_eq W190.size.symm
  have KP190 : Keep h0 h190 ([a1] : List Addr) := KP186.wr W190 (Or.inl (List.mem_of_getElem? (i := 0) rfl))
  have N190 := Fr.snoc X190 N186 (by omega)
  have Fw190 := F189.same W190
  have F191 := (F188.wr W190)
  have F192 := (((((((((((F_widePlaces.other W152 (Or.inr (slot_ne (Or.inr (w_89 hw)) (Or.inr (w_65 hw)) (by decide) (t := (.array .int)) (t' := (.array .int)) (by decide) (by decide)))).other W155 (Or.inr (slot_ne (Or.inr (w_89 hw)) (Or.inr (w_67 hw)) (by decide) (t := (.array .int)) (t' := (.array .byte)) (by decide) (by decide)))).other W162 (Or.inr (slot_ne (Or.inr (w_89 hw)) (Or.inr (w_69 hw)) (by decide) (t := (.array .int)) (t' := .boolean) (by decide) (by decide)))).other W165 (Or.inr (slot_ne (Or.inr (w_89 hw)) (Or.inr (w_71 hw)) (by decide) (t := (.array .int)) (t' := (.array .long)) (by decide) (by decide)))).other W170 (Or.inr (slot_ne (Or.inr (w_89 hw)) (Or.inr (w_73 hw)) (by decide) (t := (.array .int)) (t' := .int) (by decide) (by decide)))).other W173 (Or.inr (slot_ne (Or.inr (w_89 hw)) (Or.inr (w_75 hw)) (by decide) (t := (.array .int)) (t' := .int) (by decide) (by decide)))).keep K176 nin0).other W180 (Or.inr (slot_ne (Or.inr (w_89 hw)) (Or.inr (w_82 hw)) (by decide) (t := (.array .int)) (t' := (.array .char)) (by decide) (by decide)))).other W183 (Or.inr (slot_ne (Or.inr (w_89 hw)) (Or.inr (w_84 hw)) (by decide) (t := (.array .int)) (t' := (.array .int)) (by decide) (by decide)))).keep K186 nin0).other W190 (Or.inr (slot_ne (Or.inr (w_89 hw)) (Or.inr (w_87 hw)) (by decide) (t := (.array .int)) (t' := (.array .char)) (by decide) (by decide))))
  obtain ⟨T193, h193, X193, e193, W193, st193⟩ := putF X190 hx hZ0 hown0 (host := "") (Or.inl (w_88 hw)) Via.refl e190 F192 F191 (Or.inr ⟨(w_89 hw), rfl, hnm⟩) (w_56 hw) (ty := (.array .int)) (by decide) rfl rfl (g := (mkF m 101 #[rv a1, rv av, rv ag, rv aq, rv al, rv ab, iv 3] [.null, (.ref a1)])) rfl rfl (hb hby d10_101)
  have z193 : h190.size ≤ h193.size := Nat.le_of_eq W193.size.symm
  have KP193 : Keep h0 h193 ([a1] : List Addr) := KP190.wr W193 (Or.inl (List.mem_of_getElem? (i := 0) rfl))
  have N193 := Fr.snoc X193 N190 (by omega)
  have Fw193 := F192.same W193
  have F194 := (F191.wr W193)
  have F195 := ((((((((((Fw155.other W162 (Or.inr (slot_ne (Or.inr (w_67 hw)) (Or.inr (w_69 hw)) (by decide) (t := (.array .byte)) (t' := .boolean) (by decide) (by decide)))).other W165 (Or.inr (slot_ne (Or.inr (w_67 hw)) (Or.inr (w_71 hw)) (by decide) (t := (.array .byte)) (t' := (.array .long)) (by decide) (by decide)))).other W170 (Or.inr (slot_ne (Or.inr (w_67 hw)) (Or.inr (w_73 hw)) (by decide) (t := (.array .byte)) (t' := .int) (by decide) (by decide)))).other W173 (Or.inr (slot_ne (Or.inr (w_67 hw)) (Or.inr (w_75 hw)) (by decide) (t := (.array .byte)) (t' := .int) (by decide) (by decide)))).keep K176 nin0).other W180 (Or.inr (slot_ne (Or.inr (w_67 hw)) (Or.inr (w_82 hw)) (by decide) (t := (.array .byte)) (t' := (.array .char)) (by decide) (by decide)))).other W183 (Or.inr (slot_ne (Or.inr (w_67 hw)) (Or.inr (w_84 hw)) (by decide) (t := (.array .byte)) (t' := (.array .int)) (by decide) (by decide)))).keep K186 nin0).other W190 (Or.inr (slot_ne (Or.inr (w_67 hw)) (Or.inr (w_87 hw)) (by decide) (t := (.array .byte)) (t' := (.array .char)) (by decide) (by decide)))).other W193 (Or.inr (slot_ne (Or.inr (w_67 hw)) (Or.inr (w_89 hw)) (by decide) (t := (.array .byte)) (t' := (.array .int)) (by decide) (by decide))))
  have F196 := ((((Fw180.other W183 (Or.inr (slot_ne (Or.inr (w_82 hw)) (Or.inr (w_84 hw)) (by decide) (t := (.array .char)) (t' := (.array .int)) (by decide) (by decide)))).keep K186 nin0).other W190 (Or.inr (slot_ne (Or.inr (w_82 hw)) (Or.inr (w_87 hw)) (by decide) (t := (.array .char)) (t' := (.array .char)) (by decide) (by decide)))).other W193 (Or.inr (slot_ne (Or.inr (w_82 hw)) (Or.inr (w_89 hw)) (by decide) (t := (.array .char)) (t' := (.array .int)) (by decide) (by decide))))
  have F197 := (((((f176_1.other W180 (show @Ne Nat r_176 a1 by omega)).other W183 (show @Ne Nat r_176 a1 by omega)).keep K186 nin0).other W190 (show @Ne Nat r_176 a1 by omega)).other W193 (show @Ne Nat r_176 a1 by omega))
  refine Go.on (w := T193.setTop (mkF m 118 #[rv a1, rv av, rv ag, rv aq, rv al, rv ab, iv 3] [])) (fun t k => X183.ldcInt hx hown0 (mvT hZ0 (w_85 hw)) (g := (mkF m 85 #[rv a1, rv av, rv ag, rv aq, rv al, rv ab, iv 3] [(.int 1)])) rfl (hb hby d10_85) _ (XS.icmpNo X183.here hx rfl (hb hby d10_87) rfl (flt (by decide : ¬ ((65536 : Int32) < (1 : Int32)))).2.2.1 (XS.aloadN X183.here hx rfl (hb hby d10_90) rfl rfl (XS.aload X183.here hx rfl (hb hby d10_91) rfl rfl (st186 _ (st190 _ (XS.aloadN X190.here hx rfl (hb hby d10_99) rfl rfl (XS.aconstNull X190.here hx rfl (hb hby d10_100) (st193 _ (XS.goto X193.here hx rfl (pc0 := 104) (pc' := 118) rfl (hb hby d10_104) (by decide) (by decide) k)))))))))) ?_
  refine Go.finH X193 hlk (v := none) (fun _ => rfl) (fun fs hr => ?_) (endH (Q := Q_rmDT1 Z a1 ab av kv ag kg aq kt al kl x0 g0 g1 g2 t0 t1 l0 l1 l2 h0) (by rw [e193]; exact ⟨r_176, kr_176, rfl, N193, KP193, (by omega), F194, F195, F196, F197⟩) (by decide) (by decide))
  exact X193.returnOut hx Bd.returns (hb hby d10_118) hr
def Q_rmDT2 (Z : State) (a1 : Addr) (ab : Addr) (av : Addr) (kv : ClassId) (ag : Addr) (kg : ClassId) (aq : Addr) (kt : ClassId) (al : Addr) (kl : ClassId) (x0 : Int32) (x1 : Int32) (g0 : Int32) (g1 : Int32) (g2 : Int32) (t0 : Int32) (t1 : Int32) (t2 : Int32) (l0 : Int32) (l1 : Int32) (l2 : Int32) (h0 : Heap) (vv : Option Value) (h : Heap) (L : List Loc) : Prop := ∃ (ns : Addr) (kn : ClassId), vv = none ∧ Fr Z.heap.size L ∧ Keep h0 h [a1] ∧ (h0.size ≤ ns) ∧ Exa Z h a1 "com/example/syntagma/syntagma/service/DocumentText" ∧ Fld Z h a1 "com/example/syntagma/syntagma/service/DocumentText" "gaps" "[B" (.ref ag) ∧ Fld Z h a1 "com/example/syntagma/syntagma/service/DocumentText" "narrowStarts" "[C" (.ref ns) ∧ Arv Z h ns kn .char (3 : Int32) [(.int (nar .char (t0.toUInt32.toUInt16.toUInt32.toInt32))), (.int (nar .char (t1.toUInt32.toUInt16.toUInt32.toInt32))), (.int (nar .char (t2.toUInt32.toUInt16.toUInt32.toInt32)))] (.int 0)
theorem ef_rmDT2 (m : MethodId) (x0 : Addr) (x1 : Addr) (x2 : Addr) (x3 : Addr) (x4 : Addr) (x5 : Addr) (x6 : Int32)   : entryFrame m #[(.ref x0), (.ref x1), (.ref x2), (.ref x3), (.ref x4), (.ref x5), (.int x6)] 7 = mkF m 0 #[.val (.ref x0), .val (.ref x1), .val (.ref x2), .val (.ref x3), .val (.ref x4), .val (.ref x5), .val (.int x6)] [] := by first | rfl | (simp [entryFrame, mkF, argsToLocals, Value.category]; done)
set_option maxRecDepth 65536 in
set_option maxHeartbeats 40000000 in
theorem rmDT2 (l : Launch) (Z : State) (a0 : Array Value) (hw : ∀ d ∈ tables_1, d.before a0 Z = true) (ws : List Jvm.Cond) (a1 : Addr) (ab : Addr) (av : Addr) (kv : ClassId) (ag : Addr) (kg : ClassId) (aq : Addr) (kt : ClassId) (al : Addr) (kl : ClassId) (x0 : Int32) (x1 : Int32) (g0 : Int32) (g1 : Int32) (g2 : Int32) (t0 : Int32) (t1 : Int32) (t2 : Int32) (l0 : Int32) (l1 : Int32) (l2 : Int32) (h0 : Heap) (Z0 : Z.heap.size ≤ h0.size) (lo_a1 : Z.heap.size ≤ a1) (E_a1 : Exa Z h0 a1 "com/example/syntagma/syntagma/service/DocumentText") (F_vocabulary : Fld Z h0 a1 "com/example/syntagma/syntagma/service/DocumentText" "vocabulary" "[I" .null) (F_gaps : Fld Z h0 a1 "com/example/syntagma/syntagma/service/DocumentText" "gaps" "[B" .null) (F_stretched : Fld Z h0 a1 "com/example/syntagma/syntagma/service/DocumentText" "stretched" "Z" (.int 0)) (F_breaks : Fld Z h0 a1 "com/example/syntagma/syntagma/service/DocumentText" "breaks" "[J" .null) (F_words : Fld Z h0 a1 "com/example/syntagma/syntagma/service/DocumentText" "words" "I" (.int 0)) (F_firstSentenceWords : Fld Z h0 a1 "com/example/syntagma/syntagma/service/DocumentText" "firstSentenceWords" "I" (.int 0)) (F_narrowStarts : Fld Z h0 a1 "com/example/syntagma/syntagma/service/DocumentText" "narrowStarts" "[C" .null) (F_wideStarts : Fld Z h0 a1 "com/example/syntagma/syntagma/service/DocumentText" "wideStarts" "[I" .null) (F_narrowPlaces : Fld Z h0 a1 "com/example/syntagma/syntagma/service/DocumentText" "narrowPlaces" "[C" .null) (F_widePlaces : Fld Z h0 a1 "com/example/syntagma/syntagma/service/DocumentText" "widePlaces" "[I" .null) (ne_av_a1 : av ≠ a1) (ne_ag_a1 : ag ≠ a1) (ne_aq_a1 : aq ≠ a1) (ne_al_a1 : al ≠ a1) (V_av : Arv Z h0 av kv .int (2 : Int32) [(.int x0), (.int x1)] (.int 0)) (V_ag : Arv Z h0 ag kg .byte (3 : Int32) [(.int g0), (.int g1), (.int g2)] (.int 0)) (V_aq : Arv Z h0 aq kt .int (3 : Int32) [(.int t0), (.int t1), (.int t2)] (.int 0)) (V_al : Arv Z h0 al kl .int (3 : Int32) [(.int l0), (.int l1), (.int l2)] (.int 0)) :
    MetFree l yM11 (head1 (Jvm.Cond.code yM11 prog_209_method_1_code 7 none :: ws) ({ frames := 1, cells := 2, slots := 6, locals := 15 } : Room)) (fun a U => a = #[(.ref a1), (.ref av), (.ref ag), (.ref aq), (.ref al), (.ref ab), (.int 3)] ∧ Z.Warmed39 U.vm ∧ U.heap = h0) (fun _ _ _ _ _ => True) (fun _ U o U' => ∃ v L, o = .returned v ∧ Q_rmDT2 Z a1 ab av kv ag kg aq kt al kl x0 x1 g0 g1 g2 t0 t1 t2 l0 l1 l2 h0 v U'.heap L ∧ FrameEnd U o U' L ({ frames := 1, cells := 2, slots := 6, locals := 15 } : Room).cells ({ frames := 1, cells := 2, slots := 6, locals := 15 } : Room).slots) := by
  refine MetFree.of_bodySF (plainFor_of_name (by first | (simp [plainName, overriddenIn]; done) | decide +kernel)) hisR ?_
  intro p e s m args below meth c s₁ Bd hml0 hP hK
  obtain ⟨rfl, hZ0', hh⟩ := hP
  have hx := Bd.exec
  have hby := Bd.bytes
  have hml : c.maxLocals = 7 := hml0
  have hZ0 : Z.Warmed39 s.vm := hZ0'
  have hown0 : s.vm.findClass "com/example/syntagma/syntagma/service/DocumentText" = some m.cls := findClass_of_methodNamed Bd.named
  have hnm := (name_of_methodNamed Bd.named Bd.method).1
  have hlk : meth.locks = false := Bd.notSynchronized
  have X0 : Stand p l e ({ frames := 1, cells := 2, slots := 6, locals := 15 } : Room) s m #[(.ref a1), (.ref av), (.ref ag), (.ref aq), (.ref al), (.ref ab), (.int 3)] below meth c s₁ [] 0 0 := Stand.of_body Bd
  have e0 : s₁.heap = h0 := by rw [← hh, Bd.state]; rfl
  have N0 := Fr.nil Z.heap.size
  have KP0 : Keep h0 h0 ([a1] : List Addr) := Keep.refl _ _
  show Go p e below (fun t o => ∃ v L, o = .returned v ∧ Q_rmDT2 Z a1 ab av kv ag kg aq kt al kl x0 x1 g0 g1 g2 t0 t1 t2 l0 l1 l2 h0 v t.heap L ∧ FrameEnd s o t L ({ frames := 1, cells := 2, slots := 6, locals := 15 } : Room).cells ({ frames := 1, cells := 2, slots := 6, locals := 15 } : Room).slots) (s₁.setTop (entryFrame m #[(.ref a1), (.ref av), (.ref ag), (.ref aq), (.ref al), (.ref ab), (.int 3)] 7))
  refine Go.on (w := s₁.setTop (mkF m 0 #[rv a1, rv av, rv ag, rv aq, rv al, rv ab, iv 3] [])) (fun t k => castTop (ef_rmDT2 m a1 av ag aq al ab (3 : Int32)) k) ?_
  have u_a1 : h0.size > a1 := E_a1.lt
  have u_av : h0.size > av := V_av.lt
  have u_ag : h0.size > ag := V_ag.lt
  have u_aq : h0.size > aq := V_aq.lt
  have u_al : h0.size > al := V_al.lt
  obtain ⟨T198, X198, e198, st198⟩ := initO X0 hx hZ0 hown0 (w_63 hw) (w_8 hw) (w_9 hw) e0 (g := (mkF m 1 #[rv a1, rv av, rv ag, rv aq, rv al, rv ab, iv 3] [(.ref a1)])) rfl (by rw [hml]; rfl) rfl (hb hby d10_1) (by decide) (W := 0) (by show 2 * 0 + _ ≤ _; exact Nat.le_of_eq rfl) (by decide)
  obtain ⟨T199, h199, X199, e199, W199, st199⟩ := putF X198 hx hZ0 hown0 (host := "") (Or.inl (w_64 hw)) Via.refl e198 F_vocabulary E_a1 (Or.inr ⟨(w_65 hw), rfl, hnm⟩) (w_56 hw) (ty := (.array .int)) (by decide) rfl rfl (g := (mkF m 6 #[rv a1, rv av, rv ag, rv aq, rv al, rv ab, iv 3] [(.ref av), (.ref a1)])) rfl rfl (hb hby d10_6)
  have z199 : h0.size ≤ h199.size := Nat.le_of_eq W199.size.symm
  have KP199 : Keep h0 h199 ([a1] : List Addr) := KP0.wr W199 (Or.inl (List.mem_of_getElem? (i := 0) rfl))
  have N199 := Fr.snoc X199 N0 (by omega)
  have Fw199 := F_vocabulary.same W199
  have F200 := (E_a1.wr W199)
  have F201 := (F_gaps.other W199 (Or.inr (slot_ne (Or.inr (w_67 hw)) (Or.inr (w_65 hw)) (by decide) (t := (.array .byte)) (t' := (.array .int)) (by decide) (by decide))))
  obtain ⟨T202, h202, X202, e202, W202, st202⟩ := putF X199 hx hZ0 hown0 (host := "") (Or.inl (w_66 hw)) Via.refl e199 F201 F200 (Or.inr ⟨(w_67 hw), rfl, hnm⟩) (w_56 hw) (ty := (.array .byte)) (by decide) rfl rfl (g := (mkF m 11 #[rv a1, rv av, rv ag, rv aq, rv al, rv ab, iv 3] [(.ref ag), (.ref a1)])) rfl rfl (hb hby d10_11)
  have z202 : h199.size ≤ h202.size := Nat.le_of_eq W202.size.symm
  have KP202 : Keep h0 h202 ([a1] : List Addr) := KP199.wr W202 (Or.inl (List.mem_of_getElem? (i := 0) rfl))
  have N202 := Fr.snoc X202 N199 (by omega)
  have Fw202 := F201.same W202
  have F203 := ((V_ag.other W199 ne_ag_a1).other W202 ne_ag_a1)
  obtain ⟨cl204, Ar204, q204, S204, M204, H204, U204⟩ := id F203
  refine Go.on (w := T202.setTop (mkF m 16 #[rv a1, rv av, rv ag, rv aq, rv al, rv ab, iv 3] [(.ref ag), (.ref a1)])) (fun t k => XS.aloadN X0.here hx rfl (hb hby d10_0) rfl rfl (st198 _ (XS.aloadN X198.here hx rfl (hb hby d10_4) rfl rfl (XS.aloadN X198.here hx rfl (hb hby d10_5) rfl rfl (st199 _ (XS.aloadN X199.here hx rfl (hb hby d10_9) rfl rfl (XS.aloadN X199.here hx rfl (hb hby d10_10) rfl rfl (st202 _ (XS.aloadN X202.here hx rfl (hb hby d10_14) rfl rfl (XS.aloadN X202.here hx rfl (hb hby d10_15) rfl rfl k)))))))))) ?_
  refine Go.on (w := T202.setTop (mkF m 17 #[rv a1, rv av, rv ag, rv aq, rv al, rv ab, iv 3] [(.int 3), (.ref a1)])) (fun t k => X202.arraylength hx (by rw [e202]; exact Ar204.1) (State.isArrayOf_alike hZ0.alike Ar204.2.1) (g := (mkF m 16 #[rv a1, rv av, rv ag, rv aq, rv al, rv ab, iv 3] [(.ref ag), (.ref a1)])) rfl rfl (hb hby d10_16) _ (by rw [len_of S204 M204]; exact k)) ?_
  have F205 := ((V_al.other W199 ne_al_a1).other W202 ne_al_a1)
  obtain ⟨cl206, Ar206, q206, S206, M206, H206, U206⟩ := id F205
  refine Go.on (w := T202.setTop (mkF m 19 #[rv a1, rv av, rv ag, rv aq, rv al, rv ab, iv 3] [(.ref al), (.int 3), (.ref a1)])) (fun t k => XS.aload X202.here hx rfl (hb hby d10_17) rfl rfl k) ?_
  refine Go.on (w := T202.setTop (mkF m 20 #[rv a1, rv av, rv ag, rv aq, rv al, rv ab, iv 3] [(.int 3), (.int 3), (.ref a1)])) (fun t k => X202.arraylength hx (by rw [e202]; exact Ar206.1) (State.isArrayOf_alike hZ0.alike Ar206.2.1) (g := (mkF m 19 #[rv a1, rv av, rv ag, rv aq, rv al, rv ab, iv 3] [(.ref al), (.int 3), (.ref a1)])) rfl rfl (hb hby d10_19) _ (by rw [len_of S206 M206]; exact k)) ?_
  have F207 := (F200.wr W202)
  have F208 := ((F_stretched.other W199 (Or.inr (slot_ne (Or.inr (w_69 hw)) (Or.inr (w_65 hw)) (by decide) (t := .boolean) (t' := (.array .int)) (by decide) (by decide)))).other W202 (Or.inr (slot_ne (Or.inr (w_69 hw)) (Or.inr (w_67 hw)) (by decide) (t := .boolean) (t' := (.array .byte)) (by decide) (by decide))))
  obtain ⟨T209, h209, X209, e209, W209, st209⟩ := putFN X202 hx hZ0 hown0 (w_68 hw) Via.refl e202 F208 F207 (Or.inr ⟨(w_69 hw), rfl, hnm⟩) (w_56 hw) (ty := .boolean) (v' := (.int 0)) (by decide) rfl rfl (g := (mkF m 28 #[rv a1, rv av, rv ag, rv aq, rv al, rv ab, iv 3] [(.int 0), (.ref a1)])) rfl rfl (hb hby d10_28)
  have z209 : h202.size ≤ h209.size := Nat.le_of_eq W209.size.symm
  have KP209 : Keep h0 h209 ([a1] : List Addr) := KP202.wr W209 (Or.inl (List.mem_of_getElem? (i := 0) rfl))
  have N209 := Fr.snoc X209 N202 (by omega)
  have Fw209 := F208.same W209
  have F210 := (F207.wr W209)
  have F211 := (((F_breaks.other W199 (Or.inr (slot_ne (Or.inr (w_71 hw)) (Or.inr (w_65 hw)) (by decide) (t := (.array .long)) (t' := (.array .int)) (by decide) (by decide)))).other W202 (Or.inr (slot_ne (Or.inr (w_71 hw)) (Or.inr (w_67 hw)) (by decide) (t := (.array .long)) (t' := (.array .byte)) (by decide) (by decide)))).other W209 (Or.inr (slot_ne (Or.inr (w_71 hw)) (Or.inr (w_69 hw)) (by decide) (t := (.array .long)) (t' := .boolean) (by decide) (by decide))))
  obtain ⟨T212, h212, X212, e212, W212, st212⟩ := putF X209 hx hZ0 hown0 (host := "") (Or.inl (w_70 hw)) Via.refl e209 F211 F210 (Or.inr ⟨(w_71 hw), rfl, hnm⟩) (w_56 hw) (ty := (.array .long)) (by decide) rfl rfl (g := (mkF m 34 #[rv a1, rv av, rv ag, rv aq, rv al, rv ab, iv 3] [(.ref ab), (.ref a1)])) rfl rfl (hb hby d10_34)
  have z212 : h209.size ≤ h212.size := Nat.le_of_eq W212.size.symm
  have KP212 : Keep h0 h212 ([a1] : List Addr) := KP209.wr W212 (Or.inl (List.mem_of_getElem? (i := 0) rfl))
  have N212 := Fr.snoc X212 N209 (by omega)
  have Fw212 := F211.same W212
  have F213 := ((F205.other W209 ne_al_a1).other W212 ne_al_a1)
  obtain ⟨cl214, Ar214, q214, S214, M214, H214, U214⟩ := id F213
  refine Go.on (w := T212.setTop (mkF m 40 #[rv a1, rv av, rv ag, rv aq, rv al, rv ab, iv 3] [(.ref al), (.ref a1)])) (fun t k => XS.icmpYes X202.here hx rfl (pc0 := 20) (pc' := 27) rfl (hb hby d10_20) rfl (flt (by decide : ¬ ((3 : Int32) < (3 : Int32)))).2.2.2 (by decide) (by decide) (XS.iconst X202.here hx rfl (hb hby d10_27) (st209 _ (XS.aloadN X209.here hx rfl (hb hby d10_31) rfl rfl (XS.aload X209.here hx rfl (hb hby d10_32) rfl rfl (st212 _ (XS.aloadN X212.here hx rfl (hb hby d10_37) rfl rfl (XS.aload X212.here hx rfl (hb hby d10_38) rfl rfl k)))))))) ?_
  refine Go.on (w := T212.setTop (mkF m 41 #[rv a1, rv av, rv ag, rv aq, rv al, rv ab, iv 3] [(.int 3), (.ref a1)])) (fun t k => X212.arraylength hx (by rw [e212]; exact Ar214.1) (State.isArrayOf_alike hZ0.alike Ar214.2.1) (g := (mkF m 40 #[rv a1, rv av, rv ag, rv aq, rv al, rv ab, iv 3] [(.ref al), (.ref a1)])) rfl rfl (hb hby d10_40) _ (by rw [len_of S214 M214]; exact k)) ?_
  have F215 := (F210.wr W212)
  have F216 := ((((F_words.other W199 (Or.inr (slot_ne (Or.inr (w_73 hw)) (Or.inr (w_65 hw)) (by decide) (t := .int) (t' := (.array .int)) (by decide) (by decide)))).other W202 (Or.inr (slot_ne (Or.inr (w_73 hw)) (Or.inr (w_67 hw)) (by decide) (t := .int) (t' := (.array .byte)) (by decide) (by decide)))).other W209 (Or.inr (slot_ne (Or.inr (w_73 hw)) (Or.inr (w_69 hw)) (by decide) (t := .int) (t' := .boolean) (by decide) (by decide)))).other W212 (Or.inr (slot_ne (Or.inr (w_73 hw)) (Or.inr (w_71 hw)) (by decide) (t := .int) (t' := (.array .long)) (by decide) (by decide))))
  obtain ⟨T217, h217, X217, e217, W217, st217⟩ := putF X212 hx hZ0 hown0 (host := "") (Or.inl (w_72 hw)) Via.refl e212 F216 F215 (Or.inr ⟨(w_73 hw), rfl, hnm⟩) (w_56 hw) (ty := .int) (by decide) rfl rfl (g := (mkF m 41 #[rv a1, rv av, rv ag, rv aq, rv al, rv ab, iv 3] [(.int 3), (.ref a1)])) rfl rfl (hb hby d10_41)
  have z217 : h212.size ≤ h217.size := Nat.le_of_eq W217.size.symm
  have KP217 : Keep h0 h217 ([a1] : List Addr) := KP212.wr W217 (Or.inl (List.mem_of_getElem? (i := 0) rfl))
  have N217 := Fr.snoc X217 N212 (by omega)
  have Fw217 := F216.same W217
  have F218 := (F215.wr W217)
  have F219 := (((((F_firstSentenceWords.other W199 (Or.inr (slot_ne (Or.inr (w_75 hw)) (Or.inr (w_65 hw)) (by decide) (t := .int) (t' := (.array .int)) (by decide) (by decide)))).other W202 (Or.inr (slot_ne (Or.inr (w_75 hw)) (Or.inr (w_67 hw)) (by decide) (t := .int) (t' := (.array .byte)) (by decide) (by decide)))).other W209 (Or.inr (slot_ne (Or.inr (w_75 hw)) (Or.inr (w_69 hw)) (by decide) (t := .int) (t' := .boolean) (by decide) (by decide)))).other W212 (Or.inr (slot_ne (Or.inr (w_75 hw)) (Or.inr (w_71 hw)) (by decide) (t := .int) (t' := (.array .long)) (by decide) (by decide)))).other W217 (Or.inr (slot_ne (Or.inr (w_75 hw)) (Or.inr (w_73 hw)) (by decide) (t := .int) (t' := .int) (by decide) (by decide))))
  obtain ⟨T220, h220, X220, e220, W220, st220⟩ := putF X217 hx hZ0 hown0 (host := "") (Or.inl (w_74 hw)) Via.refl e217 F219 F218 (Or.inr ⟨(w_75 hw), rfl, hnm⟩) (w_56 hw) (ty := .int) (by decide) rfl rfl (g := (mkF m 47 #[rv a1, rv av, rv ag, rv aq, rv al, rv ab, iv 3] [(.int 3), (.ref a1)])) rfl rfl (hb hby d10_47)
  have z220 : h217.size ≤ h220.size := Nat.le_of_eq W220.size.symm
  have KP220 : Keep h0 h220 ([a1] : List Addr) := KP217.wr W220 (Or.inl (List.mem_of_getElem? (i := 0) rfl))
  have N220 := Fr.snoc X220 N217 (by omega)
  have Fw220 := F219.same W220
  have F221 := ((((F203.other W209 ne_ag_a1).other W212 ne_ag_a1).other W217 ne_ag_a1).other W220 ne_ag_a1)
  obtain ⟨cl222, Ar222, q222, S222, M222, H222, U222⟩ := id F221
  refine Go.on (w := T220.setTop (mkF m 51 #[rv a1, rv av, rv ag, rv aq, rv al, rv ab, iv 3] [(.ref ag)])) (fun t k => st217 _ (XS.aloadN X217.here hx rfl (hb hby d10_44) rfl rfl (XS.iload X217.here hx rfl (hb hby d10_45) rfl (st220 _ (XS.aloadN X220.here hx rfl (hb hby d10_50) rfl rfl k))))) ?_
  refine Go.on (w := T220.setTop (mkF m 52 #[rv a1, rv av, rv ag, rv aq, rv al, rv ab, iv 3] [(.int 3)])) (fun t k => X220.arraylength hx (by rw [e220]; exact Ar222.1) (State.isArrayOf_alike hZ0.alike Ar222.2.1) (g := (mkF m 51 #[rv a1, rv av, rv ag, rv aq, rv al, rv ab, iv 3] [(.ref ag)])) rfl rfl (hb hby d10_51) _ (by rw [len_of S222 M222]; exact k)) ?_
  have F224 := ((((((V_aq.other W199 ne_aq_a1).other W202 ne_aq_a1).other W209 ne_aq_a1).other W212 ne_aq_a1).other W217 ne_aq_a1).other W220 ne_aq_a1)
  obtain ⟨v223, _, ⟨T223, L223, k223, n223⟩, -, X223, ⟨Lc223, hQ223, l223, y223, z223⟩, st223⟩ := Jvm.LawKit.callS X220 hx (y := yM12) hown0 (mvT hZ0 (w_77 hw)) (mvT hZ0 (w_78 hw)) (mvT hZ0 (w_57 hw)) (mvT hZ0 (w_79 hw)) (by decide) (backOf (W := 1) (rmNar3 l Z a0 hw [] aq kt t0 t1 t2 h220 (by omega) F224) hZ0 (w_79 hw) (w_57 hw) (by decide) (by decide)) (g := (mkF m 59 #[rv a1, rv av, rv ag, rv aq, rv al, rv ab, iv 3] [(.ref aq), (.ref a1)])) rfl (by rw [hml]; rfl) (argsL := [(.ref aq)]) (rest := [(.ref a1)]) (lenOf pd_4 rfl) rfl (by show 2 * 0 + _ ≤ _; exact Nat.le_of_eq rfl) (hb hby d10_59) (fun _ _ => ⟨rfl, e220, (by decide : 0 + 1 ≤ _), (by decide : 0 + 3 ≤ _)⟩)
  dsimp only [Pt.U, Pt.locs, Pt.cells, Pt.slots] at X223 l223 y223 z223 st223 hQ223
  subst l223 y223 z223
  obtain ⟨r_223, kr_223, rfl, Nq223, K223, f223_0, f223_1⟩ := hQ223
  have N223 := Fr.app N220 Nq223
  have eK223 : T223.heap = T223.heap := rfl
  have z223 : h220.size ≤ T223.heap.size := K223.1
  have KP223 : Keep h0 T223.heap ([a1] : List Addr) := KP220.trans K223 all0
  have u223_1 : T223.heap.size > r_223 := f223_1.lt
  have F225 := ((F218.wr W220).keep K223)
  have F226 := (((((((F_narrowStarts.other W199 (Or.inr (slot_ne (Or.inr (w_82 hw)) (Or.inr (w_65 hw)) (by decide) (t := (.array .char)) (t' := (.array .int)) (by decide) (by decide)))).other W202 (Or.inr (slot_ne (Or.inr (w_82 hw)) (Or.inr (w_67 hw)) (by decide) (t := (.array .char)) (t' := (.array .byte)) (by decide) (by decide)))).other W209 (Or.inr (slot_ne (Or.inr (w_82 hw)) (Or.inr (w_69 hw)) (by decide) (t := (.array .char)) (t' := .boolean) (by decide) (by decide)))).other W212 (Or.inr (slot_ne (Or.inr (w_82 hw)) (Or.inr (w_71 hw)) (by decide) (t := (.array .char)) (t' := (.array .long)) (by decide) (by decide)))).other W217 (Or.inr (slot_ne (Or.inr (w_82 hw)) (Or.inr (w_73 hw)) (by decide) (t := (.array .char)) (t' := .int) (by decide) (by decide)))).other W220 (Or.inr (slot_ne (Or.inr (w_82 hw)) (Or.inr (w_75 hw)) (by decide) (t := (.array .char)) (t' := .int) (by decide) (by decide)))).keep K223 nin0)
  obtain ⟨T227, h227, X227, e227, W227, st227⟩ := putF X223 hx hZ0 hown0 (host := "") (Or.inl (w_81 hw)) Via.refl eK223 F226 F225 (Or.inr ⟨(w_82 hw), rfl, hnm⟩) (w_56 hw) (ty := (.array .char)) (by decide) rfl rfl (g := (mkF m 62 #[rv a1, rv av, rv ag, rv aq, rv al, rv ab, iv 3] [(.ref r_223), (.ref a1)])) rfl rfl (hb hby d10_62)
  have z227 : T223.heap.size ≤ h227.size := Nat.le_of_eq W227.size.symm
  have KP227 : Keep h0 h227 ([a1] : List Addr) := KP223.wr W227 (Or.inl (List.mem_of_getElem? (i := 0) rfl))
  have N227 := Fr.snoc X227 N223 (by omega)
  have Fw227 := F226.same W227
  have F228 := (F225.wr W227)
  have F229 := ((((((((F_wideStarts.other W199 (Or.inr (slot_ne (Or.inr (w_84 hw)) (Or.inr (w_65 hw)) (by decide) (t := (.array .int)) (t' := (.array .int)) (by decide) (by decide)))).other W202 (Or.inr (slot_ne (Or.inr (w_84 hw)) (Or.inr (w_67 hw)) (by decide) (t := (.array .int)) (t' := (.array .byte)) (by decide) (by decide)))).other W209 (Or.inr (slot_ne (Or.inr (w_84 hw)) (Or.inr (w_69 hw)) (by decide) (t := (.array .int)) (t' := .boolean) (by decide) (by decide)))).other W212 (Or.inr (slot_ne (Or.inr (w_84 hw)) (Or.inr (w_71 hw)) (by decide) (t := (.array .int)) (t' := (.array .long)) (by decide) (by decide)))).other W217 (Or.inr (slot_ne (Or.inr (w_84 hw)) (Or.inr (w_73 hw)) (by decide) (t := (.array .int)) (t' := .int) (by decide) (by decide)))).other W220 (Or.inr (slot_ne (Or.inr (w_84 hw)) (Or.inr (w_75 hw)) (by decide) (t := (.array .int)) (t' := .int) (by decide) (by decide)))).keep K223 nin0).other W227 (Or.inr (slot_ne (Or.inr (w_84 hw)) (Or.inr (w_82 hw)) (by decide) (t := (.array .int)) (t' := (.array .char)) (by decide) (by decide))))
  obtain ⟨T230, h230, X230, e230, W230, st230⟩ := putF X227 hx hZ0 hown0 (host := "") (Or.inl (w_83 hw)) Via.refl e227 F229 F228 (Or.inr ⟨(w_84 hw), rfl, hnm⟩) (w_56 hw) (ty := (.array .int)) (by decide) rfl rfl (g := (mkF m 67 #[rv a1, rv av, rv ag, rv aq, rv al, rv ab, iv 3] [.null, (.ref a1)])) rfl rfl (hb hby d10_67)
  have z230 : h227.size ≤ h230.size := Nat.le_of_eq W230.size.symm
  have KP230 : Keep h0 h230 ([a1] : List Addr) := KP227.wr W230 (Or.inl (List.mem_of_getElem? (i := 0) rfl))
  have N230 := Fr.snoc X230 N227 (by omega)
  have Fw230 := F229.same W230
  have F231 := (((((((((V_av.other W199 ne_av_a1).other W202 ne_av_a1).other W209 ne_av_a1).other W212 ne_av_a1).other W217 ne_av_a1).other W220 ne_av_a1).keep K223 nin0).other W227 ne_av_a1).other W230 ne_av_a1)
  obtain ⟨cl232, Ar232, q232, S232, M232, H232, U232⟩ := id F231
  refine Go.on (w := T230.setTop (mkF m 84 #[rv a1, rv av, rv ag, rv aq, rv al, rv ab, iv 3] [(.ref av)])) (fun t k => X220.ldcInt hx hown0 (mvT hZ0 (w_76 hw)) (g := (mkF m 52 #[rv a1, rv av, rv ag, rv aq, rv al, rv ab, iv 3] [(.int 3)])) rfl (hb hby d10_52) _ (XS.icmpNo X220.here hx rfl (hb hby d10_54) rfl (flt (by decide : ¬ ((65535 : Int32) < (3 : Int32)))).2.2.1 (XS.aloadN X220.here hx rfl (hb hby d10_57) rfl rfl (XS.aloadN X220.here hx rfl (hb hby d10_58) rfl rfl (st223 _ (st227 _ (XS.aloadN X227.here hx rfl (hb hby d10_65) rfl rfl (XS.aconstNull X227.here hx rfl (hb hby d10_66) (st230 _ (XS.goto X230.here hx rfl (pc0 := 70) (pc' := 83) rfl (hb hby d10_70) (by decide) (by decide) (XS.aloadN X230.here hx rfl (hb hby d10_83) rfl rfl k))))))))))) ?_
  refine Go.on (w := T230.setTop (mkF m 85 #[rv a1, rv av, rv ag, rv aq, rv al, rv ab, iv 3] [(.int 2)])) (fun t k => X230.arraylength hx (by rw [e230]; exact Ar232.1) (State.isArrayOf_alike hZ0.alike Ar232.2.1) (g := (mkF m 84 #[rv a1, rv av, rv ag, rv aq, rv al, rv ab, iv 3] [(.ref av)])) rfl rfl (hb hby d10_84) _ (by rw [len_of S232 M232]; exact k)) ?_
  have F234 := (((((F213.other W217 ne_al_a1).other W220 ne_al_a1).keep K223 nin0).other W227 ne_al_a1).other W230 ne_al_a1)
  obtain ⟨v233, _, ⟨T233, L233, k233, n233⟩, -, X233, ⟨Lc233, hQ233, l233, y233, z233⟩, st233⟩ := Jvm.LawKit.callS X230 hx (y := yM12) hown0 (mvT hZ0 (w_77 hw)) (mvT hZ0 (w_78 hw)) (mvT hZ0 (w_57 hw)) (mvT hZ0 (w_79 hw)) (by decide) (backOf (W := 1) (rmNar3 l Z a0 hw [] al kl l0 l1 l2 h230 (by omega) F234) hZ0 (w_79 hw) (w_57 hw) (by decide) (by decide)) (g := (mkF m 93 #[rv a1, rv av, rv ag, rv aq, rv al, rv ab, iv 3] [(.ref al), (.ref a1)])) rfl (by rw [hml]; rfl) (argsL := [(.ref al)]) (rest := [(.ref a1)]) (lenOf pd_4 rfl) rfl (by show 2 * 0 + _ ≤ _; exact Nat.le_of_eq rfl) (hb hby d10_93) (fun _ _ => ⟨rfl, e230, (by decide : 1 + 1 ≤ _), (by decide : 3 + 3 ≤ _)⟩)
  dsimp only [Pt.U, Pt.locs, Pt.cells, Pt.slots] at X233 l233 y233 z233 st233 hQ233
  subst l233 y233 z233
  obtain ⟨r_233, kr_233, rfl, Nq233, K233, f233_0, f233_1⟩ := hQ233
  have N233 := Fr.app N230 Nq233
  have eK233 : T233.heap = T233.heap := rfl
  have z233 : h230.size ≤ T233.heap.size := K233.1
  have KP233 : Keep h0 T233.heap ([a1] : List Addr) := KP230.trans K233 all0
  have u233_1 : T233.heap.size > r_233 := f233_1.lt
  have F235 := ((F228.wr W230).keep K233)
  have F236 := ((((((((((F_narrowPlaces.other W199 (Or.inr (slot_ne (Or.inr (w_87 hw)) (Or.inr (w_65 hw)) (by decide) (t := (.array .char)) (t' := (.array .int)) (by decide) (by decide)))).other W202 (Or.inr (slot_ne (Or.inr (w_87 hw)) (Or.inr (w_67 hw)) (by decide) (t := (.array .char)) (t' := (.array .byte)) (by decide) (by decide)))).other W209 (Or.inr (slot_ne (Or.inr (w_87 hw)) (Or.inr (w_69 hw)) (by decide) (t := (.array .char)) (t' := .boolean) (by decide) (by decide)))).other W212 (Or.inr (slot_ne (Or.inr (w_87 hw)) (Or.inr (w_71 hw)) (by decide) (t := (.array .char)) (t' := (.array .long)) (by decide) (by decide)))).other W217 (Or.inr (slot_ne (Or.inr (w_87 hw)) (Or.inr (w_73 hw)) (by decide) (t := (.array .char)) (t' := .int) (by decide) (by decide)))).other W220 (Or.inr (slot_ne (Or.inr (w_87 hw)) (Or.inr (w_75 hw)) (by decide) (t := (.array .char)) (t' := .int) (by decide) (by decide)))).keep K223 nin0).other W227 (Or.inr (slot_ne (Or.inr (w_87 hw)) (Or.inr (w_82 hw)) (by decide) (t := (.array .char)) (t' := (.array .char)) (by decide) (by decide)))).other W230 (Or.inr (slot_ne (Or.inr (w_87 hw)) (Or.inr (w_84 hw)) (by decide) (t := (.array .char)) (t' := (.array .int)) (by decide) (by decide)))).keep K233 nin0)
  obtain ⟨T237, h237, X237, e237, W237, st237⟩ := putF X233 hx hZ0 hown0 (host := "") (Or.inl (w_86 hw)) Via.refl eK233 F236 F235 (Or.inr ⟨(w_87 hw), rfl, hnm⟩) (w_56 hw) (ty := (.array .char)) (by decide) rfl rfl (g := (mkF m 96 #[rv a1, rv av, rv ag, rv aq, rv al, rv ab, iv 3] [(.ref r_233), (.ref a1)])) rfl rfl (hb hby d10_96)
  have z237 : T233.heap.size ≤ h237.size := Nat.le_of_eq W237.size.symm
  have KP237 : Keep h0 h237 ([a1] : List Addr) := KP233.wr W237 (Or.inl (List.mem_of_getElem? (i := 0) rfl))
  have N237 := Fr.snoc X237 N233 (by omega)
  have Fw237 := F236.same W237
  have F238 := (F235.wr W237)
  have F239 := (((((((((((F_widePlaces.other W199 (Or.inr (slot_ne (Or.inr (w_89 hw)) (Or.inr (w_65 hw)) (by decide) (t := (.array .int)) (t' := (.array .int)) (by decide) (by decide)))).other W202 (Or.inr (slot_ne (Or.inr (w_89 hw)) (Or.inr (w_67 hw)) (by decide) (t := (.array .int)) (t' := (.array .byte)) (by decide) (by decide)))).other W209 (Or.inr (slot_ne (Or.inr (w_89 hw)) (Or.inr (w_69 hw)) (by decide) (t := (.array .int)) (t' := .boolean) (by decide) (by decide)))).other W212 (Or.inr (slot_ne (Or.inr (w_89 hw)) (Or.inr (w_71 hw)) (by decide) (t := (.array .int)) (t' := (.array .long)) (by decide) (by decide)))).other W217 (Or.inr (slot_ne (Or.inr (w_89 hw)) (Or.inr (w_73 hw)) (by decide) (t := (.array .int)) (t' := .int) (by decide) (by decide)))).other W220 (Or.inr (slot_ne (Or.inr (w_89 hw)) (Or.inr (w_75 hw)) (by decide) (t := (.array .int)) (t' := .int) (by decide) (by decide)))).keep K223 nin0).other W227 (Or.inr (slot_ne (Or.inr (w_89 hw)) (Or.inr (w_82 hw)) (by decide) (t := (.array .int)) (t' := (.array .char)) (by decide) (by decide)))).other W230 (Or.inr (slot_ne (Or.inr (w_89 hw)) (Or.inr (w_84 hw)) (by decide) (t := (.array .int)) (t' := (.array .int)) (by decide) (by decide)))).keep K233 nin0).other W237 (Or.inr (slot_ne (Or.inr (w_89 hw)) (Or.inr (w_87 hw)) (by decide) (t := (.array .int)) (t' := (.array .char)) (by decide) (by decide))))
  obtain ⟨T240, h240, X240, e240, W240, st240⟩ := putF X237 hx hZ0 hown0 (host := "") (Or.inl (w_88 hw)) Via.refl e237 F239 F238 (Or.inr ⟨(w_89 hw), rfl, hnm⟩) (w_56 hw) (ty := (.array .int)) (by decide) rfl rfl (g := (mkF m 101 #[rv a1, rv av, rv ag, rv aq, rv al, rv ab, iv 3] [.null, (.ref a1)])) rfl rfl (hb hby d10_101)
  have z240 : h237.size ≤ h240.size := Nat.le_of_eq W240.size.symm
  have KP240 : Keep h0 h240 ([a1] : List Addr) := KP237.wr W240 (Or.inl (List.mem_of_getElem? (i := 0) rfl))
  have N240 := Fr.snoc X240 N237 (by omega)
  have Fw240 := F239.same W240
  have F241 := (F238.wr W240)
  have F242 := ((((((((((Fw202.other W209 (Or.inr (slot_ne (Or.inr (w_67 hw)) (Or.inr (w_69 hw)) (by decide) (t := (.array .byte)) (t' := .boolean) (by decide) (by decide)))).other W212 (Or.inr (slot_ne (Or.inr (w_67 hw)) (Or.inr (w_71 hw)) (by decide) (t := (.array .byte)) (t' := (.array .long)) (by decide) (by decide)))).other W217 (Or.inr (slot_ne (Or.inr (w_67 hw)) (Or.inr (w_73 hw)) (by decide) (t := (.array .byte)) (t' := .int) (by decide) (by decide)))).other W220 (Or.inr (slot_ne (Or.inr (w_67 hw)) (Or.inr (w_75 hw)) (by decide) (t := (.array .byte)) (t' := .int) (by decide) (by decide)))).keep K223 nin0).other W227 (Or.inr (slot_ne (Or.inr (w_67 hw)) (Or.inr (w_82 hw)) (by decide) (t := (.array .byte)) (t' := (.array .char)) (by decide) (by decide)))).other W230 (Or.inr (slot_ne (Or.inr (w_67 hw)) (Or.inr (w_84 hw)) (by decide) (t := (.array .byte)) (t' := (.array .int)) (by decide) (by decide)))).keep K233 nin0).other W237 (Or.inr (slot_ne (Or.inr (w_67 hw)) (Or.inr (w_87 hw)) (by decide) (t := (.array .byte)) (t' := (.array .char)) (by decide) (by decide)))).other W240 (Or.inr (slot_ne (Or.inr (w_67 hw)) (Or.inr (w_89 hw)) (by decide) (t := (.array .byte)) (t' := (.array .int)) (by decide) (by decide))))
  have F243 := ((((Fw227.other W230 (Or.inr (slot_ne (Or.inr (w_82 hw)) (Or.inr (w_84 hw)) (by decide) (t := (.array .char)) (t' := (.array .int)) (by decide) (by decide)))).keep K233 nin0).other W237 (Or.inr (slot_ne (Or.inr (w_82 hw)) (Or.inr (w_87 hw)) (by decide) (t := (.array .char)) (t' := (.array .char)) (by decide) (by decide)))).other W240 (Or.inr (slot_ne (Or.inr (w_82 hw)) (Or.inr (w_89 hw)) (by decide) (t := (.array .char)) (t' := (.array .int)) (by decide) (by decide))))
  have F244 := (((((f223_1.other W227 (show @Ne Nat r_223 a1 by omega)).other W230 (show @Ne Nat r_223 a1 by omega)).keep K233 nin0).other W237 (show @Ne Nat r_223 a1 by omega)).other W240 (show @Ne Nat r_223 a1 by omega))
  refine Go.on (w := T240.setTop (mkF m 118 #[rv a1, rv av, rv ag, rv aq, rv al, rv ab, iv 3] [])) (fun t k => X230.ldcInt hx hown0 (mvT hZ0 (w_85 hw)) (g := (mkF m 85 #[rv a1, rv av, rv ag, rv aq, rv al, rv ab, iv 3] [(.int 2)])) rfl (hb hby d10_85) _ (XS.icmpNo X230.here hx rfl (hb hby d10_87) rfl (flt (by decide : ¬ ((65536 : Int32) < (2 : Int32)))).2.2.1 (XS.aloadN X230.here hx rfl (hb hby d10_90) rfl rfl (XS.aload X230.here hx rfl (hb hby d10_91) rfl rfl (st233 _ (st237 _ (XS.aloadN X237.here hx rfl (hb hby d10_99) rfl rfl (XS.aconstNull X237.here hx rfl (hb hby d10_100) (st240 _ (XS.goto X240.here hx rfl (pc0 := 104) (pc' := 118) rfl (hb hby d10_104) (by decide) (by decide) k)))))))))) ?_
  refine Go.finH X240 hlk (v := none) (fun _ => rfl) (fun fs hr => ?_) (endH (Q := Q_rmDT2 Z a1 ab av kv ag kg aq kt al kl x0 x1 g0 g1 g2 t0 t1 t2 l0 l1 l2 h0) (by rw [e240]; exact ⟨r_223, kr_223, rfl, N240, KP240, (by omega), F241, F242, F243, F244⟩) (by decide) (by decide))
  exact X240.returnOut hx Bd.returns (hb hby d10_118) hr
def Q_rmDT3 (Z : State) (a1 : Addr) (ab : Addr) (av : Addr) (kv : ClassId) (ag : Addr) (kg : ClassId) (aq : Addr) (kt : ClassId) (al : Addr) (kl : ClassId) (x0 : Int32) (x1 : Int32) (x2 : Int32) (g0 : Int32) (g1 : Int32) (g2 : Int32) (t0 : Int32) (t1 : Int32) (t2 : Int32) (t3 : Int32) (l0 : Int32) (l1 : Int32) (l2 : Int32) (h0 : Heap) (vv : Option Value) (h : Heap) (L : List Loc) : Prop := ∃ (ns : Addr) (kn : ClassId), vv = none ∧ Fr Z.heap.size L ∧ Keep h0 h [a1] ∧ (h0.size ≤ ns) ∧ Exa Z h a1 "com/example/syntagma/syntagma/service/DocumentText" ∧ Fld Z h a1 "com/example/syntagma/syntagma/service/DocumentText" "gaps" "[B" (.ref ag) ∧ Fld Z h a1 "com/example/syntagma/syntagma/service/DocumentText" "narrowStarts" "[C" (.ref ns) ∧ Arv Z h ns kn .char (4 : Int32) [(.int (nar .char (t0.toUInt32.toUInt16.toUInt32.toInt32))), (.int (nar .char (t1.toUInt32.toUInt16.toUInt32.toInt32))), (.int (nar .char (t2.toUInt32.toUInt16.toUInt32.toInt32))), (.int (nar .char (t3.toUInt32.toUInt16.toUInt32.toInt32)))] (.int 0)
theorem ef_rmDT3 (m : MethodId) (x0 : Addr) (x1 : Addr) (x2 : Addr) (x3 : Addr) (x4 : Addr) (x5 : Addr) (x6 : Int32)   : entryFrame m #[(.ref x0), (.ref x1), (.ref x2), (.ref x3), (.ref x4), (.ref x5), (.int x6)] 7 = mkF m 0 #[.val (.ref x0), .val (.ref x1), .val (.ref x2), .val (.ref x3), .val (.ref x4), .val (.ref x5), .val (.int x6)] [] := by first | rfl | (simp [entryFrame, mkF, argsToLocals, Value.category]; done)
set_option maxRecDepth 65536 in
set_option maxHeartbeats 40000000 in
theorem rmDT3 (l : Launch) (Z : State) (a0 : Array Value) (hw : ∀ d ∈ tables_1, d.before a0 Z = true) (ws : List Jvm.Cond) (a1 : Addr) (ab : Addr) (av : Addr) (kv : ClassId) (ag : Addr) (kg : ClassId) (aq : Addr) (kt : ClassId) (al : Addr) (kl : ClassId) (x0 : Int32) (x1 : Int32) (x2 : Int32) (g0 : Int32) (g1 : Int32) (g2 : Int32) (t0 : Int32) (t1 : Int32) (t2 : Int32) (t3 : Int32) (l0 : Int32) (l1 : Int32) (l2 : Int32) (h0 : Heap) (Z0 : Z.heap.size ≤ h0.size) (lo_a1 : Z.heap.size ≤ a1) (E_a1 : Exa Z h0 a1 "com/example/syntagma/syntagma/service/DocumentText") (F_vocabulary : Fld Z h0 a1 "com/example/syntagma/syntagma/service/DocumentText" "vocabulary" "[I" .null) (F_gaps : Fld Z h0 a1 "com/example/syntagma/syntagma/service/DocumentText" "gaps" "[B" .null) (F_stretched : Fld Z h0 a1 "com/example/syntagma/syntagma/service/DocumentText" "stretched" "Z" (.int 0)) (F_breaks : Fld Z h0 a1 "com/example/syntagma/syntagma/service/DocumentText" "breaks" "[J" .null) (F_words : Fld Z h0 a1 "com/example/syntagma/syntagma/service/DocumentText" "words" "I" (.int 0)) (F_firstSentenceWords : Fld Z h0 a1 "com/example/syntagma/syntagma/service/DocumentText" "firstSentenceWords" "I" (.int 0)) (F_narrowStarts : Fld Z h0 a1 "com/example/syntagma/syntagma/service/DocumentText" "narrowStarts" "[C" .null) (F_wideStarts : Fld Z h0 a1 "com/example/syntagma/syntagma/service/DocumentText" "wideStarts" "[I" .null) (F_narrowPlaces : Fld Z h0 a1 "com/example/syntagma/syntagma/service/DocumentText" "narrowPlaces" "[C" .null) (F_widePlaces : Fld Z h0 a1 "com/example/syntagma/syntagma/service/DocumentText" "widePlaces" "[I" .null) (ne_av_a1 : av ≠ a1) (ne_ag_a1 : ag ≠ a1) (ne_aq_a1 : aq ≠ a1) (ne_al_a1 : al ≠ a1) (V_av : Arv Z h0 av kv .int (3 : Int32) [(.int x0), (.int x1), (.int x2)] (.int 0)) (V_ag : Arv Z h0 ag kg .byte (3 : Int32) [(.int g0), (.int g1), (.int g2)] (.int 0)) (V_aq : Arv Z h0 aq kt .int (4 : Int32) [(.int t0), (.int t1), (.int t2), (.int t3)] (.int 0)) (V_al : Arv Z h0 al kl .int (3 : Int32) [(.int l0), (.int l1), (.int l2)] (.int 0)) :
    MetFree l yM11 (head1 (Jvm.Cond.code yM11 prog_209_method_1_code 7 none :: ws) ({ frames := 1, cells := 2, slots := 7, locals := 15 } : Room)) (fun a U => a = #[(.ref a1), (.ref av), (.ref ag), (.ref aq), (.ref al), (.ref ab), (.int 3)] ∧ Z.Warmed39 U.vm ∧ U.heap = h0) (fun _ _ _ _ _ => True) (fun _ U o U' => ∃ v L, o = .returned v ∧ Q_rmDT3 Z a1 ab av kv ag kg aq kt al kl x0 x1 x2 g0 g1 g2 t0 t1 t2 t3 l0 l1 l2 h0 v U'.heap L ∧ FrameEnd U o U' L ({ frames := 1, cells := 2, slots := 7, locals := 15 } : Room).cells ({ frames := 1, cells := 2, slots := 7, locals := 15 } : Room).slots) := by
  refine MetFree.of_bodySF (plainFor_of_name (by first | (simp [plainName, overriddenIn]; done) | decide +kernel)) hisR ?_
  intro p e s m args below meth c s₁ Bd hml0 hP hK
  obtain ⟨rfl, hZ0', hh⟩ := hP
  have hx := Bd.exec
  have hby := Bd.bytes
  have hml : c.maxLocals = 7 := hml0
  have hZ0 : Z.Warmed39 s.vm := hZ0'
  have hown0 : s.vm.findClass "com/example/syntagma/syntagma/service/DocumentText" = some m.cls := findClass_of_methodNamed Bd.named
  have hnm := (name_of_methodNamed Bd.named Bd.method).1
  have hlk : meth.locks = false := Bd.notSynchronized
  have X0 : Stand p l e ({ frames := 1, cells := 2, slots := 7, locals := 15 } : Room) s m #[(.ref a1), (.ref av), (.ref ag), (.ref aq), (.ref al), (.ref ab), (.int 3)] below meth c s₁ [] 0 0 := Stand.of_body Bd
  have e0 : s₁.heap = h0 := by rw [← hh, Bd.state]; rfl
  have N0 := Fr.nil Z.heap.size
  have KP0 : Keep h0 h0 ([a1] : List Addr) := Keep.refl _ _
  show Go p e below (fun t o => ∃ v L, o = .returned v ∧ Q_rmDT3 Z a1 ab av kv ag kg aq kt al kl x0 x1 x2 g0 g1 g2 t0 t1 t2 t3 l0 l1 l2 h0 v t.heap L ∧ FrameEnd s o t L ({ frames := 1, cells := 2, slots := 7, locals := 15 } : Room).cells ({ frames := 1, cells := 2, slots := 7, locals := 15 } : Room).slots) (s₁.setTop (entryFrame m #[(.ref a1), (.ref av), (.ref ag), (.ref aq), (.ref al), (.ref ab), (.int 3)] 7))
  refine Go.on (w := s₁.setTop (mkF m 0 #[rv a1, rv av, rv ag, rv aq, rv al, rv ab, iv 3] [])) (fun t k => castTop (ef_rmDT3 m a1 av ag aq al ab (3 : Int32)) k) ?_
  have u_a1 : h0.size > a1 := E_a1.lt
  have u_av : h0.size > av := V_av.lt
  have u_ag : h0.size > ag := V_ag.lt
  have u_aq : h0.size > aq := V_aq.lt
  have u_al : h0.size > al := V_al.lt
  obtain ⟨T245, X245, e245, st245⟩ := initO X0 hx hZ0 hown0 (w_63 hw) (w_8 hw) (w_9 hw) e0 (g := (mkF m 1 #[rv a1, rv av, rv ag, rv aq, rv al, rv ab, iv 3] [(.ref a1)])) rfl (by rw [hml]; rfl) rfl (hb hby d10_1) (by decide) (W := 0) (by show 2 * 0 + _ ≤ _; exact Nat.le_of_eq rfl) (by decide)
  obtain ⟨T246, h246, X246, e246, W246, st246⟩ := putF X245 hx hZ0 hown0 (host := "") (Or.inl (w_64 hw)) Via.refl e245 F_vocabulary E_a1 (Or.inr ⟨(w_65 hw), rfl, hnm⟩) (w_56 hw) (ty := (.array .int)) (by decide) rfl rfl (g := (mkF m 6 #[rv a1, rv av, rv ag, rv aq, rv al, rv ab, iv 3] [(.ref av), (.ref a1)])) rfl rfl (hb hby d10_6)
  have z246 : h0.size ≤ h246.size := Nat.le_of_eq W246.size.symm
  have KP246 : Keep h0 h246 ([a1] : List Addr) := KP0.wr W246 (Or.inl (List.mem_of_getElem? (i := 0) rfl))
  have N246 := Fr.snoc X246 N0 (by omega)
  have Fw246 := F_vocabulary.same W246
  have F247 := (E_a1.wr W246)
  have F248 := (F_gaps.other W246 (Or.inr (slot_ne (Or.inr (w_67 hw)) (Or.inr (w_65 hw)) (by decide) (t := (.array .byte)) (t' := (.array .int)) (by decide) (by decide))))
  obtain ⟨T249, h249, X249, e249, W249, st249⟩ := putF X246 hx hZ0 hown0 (host := "") (Or.inl (w_66 hw)) Via.refl e246 F248 F247 (Or.inr ⟨(w_67 hw), rfl, hnm⟩) (w_56 hw) (ty := (.array .byte)) (by decide) rfl rfl (g := (mkF m 11 #[rv a1, rv av, rv ag, rv aq, rv al, rv ab, iv 3] [(.ref ag), (.ref a1)])) rfl rfl (hb hby d10_11)
  have z249 : h246.size ≤ h249.size := Nat.le_of_eq W249.size.symm
  have KP249 : Keep h0 h249 ([a1] : List Addr) := KP246.wr W249 (Or.inl (List.mem_of_getElem? (i := 0) rfl))
  have N249 := Fr.snoc X249 N246 (by omega)
  have Fw249 := F248.same W249
  have F250 := ((V_ag.other W246 ne_ag_a1).other W249 ne_ag_a1)
  obtain ⟨cl251, Ar251, q251, S251, M251, H251, U251⟩ := id F250
  refine Go.on (w := T249.setTop (mkF m 16 #[rv a1, rv av, rv ag, rv aq, rv al, rv ab, iv 3] [(.ref ag), (.ref a1)])) (fun t k => XS.aloadN X0.here hx rfl (hb hby d10_0) rfl rfl (st245 _ (XS.aloadN X245.here hx rfl (hb hby d10_4) rfl rfl (XS.aloadN X245.here hx rfl (hb hby d10_5) rfl rfl (st246 _ (XS.aloadN X246.here hx rfl (hb hby d10_9) rfl rfl (XS.aloadN X246.here hx rfl (hb hby d10_10) rfl rfl (st249 _ (XS.aloadN X249.here hx rfl (hb hby d10_14) rfl rfl (XS.aloadN X249.here hx rfl (hb hby d10_15) rfl rfl k)))))))))) ?_
  refine Go.on (w := T249.setTop (mkF m 17 #[rv a1, rv av, rv ag, rv aq, rv al, rv ab, iv 3] [(.int 3), (.ref a1)])) (fun t k => X249.arraylength hx (by rw [e249]; exact Ar251.1) (State.isArrayOf_alike hZ0.alike Ar251.2.1) (g := (mkF m 16 #[rv a1, rv av, rv ag, rv aq, rv al, rv ab, iv 3] [(.ref ag), (.ref a1)])) rfl rfl (hb hby d10_16) _ (by rw [len_of S251 M251]; exact k)) ?_
  have F252 := ((V_al.other W246 ne_al_a1).other W249 ne_al_a1)
  obtain ⟨cl253, Ar253, q253, S253, M253, H253, U253⟩ := id F252
  refine Go.on (w := T249.setTop (mkF m 19 #[rv a1, rv av, rv ag, rv aq, rv al, rv ab, iv 3] [(.ref al), (.int 3), (.ref a1)])) (fun t k => XS.aload X249.here hx rfl (hb hby d10_17) rfl rfl k) ?_
  refine Go.on (w := T249.setTop (mkF m 20 #[rv a1, rv av, rv ag, rv aq, rv al, rv ab, iv 3] [(.int 3), (.int 3), (.ref a1)])) (fun t k => X249.arraylength hx (by rw [e249]; exact Ar253.1) (State.isArrayOf_alike hZ0.alike Ar253.2.1) (g := (mkF m 19 #[rv a1, rv av, rv ag, rv aq, rv al, rv ab, iv 3] [(.ref al), (.int 3), (.ref a1)])) rfl rfl (hb hby d10_19) _ (by rw [len_of S253 M253]; exact k)) ?_
  have F254 := (F247.wr W249)
  have F255 := ((F_stretched.other W246 (Or.inr (slot_ne (Or.inr (w_69 hw)) (Or.inr (w_65 hw)) (by decide) (t := .boolean) (t' := (.array .int)) (by decide) (by decide)))).other W249 (Or.inr (slot_ne (Or.inr (w_69 hw)) (Or.inr (w_67 hw)) (by decide) (t := .boolean) (t' := (.array .byte)) (by decide) (by decide))))
  obtain ⟨T256, h256, X256, e256, W256, st256⟩ := putFN X249 hx hZ0 hown0 (w_68 hw) Via.refl e249 F255 F254 (Or.inr ⟨(w_69 hw), rfl, hnm⟩) (w_56 hw) (ty := .boolean) (v' := (.int 0)) (by decide) rfl rfl (g := (mkF m 28 #[rv a1, rv av, rv ag, rv aq, rv al, rv ab, iv 3] [(.int 0), (.ref a1)])) rfl rfl (hb hby d10_28)
  have z256 : h249.size ≤ h256.size := Nat.le_of_eq W256.size.symm
  have KP256 : Keep h0 h256 ([a1] : List Addr) := KP249.wr W256 (Or.inl (List.mem_of_getElem? (i := 0) rfl))
  have N256 := Fr.snoc X256 N249 (by omega)
  have Fw256 := F255.same W256
  have F257 := (F254.wr W256)
  have F258 := (((F_breaks.other W246 (Or.inr (slot_ne (Or.inr (w_71 hw)) (Or.inr (w_65 hw)) (by decide) (t := (.array .long)) (t' := (.array .int)) (by decide) (by decide)))).other W249 (Or.inr (slot_ne (Or.inr (w_71 hw)) (Or.inr (w_67 hw)) (by decide) (t := (.array .long)) (t' := (.array .byte)) (by decide) (by decide)))).other W256 (Or.inr (slot_ne (Or.inr (w_71 hw)) (Or.inr (w_69 hw)) (by decide) (t := (.array .long)) (t' := .boolean) (by decide) (by decide))))
  obtain ⟨T259, h259, X259, e259, W259, st259⟩ := putF X256 hx hZ0 hown0 (host := "") (Or.inl (w_70 hw)) Via.refl e256 F258 F257 (Or.inr ⟨(w_71 hw), rfl, hnm⟩) (w_56 hw) (ty := (.array .long)) (by decide) rfl rfl (g := (mkF m 34 #[rv a1, rv av, rv ag, rv aq, rv al, rv ab, iv 3] [(.ref ab), (.ref a1)])) rfl rfl (hb hby d10_34)
  have z259 : h256.size ≤ h259.size := Nat.le_of_eq W259.size.symm
  have KP259 : Keep h0 h259 ([a1] : List Addr) := KP256.wr W259 (Or.inl (List.mem_of_getElem? (i := 0) rfl))
  have N259 := Fr.snoc X259 N256 (by omega)
  have Fw259 := F258.same W259
  have F260 := ((F252.other W256 ne_al_a1).other W259 ne_al_a1)
  obtain ⟨cl261, Ar261, q261, S261, M261, H261, U261⟩ := id F260
  refine Go.on (w := T259.setTop (mkF m 40 #[rv a1, rv av, rv ag, rv aq, rv al, rv ab, iv 3] [(.ref al), (.ref a1)])) (fun t k => XS.icmpYes X249.here hx rfl (pc0 := 20) (pc' := 27) rfl (hb hby d10_20) rfl (flt (by decide : ¬ ((3 : Int32) < (3 : Int32)))).2.2.2 (by decide) (by decide) (XS.iconst X249.here hx rfl (hb hby d10_27) (st256 _ (XS.aloadN X256.here hx rfl (hb hby d10_31) rfl rfl (XS.aload X256.here hx rfl (hb hby d10_32) rfl rfl (st259 _ (XS.aloadN X259.here hx rfl (hb hby d10_37) rfl rfl (XS.aload X259.here hx rfl (hb hby d10_38) rfl rfl k)))))))) ?_
  refine Go.on (w := T259.setTop (mkF m 41 #[rv a1, rv av, rv ag, rv aq, rv al, rv ab, iv 3] [(.int 3), (.ref a1)])) (fun t k => X259.arraylength hx (by rw [e259]; exact Ar261.1) (State.isArrayOf_alike hZ0.alike Ar261.2.1) (g := (mkF m 40 #[rv a1, rv av, rv ag, rv aq, rv al, rv ab, iv 3] [(.ref al), (.ref a1)])) rfl rfl (hb hby d10_40) _ (by rw [len_of S261 M261]; exact k)) ?_
  have F262 := (F257.wr W259)
  have F263 := ((((F_words.other W246 (Or.inr (slot_ne (Or.inr (w_73 hw)) (Or.inr (w_65 hw)) (by decide) (t := .int) (t' := (.array .int)) (by decide) (by decide)))).other W249 (Or.inr (slot_ne (Or.inr (w_73 hw)) (Or.inr (w_67 hw)) (by decide) (t := .int) (t' := (.array .byte)) (by decide) (by decide)))).other W256 (Or.inr (slot_ne (Or.inr (w_73 hw)) (Or.inr (w_69 hw)) (by decide) (t := .int) (t' := .boolean) (by decide) (by decide)))).other W259 (Or.inr (slot_ne (Or.inr (w_73 hw)) (Or.inr (w_71 hw)) (by decide) (t := .int) (t' := (.array .long)) (by decide) (by decide))))
  obtain ⟨T264, h264, X264, e264, W264, st264⟩ := putF X259 hx hZ0 hown0 (host := "") (Or.inl (w_72 hw)) Via.refl e259 F263 F262 (Or.inr ⟨(w_73 hw), rfl, hnm⟩) (w_56 hw) (ty := .int) (by decide) rfl rfl (g := (mkF m 41 #[rv a1, rv av, rv ag, rv aq, rv al, rv ab, iv 3] [(.int 3), (.ref a1)])) rfl rfl (hb hby d10_41)
  have z264 : h259.size ≤ h264.size := Nat.le_of_eq W264.size.symm
  have KP264 : Keep h0 h264 ([a1] : List Addr) := KP259.wr W264 (Or.inl (List.mem_of_getElem? (i := 0) rfl))
  have N264 := Fr.snoc X264 N259 (by omega)
  have Fw264 := F263.same W264
  have F265 := (F262.wr W264)
  have F266 := (((((F_firstSentenceWords.other W246 (Or.inr (slot_ne (Or.inr (w_75 hw)) (Or.inr (w_65 hw)) (by decide) (t := .int) (t' := (.array .int)) (by decide) (by decide)))).other W249 (Or.inr (slot_ne (Or.inr (w_75 hw)) (Or.inr (w_67 hw)) (by decide) (t := .int) (t' := (.array .byte)) (by decide) (by decide)))).other W256 (Or.inr (slot_ne (Or.inr (w_75 hw)) (Or.inr (w_69 hw)) (by decide) (t := .int) (t' := .boolean) (by decide) (by decide)))).other W259 (Or.inr (slot_ne (Or.inr (w_75 hw)) (Or.inr (w_71 hw)) (by decide) (t := .int) (t' := (.array .long)) (by decide) (by decide)))).other W264 (Or.inr (slot_ne (Or.inr (w_75 hw)) (Or.inr (w_73 hw)) (by decide) (t := .int) (t' := .int) (by decide) (by decide))))
  obtain ⟨T267, h267, X267, e267, W267, st267⟩ := putF X264 hx hZ0 hown0 (host := "") (Or.inl (w_74 hw)) Via.refl e264 F266 F265 (Or.inr ⟨(w_75 hw), rfl, hnm⟩) (w_56 hw) (ty := .int) (by decide) rfl rfl (g := (mkF m 47 #[rv a1, rv av, rv ag, rv aq, rv al, rv ab, iv 3] [(.int 3), (.ref a1)])) rfl rfl (hb hby d10_47)
  have z267 : h264.size ≤ h267.size := Nat.le_of_eq W267.size.symm
  have KP267 : Keep h0 h267 ([a1] : List Addr) := KP264.wr W267 (Or.inl (List.mem_of_getElem? (i := 0) rfl))
  have N267 := Fr.snoc X267 N264 (by omega)
  have Fw267 := F266.same W267
  have F268 := ((((F250.other W256 ne_ag_a1).other W259 ne_ag_a1).other W264 ne_ag_a1).other W267 ne_ag_a1)
  obtain ⟨cl269, Ar269, q269, S269, M269, H269, U269⟩ := id F268
  refine Go.on (w := T267.setTop (mkF m 51 #[rv a1, rv av, rv ag, rv aq, rv al, rv ab, iv 3] [(.ref ag)])) (fun t k => st264 _ (XS.aloadN X264.here hx rfl (hb hby d10_44) rfl rfl (XS.iload X264.here hx rfl (hb hby d10_45) rfl (st267 _ (XS.aloadN X267.here hx rfl (hb hby d10_50) rfl rfl k))))) ?_
  refine Go.on (w := T267.setTop (mkF m 52 #[rv a1, rv av, rv ag, rv aq, rv al, rv ab, iv 3] [(.int 3)])) (fun t k => X267.arraylength hx (by rw [e267]; exact Ar269.1) (State.isArrayOf_alike hZ0.alike Ar269.2.1) (g := (mkF m 51 #[rv a1, rv av, rv ag, rv aq, rv al, rv ab, iv 3] [(.ref ag)])) rfl rfl (hb hby d10_51) _ (by rw [len_of S269 M269]; exact k)) ?_
  have F271 := ((((((V_aq.other W246 ne_aq_a1).other W249 ne_aq_a1).other W256 ne_aq_a1).other W259 ne_aq_a1).other W264 ne_aq_a1).other W267 ne_aq_a1)
  obtain ⟨v270, _, ⟨T270, L270, k270, n270⟩, -, X270, ⟨Lc270, hQ270, l270, y270, z270⟩, st270⟩ := Jvm.LawKit.callS X267 hx (y := yM12) hown0 (mvT hZ0 (w_77 hw)) (mvT hZ0 (w_78 hw)) (mvT hZ0 (w_57 hw)) (mvT hZ0 (w_79 hw)) (by decide) (backOf (W := 1) (rmNar4 l Z a0 hw [] aq kt t0 t1 t2 t3 h267 (by omega) F271) hZ0 (w_79 hw) (w_57 hw) (by decide) (by decide)) (g := (mkF m 59 #[rv a1, rv av, rv ag, rv aq, rv al, rv ab, iv 3] [(.ref aq), (.ref a1)])) rfl (by rw [hml]; rfl) (argsL := [(.ref aq)]) (rest := [(.ref a1)]) (lenOf pd_4 rfl) rfl (by show 2 * 0 + _ ≤ _; exact Nat.le_of_eq rfl) (hb hby d10_59) (fun _ _ => ⟨rfl, e267, (by decide : 0 + 1 ≤ _), (by decide : 0 + 4 ≤ _)⟩)
  dsimp only [Pt.U, Pt.locs, Pt.cells, Pt.slots] at X270 l270 y270 z270 st270 hQ270
  subst l270 y270 z270
  obtain ⟨r_270, kr_270, rfl, Nq270, K270, f270_0, f270_1⟩ := hQ270
  have N270 := Fr.app N267 Nq270
  have eK270 : T270.heap = T270.heap := rfl
  have z270 : h267.size ≤ T270.heap.size := K270.1
  have KP270 : Keep h0 T270.heap ([a1] : List Addr) := KP267.trans K270 all0
  have u270_1 : T270.heap.size > r_270 := f270_1.lt
  have F272 := ((F265.wr W267).keep K270)
  have F273 := (((((((F_narrowStarts.other W246 (Or.inr (slot_ne (Or.inr (w_82 hw)) (Or.inr (w_65 hw)) (by decide) (t := (.array .char)) (t' := (.array .int)) (by decide) (by decide)))).other W249 (Or.inr (slot_ne (Or.inr (w_82 hw)) (Or.inr (w_67 hw)) (by decide) (t := (.array .char)) (t' := (.array .byte)) (by decide) (by decide)))).other W256 (Or.inr (slot_ne (Or.inr (w_82 hw)) (Or.inr (w_69 hw)) (by decide) (t := (.array .char)) (t' := .boolean) (by decide) (by decide)))).other W259 (Or.inr (slot_ne (Or.inr (w_82 hw)) (Or.inr (w_71 hw)) (by decide) (t := (.array .char)) (t' := (.array .long)) (by decide) (by decide)))).other W264 (Or.inr (slot_ne (Or.inr (w_82 hw)) (Or.inr (w_73 hw)) (by decide) (t := (.array .char)) (t' := .int) (by decide) (by decide)))).other W267 (Or.inr (slot_ne (Or.inr (w_82 hw)) (Or.inr (w_75 hw)) (by decide) (t := (.array .char)) (t' := .int) (by decide) (by decide)))).keep K270 nin0)
  obtain ⟨T274, h274, X274, e274, W274, st274⟩ := putF X270 hx hZ0 hown0 (host := "") (Or.inl (w_81 hw)) Via.refl eK270 F273 F272 (Or.inr ⟨(w_82 hw), rfl, hnm⟩) (w_56 hw) (ty := (.array .char)) (by decide) rfl rfl (g := (mkF m 62 #[rv a1, rv av, rv ag, rv aq, rv al, rv ab, iv 3] [(.ref r_270), (.ref a1)])) rfl rfl (hb hby d10_62)
  have z274 : T270.heap.size ≤ h274.size := Nat.le_of_eq W274.size.symm
  have KP274 : Keep h0 h274 ([a1] : List Addr) := KP270.wr W274 (Or.inl (List.mem_of_getElem? (i := 0) rfl))
  have N274 := Fr.snoc X274 N270 (by omega)
  have Fw274 := F273.same W274
  have F275 := (F272.wr W274)
  have F276 := ((((((((F_wideStarts.other W246 (Or.inr (slot_ne (Or.inr (w_84 hw)) (Or.inr (w_65 hw)) (by decide) (t := (.array .int)) (t' := (.array .int)) (by decide) (by decide)))).other W249 (Or.inr (slot_ne (Or.inr (w_84 hw)) (Or.inr (w_67 hw)) (by decide) (t := (.array .int)) (t' := (.array .byte)) (by decide) (by decide)))).other W256 (Or.inr (slot_ne (Or.inr (w_84 hw)) (Or.inr (w_69 hw)) (by decide) (t := (.array .int)) (t' := .boolean) (by decide) (by decide)))).other W259 (Or.inr (slot_ne (Or.inr (w_84 hw)) (Or.inr (w_71 hw)) (by decide) (t := (.array .int)) (t' := (.array .long)) (by decide) (by decide)))).other W264 (Or.inr (slot_ne (Or.inr (w_84 hw)) (Or.inr (w_73 hw)) (by decide) (t := (.array .int)) (t' := .int) (by decide) (by decide)))).other W267 (Or.inr (slot_ne (Or.inr (w_84 hw)) (Or.inr (w_75 hw)) (by decide) (t := (.array .int)) (t' := .int) (by decide) (by decide)))).keep K270 nin0).other W274 (Or.inr (slot_ne (Or.inr (w_84 hw)) (Or.inr (w_82 hw)) (by decide) (t := (.array .int)) (t' := (.array .char)) (by decide) (by decide))))
  obtain ⟨T277, h277, X277, e277, W277, st277⟩ := putF X274 hx hZ0 hown0 (host := "") (Or.inl (w_83 hw)) Via.refl e274 F276 F275 (Or.inr ⟨(w_84 hw), rfl, hnm⟩) (w_56 hw) (ty := (.array .int)) (by decide) rfl rfl (g := (mkF m 67 #[rv a1, rv av, rv ag, rv aq, rv al, rv ab, iv 3] [.null, (.ref a1)])) rfl rfl (hb hby d10_67)
  have z277 : h274.size ≤ h277.size := Nat.le_of_eq W277.size.symm
  have KP277 : Keep h0 h277 ([a1] : List Addr) := KP274.wr W277 (Or.inl (List.mem_of_getElem? (i := 0) rfl))
  have N277 := Fr.snoc X277 N274 (by omega)
  have Fw277 := F276.same W277
  have F278 := (((((((((V_av.other W246 ne_av_a1).other W249 ne_av_a1).other W256 ne_av_a1).other W259 ne_av_a1).other W264 ne_av_a1).other W267 ne_av_a1).keep K270 nin0).other W274 ne_av_a1).other W277 ne_av_a1)
  obtain ⟨cl279, Ar279, q279, S279, M279, H279, U279⟩ := id F278
  refine Go.on (w := T277.setTop (mkF m 84 #[rv a1, rv av, rv ag, rv aq, rv al, rv ab, iv 3] [(.ref av)])) (fun t k => X267.ldcInt hx hown0 (mvT hZ0 (w_76 hw)) (g := (mkF m 52 #[rv a1, rv av, rv ag, rv aq, rv al, rv ab, iv 3] [(.int 3)])) rfl (hb hby d10_52) _ (XS.icmpNo X267.here hx rfl (hb hby d10_54) rfl (flt (by decide : ¬ ((65535 : Int32) < (3 : Int32)))).2.2.1 (XS.aloadN X267.here hx rfl (hb hby d10_57) rfl rfl (XS.aloadN X267.here hx rfl (hb hby d10_58) rfl rfl (st270 _ (st274 _ (XS.aloadN X274.here hx rfl (hb hby d10_65) rfl rfl (XS.aconstNull X274.here hx rfl (hb hby d10_66) (st277 _ (XS.goto X277.here hx rfl (pc0 := 70) (pc' := 83) rfl (hb hby d10_70) (by decide) (by decide) (XS.aloadN X277.here hx rfl (hb hby d10_83) rfl rfl k))))))))))) ?_
  refine Go.on (w := T277.setTop (mkF m 85 #[rv a1, rv av, rv ag, rv aq, rv al, rv ab, iv 3] [(.int 3)])) (fun t k => X277.arraylength hx (by rw [e277]; exact Ar279.1) (State.isArrayOf_alike hZ0.alike Ar279.2.1) (g := (mkF m 84 #[rv a1, rv av, rv ag, rv aq, rv al, rv ab, iv 3] [(.ref av)])) rfl rfl (hb hby d10_84) _ (by rw [len_of S279 M279]; exact k)) ?_
  have F281 := (((((F260.other W264 ne_al_a1).other W267 ne_al_a1).keep K270 nin0).other W274 ne_al_a1).other W277 ne_al_a1)
  obtain ⟨v280, _, ⟨T280, L280, k280, n280⟩, -, X280, ⟨Lc280, hQ280, l280, y280, z280⟩, st280⟩ := Jvm.LawKit.callS X277 hx (y := yM12) hown0 (mvT hZ0 (w_77 hw)) (mvT hZ0 (w_78 hw)) (mvT hZ0 (w_57 hw)) (mvT hZ0 (w_79 hw)) (by decide) (backOf (W := 1) (rmNar3 l Z a0 hw [] al kl l0 l1 l2 h277 (by omega) F281) hZ0 (w_79 hw) (w_57 hw) (by decide) (by decide)) (g := (mkF m 93 #[rv a1, rv av, rv ag, rv aq, rv al, rv ab, iv 3] [(.ref al), (.ref a1)])) rfl (by rw [hml]; rfl) (argsL := [(.ref al)]) (rest := [(.ref a1)]) (lenOf pd_4 rfl) rfl (by show 2 * 0 + _ ≤ _; exact Nat.le_of_eq rfl) (hb hby d10_93) (fun _ _ => ⟨rfl, e277, (by decide : 1 + 1 ≤ _), (by decide : 4 + 3 ≤ _)⟩)
  dsimp only [Pt.U, Pt.locs, Pt.cells, Pt.slots] at X280 l280 y280 z280 st280 hQ280
  subst l280 y280 z280
  obtain ⟨r_280, kr_280, rfl, Nq280, K280, f280_0, f280_1⟩ := hQ280
  have N280 := Fr.app N277 Nq280
  have eK280 : T280.heap = T280.heap := rfl
  have z280 : h277.size ≤ T280.heap.size := K280.1
  have KP280 : Keep h0 T280.heap ([a1] : List Addr) := KP277.trans K280 all0
  have u280_1 : T280.heap.size > r_280 := f280_1.lt
  have F282 := ((F275.wr W277).keep K280)
  have F283 := ((((((((((F_narrowPlaces.other W246 (Or.inr (slot_ne (Or.inr (w_87 hw)) (Or.inr (w_65 hw)) (by decide) (t := (.array .char)) (t' := (.array .int)) (by decide) (by decide)))).other W249 (Or.inr (slot_ne (Or.inr (w_87 hw)) (Or.inr (w_67 hw)) (by decide) (t := (.array .char)) (t' := (.array .byte)) (by decide) (by decide)))).other W256 (Or.inr (slot_ne (Or.inr (w_87 hw)) (Or.inr (w_69 hw)) (by decide) (t := (.array .char)) (t' := .boolean) (by decide) (by decide)))).other W259 (Or.inr (slot_ne (Or.inr (w_87 hw)) (Or.inr (w_71 hw)) (by decide) (t := (.array .char)) (t' := (.array .long)) (by decide) (by decide)))).other W264 (Or.inr (slot_ne (Or.inr (w_87 hw)) (Or.inr (w_73 hw)) (by decide) (t := (.array .char)) (t' := .int) (by decide) (by decide)))).other W267 (Or.inr (slot_ne (Or.inr (w_87 hw)) (Or.inr (w_75 hw)) (by decide) (t := (.array .char)) (t' := .int) (by decide) (by decide)))).keep K270 nin0).other W274 (Or.inr (slot_ne (Or.inr (w_87 hw)) (Or.inr (w_82 hw)) (by decide) (t := (.array .char)) (t' := (.array .char)) (by decide) (by decide)))).other W277 (Or.inr (slot_ne (Or.inr (w_87 hw)) (Or.inr (w_84 hw)) (by decide) (t := (.array .char)) (t' := (.array .int)) (by decide) (by decide)))).keep K280 nin0)
  obtain ⟨T284, h284, X284, e284, W284, st284⟩ := putF X280 hx hZ0 hown0 (host := "") (Or.inl (w_86 hw)) Via.refl eK280 F283 F282 (Or.inr ⟨(w_87 hw), rfl, hnm⟩) (w_56 hw) (ty := (.array .char)) (by decide) rfl rfl (g := (mkF m 96 #[rv a1, rv av, rv ag, rv aq, rv al, rv ab, iv 3] [(.ref r_280), (.ref a1)])) rfl rfl (hb hby d10_96)
  have z284 : T280.heap.size ≤ h284.size := Nat.le_of_eq W284.size.symm
  have KP284 : Keep h0 h284 ([a1] : List Addr) := KP280.wr W284 (Or.inl (List.mem_of_getElem? (i := 0) rfl))
  have N284 := Fr.snoc X284 N280 (by omega)
  have Fw284 := F283.same W284
  have F285 := (F282.wr W284)
  have F286 := (((((((((((F_widePlaces.other W246 (Or.inr (slot_ne (Or.inr (w_89 hw)) (Or.inr (w_65 hw)) (by decide) (t := (.array .int)) (t' := (.array .int)) (by decide) (by decide)))).other W249 (Or.inr (slot_ne (Or.inr (w_89 hw)) (Or.inr (w_67 hw)) (by decide) (t := (.array .int)) (t' := (.array .byte)) (by decide) (by decide)))).other W256 (Or.inr (slot_ne (Or.inr (w_89 hw)) (Or.inr (w_69 hw)) (by decide) (t := (.array .int)) (t' := .boolean) (by decide) (by decide)))).other W259 (Or.inr (slot_ne (Or.inr (w_89 hw)) (Or.inr (w_71 hw)) (by decide) (t := (.array .int)) (t' := (.array .long)) (by decide) (by decide)))).other W264 (Or.inr (slot_ne (Or.inr (w_89 hw)) (Or.inr (w_73 hw)) (by decide) (t := (.array .int)) (t' := .int) (by decide) (by decide)))).other W267 (Or.inr (slot_ne (Or.inr (w_89 hw)) (Or.inr (w_75 hw)) (by decide) (t := (.array .int)) (t' := .int) (by decide) (by decide)))).keep K270 nin0).other W274 (Or.inr (slot_ne (Or.inr (w_89 hw)) (Or.inr (w_82 hw)) (by decide) (t := (.array .int)) (t' := (.array .char)) (by decide) (by decide)))).other W277 (Or.inr (slot_ne (Or.inr (w_89 hw)) (Or.inr (w_84 hw)) (by decide) (t := (.array .int)) (t' := (.array .int)) (by decide) (by decide)))).keep K280 nin0).other W284 (Or.inr (slot_ne (Or.inr (w_89 hw)) (Or.inr (w_87 hw)) (by decide) (t := (.array .int)) (t' := (.array .char)) (by decide) (by decide))))
  obtain ⟨T287, h287, X287, e287, W287, st287⟩ := putF X284 hx hZ0 hown0 (host := "") (Or.inl (w_88 hw)) Via.refl e284 F286 F285 (Or.inr ⟨(w_89 hw), rfl, hnm⟩) (w_56 hw) (ty := (.array .int)) (by decide) rfl rfl (g := (mkF m 101 #[rv a1, rv av, rv ag, rv aq, rv al, rv ab, iv 3] [.null, (.ref a1)])) rfl rfl (hb hby d10_101)
  have z287 : h284.size ≤ h287.size := Nat.le_of_eq W287.size.symm
  have KP287 : Keep h0 h287 ([a1] : List Addr) := KP284.wr W287 (Or.inl (List.mem_of_getElem? (i := 0) rfl))
  have N287 := Fr.snoc X287 N284 (by omega)
  have Fw287 := F286.same W287
  have F288 := (F285.wr W287)
  have F289 := ((((((((((Fw249.other W256 (Or.inr (slot_ne (Or.inr (w_67 hw)) (Or.inr (w_69 hw)) (by decide) (t := (.array .byte)) (t' := .boolean) (by decide) (by decide)))).other W259 (Or.inr (slot_ne (Or.inr (w_67 hw)) (Or.inr (w_71 hw)) (by decide) (t := (.array .byte)) (t' := (.array .long)) (by decide) (by decide)))).other W264 (Or.inr (slot_ne (Or.inr (w_67 hw)) (Or.inr (w_73 hw)) (by decide) (t := (.array .byte)) (t' := .int) (by decide) (by decide)))).other W267 (Or.inr (slot_ne (Or.inr (w_67 hw)) (Or.inr (w_75 hw)) (by decide) (t := (.array .byte)) (t' := .int) (by decide) (by decide)))).keep K270 nin0).other W274 (Or.inr (slot_ne (Or.inr (w_67 hw)) (Or.inr (w_82 hw)) (by decide) (t := (.array .byte)) (t' := (.array .char)) (by decide) (by decide)))).other W277 (Or.inr (slot_ne (Or.inr (w_67 hw)) (Or.inr (w_84 hw)) (by decide) (t := (.array .byte)) (t' := (.array .int)) (by decide) (by decide)))).keep K280 nin0).other W284 (Or.inr (slot_ne (Or.inr (w_67 hw)) (Or.inr (w_87 hw)) (by decide) (t := (.array .byte)) (t' := (.array .char)) (by decide) (by decide)))).other W287 (Or.inr (slot_ne (Or.inr (w_67 hw)) (Or.inr (w_89 hw)) (by decide) (t := (.array .byte)) (t' := (.array .int)) (by decide) (by decide))))
  have F290 := ((((Fw274.other W277 (Or.inr (slot_ne (Or.inr (w_82 hw)) (Or.inr (w_84 hw)) (by decide) (t := (.array .char)) (t' := (.array .int)) (by decide) (by decide)))).keep K280 nin0).other W284 (Or.inr (slot_ne (Or.inr (w_82 hw)) (Or.inr (w_87 hw)) (by decide) (t := (.array .char)) (t' := (.array .char)) (by decide) (by decide)))).other W287 (Or.inr (slot_ne (Or.inr (w_82 hw)) (Or.inr (w_89 hw)) (by decide) (t := (.array .char)) (t' := (.array .int)) (by decide) (by decide))))
  have F291 := (((((f270_1.other W274 (show @Ne Nat r_270 a1 by omega)).other W277 (show @Ne Nat r_270 a1 by omega)).keep K280 nin0).other W284 (show @Ne Nat r_270 a1 by omega)).other W287 (show @Ne Nat r_270 a1 by omega))
  refine Go.on (w := T287.setTop (mkF m 118 #[rv a1, rv av, rv ag, rv aq, rv al, rv ab, iv 3] [])) (fun t k => X277.ldcInt hx hown0 (mvT hZ0 (w_85 hw)) (g := (mkF m 85 #[rv a1, rv av, rv ag, rv aq, rv al, rv ab, iv 3] [(.int 3)])) rfl (hb hby d10_85) _ (XS.icmpNo X277.here hx rfl (hb hby d10_87) rfl (flt (by decide : ¬ ((65536 : Int32) < (3 : Int32)))).2.2.1 (XS.aloadN X277.here hx rfl (hb hby d10_90) rfl rfl (XS.aload X277.here hx rfl (hb hby d10_91) rfl rfl (st280 _ (st284 _ (XS.aloadN X284.here hx rfl (hb hby d10_99) rfl rfl (XS.aconstNull X284.here hx rfl (hb hby d10_100) (st287 _ (XS.goto X287.here hx rfl (pc0 := 104) (pc' := 118) rfl (hb hby d10_104) (by decide) (by decide) k)))))))))) ?_
  refine Go.finH X287 hlk (v := none) (fun _ => rfl) (fun fs hr => ?_) (endH (Q := Q_rmDT3 Z a1 ab av kv ag kg aq kt al kl x0 x1 x2 g0 g1 g2 t0 t1 t2 t3 l0 l1 l2 h0) (by rw [e287]; exact ⟨r_270, kr_270, rfl, N287, KP287, (by omega), F288, F289, F290, F291⟩) (by decide) (by decide))
  exact X287.returnOut hx Bd.returns (hb hby d10_118) hr
def Q_rmBuild (Z : State) (a1 : Addr) (ks : Addr) (kk : ClassId) (n0 : Int32) (n1 : Int32) (n2 : Int32) (h0 : Heap) (vv : Option Value) (h : Heap) (L : List Loc) : Prop := ∃ (r : Addr) (ag : Addr) (kg : ClassId) (ns : Addr) (kn : ClassId) (z : Int32) (t1 : Int32) (t2 : Int32) (t3 : Int32) (g0 : Int32) (g1 : Int32) (g2 : Int32), vv = some (.ref r) ∧ Fr Z.heap.size L ∧ Keep h0 h [ks] ∧ (h0.size ≤ r) ∧ (h0.size ≤ ag) ∧ (h0.size ≤ ns) ∧ Exa Z h r "com/example/syntagma/syntagma/service/DocumentText" ∧ Fld Z h r "com/example/syntagma/syntagma/service/DocumentText" "gaps" "[B" (.ref ag) ∧ Fld Z h r "com/example/syntagma/syntagma/service/DocumentText" "narrowStarts" "[C" (.ref ns) ∧ Arv Z h ag kg .byte (3 : Int32) [(.int g0), (.int g1), (.int g2)] (.int 0) ∧ Arv Z h ns kn .char z [(.int 0), (.int t1), (.int t2), (.int t3)] (.int 0) ∧ (own_bld n0 n1 n2 z t1 t2 t3 g0 g1 g2)
theorem ef_rmBuild (m : MethodId) (x0 : Addr)   : entryFrame m #[(.ref x0)] 14 = mkF m 0 #[.val (.ref x0), .unset, .unset, .unset, .unset, .unset, .unset, .unset, .unset, .unset, .unset, .unset, .unset, .unset] [] := by first | (simp [entryFrame, mkF, argsToLocals, Value.category]; done) | rfl
set_option maxRecDepth 65536 in
set_option maxHeartbeats 40000000 in
theorem rmBuild (l : Launch) (Z : State) (a0 : Array Value) (hw : ∀ d ∈ tables_1, d.before a0 Z = true) (ws : List Jvm.Cond) (a1 : Addr) (ks : Addr) (kk : ClassId) (n0 : Int32) (n1 : Int32) (n2 : Int32) (h0 : Heap) (Z0 : Z.heap.size ≤ h0.size) (lo_a1 : Z.heap.size ≤ a1) (lo_ks : Z.heap.size ≤ ks) (ne_a1_ks : a1 ≠ ks) (E_a1 : Exa Z h0 a1 "com/example/syntagma/syntagma/service/DocumentText$Builder") (Fk : Fld Z h0 a1 "com/example/syntagma/syntagma/service/DocumentText$Builder" "keys" "[J" (.ref ks)) (Fw : Fld Z h0 a1 "com/example/syntagma/syntagma/service/DocumentText$Builder" "words" "I" (.int 3)) (F_breakCount : Fld Z h0 a1 "com/example/syntagma/syntagma/service/DocumentText$Builder" "breakCount" "I" (.int 0)) (F_sentences : Fld Z h0 a1 "com/example/syntagma/syntagma/service/DocumentText$Builder" "sentences" "I" (.int 0)) (Vk : Arv Z h0 ks kk .long (256 : Int32) [(.long (own_key n0 (0 : Int64))), (.long (own_key n1 (1 : Int64))), (.long (own_key n2 (2 : Int64)))] (.long 0)) (hn0 : ¬ n0 < 0) (hn1 : ¬ n1 < 0) (hn2 : ¬ n2 < 0) :
    MetFree l yM3 (head1 (Jvm.Cond.code yM3 prog_210_method_5_code 14 (some (.object "com/example/syntagma/syntagma/service/DocumentText")) :: ws) ({ frames := 4, cells := 8, slots := 31, locals := 86 } : Room)) (fun a U => a = #[(.ref a1)] ∧ Z.Warmed39 U.vm ∧ U.heap = h0) (fun _ _ _ _ _ => True) (fun _ U o U' => ∃ v L, o = .returned v ∧ Q_rmBuild Z a1 ks kk n0 n1 n2 h0 v U'.heap L ∧ FrameEnd U o U' L ({ frames := 4, cells := 8, slots := 31, locals := 86 } : Room).cells ({ frames := 4, cells := 8, slots := 31, locals := 86 } : Room).slots) := by
  refine MetFree.of_bodySF (plainFor_of_name (by first | (simp [plainName, overriddenIn]; done) | decide +kernel)) hisR ?_
  intro p e s m args below meth c s₁ Bd hml0 hP hK
  obtain ⟨rfl, hZ0', hh⟩ := hP
  have hx := Bd.exec
  have hby := Bd.bytes
  have hml : c.maxLocals = 14 := hml0
  have hZ0 : Z.Warmed39 s.vm := hZ0'
  have hown0 : s.vm.findClass "com/example/syntagma/syntagma/service/DocumentText$Builder" = some m.cls := findClass_of_methodNamed Bd.named
  have hnm := (name_of_methodNamed Bd.named Bd.method).1
  have hlk : meth.locks = false := Bd.notSynchronized
  have X0 : Stand p l e ({ frames := 4, cells := 8, slots := 31, locals := 86 } : Room) s m #[(.ref a1)] below meth c s₁ [] 0 0 := Stand.of_body Bd
  have e0 : s₁.heap = h0 := by rw [← hh, Bd.state]; rfl
  have N0 := Fr.nil Z.heap.size
  have KP0 : Keep h0 h0 ([ks] : List Addr) := Keep.refl _ _
  show Go p e below (fun t o => ∃ v L, o = .returned v ∧ Q_rmBuild Z a1 ks kk n0 n1 n2 h0 v t.heap L ∧ FrameEnd s o t L ({ frames := 4, cells := 8, slots := 31, locals := 86 } : Room).cells ({ frames := 4, cells := 8, slots := 31, locals := 86 } : Room).slots) (s₁.setTop (entryFrame m #[(.ref a1)] 14))
  refine Go.on (w := s₁.setTop (mkF m 0 #[rv a1, .unset, .unset, .unset, .unset, .unset, .unset, .unset, .unset, .unset, .unset, .unset, .unset, .unset] [])) (fun t k => castTop (ef_rmBuild m a1) k) ?_
  have u_a1 : h0.size > a1 := E_a1.lt
  have u_ks : h0.size > ks := Vk.lt
  obtain ⟨T292, X292, e292, st292⟩ := getF X0 hx hZ0 hown0 (host := "") (Or.inl (w_11 hw)) Via.refl e0 Fk (g := (mkF m 1 #[rv a1, .unset, .unset, .unset, .unset, .unset, .unset, .unset, .unset, .unset, .unset, .unset, .unset, .unset] [(.ref a1)])) rfl rfl (hb hby d11_1)
  obtain ⟨T293, X293, e293, st293⟩ := getF X292 hx hZ0 hown0 (host := "") (Or.inl (w_21 hw)) Via.refl e292 Fw (g := (mkF m 6 #[rv a1, .unset, .unset, .unset, .unset, .unset, .unset, .unset, .unset, .unset, .unset, .unset, .unset, .unset] [(.ref a1), (.int 0), (.ref ks)])) rfl rfl (hb hby d11_6)
  obtain ⟨v294, _, ⟨T294, L294, k294, n294⟩, -, X294, ⟨Lc294, hQ294, l294, y294, z294⟩, st294⟩ := Jvm.LawKit.callS X293 hx (y := yM4) hown0 (mvT hZ0 (w_28 hw)) (mvT hZ0 (w_29 hw)) (mvT hZ0 (w_30 hw)) (mvT hZ0 (w_31 hw)) (by decide) (backOf (W := 0) (rmS3 l Z a0 hw [] ks kk (own_key n0 (0 : Int64)) (own_key n1 (1 : Int64)) (own_key n2 (2 : Int64)) h0 (by omega) (by omega) Vk) hZ0 (w_31 hw) (w_30 hw) (by decide) (by decide)) (g := (mkF m 9 #[rv a1, .unset, .unset, .unset, .unset, .unset, .unset, .unset, .unset, .unset, .unset, .unset, .unset, .unset] [(.int 3), (.int 0), (.ref ks)])) rfl (by rw [hml]; rfl) (argsL := [(.ref ks), (.int 0), (.int 3)]) (rest := []) (lenOf pd_0 rfl) rfl (by show 2 * 0 + _ ≤ _; exact Nat.le_of_eq rfl) (hb hby d11_9) (fun _ _ => ⟨rfl, e293, (by decide : 0 + 0 ≤ _), (by decide : 0 + 0 ≤ _)⟩)
  dsimp only [Pt.U, Pt.locs, Pt.cells, Pt.slots] at X294 l294 y294 z294 st294 hQ294
  subst l294 y294 z294
  obtain ⟨s0_294, s1_294, s2_294, rfl, Nq294, K294, f294_0, f294_1⟩ := hQ294
  have N294 := Fr.app N0 Nq294
  have eK294 : T294.heap = T294.heap := rfl
  have z294 : h0.size ≤ T294.heap.size := K294.1
  have KP294 : Keep h0 T294.heap ([ks] : List Addr) := KP0.trans K294 (allS (P := fun x => x ∈ ([ks] : List Addr) ∨ h0.size ≤ x) (Or.inl (List.mem_of_getElem? (i := 0) rfl)) all0)
  obtain ⟨m0, r0, m1, r1, m2, r2, hpm, hu0, hl0, hm0, hr0, hu1, hl1, hm1, hr1, hu2, hl2, hm2, hr2⟩ := own_dec f294_1 hn0 hn1 hn2
  refine Go.on (w := T294.setTop (mkF m 12 #[rv a1, .unset, .unset, .unset, .unset, .unset, .unset, .unset, .unset, .unset, .unset, .unset, .unset, .unset] [])) (fun t k => XS.aloadN X0.here hx rfl (hb hby d11_0) rfl rfl (st292 _ (XS.iconst X292.here hx rfl (hb hby d11_4) (XS.aloadN X292.here hx rfl (hb hby d11_5) rfl rfl (st293 _ (st294 _ k)))))) ?_
  by_cases hb1 : m0 = m1
  ·
    by_cases hb2 : m1 = m2
    ·
      have hd1 := own_d3a hpm hb1
      have hd2 := own_d3b hpm hb2
      have F295 := (Fw.keep K294 (ninS ne_a1_ks nin0))
      obtain ⟨T296, X296, e296, st296⟩ := getF X294 hx hZ0 hown0 (host := "") (Or.inl (w_21 hw)) Via.refl eK294 F295 (g := (mkF m 22 #[rv a1, iv 0, .val (.long 0), .second, iv 0, .unset, .unset, .unset, .unset, .unset, .unset, .unset, .unset, .unset] [(.ref a1), (.int 0)])) rfl rfl (hb hby d11_22)
      refine Go.on (w := T296.setTop (mkF m 77 #[rv a1, iv 0, .val (.long 0), .second, iv 0, iv 1, .unset, .unset, .unset, .unset, .unset, .unset, .unset, .unset] [(.int 1), (.int 0)])) (fun t k => XS.iconst X294.here hx rfl (hb hby d11_12) (XS.istoreN X294.here hx rfl (hb hby d11_13) rfl (l' := #[rv a1, iv 0, .unset, .unset, .unset, .unset, .unset, .unset, .unset, .unset, .unset, .unset, .unset, .unset]) rfl (XS.lconst X294.here hx rfl (hb hby d11_14) (XS.lstoreN X294.here hx rfl (hb hby d11_15) rfl (l' := #[rv a1, iv 0, .val (.long 0), .second, .unset, .unset, .unset, .unset, .unset, .unset, .unset, .unset, .unset, .unset]) rfl (XS.iconst X294.here hx rfl (hb hby d11_16) (XS.istore X294.here hx rfl (hb hby d11_17) rfl (l' := #[rv a1, iv 0, .val (.long 0), .second, iv 0, .unset, .unset, .unset, .unset, .unset, .unset, .unset, .unset, .unset]) rfl (XS.iload X294.here hx rfl (hb hby d11_19) rfl (XS.aloadN X294.here hx rfl (hb hby d11_21) rfl rfl (st296 _ (XS.icmpNo X296.here hx rfl (hb hby d11_25) rfl (tlt (by decide : (0 : Int32) < (3 : Int32))).2.1 (XS.iload X296.here hx rfl (hb hby d11_28) rfl (XS.ifYes X296.here hx rfl (pc0 := 30) (pc' := 59) rfl (hb hby d11_30) rfl ((if0 _ _).trans (teq (by decide : (0 : Int32) = (0 : Int32))).1) (by decide) (by decide) (XS.iconst X296.here hx rfl (hb hby d11_59) (XS.goto X296.here hx rfl (pc0 := 60) (pc' := 64) rfl (hb hby d11_60) (by decide) (by decide) (XS.istore X296.here hx rfl (hb hby d11_64) rfl (l' := #[rv a1, iv 0, .val (.long 0), .second, iv 0, iv 1, .unset, .unset, .unset, .unset, .unset, .unset, .unset, .unset]) rfl (XS.iloadN X296.here hx rfl (hb hby d11_66) rfl (XS.iload X296.here hx rfl (hb hby d11_67) rfl (XS.ifNo X296.here hx rfl (hb hby d11_69) rfl ((if0 _ _).trans (feq (by decide : ¬ ((1 : Int32) = (0 : Int32)))).1) (XS.iconst X296.here hx rfl (hb hby d11_72) (XS.goto X296.here hx rfl (pc0 := 73) (pc' := 77) rfl (hb hby d11_73) (by decide) (by decide) k)))))))))))))))))))) ?_
      refine Go.on (w := T296.setTop (mkF m 78 #[rv a1, iv 0, .val (.long 0), .second, iv 0, iv 1, .unset, .unset, .unset, .unset, .unset, .unset, .unset, .unset] [(.int 1)])) (fun t k => XS.iadd X296.here hx rfl (hb hby d11_77) rfl (by rw [(by decide : ((0 : Int32) + (1 : Int32)) = (1 : Int32))]; exact k)) ?_
      have F297 := (Fk.keep K294 (ninS ne_a1_ks nin0))
      obtain ⟨T298, X298, e298, st298⟩ := getF X296 hx hZ0 hown0 (host := "") (Or.inl (w_11 hw)) Via.refl e296 F297 (g := (mkF m 86 #[rv a1, iv 1, .val (.long 0), .second, iv 0, iv 1, .unset, .unset, .unset, .unset, .unset, .unset, .unset, .unset] [(.ref a1), (.long 0)])) rfl rfl (hb hby d11_86)
      obtain ⟨cl299, Ar299, q299, S299, M299, H299, U299⟩ := id f294_0
      have hin299 := ((inb_of S299 ⟨(by decide), (by decide)⟩) : ¬ ((0 : Int32) < 0 ∨ cl299.slots.size ≤ ((0 : Int32)).toNatClampNeg))
      refine Go.on (w := T298.setTop (mkF m 92 #[rv a1, iv 1, .val (.long 0), .second, iv 0, iv 1, .unset, .unset, .unset, .unset, .unset, .unset, .unset, .unset] [(.long s0_294), (.long 0)])) (fun t k => XS.istoreN X296.here hx rfl (hb hby d11_78) rfl (l' := #[rv a1, iv 1, .val (.long 0), .second, iv 0, iv 1, .unset, .unset, .unset, .unset, .unset, .unset, .unset, .unset]) rfl (XS.lloadN X296.here hx rfl (hb hby d11_79) rfl (XS.iload X296.here hx rfl (hb hby d11_80) rfl (XS.ifNo X296.here hx rfl (hb hby d11_82) rfl ((if0 _ _).trans (feq (by decide : ¬ ((1 : Int32) = (0 : Int32)))).1) (XS.aloadN X296.here hx rfl (hb hby d11_85) rfl rfl (st298 _ (XS.iload X298.here hx rfl (hb hby d11_89) rfl (X298.laload hx (j := (0 : Int32)) (v := (.long s0_294)) (by rw [e298]; exact Ar299.1) (State.isArrayOf_alike hZ0.alike Ar299.2.1) Ar299.2.2 hin299 (H299.at hin299 rfl) (g := (mkF m 91 #[rv a1, iv 1, .val (.long 0), .second, iv 0, iv 1, .unset, .unset, .unset, .unset, .unset, .unset, .unset, .unset] [(.int 0), (.ref ks), (.long 0)])) rfl rfl (hb hby d11_91) _ k)))))))) ?_
      refine Go.on (w := T298.setTop (mkF m 93 #[rv a1, iv 1, .val (.long 0), .second, iv 0, iv 1, .unset, .unset, .unset, .unset, .unset, .unset, .unset, .unset] [(.int r0), (.long 0)])) (fun t k => XS.l2i X298.here hx rfl (hb hby d11_92) rfl (by rw [(hl0 : (s0_294.toInt32) = r0)]; exact k)) ?_
      obtain ⟨v300, _, ⟨T300, L300, k300, n300⟩, -, X300, ⟨Lc300, hQ300, l300, y300, z300⟩, st300⟩ := Jvm.LawKit.callS X298 hx (y := yM9) hown0 (mvT hZ0 (w_45 hw)) (mvT hZ0 (w_46 hw)) (mvT hZ0 (w_3 hw)) (mvT hZ0 (w_47 hw)) (by decide) (backOf (W := 2) (rmByt l Z a0 hw [] r0 T294.heap (own_r7s hr0)) hZ0 (w_47 hw) (w_3 hw) (by decide) (by decide)) (g := (mkF m 115 #[rv a1, iv 1, .val (.long 0), .second, iv 0, iv 1, .unset, .unset, .unset, .unset, .unset, .unset, .unset, .unset] [(.int r0), (.long 0)])) rfl (by rw [hml]; rfl) (argsL := [(.int r0)]) (rest := [(.long 0)]) (lenOf pd_5 rfl) rfl (by show 2 * 0 + _ ≤ _; exact Nat.le_of_eq rfl) (hb hby d11_115) (fun _ _ => ⟨rfl, e298, (by decide : 0 + 0 ≤ _), (by decide : 0 + 0 ≤ _)⟩)
      dsimp only [Pt.U, Pt.locs, Pt.cells, Pt.slots] at X300 l300 y300 z300 st300 hQ300
      subst l300 y300 z300
      obtain ⟨rfl, Nq300, eh300⟩ := hQ300
      have N300 := Fr.app N294 Nq300
      refine Go.on (w := T300.setTop (mkF m 118 #[rv a1, iv 1, .val (.long 0), .second, iv 0, iv 1, .unset, .unset, .unset, .unset, .unset, .unset, .unset, .unset] [(.int 1), (.long 0)])) (fun t k => XS.goto X298.here hx rfl (pc0 := 93) (pc' := 115) rfl (hb hby d11_93) (by decide) (by decide) (st300 _ k)) ?_
      refine Go.on (w := T300.setTop (mkF m 119 #[rv a1, iv 1, .val (.long 0), .second, iv 0, iv 1, .unset, .unset, .unset, .unset, .unset, .unset, .unset, .unset] [(.long 1), (.long 0)])) (fun t k => XS.i2l X300.here hx rfl (hb hby d11_118) rfl (by rw [(by decide : ((1 : Int32).toInt64) = (1 : Int64))]; exact k)) ?_
      refine Go.on (w := T300.setTop (mkF m 120 #[rv a1, iv 1, .val (.long 0), .second, iv 0, iv 1, .unset, .unset, .unset, .unset, .unset, .unset, .unset, .unset] [(.long 1)])) (fun t k => XS.ladd X300.here hx rfl (hb hby d11_119) rfl (by rw [(by decide : ((0 : Int64) + (1 : Int64)) = (1 : Int64))]; exact k)) ?_
      obtain ⟨T301, X301, e301, st301⟩ := getF X300 hx hZ0 hown0 (host := "") (Or.inl (w_21 hw)) Via.refl eh300 F295 (g := (mkF m 22 #[rv a1, iv 1, .val (.long 1), .second, iv 1, iv 1, .unset, .unset, .unset, .unset, .unset, .unset, .unset, .unset] [(.ref a1), (.int 1)])) rfl rfl (hb hby d11_22)
      obtain ⟨T302, X302, e302, st302⟩ := getF X301 hx hZ0 hown0 (host := "") (Or.inl (w_11 hw)) Via.refl e301 F297 (g := (mkF m 34 #[rv a1, iv 1, .val (.long 1), .second, iv 1, iv 1, .unset, .unset, .unset, .unset, .unset, .unset, .unset, .unset] [(.ref a1)])) rfl rfl (hb hby d11_34)
      obtain ⟨cl303, Ar303, q303, S303, M303, H303, U303⟩ := id f294_0
      have hin303 := ((inb_of S303 ⟨(by decide), (by decide)⟩) : ¬ ((1 : Int32) < 0 ∨ cl303.slots.size ≤ ((1 : Int32)).toNatClampNeg))
      refine Go.on (w := T302.setTop (mkF m 42 #[rv a1, iv 1, .val (.long 1), .second, iv 1, iv 1, .unset, .unset, .unset, .unset, .unset, .unset, .unset, .unset] [(.int 32), (.long s1_294)])) (fun t k => XS.lstoreN X300.here hx rfl (hb hby d11_120) rfl (l' := #[rv a1, iv 1, .val (.long 1), .second, iv 0, iv 1, .unset, .unset, .unset, .unset, .unset, .unset, .unset, .unset]) rfl (XS.iinc X300.here hx rfl (hb hby d11_121) rfl (l' := #[rv a1, iv 1, .val (.long 1), .second, iv 1, iv 1, .unset, .unset, .unset, .unset, .unset, .unset, .unset, .unset]) rfl (XS.goto X300.here hx rfl (pc0 := 124) (pc' := 19) rfl (hb hby d11_124) (by decide) (by decide) (XS.iload X300.here hx rfl (hb hby d11_19) rfl (XS.aloadN X300.here hx rfl (hb hby d11_21) rfl rfl (st301 _ (XS.icmpNo X301.here hx rfl (hb hby d11_25) rfl (tlt (by decide : (1 : Int32) < (3 : Int32))).2.1 (XS.iload X301.here hx rfl (hb hby d11_28) rfl (XS.ifNo X301.here hx rfl (hb hby d11_30) rfl ((if0 _ _).trans (feq (by decide : ¬ ((1 : Int32) = (0 : Int32)))).1) (XS.aloadN X301.here hx rfl (hb hby d11_33) rfl rfl (st302 _ (XS.iload X302.here hx rfl (hb hby d11_37) rfl (X302.laload hx (j := (1 : Int32)) (v := (.long s1_294)) (by rw [e302]; exact Ar303.1) (State.isArrayOf_alike hZ0.alike Ar303.2.1) Ar303.2.2 hin303 (H303.at hin303 rfl) (g := (mkF m 39 #[rv a1, iv 1, .val (.long 1), .second, iv 1, iv 1, .unset, .unset, .unset, .unset, .unset, .unset, .unset, .unset] [(.int 1), (.ref ks)])) rfl rfl (hb hby d11_39) _ (XS.bipush X302.here hx rfl (hb hby d11_40) k)))))))))))))) ?_
      refine Go.on (w := T302.setTop (mkF m 43 #[rv a1, iv 1, .val (.long 1), .second, iv 1, iv 1, .unset, .unset, .unset, .unset, .unset, .unset, .unset, .unset] [(.long (m1.toInt64))])) (fun t k => XS.lushr X302.here hx rfl (hb hby d11_42) rfl (by rw [(hu1 : ((s1_294.toUInt64 >>> ((32 : Int32) &&& 0x3f).toInt64.toUInt64).toInt64) = (m1.toInt64))]; exact k)) ?_
      obtain ⟨T304, X304, e304, st304⟩ := getF X302 hx hZ0 hown0 (host := "") (Or.inl (w_11 hw)) Via.refl e302 F297 (g := (mkF m 44 #[rv a1, iv 1, .val (.long 1), .second, iv 1, iv 1, .unset, .unset, .unset, .unset, .unset, .unset, .unset, .unset] [(.ref a1), (.long (m1.toInt64))])) rfl rfl (hb hby d11_44)
      refine Go.on (w := T304.setTop (mkF m 50 #[rv a1, iv 1, .val (.long 1), .second, iv 1, iv 1, .unset, .unset, .unset, .unset, .unset, .unset, .unset, .unset] [(.int 1), (.int 1), (.ref ks), (.long (m1.toInt64))])) (fun t k => XS.aloadN X302.here hx rfl (hb hby d11_43) rfl rfl (st304 _ (XS.iload X304.here hx rfl (hb hby d11_47) rfl (XS.iconst X304.here hx rfl (hb hby d11_49) k)))) ?_
      refine Go.on (w := T304.setTop (mkF m 51 #[rv a1, iv 1, .val (.long 1), .second, iv 1, iv 1, .unset, .unset, .unset, .unset, .unset, .unset, .unset, .unset] [(.int 0), (.ref ks), (.long (m1.toInt64))])) (fun t k => XS.isub X304.here hx rfl (hb hby d11_50) rfl (by rw [(by decide : ((1 : Int32) - (1 : Int32)) = (0 : Int32))]; exact k)) ?_
      obtain ⟨cl305, Ar305, q305, S305, M305, H305, U305⟩ := id f294_0
      have hin305 := ((inb_of S305 ⟨(by decide), (by decide)⟩) : ¬ ((0 : Int32) < 0 ∨ cl305.slots.size ≤ ((0 : Int32)).toNatClampNeg))
      refine Go.on (w := T304.setTop (mkF m 54 #[rv a1, iv 1, .val (.long 1), .second, iv 1, iv 1, .unset, .unset, .unset, .unset, .unset, .unset, .unset, .unset] [(.int 32), (.long s0_294), (.long (m1.toInt64))])) (fun t k => X304.laload hx (j := (0 : Int32)) (v := (.long s0_294)) (by rw [e304]; exact Ar305.1) (State.isArrayOf_alike hZ0.alike Ar305.2.1) Ar305.2.2 hin305 (H305.at hin305 rfl) (g := (mkF m 51 #[rv a1, iv 1, .val (.long 1), .second, iv 1, iv 1, .unset, .unset, .unset, .unset, .unset, .unset, .unset, .unset] [(.int 0), (.ref ks), (.long (m1.toInt64))])) rfl rfl (hb hby d11_51) _ (XS.bipush X304.here hx rfl (hb hby d11_52) k)) ?_
      refine Go.on (w := T304.setTop (mkF m 55 #[rv a1, iv 1, .val (.long 1), .second, iv 1, iv 1, .unset, .unset, .unset, .unset, .unset, .unset, .unset, .unset] [(.long (m0.toInt64)), (.long (m1.toInt64))])) (fun t k => XS.lushr X304.here hx rfl (hb hby d11_54) rfl (by rw [(hu0 : ((s0_294.toUInt64 >>> ((32 : Int32) &&& 0x3f).toInt64.toUInt64).toInt64) = (m0.toInt64))]; exact k)) ?_
      refine Go.on (w := T304.setTop (mkF m 77 #[rv a1, iv 1, .val (.long 1), .second, iv 1, iv 0, .unset, .unset, .unset, .unset, .unset, .unset, .unset, .unset] [(.int 0), (.int 1)])) (fun t k => XS.lcmp X304.here hx rfl (hb hby d11_55) rfl (XS.ifYes X304.here hx rfl (pc0 := 56) (pc' := 63) rfl (hb hby d11_56) rfl ((if0 _ _).trans (teq (own_lce hb1)).1) (by decide) (by decide) (XS.iconst X304.here hx rfl (hb hby d11_63) (XS.istore X304.here hx rfl (hb hby d11_64) rfl (l' := #[rv a1, iv 1, .val (.long 1), .second, iv 1, iv 0, .unset, .unset, .unset, .unset, .unset, .unset, .unset, .unset]) rfl (XS.iloadN X304.here hx rfl (hb hby d11_66) rfl (XS.iload X304.here hx rfl (hb hby d11_67) rfl (XS.ifYes X304.here hx rfl (pc0 := 69) (pc' := 76) rfl (hb hby d11_69) rfl ((if0 _ _).trans (teq (by decide : (0 : Int32) = (0 : Int32))).1) (by decide) (by decide) (XS.iconst X304.here hx rfl (hb hby d11_76) k)))))))) ?_
      refine Go.on (w := T304.setTop (mkF m 78 #[rv a1, iv 1, .val (.long 1), .second, iv 1, iv 0, .unset, .unset, .unset, .unset, .unset, .unset, .unset, .unset] [(.int 1)])) (fun t k => XS.iadd X304.here hx rfl (hb hby d11_77) rfl (by rw [(by decide : ((1 : Int32) + (0 : Int32)) = (1 : Int32))]; exact k)) ?_
      obtain ⟨T306, X306, e306, st306⟩ := getF X304 hx hZ0 hown0 (host := "") (Or.inl (w_11 hw)) Via.refl e304 F297 (g := (mkF m 97 #[rv a1, iv 1, .val (.long 1), .second, iv 1, iv 0, .unset, .unset, .unset, .unset, .unset, .unset, .unset, .unset] [(.ref a1), (.long 1)])) rfl rfl (hb hby d11_97)
      obtain ⟨cl307, Ar307, q307, S307, M307, H307, U307⟩ := id f294_0
      have hin307 := ((inb_of S307 ⟨(by decide), (by decide)⟩) : ¬ ((1 : Int32) < 0 ∨ cl307.slots.size ≤ ((1 : Int32)).toNatClampNeg))
      refine Go.on (w := T306.setTop (mkF m 103 #[rv a1, iv 1, .val (.long 1), .second, iv 1, iv 0, .unset, .unset, .unset, .unset, .unset, .unset, .unset, .unset] [(.long s1_294), (.long 1)])) (fun t k => XS.istoreN X304.here hx rfl (hb hby d11_78) rfl (l' := #[rv a1, iv 1, .val (.long 1), .second, iv 1, iv 0, .unset, .unset, .unset, .unset, .unset, .unset, .unset, .unset]) rfl (XS.lloadN X304.here hx rfl (hb hby d11_79) rfl (XS.iload X304.here hx rfl (hb hby d11_80) rfl (XS.ifYes X304.here hx rfl (pc0 := 82) (pc' := 96) rfl (hb hby d11_82) rfl ((if0 _ _).trans (teq (by decide : (0 : Int32) = (0 : Int32))).1) (by decide) (by decide) (XS.aloadN X304.here hx rfl (hb hby d11_96) rfl rfl (st306 _ (XS.iload X306.here hx rfl (hb hby d11_100) rfl (X306.laload hx (j := (1 : Int32)) (v := (.long s1_294)) (by rw [e306]; exact Ar307.1) (State.isArrayOf_alike hZ0.alike Ar307.2.1) Ar307.2.2 hin307 (H307.at hin307 rfl) (g := (mkF m 102 #[rv a1, iv 1, .val (.long 1), .second, iv 1, iv 0, .unset, .unset, .unset, .unset, .unset, .unset, .unset, .unset] [(.int 1), (.ref ks), (.long 1)])) rfl rfl (hb hby d11_102) _ k)))))))) ?_
      refine Go.on (w := T306.setTop (mkF m 104 #[rv a1, iv 1, .val (.long 1), .second, iv 1, iv 0, .unset, .unset, .unset, .unset, .unset, .unset, .unset, .unset] [(.int r1), (.long 1)])) (fun t k => XS.l2i X306.here hx rfl (hb hby d11_103) rfl (by rw [(hl1 : (s1_294.toInt32) = r1)]; exact k)) ?_
      obtain ⟨T308, X308, e308, st308⟩ := getF X306 hx hZ0 hown0 (host := "") (Or.inl (w_11 hw)) Via.refl e306 F297 (g := (mkF m 105 #[rv a1, iv 1, .val (.long 1), .second, iv 1, iv 0, .unset, .unset, .unset, .unset, .unset, .unset, .unset, .unset] [(.ref a1), (.int r1), (.long 1)])) rfl rfl (hb hby d11_105)
      refine Go.on (w := T308.setTop (mkF m 111 #[rv a1, iv 1, .val (.long 1), .second, iv 1, iv 0, .unset, .unset, .unset, .unset, .unset, .unset, .unset, .unset] [(.int 1), (.int 1), (.ref ks), (.int r1), (.long 1)])) (fun t k => XS.aloadN X306.here hx rfl (hb hby d11_104) rfl rfl (st308 _ (XS.iload X308.here hx rfl (hb hby d11_108) rfl (XS.iconst X308.here hx rfl (hb hby d11_110) k)))) ?_
      refine Go.on (w := T308.setTop (mkF m 112 #[rv a1, iv 1, .val (.long 1), .second, iv 1, iv 0, .unset, .unset, .unset, .unset, .unset, .unset, .unset, .unset] [(.int 0), (.ref ks), (.int r1), (.long 1)])) (fun t k => XS.isub X308.here hx rfl (hb hby d11_111) rfl (by rw [(by decide : ((1 : Int32) - (1 : Int32)) = (0 : Int32))]; exact k)) ?_
      obtain ⟨cl309, Ar309, q309, S309, M309, H309, U309⟩ := id f294_0
      have hin309 := ((inb_of S309 ⟨(by decide), (by decide)⟩) : ¬ ((0 : Int32) < 0 ∨ cl309.slots.size ≤ ((0 : Int32)).toNatClampNeg))
      refine Go.on (w := T308.setTop (mkF m 113 #[rv a1, iv 1, .val (.long 1), .second, iv 1, iv 0, .unset, .unset, .unset, .unset, .unset, .unset, .unset, .unset] [(.long s0_294), (.int r1), (.long 1)])) (fun t k => X308.laload hx (j := (0 : Int32)) (v := (.long s0_294)) (by rw [e308]; exact Ar309.1) (State.isArrayOf_alike hZ0.alike Ar309.2.1) Ar309.2.2 hin309 (H309.at hin309 rfl) (g := (mkF m 112 #[rv a1, iv 1, .val (.long 1), .second, iv 1, iv 0, .unset, .unset, .unset, .unset, .unset, .unset, .unset, .unset] [(.int 0), (.ref ks), (.int r1), (.long 1)])) rfl rfl (hb hby d11_112) _ k) ?_
      refine Go.on (w := T308.setTop (mkF m 114 #[rv a1, iv 1, .val (.long 1), .second, iv 1, iv 0, .unset, .unset, .unset, .unset, .unset, .unset, .unset, .unset] [(.int r0), (.int r1), (.long 1)])) (fun t k => XS.l2i X308.here hx rfl (hb hby d11_113) rfl (by rw [(hl0 : (s0_294.toInt32) = r0)]; exact k)) ?_
      obtain ⟨v310, _, ⟨T310, L310, k310, n310⟩, -, X310, ⟨Lc310, hQ310, l310, y310, z310⟩, st310⟩ := Jvm.LawKit.callS X308 hx (y := yM9) hown0 (mvT hZ0 (w_45 hw)) (mvT hZ0 (w_46 hw)) (mvT hZ0 (w_3 hw)) (mvT hZ0 (w_47 hw)) (by decide) (backOf (W := 2) (rmByt l Z a0 hw [] (r1 - r0) T294.heap (own_r7s hd1)) hZ0 (w_47 hw) (w_3 hw) (by decide) (by decide)) (g := (mkF m 115 #[rv a1, iv 1, .val (.long 1), .second, iv 1, iv 0, .unset, .unset, .unset, .unset, .unset, .unset, .unset, .unset] [(.int (r1 - r0)), (.long 1)])) rfl (by rw [hml]; rfl) (argsL := [(.int (r1 - r0))]) (rest := [(.long 1)]) (lenOf pd_5 rfl) rfl (by show 2 * 0 + _ ≤ _; exact Nat.le_of_eq rfl) (hb hby d11_115) (fun _ _ => ⟨rfl, e308, (by decide : 0 + 0 ≤ _), (by decide : 0 + 0 ≤ _)⟩)
      dsimp only [Pt.U, Pt.locs, Pt.cells, Pt.slots] at X310 l310 y310 z310 st310 hQ310
      subst l310 y310 z310
      obtain ⟨rfl, Nq310, eh310⟩ := hQ310
      have N310 := Fr.app N300 Nq310
      refine Go.on (w := T310.setTop (mkF m 118 #[rv a1, iv 1, .val (.long 1), .second, iv 1, iv 0, .unset, .unset, .unset, .unset, .unset, .unset, .unset, .unset] [(.int 1), (.long 1)])) (fun t k => XS.isub X308.here hx rfl (hb hby d11_114) rfl (st310 _ k)) ?_
      refine Go.on (w := T310.setTop (mkF m 119 #[rv a1, iv 1, .val (.long 1), .second, iv 1, iv 0, .unset, .unset, .unset, .unset, .unset, .unset, .unset, .unset] [(.long 1), (.long 1)])) (fun t k => XS.i2l X310.here hx rfl (hb hby d11_118) rfl (by rw [(by decide : ((1 : Int32).toInt64) = (1 : Int64))]; exact k)) ?_
      refine Go.on (w := T310.setTop (mkF m 120 #[rv a1, iv 1, .val (.long 1), .second, iv 1, iv 0, .unset, .unset, .unset, .unset, .unset, .unset, .unset, .unset] [(.long 2)])) (fun t k => XS.ladd X310.here hx rfl (hb hby d11_119) rfl (by rw [(by decide : ((1 : Int64) + (1 : Int64)) = (2 : Int64))]; exact k)) ?_
      obtain ⟨T311, X311, e311, st311⟩ := getF X310 hx hZ0 hown0 (host := "") (Or.inl (w_21 hw)) Via.refl eh310 F295 (g := (mkF m 22 #[rv a1, iv 1, .val (.long 2), .second, iv 2, iv 0, .unset, .unset, .unset, .unset, .unset, .unset, .unset, .unset] [(.ref a1), (.int 2)])) rfl rfl (hb hby d11_22)
      obtain ⟨T312, X312, e312, st312⟩ := getF X311 hx hZ0 hown0 (host := "") (Or.inl (w_11 hw)) Via.refl e311 F297 (g := (mkF m 34 #[rv a1, iv 1, .val (.long 2), .second, iv 2, iv 0, .unset, .unset, .unset, .unset, .unset, .unset, .unset, .unset] [(.ref a1)])) rfl rfl (hb hby d11_34)
      obtain ⟨cl313, Ar313, q313, S313, M313, H313, U313⟩ := id f294_0
      have hin313 := ((inb_of S313 ⟨(by decide), (by decide)⟩) : ¬ ((2 : Int32) < 0 ∨ cl313.slots.size ≤ ((2 : Int32)).toNatClampNeg))
      refine Go.on (w := T312.setTop (mkF m 42 #[rv a1, iv 1, .val (.long 2), .second, iv 2, iv 0, .unset, .unset, .unset, .unset, .unset, .unset, .unset, .unset] [(.int 32), (.long s2_294)])) (fun t k => XS.lstoreN X310.here hx rfl (hb hby d11_120) rfl (l' := #[rv a1, iv 1, .val (.long 2), .second, iv 1, iv 0, .unset, .unset, .unset, .unset, .unset, .unset, .unset, .unset]) rfl (XS.iinc X310.here hx rfl (hb hby d11_121) rfl (l' := #[rv a1, iv 1, .val (.long 2), .second, iv 2, iv 0, .unset, .unset, .unset, .unset, .unset, .unset, .unset, .unset]) rfl (XS.goto X310.here hx rfl (pc0 := 124) (pc' := 19) rfl (hb hby d11_124) (by decide) (by decide) (XS.iload X310.here hx rfl (hb hby d11_19) rfl (XS.aloadN X310.here hx rfl (hb hby d11_21) rfl rfl (st311 _ (XS.icmpNo X311.here hx rfl (hb hby d11_25) rfl (tlt (by decide : (2 : Int32) < (3 : Int32))).2.1 (XS.iload X311.here hx rfl (hb hby d11_28) rfl (XS.ifNo X311.here hx rfl (hb hby d11_30) rfl ((if0 _ _).trans (feq (by decide : ¬ ((2 : Int32) = (0 : Int32)))).1) (XS.aloadN X311.here hx rfl (hb hby d11_33) rfl rfl (st312 _ (XS.iload X312.here hx rfl (hb hby d11_37) rfl (X312.laload hx (j := (2 : Int32)) (v := (.long s2_294)) (by rw [e312]; exact Ar313.1) (State.isArrayOf_alike hZ0.alike Ar313.2.1) Ar313.2.2 hin313 (H313.at hin313 rfl) (g := (mkF m 39 #[rv a1, iv 1, .val (.long 2), .second, iv 2, iv 0, .unset, .unset, .unset, .unset, .unset, .unset, .unset, .unset] [(.int 2), (.ref ks)])) rfl rfl (hb hby d11_39) _ (XS.bipush X312.here hx rfl (hb hby d11_40) k)))))))))))))) ?_
      refine Go.on (w := T312.setTop (mkF m 43 #[rv a1, iv 1, .val (.long 2), .second, iv 2, iv 0, .unset, .unset, .unset, .unset, .unset, .unset, .unset, .unset] [(.long (m2.toInt64))])) (fun t k => XS.lushr X312.here hx rfl (hb hby d11_42) rfl (by rw [(hu2 : ((s2_294.toUInt64 >>> ((32 : Int32) &&& 0x3f).toInt64.toUInt64).toInt64) = (m2.toInt64))]; exact k)) ?_
      obtain ⟨T314, X314, e314, st314⟩ := getF X312 hx hZ0 hown0 (host := "") (Or.inl (w_11 hw)) Via.refl e312 F297 (g := (mkF m 44 #[rv a1, iv 1, .val (.long 2), .second, iv 2, iv 0, .unset, .unset, .unset, .unset, .unset, .unset, .unset, .unset] [(.ref a1), (.long (m2.toInt64))])) rfl rfl (hb hby d11_44)
      refine Go.on (w := T314.setTop (mkF m 50 #[rv a1, iv 1, .val (.long 2), .second, iv 2, iv 0, .unset, .unset, .unset, .unset, .unset, .unset, .unset, .unset] [(.int 1), (.int 2), (.ref ks), (.long (m2.toInt64))])) (fun t k => XS.aloadN X312.here hx rfl (hb hby d11_43) rfl rfl (st314 _ (XS.iload X314.here hx rfl (hb hby d11_47) rfl (XS.iconst X314.here hx rfl (hb hby d11_49) k)))) ?_
      refine Go.on (w := T314.setTop (mkF m 51 #[rv a1, iv 1, .val (.long 2), .second, iv 2, iv 0, .unset, .unset, .unset, .unset, .unset, .unset, .unset, .unset] [(.int 1), (.ref ks), (.long (m2.toInt64))])) (fun t k => XS.isub X314.here hx rfl (hb hby d11_50) rfl (by rw [(by decide : ((2 : Int32) - (1 : Int32)) = (1 : Int32))]; exact k)) ?_
      obtain ⟨cl315, Ar315, q315, S315, M315, H315, U315⟩ := id f294_0
      have hin315 := ((inb_of S315 ⟨(by decide), (by decide)⟩) : ¬ ((1 : Int32) < 0 ∨ cl315.slots.size ≤ ((1 : Int32)).toNatClampNeg))
      refine Go.on (w := T314.setTop (mkF m 54 #[rv a1, iv 1, .val (.long 2), .second, iv 2, iv 0, .unset, .unset, .unset, .unset, .unset, .unset, .unset, .unset] [(.int 32), (.long s1_294), (.long (m2.toInt64))])) (fun t k => X314.laload hx (j := (1 : Int32)) (v := (.long s1_294)) (by rw [e314]; exact Ar315.1) (State.isArrayOf_alike hZ0.alike Ar315.2.1) Ar315.2.2 hin315 (H315.at hin315 rfl) (g := (mkF m 51 #[rv a1, iv 1, .val (.long 2), .second, iv 2, iv 0, .unset, .unset, .unset, .unset, .unset, .unset, .unset, .unset] [(.int 1), (.ref ks), (.long (m2.toInt64))])) rfl rfl (hb hby d11_51) _ (XS.bipush X314.here hx rfl (hb hby d11_52) k)) ?_
      refine Go.on (w := T314.setTop (mkF m 55 #[rv a1, iv 1, .val (.long 2), .second, iv 2, iv 0, .unset, .unset, .unset, .unset, .unset, .unset, .unset, .unset] [(.long (m1.toInt64)), (.long (m2.toInt64))])) (fun t k => XS.lushr X314.here hx rfl (hb hby d11_54) rfl (by rw [(hu1 : ((s1_294.toUInt64 >>> ((32 : Int32) &&& 0x3f).toInt64.toUInt64).toInt64) = (m1.toInt64))]; exact k)) ?_
      refine Go.on (w := T314.setTop (mkF m 77 #[rv a1, iv 1, .val (.long 2), .second, iv 2, iv 0, .unset, .unset, .unset, .unset, .unset, .unset, .unset, .unset] [(.int 0), (.int 1)])) (fun t k => XS.lcmp X314.here hx rfl (hb hby d11_55) rfl (XS.ifYes X314.here hx rfl (pc0 := 56) (pc' := 63) rfl (hb hby d11_56) rfl ((if0 _ _).trans (teq (own_lce hb2)).1) (by decide) (by decide) (XS.iconst X314.here hx rfl (hb hby d11_63) (XS.istore X314.here hx rfl (hb hby d11_64) rfl (l' := #[rv a1, iv 1, .val (.long 2), .second, iv 2, iv 0, .unset, .unset, .unset, .unset, .unset, .unset, .unset, .unset]) rfl (XS.iloadN X314.here hx rfl (hb hby d11_66) rfl (XS.iload X314.here hx rfl (hb hby d11_67) rfl (XS.ifYes X314.here hx rfl (pc0 := 69) (pc' := 76) rfl (hb hby d11_69) rfl ((if0 _ _).trans (teq (by decide : (0 : Int32) = (0 : Int32))).1) (by decide) (by decide) (XS.iconst X314.here hx rfl (hb hby d11_76) k)))))))) ?_
      refine Go.on (w := T314.setTop (mkF m 78 #[rv a1, iv 1, .val (.long 2), .second, iv 2, iv 0, .unset, .unset, .unset, .unset, .unset, .unset, .unset, .unset] [(.int 1)])) (fun t k => XS.iadd X314.here hx rfl (hb hby d11_77) rfl (by rw [(by decide : ((1 : Int32) + (0 : Int32)) = (1 : Int32))]; exact k)) ?_
      obtain ⟨T316, X316, e316, st316⟩ := getF X314 hx hZ0 hown0 (host := "") (Or.inl (w_11 hw)) Via.refl e314 F297 (g := (mkF m 97 #[rv a1, iv 1, .val (.long 2), .second, iv 2, iv 0, .unset, .unset, .unset, .unset, .unset, .unset, .unset, .unset] [(.ref a1), (.long 2)])) rfl rfl (hb hby d11_97)
      obtain ⟨cl317, Ar317, q317, S317, M317, H317, U317⟩ := id f294_0
      have hin317 := ((inb_of S317 ⟨(by decide), (by decide)⟩) : ¬ ((2 : Int32) < 0 ∨ cl317.slots.size ≤ ((2 : Int32)).toNatClampNeg))
      refine Go.on (w := T316.setTop (mkF m 103 #[rv a1, iv 1, .val (.long 2), .second, iv 2, iv 0, .unset, .unset, .unset, .unset, .unset, .unset, .unset, .unset] [(.long s2_294), (.long 2)])) (fun t k => XS.istoreN X314.here hx rfl (hb hby d11_78) rfl (l' := #[rv a1, iv 1, .val (.long 2), .second, iv 2, iv 0, .unset, .unset, .unset, .unset, .unset, .unset, .unset, .unset]) rfl (XS.lloadN X314.here hx rfl (hb hby d11_79) rfl (XS.iload X314.here hx rfl (hb hby d11_80) rfl (XS.ifYes X314.here hx rfl (pc0 := 82) (pc' := 96) rfl (hb hby d11_82) rfl ((if0 _ _).trans (teq (by decide : (0 : Int32) = (0 : Int32))).1) (by decide) (by decide) (XS.aloadN X314.here hx rfl (hb hby d11_96) rfl rfl (st316 _ (XS.iload X316.here hx rfl (hb hby d11_100) rfl (X316.laload hx (j := (2 : Int32)) (v := (.long s2_294)) (by rw [e316]; exact Ar317.1) (State.isArrayOf_alike hZ0.alike Ar317.2.1) Ar317.2.2 hin317 (H317.at hin317 rfl) (g := (mkF m 102 #[rv a1, iv 1, .val (.long 2), .second, iv 2, iv 0, .unset, .unset, .unset, .unset, .unset, .unset, .unset, .unset] [(.int 2), (.ref ks), (.long 2)])) rfl rfl (hb hby d11_102) _ k)))))))) ?_
      refine Go.on (w := T316.setTop (mkF m 104 #[rv a1, iv 1, .val (.long 2), .second, iv 2, iv 0, .unset, .unset, .unset, .unset, .unset, .unset, .unset, .unset] [(.int r2), (.long 2)])) (fun t k => XS.l2i X316.here hx rfl (hb hby d11_103) rfl (by rw [(hl2 : (s2_294.toInt32) = r2)]; exact k)) ?_
      obtain ⟨T318, X318, e318, st318⟩ := getF X316 hx hZ0 hown0 (host := "") (Or.inl (w_11 hw)) Via.refl e316 F297 (g := (mkF m 105 #[rv a1, iv 1, .val (.long 2), .second, iv 2, iv 0, .unset, .unset, .unset, .unset, .unset, .unset, .unset, .unset] [(.ref a1), (.int r2), (.long 2)])) rfl rfl (hb hby d11_105)
      refine Go.on (w := T318.setTop (mkF m 111 #[rv a1, iv 1, .val (.long 2), .second, iv 2, iv 0, .unset, .unset, .unset, .unset, .unset, .unset, .unset, .unset] [(.int 1), (.int 2), (.ref ks), (.int r2), (.long 2)])) (fun t k => XS.aloadN X316.here hx rfl (hb hby d11_104) rfl rfl (st318 _ (XS.iload X318.here hx rfl (hb hby d11_108) rfl (XS.iconst X318.here hx rfl (hb hby d11_110) k)))) ?_
      refine Go.on (w := T318.setTop (mkF m 112 #[rv a1, iv 1, .val (.long 2), .second, iv 2, iv 0, .unset, .unset, .unset, .unset, .unset, .unset, .unset, .unset] [(.int 1), (.ref ks), (.int r2), (.long 2)])) (fun t k => XS.isub X318.here hx rfl (hb hby d11_111) rfl (by rw [(by decide : ((2 : Int32) - (1 : Int32)) = (1 : Int32))]; exact k)) ?_
      obtain ⟨cl319, Ar319, q319, S319, M319, H319, U319⟩ := id f294_0
      have hin319 := ((inb_of S319 ⟨(by decide), (by decide)⟩) : ¬ ((1 : Int32) < 0 ∨ cl319.slots.size ≤ ((1 : Int32)).toNatClampNeg))
      refine Go.on (w := T318.setTop (mkF m 113 #[rv a1, iv 1, .val (.long 2), .second, iv 2, iv 0, .unset, .unset, .unset, .unset, .unset, .unset, .unset, .unset] [(.long s1_294), (.int r2), (.long 2)])) (fun t k => X318.laload hx (j := (1 : Int32)) (v := (.long s1_294)) (by rw [e318]; exact Ar319.1) (State.isArrayOf_alike hZ0.alike Ar319.2.1) Ar319.2.2 hin319 (H319.at hin319 rfl) (g := (mkF m 112 #[rv a1, iv 1, .val (.long 2), .second, iv 2, iv 0, .unset, .unset, .unset, .unset, .unset, .unset, .unset, .unset] [(.int 1), (.ref ks), (.int r2), (.long 2)])) rfl rfl (hb hby d11_112) _ k) ?_
      refine Go.on (w := T318.setTop (mkF m 114 #[rv a1, iv 1, .val (.long 2), .second, iv 2, iv 0, .unset, .unset, .unset, .unset, .unset, .unset, .unset, .unset] [(.int r1), (.int r2), (.long 2)])) (fun t k => XS.l2i X318.here hx rfl (hb hby d11_113) rfl (by rw [(hl1 : (s1_294.toInt32) = r1)]; exact k)) ?_
      obtain ⟨v320, _, ⟨T320, L320, k320, n320⟩, -, X320, ⟨Lc320, hQ320, l320, y320, z320⟩, st320⟩ := Jvm.LawKit.callS X318 hx (y := yM9) hown0 (mvT hZ0 (w_45 hw)) (mvT hZ0 (w_46 hw)) (mvT hZ0 (w_3 hw)) (mvT hZ0 (w_47 hw)) (by decide) (backOf (W := 2) (rmByt l Z a0 hw [] (r2 - r1) T294.heap (own_r7s hd2)) hZ0 (w_47 hw) (w_3 hw) (by decide) (by decide)) (g := (mkF m 115 #[rv a1, iv 1, .val (.long 2), .second, iv 2, iv 0, .unset, .unset, .unset, .unset, .unset, .unset, .unset, .unset] [(.int (r2 - r1)), (.long 2)])) rfl (by rw [hml]; rfl) (argsL := [(.int (r2 - r1))]) (rest := [(.long 2)]) (lenOf pd_5 rfl) rfl (by show 2 * 0 + _ ≤ _; exact Nat.le_of_eq rfl) (hb hby d11_115) (fun _ _ => ⟨rfl, e318, (by decide : 0 + 0 ≤ _), (by decide : 0 + 0 ≤ _)⟩)
      dsimp only [Pt.U, Pt.locs, Pt.cells, Pt.slots] at X320 l320 y320 z320 st320 hQ320
      subst l320 y320 z320
      obtain ⟨rfl, Nq320, eh320⟩ := hQ320
      have N320 := Fr.app N310 Nq320
      refine Go.on (w := T320.setTop (mkF m 118 #[rv a1, iv 1, .val (.long 2), .second, iv 2, iv 0, .unset, .unset, .unset, .unset, .unset, .unset, .unset, .unset] [(.int 1), (.long 2)])) (fun t k => XS.isub X318.here hx rfl (hb hby d11_114) rfl (st320 _ k)) ?_
      refine Go.on (w := T320.setTop (mkF m 119 #[rv a1, iv 1, .val (.long 2), .second, iv 2, iv 0, .unset, .unset, .unset, .unset, .unset, .unset, .unset, .unset] [(.long 1), (.long 2)])) (fun t k => XS.i2l X320.here hx rfl (hb hby d11_118) rfl (by rw [(by decide : ((1 : Int32).toInt64) = (1 : Int64))]; exact k)) ?_
      refine Go.on (w := T320.setTop (mkF m 120 #[rv a1, iv 1, .val (.long 2), .second, iv 2, iv 0, .unset, .unset, .unset, .unset, .unset, .unset, .unset, .unset] [(.long 3)])) (fun t k => XS.ladd X320.here hx rfl (hb hby d11_119) rfl (by rw [(by decide : ((2 : Int64) + (1 : Int64)) = (3 : Int64))]; exact k)) ?_
      obtain ⟨T321, X321, e321, st321⟩ := getF X320 hx hZ0 hown0 (host := "") (Or.inl (w_21 hw)) Via.refl eh320 F295 (g := (mkF m 22 #[rv a1, iv 1, .val (.long 3), .second, iv 3, iv 0, .unset, .unset, .unset, .unset, .unset, .unset, .unset, .unset] [(.ref a1), (.int 3)])) rfl rfl (hb hby d11_22)
      obtain ⟨T322, h322, k322, X322, e322, E322, A322, st322⟩ := newP (aty := .int) X321 hx hZ0 (w_13 hw) e321 (g := (mkF m 128 #[rv a1, iv 1, .val (.long 3), .second, iv 3, iv 0, .unset, .unset, .unset, .unset, .unset, .unset, .unset, .unset] [(.int 1)])) rfl (hb hby d11_128) rfl (by decide : ¬ ((1 : Int32) < (0 : Int32))) (cap := 1) (by decide) (by decide) (by decide) (by decide)
      obtain ⟨b322, g322⟩ : ∃ z, z = T294.heap.size := ⟨_, rfl⟩
      rw [← g322] at A322 st322
      have V322 : Arv Z h322 b322 k322 .int (1 : Int32) [(.int 0)] (.int 0) := (Arv.new A322 (by decide : ¬ ((1 : Int32) < (0 : Int32)))).pad (pad_rep [] (.int 0) 1)
      have u322 : h322.size > b322 := V322.lt
      have z322 : T294.heap.size ≤ h322.size := E322.1
      have KP322 : Keep h0 h322 ([ks] : List Addr) := KP294.ext E322
      obtain ⟨v323, _, ⟨T323, L323, k323, n323⟩, -, X323, ⟨Lc323, hQ323, l323, y323, z323⟩, st323⟩ := Jvm.LawKit.callS X322 hx (y := yM10) hown0 (mvT hZ0 (w_48 hw)) (mvT hZ0 (w_49 hw)) (mvT hZ0 (w_50 hw)) (mvT hZ0 (w_51 hw)) (by decide) (backOf (W := 0) (rmTie l Z a0 hw [] () h322 ) hZ0 (w_51 hw) (w_50 hw) (by decide) (by decide)) (g := (mkF m 133 #[rv a1, iv 1, .val (.long 3), .second, rv b322, iv 0, .unset, .unset, .unset, .unset, .unset, .unset, .unset, .unset] [(.long 3)])) rfl (by rw [hml]; rfl) (argsL := [(.long 3)]) (rest := []) (lenOf pd_6 rfl) rfl (by show 2 * 0 + _ ≤ _; exact Nat.le_of_eq rfl) (hb hby d11_133) (fun _ _ => ⟨rfl, e322, (by decide : 1 + 0 ≤ _), (by decide : 1 + 0 ≤ _)⟩)
      dsimp only [Pt.U, Pt.locs, Pt.cells, Pt.slots] at X323 l323 y323 z323 st323 hQ323
      subst l323 y323 z323
      obtain ⟨rfl, Nq323, eh323⟩ := hQ323
      have N323 := Fr.app N320 Nq323
      obtain ⟨T324, h324, k324, X324, e324, E324, A324, st324⟩ := newP (aty := .byte) X323 hx hZ0 (w_52 hw) eh323 (g := (mkF m 136 #[rv a1, iv 1, .val (.long 3), .second, rv b322, iv 0, .unset, .unset, .unset, .unset, .unset, .unset, .unset, .unset] [(.int 3)])) rfl (hb hby d11_136) rfl (by decide : ¬ ((3 : Int32) < (0 : Int32))) (cap := 3) (by decide) (by decide) (by decide) (by decide)
      obtain ⟨b324, g324⟩ : ∃ z, z = h322.size := ⟨_, rfl⟩
      rw [← g324] at A324 st324
      have V324 : Arv Z h324 b324 k324 .byte (3 : Int32) [(.int 0), (.int 0), (.int 0)] (.int 0) := (Arv.new A324 (by decide : ¬ ((3 : Int32) < (0 : Int32)))).pad (pad_rep [] (.int 0) 3)
      have u324 : h324.size > b324 := V324.lt
      have z324 : h322.size ≤ h324.size := E324.1
      have KP324 : Keep h0 h324 ([ks] : List Addr) := KP322.ext E324
      refine Go.on (w := T324.setTop (mkF m 142 #[rv a1, iv 1, .val (.long 3), .second, rv b322, rv b324, .unset, .unset, .unset, .unset, .unset, .unset, .unset, .unset] [(.int 1), (.int 1)])) (fun t k => XS.lstoreN X320.here hx rfl (hb hby d11_120) rfl (l' := #[rv a1, iv 1, .val (.long 3), .second, iv 2, iv 0, .unset, .unset, .unset, .unset, .unset, .unset, .unset, .unset]) rfl (XS.iinc X320.here hx rfl (hb hby d11_121) rfl (l' := #[rv a1, iv 1, .val (.long 3), .second, iv 3, iv 0, .unset, .unset, .unset, .unset, .unset, .unset, .unset, .unset]) rfl (XS.goto X320.here hx rfl (pc0 := 124) (pc' := 19) rfl (hb hby d11_124) (by decide) (by decide) (XS.iload X320.here hx rfl (hb hby d11_19) rfl (XS.aloadN X320.here hx rfl (hb hby d11_21) rfl rfl (st321 _ (XS.icmpYes X321.here hx rfl (pc0 := 25) (pc' := 127) rfl (hb hby d11_25) rfl (flt (by decide : ¬ ((3 : Int32) < (3 : Int32)))).2.1 (by decide) (by decide) (XS.iloadN X321.here hx rfl (hb hby d11_127) rfl (st322 _ (XS.astore X322.here hx rfl (hb hby d11_130) rfl rfl (l' := #[rv a1, iv 1, .val (.long 3), .second, rv b322, iv 0, .unset, .unset, .unset, .unset, .unset, .unset, .unset, .unset]) rfl (XS.lloadN X322.here hx rfl (hb hby d11_132) rfl (st323 _ (st324 _ (XS.astore X324.here hx rfl (hb hby d11_138) rfl rfl (l' := #[rv a1, iv 1, .val (.long 3), .second, rv b322, rv b324, .unset, .unset, .unset, .unset, .unset, .unset, .unset, .unset]) rfl (XS.iloadN X324.here hx rfl (hb hby d11_140) rfl (XS.iconst X324.here hx rfl (hb hby d11_141) k)))))))))))))))) ?_
      refine Go.on (w := T324.setTop (mkF m 143 #[rv a1, iv 1, .val (.long 3), .second, rv b322, rv b324, .unset, .unset, .unset, .unset, .unset, .unset, .unset, .unset] [(.int 2)])) (fun t k => XS.iadd X324.here hx rfl (hb hby d11_142) rfl (by rw [(by decide : ((1 : Int32) + (1 : Int32)) = (2 : Int32))]; exact k)) ?_
      obtain ⟨T325, h325, k325, X325, e325, E325, A325, st325⟩ := newP (aty := .int) X324 hx hZ0 (w_13 hw) e324 (g := (mkF m 143 #[rv a1, iv 1, .val (.long 3), .second, rv b322, rv b324, .unset, .unset, .unset, .unset, .unset, .unset, .unset, .unset] [(.int 2)])) rfl (hb hby d11_143) rfl (by decide : ¬ ((2 : Int32) < (0 : Int32))) (cap := 2) (by decide) (by decide) (by decide) (by decide)
      obtain ⟨b325, g325⟩ : ∃ z, z = h324.size := ⟨_, rfl⟩
      rw [← g325] at A325 st325
      have V325 : Arv Z h325 b325 k325 .int (2 : Int32) [(.int 0), (.int 0)] (.int 0) := (Arv.new A325 (by decide : ¬ ((2 : Int32) < (0 : Int32)))).pad (pad_rep [] (.int 0) 2)
      have u325 : h325.size > b325 := V325.lt
      have z325 : h324.size ≤ h325.size := E325.1
      have KP325 : Keep h0 h325 ([ks] : List Addr) := KP324.ext E325
      have F326 := (((F295.ext E322).ext E324).ext E325)
      obtain ⟨T327, X327, e327, st327⟩ := getF X325 hx hZ0 hown0 (host := "") (Or.inl (w_21 hw)) Via.refl e325 F326 (g := (mkF m 148 #[rv a1, iv 1, .val (.long 3), .second, rv b322, rv b324, rv b325, .unset, .unset, .unset, .unset, .unset, .unset, .unset] [(.ref a1)])) rfl rfl (hb hby d11_148)
      obtain ⟨T328, h328, k328, X328, e328, E328, A328, st328⟩ := newP (aty := .int) X327 hx hZ0 (w_13 hw) e327 (g := (mkF m 151 #[rv a1, iv 1, .val (.long 3), .second, rv b322, rv b324, rv b325, .unset, .unset, .unset, .unset, .unset, .unset, .unset] [(.int 3)])) rfl (hb hby d11_151) rfl (by decide : ¬ ((3 : Int32) < (0 : Int32))) (cap := 3) (by decide) (by decide) (by decide) (by decide)
      obtain ⟨b328, g328⟩ : ∃ z, z = h325.size := ⟨_, rfl⟩
      rw [← g328] at A328 st328
      have V328 : Arv Z h328 b328 k328 .int (3 : Int32) [(.int 0), (.int 0), (.int 0)] (.int 0) := (Arv.new A328 (by decide : ¬ ((3 : Int32) < (0 : Int32)))).pad (pad_rep [] (.int 0) 3)
      have u328 : h328.size > b328 := V328.lt
      have z328 : h325.size ≤ h328.size := E328.1
      have KP328 : Keep h0 h328 ([ks] : List Addr) := KP325.ext E328
      have F329 := (F326.ext E328)
      obtain ⟨T330, X330, e330, st330⟩ := getF X328 hx hZ0 hown0 (host := "") (Or.inl (w_21 hw)) Via.refl e328 F329 (g := (mkF m 167 #[rv a1, iv 1, .val (.long 3), .second, rv b322, rv b324, rv b325, rv b328, iv 0, iv (-1), iv 0, .unset, .unset, .unset] [(.ref a1), (.int 0)])) rfl rfl (hb hby d11_167)
      have F331 := ((((F297.ext E322).ext E324).ext E325).ext E328)
      obtain ⟨T332, X332, e332, st332⟩ := getF X330 hx hZ0 hown0 (host := "") (Or.inl (w_11 hw)) Via.refl e330 F331 (g := (mkF m 174 #[rv a1, iv 1, .val (.long 3), .second, rv b322, rv b324, rv b325, rv b328, iv 0, iv (-1), iv 0, .unset, .unset, .unset] [(.ref a1)])) rfl rfl (hb hby d11_174)
      have F333 := ((((f294_0.ext E322).ext E324).ext E325).ext E328)
      obtain ⟨cl334, Ar334, q334, S334, M334, H334, U334⟩ := id F333
      have hin334 := ((inb_of S334 ⟨(by decide), (by decide)⟩) : ¬ ((0 : Int32) < 0 ∨ cl334.slots.size ≤ ((0 : Int32)).toNatClampNeg))
      refine Go.on (w := T332.setTop (mkF m 182 #[rv a1, iv 1, .val (.long 3), .second, rv b322, rv b324, rv b325, rv b328, iv 0, iv (-1), iv 0, .unset, .unset, .unset] [(.int 32), (.long s0_294)])) (fun t k => st325 _ (XS.astore X325.here hx rfl (hb hby d11_145) rfl rfl (l' := #[rv a1, iv 1, .val (.long 3), .second, rv b322, rv b324, rv b325, .unset, .unset, .unset, .unset, .unset, .unset, .unset]) rfl (XS.aloadN X325.here hx rfl (hb hby d11_147) rfl rfl (st327 _ (st328 _ (XS.astore X328.here hx rfl (hb hby d11_153) rfl rfl (l' := #[rv a1, iv 1, .val (.long 3), .second, rv b322, rv b324, rv b325, rv b328, .unset, .unset, .unset, .unset, .unset, .unset]) rfl (XS.iconst X328.here hx rfl (hb hby d11_155) (XS.istore X328.here hx rfl (hb hby d11_156) rfl (l' := #[rv a1, iv 1, .val (.long 3), .second, rv b322, rv b324, rv b325, rv b328, iv 0, .unset, .unset, .unset, .unset, .unset]) rfl (XS.iconst X328.here hx rfl (hb hby d11_158) (XS.istore X328.here hx rfl (hb hby d11_159) rfl (l' := #[rv a1, iv 1, .val (.long 3), .second, rv b322, rv b324, rv b325, rv b328, iv 0, iv (-1), .unset, .unset, .unset, .unset]) rfl (XS.iconst X328.here hx rfl (hb hby d11_161) (XS.istore X328.here hx rfl (hb hby d11_162) rfl (l' := #[rv a1, iv 1, .val (.long 3), .second, rv b322, rv b324, rv b325, rv b328, iv 0, iv (-1), iv 0, .unset, .unset, .unset]) rfl (XS.iload X328.here hx rfl (hb hby d11_164) rfl (XS.aloadN X328.here hx rfl (hb hby d11_166) rfl rfl (st330 _ (XS.icmpNo X330.here hx rfl (hb hby d11_170) rfl (tlt (by decide : (0 : Int32) < (3 : Int32))).2.1 (XS.aloadN X330.here hx rfl (hb hby d11_173) rfl rfl (st332 _ (XS.iload X332.here hx rfl (hb hby d11_177) rfl (X332.laload hx (j := (0 : Int32)) (v := (.long s0_294)) (by rw [e332]; exact Ar334.1) (State.isArrayOf_alike hZ0.alike Ar334.2.1) Ar334.2.2 hin334 (H334.at hin334 rfl) (g := (mkF m 179 #[rv a1, iv 1, .val (.long 3), .second, rv b322, rv b324, rv b325, rv b328, iv 0, iv (-1), iv 0, .unset, .unset, .unset] [(.int 0), (.ref ks)])) rfl rfl (hb hby d11_179) _ (XS.bipush X332.here hx rfl (hb hby d11_180) k))))))))))))))))))))) ?_
      refine Go.on (w := T332.setTop (mkF m 183 #[rv a1, iv 1, .val (.long 3), .second, rv b322, rv b324, rv b325, rv b328, iv 0, iv (-1), iv 0, .unset, .unset, .unset] [(.long (m0.toInt64))])) (fun t k => XS.lushr X332.here hx rfl (hb hby d11_182) rfl (by rw [(hu0 : ((s0_294.toUInt64 >>> ((32 : Int32) &&& 0x3f).toInt64.toUInt64).toInt64) = (m0.toInt64))]; exact k)) ?_
      refine Go.on (w := T332.setTop (mkF m 184 #[rv a1, iv 1, .val (.long 3), .second, rv b322, rv b324, rv b325, rv b328, iv 0, iv (-1), iv 0, .unset, .unset, .unset] [(.int m0)])) (fun t k => XS.l2i X332.here hx rfl (hb hby d11_183) rfl (by rw [(hm0 : ((m0.toInt64).toInt32) = m0)]; exact k)) ?_
      obtain ⟨T335, X335, e335, st335⟩ := getF X332 hx hZ0 hown0 (host := "") (Or.inl (w_11 hw)) Via.refl e332 F331 (g := (mkF m 187 #[rv a1, iv 1, .val (.long 3), .second, rv b322, rv b324, rv b325, rv b328, iv 0, iv (-1), iv 0, iv m0, .unset, .unset] [(.ref a1)])) rfl rfl (hb hby d11_187)
      obtain ⟨cl336, Ar336, q336, S336, M336, H336, U336⟩ := id F333
      have hin336 := ((inb_of S336 ⟨(by decide), (by decide)⟩) : ¬ ((0 : Int32) < 0 ∨ cl336.slots.size ≤ ((0 : Int32)).toNatClampNeg))
      refine Go.on (w := T335.setTop (mkF m 193 #[rv a1, iv 1, .val (.long 3), .second, rv b322, rv b324, rv b325, rv b328, iv 0, iv (-1), iv 0, iv m0, .unset, .unset] [(.long s0_294)])) (fun t k => XS.istore X332.here hx rfl (hb hby d11_184) rfl (l' := #[rv a1, iv 1, .val (.long 3), .second, rv b322, rv b324, rv b325, rv b328, iv 0, iv (-1), iv 0, iv m0, .unset, .unset]) rfl (XS.aloadN X332.here hx rfl (hb hby d11_186) rfl rfl (st335 _ (XS.iload X335.here hx rfl (hb hby d11_190) rfl (X335.laload hx (j := (0 : Int32)) (v := (.long s0_294)) (by rw [e335]; exact Ar336.1) (State.isArrayOf_alike hZ0.alike Ar336.2.1) Ar336.2.2 hin336 (H336.at hin336 rfl) (g := (mkF m 192 #[rv a1, iv 1, .val (.long 3), .second, rv b322, rv b324, rv b325, rv b328, iv 0, iv (-1), iv 0, iv m0, .unset, .unset] [(.int 0), (.ref ks)])) rfl rfl (hb hby d11_192) _ k))))) ?_
      refine Go.on (w := T335.setTop (mkF m 194 #[rv a1, iv 1, .val (.long 3), .second, rv b322, rv b324, rv b325, rv b328, iv 0, iv (-1), iv 0, iv m0, .unset, .unset] [(.int r0)])) (fun t k => XS.l2i X335.here hx rfl (hb hby d11_193) rfl (by rw [(hl0 : (s0_294.toInt32) = r0)]; exact k)) ?_
      have F337 := (((V322.ext E324).ext E325).ext E328)
      obtain ⟨cl338, Ar338, q338, S338, M338, H338, U338⟩ := id F337
      obtain ⟨T338, h338, X338, e338, W338, st338⟩ := stI X335 hx hZ0 e335 Ar338 (j := (0 : Int32)) (inb_of S338 ⟨(by decide), (by decide)⟩) (g := (mkF m 224 #[rv a1, iv 1, .val (.long 3), .second, rv b322, rv b324, rv b325, rv b328, iv 0, iv 0, iv 0, iv m0, iv r0, iv r0] [(.int m0), (.int 0), (.ref b322)])) rfl rfl (hb hby d11_224)
      have V338 : Arv Z h338 b322 k322 .int (1 : Int32) [(.int m0)] (.int 0) := (Arv.set Ar338 q338 S338 M338 H338 U338 rfl W338 0 rfl (Nat.le_of_ble_eq_true rfl))
      have z338 : h328.size ≤ h338.size := Nat.le_of_eq W338.size.symm
      have KP338 : Keep h0 h338 ([ks] : List Addr) := KP328.wr W338 (Or.inr (by omega))
      have N338 := Fr.snoc X338 N323 (by omega)
      have F339 := ((V325.ext E328).other W338 (show @Ne Nat b325 b322 by omega))
      obtain ⟨cl340, Ar340, q340, S340, M340, H340, U340⟩ := id F339
      obtain ⟨T340, h340, X340, e340, W340, st340⟩ := stI X338 hx hZ0 e338 Ar340 (j := (0 : Int32)) (inb_of S340 ⟨(by decide), (by decide)⟩) (g := (mkF m 231 #[rv a1, iv 1, .val (.long 3), .second, rv b322, rv b324, rv b325, rv b328, iv 0, iv 0, iv 0, iv m0, iv r0, iv r0] [(.int 0), (.int 0), (.ref b325)])) rfl rfl (hb hby d11_231)
      have V340 : Arv Z h340 b325 k325 .int (2 : Int32) [(.int 0), (.int 0)] (.int 0) := (Arv.set Ar340 q340 S340 M340 H340 U340 rfl W340 0 rfl (Nat.le_of_ble_eq_true rfl))
      have z340 : h338.size ≤ h340.size := Nat.le_of_eq W340.size.symm
      have KP340 : Keep h0 h340 ([ks] : List Addr) := KP338.wr W340 (Or.inr (by omega))
      have N340 := Fr.snoc X340 N338 (by omega)
      refine Go.on (w := T340.setTop (mkF m 292 #[rv a1, iv 1, .val (.long 3), .second, rv b322, rv b324, rv b325, rv b328, iv 1, iv 0, iv 0, iv m0, iv r0, iv r0] [(.int r0), (.int 0), (.ref b324)])) (fun t k => XS.istore X335.here hx rfl (hb hby d11_194) rfl (l' := #[rv a1, iv 1, .val (.long 3), .second, rv b322, rv b324, rv b325, rv b328, iv 0, iv (-1), iv 0, iv m0, iv r0, .unset]) rfl (XS.iload X335.here hx rfl (hb hby d11_196) rfl (XS.istore X335.here hx rfl (hb hby d11_198) rfl (l' := #[rv a1, iv 1, .val (.long 3), .second, rv b322, rv b324, rv b325, rv b328, iv 0, iv (-1), iv 0, iv m0, iv r0, iv r0]) rfl (XS.iload X335.here hx rfl (hb hby d11_200) rfl (XS.ifYes X335.here hx rfl (pc0 := 202) (pc' := 215) rfl (hb hby d11_202) rfl ((if0 _ _).trans (tlt (by decide : (-1 : Int32) < (0 : Int32))).1) (by decide) (by decide) (XS.aload X335.here hx rfl (hb hby d11_215) rfl rfl (XS.iinc X335.here hx rfl (hb hby d11_217) rfl (l' := #[rv a1, iv 1, .val (.long 3), .second, rv b322, rv b324, rv b325, rv b328, iv 0, iv 0, iv 0, iv m0, iv r0, iv r0]) rfl (XS.iload X335.here hx rfl (hb hby d11_220) rfl (XS.iload X335.here hx rfl (hb hby d11_222) rfl (st338 _ (XS.aload X338.here hx rfl (hb hby d11_225) rfl rfl (XS.iload X338.here hx rfl (hb hby d11_227) rfl (XS.iload X338.here hx rfl (hb hby d11_229) rfl (st340 _ (XS.goto X340.here hx rfl (pc0 := 232) (pc' := 250) rfl (hb hby d11_232) (by decide) (by decide) (XS.iload X340.here hx rfl (hb hby d11_250) rfl (XS.sipush X340.here hx rfl (hb hby d11_252) (XS.icmpYes X340.here hx rfl (pc0 := 255) (pc' := 283) rfl (hb hby d11_255) rfl (tlt (own_r128 hr0)).1 (by decide) (by decide) (XS.aload X340.here hx rfl (hb hby d11_283) rfl rfl (XS.iload X340.here hx rfl (hb hby d11_285) rfl (XS.iinc X340.here hx rfl (hb hby d11_287) rfl (l' := #[rv a1, iv 1, .val (.long 3), .second, rv b322, rv b324, rv b325, rv b328, iv 1, iv 0, iv 0, iv m0, iv r0, iv r0]) rfl (XS.iload X340.here hx rfl (hb hby d11_290) rfl k)))))))))))))))))))))) ?_
      refine Go.on (w := T340.setTop (mkF m 293 #[rv a1, iv 1, .val (.long 3), .second, rv b322, rv b324, rv b325, rv b328, iv 1, iv 0, iv 0, iv m0, iv r0, iv r0] [(.int r0), (.int 0), (.ref b324)])) (fun t k => XS.i2b X340.here hx rfl (hb hby d11_292) rfl (by rw [(own_r8 hr0 : (r0.toInt8.toInt32) = r0)]; exact k)) ?_
      have F341 := ((((V324.ext E325).ext E328).other W338 (show @Ne Nat b324 b322 by omega)).other W340 (show @Ne Nat b324 b325 by omega))
      obtain ⟨cl342, Ar342, q342, S342, M342, H342, U342⟩ := id F341
      obtain ⟨T342, h342, X342, e342, W342, st342⟩ := stB X340 hx hZ0 e340 Ar342 (j := (0 : Int32)) (inb_of S342 ⟨(by decide), (by decide)⟩) (g := (mkF m 293 #[rv a1, iv 1, .val (.long 3), .second, rv b322, rv b324, rv b325, rv b328, iv 1, iv 0, iv 0, iv m0, iv r0, iv r0] [(.int r0), (.int 0), (.ref b324)])) rfl rfl (hb hby d11_293)
      have V342 : Arv Z h342 b324 k324 .byte (3 : Int32) [(.int r0), (.int 0), (.int 0)] (.int 0) := by rw [← (own_r8n hr0 : nar .byte r0 = r0)]; exact (Arv.set Ar342 q342 S342 M342 H342 U342 (fits_nar_byte _) W342 0 rfl (Nat.le_of_ble_eq_true rfl))
      have z342 : h340.size ≤ h342.size := Nat.le_of_eq W342.size.symm
      have KP342 : Keep h0 h342 ([ks] : List Addr) := KP340.wr W342 (Or.inr (by omega))
      have N342 := Fr.snoc X342 N340 (by omega)
      have F343 := (((V328.other W338 (show @Ne Nat b328 b322 by omega)).other W340 (show @Ne Nat b328 b325 by omega)).other W342 (show @Ne Nat b328 b324 by omega))
      obtain ⟨T344, h344, sl344, y344a, y344b, y344c, X344, e344, W344, V344, st344⟩ := own_st3 X342 hx hZ0 e342 F343 hr0 (g := (mkF m 300 #[rv a1, iv 1, .val (.long 3), .second, rv b322, rv b324, rv b325, rv b328, iv 1, iv 0, iv 0, iv m0, iv r0, iv r0] [(.int 0), (.int r0), (.ref b328)])) rfl rfl (hb hby d11_300)
      have z344 : h342.size ≤ h344.size := Nat.le_of_eq W344.size.symm
      have KP344 : Keep h0 h344 ([ks] : List Addr) := KP342.wr W344 (Or.inr (by omega))
      have N344 := Fr.snoc X344 N342 (by omega)
      have F345 := ((((F329.other W338 (Or.inl (show @Ne Nat a1 b322 by omega))).other W340 (Or.inl (show @Ne Nat a1 b325 by omega))).other W342 (Or.inl (show @Ne Nat a1 b324 by omega))).other W344 (Or.inl (show @Ne Nat a1 b328 by omega)))
      obtain ⟨T346, X346, e346, st346⟩ := getF X344 hx hZ0 hown0 (host := "") (Or.inl (w_21 hw)) Via.refl e344 F345 (g := (mkF m 167 #[rv a1, iv 1, .val (.long 3), .second, rv b322, rv b324, rv b325, rv b328, iv 1, iv 0, iv 1, iv m0, iv r0, iv r0] [(.ref a1), (.int 1)])) rfl rfl (hb hby d11_167)
      have F347 := ((((F331.other W338 (Or.inl (show @Ne Nat a1 b322 by omega))).other W340 (Or.inl (show @Ne Nat a1 b325 by omega))).other W342 (Or.inl (show @Ne Nat a1 b324 by omega))).other W344 (Or.inl (show @Ne Nat a1 b328 by omega)))
      obtain ⟨T348, X348, e348, st348⟩ := getF X346 hx hZ0 hown0 (host := "") (Or.inl (w_11 hw)) Via.refl e346 F347 (g := (mkF m 174 #[rv a1, iv 1, .val (.long 3), .second, rv b322, rv b324, rv b325, rv b328, iv 1, iv 0, iv 1, iv m0, iv r0, iv r0] [(.ref a1)])) rfl rfl (hb hby d11_174)
      have F349 := ((((F333.other W338 (show @Ne Nat ks b322 by omega)).other W340 (show @Ne Nat ks b325 by omega)).other W342 (show @Ne Nat ks b324 by omega)).other W344 (show @Ne Nat ks b328 by omega))
      obtain ⟨cl350, Ar350, q350, S350, M350, H350, U350⟩ := id F349
      have hin350 := ((inb_of S350 ⟨(by decide), (by decide)⟩) : ¬ ((1 : Int32) < 0 ∨ cl350.slots.size ≤ ((1 : Int32)).toNatClampNeg))
      refine Go.on (w := T348.setTop (mkF m 182 #[rv a1, iv 1, .val (.long 3), .second, rv b322, rv b324, rv b325, rv b328, iv 1, iv 0, iv 1, iv m0, iv r0, iv r0] [(.int 32), (.long s1_294)])) (fun t k => st342 _ (XS.aload X342.here hx rfl (hb hby d11_294) rfl rfl (XS.iload X342.here hx rfl (hb hby d11_296) rfl (XS.iload X342.here hx rfl (hb hby d11_298) rfl (st344 _ (XS.iinc X344.here hx rfl (hb hby d11_301) rfl (l' := #[rv a1, iv 1, .val (.long 3), .second, rv b322, rv b324, rv b325, rv b328, iv 1, iv 0, iv 1, iv m0, iv r0, iv r0]) rfl (XS.goto X344.here hx rfl (pc0 := 304) (pc' := 164) rfl (hb hby d11_304) (by decide) (by decide) (XS.iload X344.here hx rfl (hb hby d11_164) rfl (XS.aloadN X344.here hx rfl (hb hby d11_166) rfl rfl (st346 _ (XS.icmpNo X346.here hx rfl (hb hby d11_170) rfl (tlt (by decide : (1 : Int32) < (3 : Int32))).2.1 (XS.aloadN X346.here hx rfl (hb hby d11_173) rfl rfl (st348 _ (XS.iload X348.here hx rfl (hb hby d11_177) rfl (X348.laload hx (j := (1 : Int32)) (v := (.long s1_294)) (by rw [e348]; exact Ar350.1) (State.isArrayOf_alike hZ0.alike Ar350.2.1) Ar350.2.2 hin350 (H350.at hin350 rfl) (g := (mkF m 179 #[rv a1, iv 1, .val (.long 3), .second, rv b322, rv b324, rv b325, rv b328, iv 1, iv 0, iv 1, iv m0, iv r0, iv r0] [(.int 1), (.ref ks)])) rfl rfl (hb hby d11_179) _ (XS.bipush X348.here hx rfl (hb hby d11_180) k)))))))))))))))) ?_
      refine Go.on (w := T348.setTop (mkF m 183 #[rv a1, iv 1, .val (.long 3), .second, rv b322, rv b324, rv b325, rv b328, iv 1, iv 0, iv 1, iv m0, iv r0, iv r0] [(.long (m1.toInt64))])) (fun t k => XS.lushr X348.here hx rfl (hb hby d11_182) rfl (by rw [(hu1 : ((s1_294.toUInt64 >>> ((32 : Int32) &&& 0x3f).toInt64.toUInt64).toInt64) = (m1.toInt64))]; exact k)) ?_
      refine Go.on (w := T348.setTop (mkF m 184 #[rv a1, iv 1, .val (.long 3), .second, rv b322, rv b324, rv b325, rv b328, iv 1, iv 0, iv 1, iv m0, iv r0, iv r0] [(.int m1)])) (fun t k => XS.l2i X348.here hx rfl (hb hby d11_183) rfl (by rw [(hm1 : ((m1.toInt64).toInt32) = m1)]; exact k)) ?_
      obtain ⟨T351, X351, e351, st351⟩ := getF X348 hx hZ0 hown0 (host := "") (Or.inl (w_11 hw)) Via.refl e348 F347 (g := (mkF m 187 #[rv a1, iv 1, .val (.long 3), .second, rv b322, rv b324, rv b325, rv b328, iv 1, iv 0, iv 1, iv m1, iv r0, iv r0] [(.ref a1)])) rfl rfl (hb hby d11_187)
      obtain ⟨cl352, Ar352, q352, S352, M352, H352, U352⟩ := id F349
      have hin352 := ((inb_of S352 ⟨(by decide), (by decide)⟩) : ¬ ((1 : Int32) < 0 ∨ cl352.slots.size ≤ ((1 : Int32)).toNatClampNeg))
      refine Go.on (w := T351.setTop (mkF m 193 #[rv a1, iv 1, .val (.long 3), .second, rv b322, rv b324, rv b325, rv b328, iv 1, iv 0, iv 1, iv m1, iv r0, iv r0] [(.long s1_294)])) (fun t k => XS.istore X348.here hx rfl (hb hby d11_184) rfl (l' := #[rv a1, iv 1, .val (.long 3), .second, rv b322, rv b324, rv b325, rv b328, iv 1, iv 0, iv 1, iv m1, iv r0, iv r0]) rfl (XS.aloadN X348.here hx rfl (hb hby d11_186) rfl rfl (st351 _ (XS.iload X351.here hx rfl (hb hby d11_190) rfl (X351.laload hx (j := (1 : Int32)) (v := (.long s1_294)) (by rw [e351]; exact Ar352.1) (State.isArrayOf_alike hZ0.alike Ar352.2.1) Ar352.2.2 hin352 (H352.at hin352 rfl) (g := (mkF m 192 #[rv a1, iv 1, .val (.long 3), .second, rv b322, rv b324, rv b325, rv b328, iv 1, iv 0, iv 1, iv m1, iv r0, iv r0] [(.int 1), (.ref ks)])) rfl rfl (hb hby d11_192) _ k))))) ?_
      refine Go.on (w := T351.setTop (mkF m 194 #[rv a1, iv 1, .val (.long 3), .second, rv b322, rv b324, rv b325, rv b328, iv 1, iv 0, iv 1, iv m1, iv r0, iv r0] [(.int r1)])) (fun t k => XS.l2i X351.here hx rfl (hb hby d11_193) rfl (by rw [(hl1 : (s1_294.toInt32) = r1)]; exact k)) ?_
      have F353 := (((V338.other W340 (show @Ne Nat b322 b325 by omega)).other W342 (show @Ne Nat b322 b324 by omega)).other W344 (show @Ne Nat b322 b328 by omega))
      obtain ⟨cl354, Ar354, q354, S354, M354, H354, U354⟩ := id F353
      have hin354 := ((inb_of S354 ⟨(by decide), (by decide)⟩) : ¬ ((0 : Int32) < 0 ∨ cl354.slots.size ≤ ((0 : Int32)).toNatClampNeg))
      obtain ⟨T355, X355, e355, st355⟩ := getF X351 hx hZ0 hown0 (host := "") (Or.inl (w_11 hw)) Via.refl e351 F347 (g := (mkF m 238 #[rv a1, iv 1, .val (.long 3), .second, rv b322, rv b324, rv b325, rv b328, iv 1, iv 0, iv 1, iv m1, iv r1, iv r1] [(.ref a1), (.int r1)])) rfl rfl (hb hby d11_238)
      refine Go.on (w := T355.setTop (mkF m 244 #[rv a1, iv 1, .val (.long 3), .second, rv b322, rv b324, rv b325, rv b328, iv 1, iv 0, iv 1, iv m1, iv r1, iv r1] [(.int 1), (.int 1), (.ref ks), (.int r1)])) (fun t k => XS.istore X351.here hx rfl (hb hby d11_194) rfl (l' := #[rv a1, iv 1, .val (.long 3), .second, rv b322, rv b324, rv b325, rv b328, iv 1, iv 0, iv 1, iv m1, iv r1, iv r0]) rfl (XS.iload X351.here hx rfl (hb hby d11_196) rfl (XS.istore X351.here hx rfl (hb hby d11_198) rfl (l' := #[rv a1, iv 1, .val (.long 3), .second, rv b322, rv b324, rv b325, rv b328, iv 1, iv 0, iv 1, iv m1, iv r1, iv r1]) rfl (XS.iload X351.here hx rfl (hb hby d11_200) rfl (XS.ifNo X351.here hx rfl (hb hby d11_202) rfl ((if0 _ _).trans (flt (by decide : ¬ ((0 : Int32) < (0 : Int32)))).1) (XS.aload X351.here hx rfl (hb hby d11_205) rfl rfl (XS.iload X351.here hx rfl (hb hby d11_207) rfl (X351.iaload hx (j := (0 : Int32)) (v := (.int m0)) (by rw [e351]; exact Ar354.1) (State.isArrayOf_alike hZ0.alike Ar354.2.1) Ar354.2.2 hin354 (H354.at hin354 rfl) (g := (mkF m 209 #[rv a1, iv 1, .val (.long 3), .second, rv b322, rv b324, rv b325, rv b328, iv 1, iv 0, iv 1, iv m1, iv r1, iv r1] [(.int 0), (.ref b322)])) rfl rfl (hb hby d11_209) _ (XS.iload X351.here hx rfl (hb hby d11_210) rfl (XS.icmpYes X351.here hx rfl (pc0 := 212) (pc' := 235) rfl (hb hby d11_212) rfl (teq hb1).1 (by decide) (by decide) (XS.iload X351.here hx rfl (hb hby d11_235) rfl (XS.aloadN X351.here hx rfl (hb hby d11_237) rfl rfl (st355 _ (XS.iload X355.here hx rfl (hb hby d11_241) rfl (XS.iconst X355.here hx rfl (hb hby d11_243) k))))))))))))))) ?_
      refine Go.on (w := T355.setTop (mkF m 245 #[rv a1, iv 1, .val (.long 3), .second, rv b322, rv b324, rv b325, rv b328, iv 1, iv 0, iv 1, iv m1, iv r1, iv r1] [(.int 0), (.ref ks), (.int r1)])) (fun t k => XS.isub X355.here hx rfl (hb hby d11_244) rfl (by rw [(by decide : ((1 : Int32) - (1 : Int32)) = (0 : Int32))]; exact k)) ?_
      obtain ⟨cl356, Ar356, q356, S356, M356, H356, U356⟩ := id F349
      have hin356 := ((inb_of S356 ⟨(by decide), (by decide)⟩) : ¬ ((0 : Int32) < 0 ∨ cl356.slots.size ≤ ((0 : Int32)).toNatClampNeg))
      refine Go.on (w := T355.setTop (mkF m 246 #[rv a1, iv 1, .val (.long 3), .second, rv b322, rv b324, rv b325, rv b328, iv 1, iv 0, iv 1, iv m1, iv r1, iv r1] [(.long s0_294), (.int r1)])) (fun t k => X355.laload hx (j := (0 : Int32)) (v := (.long s0_294)) (by rw [e355]; exact Ar356.1) (State.isArrayOf_alike hZ0.alike Ar356.2.1) Ar356.2.2 hin356 (H356.at hin356 rfl) (g := (mkF m 245 #[rv a1, iv 1, .val (.long 3), .second, rv b322, rv b324, rv b325, rv b328, iv 1, iv 0, iv 1, iv m1, iv r1, iv r1] [(.int 0), (.ref ks), (.int r1)])) rfl rfl (hb hby d11_245) _ k) ?_
      refine Go.on (w := T355.setTop (mkF m 247 #[rv a1, iv 1, .val (.long 3), .second, rv b322, rv b324, rv b325, rv b328, iv 1, iv 0, iv 1, iv m1, iv r1, iv r1] [(.int r0), (.int r1)])) (fun t k => XS.l2i X355.here hx rfl (hb hby d11_246) rfl (by rw [(hl0 : (s0_294.toInt32) = r0)]; exact k)) ?_
      refine Go.on (w := T355.setTop (mkF m 292 #[rv a1, iv 1, .val (.long 3), .second, rv b322, rv b324, rv b325, rv b328, iv 2, iv 0, iv 1, iv m1, iv r1, iv (r1 - r0)] [(.int (r1 - r0)), (.int 1), (.ref b324)])) (fun t k => XS.isub X355.here hx rfl (hb hby d11_247) rfl (XS.istore X355.here hx rfl (hb hby d11_248) rfl (l' := #[rv a1, iv 1, .val (.long 3), .second, rv b322, rv b324, rv b325, rv b328, iv 1, iv 0, iv 1, iv m1, iv r1, iv (r1 - r0)]) rfl (XS.iload X355.here hx rfl (hb hby d11_250) rfl (XS.sipush X355.here hx rfl (hb hby d11_252) (XS.icmpYes X355.here hx rfl (pc0 := 255) (pc' := 283) rfl (hb hby d11_255) rfl (tlt (own_d128 hr1 hr0)).1 (by decide) (by decide) (XS.aload X355.here hx rfl (hb hby d11_283) rfl rfl (XS.iload X355.here hx rfl (hb hby d11_285) rfl (XS.iinc X355.here hx rfl (hb hby d11_287) rfl (l' := #[rv a1, iv 1, .val (.long 3), .second, rv b322, rv b324, rv b325, rv b328, iv 2, iv 0, iv 1, iv m1, iv r1, iv (r1 - r0)]) rfl (XS.iload X355.here hx rfl (hb hby d11_290) rfl k))))))))) ?_
      refine Go.on (w := T355.setTop (mkF m 293 #[rv a1, iv 1, .val (.long 3), .second, rv b322, rv b324, rv b325, rv b328, iv 2, iv 0, iv 1, iv m1, iv r1, iv (r1 - r0)] [(.int (r1 - r0)), (.int 1), (.ref b324)])) (fun t k => XS.i2b X355.here hx rfl (hb hby d11_292) rfl (by rw [(own_d8 hr1 hr0 : ((r1 - r0).toInt8.toInt32) = (r1 - r0))]; exact k)) ?_
      have F357 := (V342.other W344 (show @Ne Nat b324 b328 by omega))
      obtain ⟨cl358, Ar358, q358, S358, M358, H358, U358⟩ := id F357
      obtain ⟨T358, h358, X358, e358, W358, st358⟩ := stB X355 hx hZ0 e355 Ar358 (j := (1 : Int32)) (inb_of S358 ⟨(by decide), (by decide)⟩) (g := (mkF m 293 #[rv a1, iv 1, .val (.long 3), .second, rv b322, rv b324, rv b325, rv b328, iv 2, iv 0, iv 1, iv m1, iv r1, iv (r1 - r0)] [(.int (r1 - r0)), (.int 1), (.ref b324)])) rfl rfl (hb hby d11_293)
      have V358 : Arv Z h358 b324 k324 .byte (3 : Int32) [(.int r0), (.int (r1 - r0)), (.int 0)] (.int 0) := by rw [← (own_d8n hr1 hr0 : nar .byte (r1 - r0) = (r1 - r0))]; exact (Arv.set Ar358 q358 S358 M358 H358 U358 (fits_nar_byte _) W358 1 rfl (Nat.le_of_ble_eq_true rfl))
      have z358 : h344.size ≤ h358.size := Nat.le_of_eq W358.size.symm
      have KP358 : Keep h0 h358 ([ks] : List Addr) := KP344.wr W358 (Or.inr (by omega))
      have N358 := Fr.snoc X358 N344 (by omega)
      have F359 := (V344.other W358 (show @Ne Nat b328 b324 by omega))
      obtain ⟨T360, h360, sl360, y360a, y360b, y360c, X360, e360, W360, V360, st360⟩ := own_st3 X358 hx hZ0 e358 F359 hr1 (g := (mkF m 300 #[rv a1, iv 1, .val (.long 3), .second, rv b322, rv b324, rv b325, rv b328, iv 2, iv 0, iv 1, iv m1, iv r1, iv (r1 - r0)] [(.int 0), (.int r1), (.ref b328)])) rfl rfl (hb hby d11_300)
      have z360 : h358.size ≤ h360.size := Nat.le_of_eq W360.size.symm
      have KP360 : Keep h0 h360 ([ks] : List Addr) := KP358.wr W360 (Or.inr (by omega))
      have N360 := Fr.snoc X360 N358 (by omega)
      have F361 := ((F345.other W358 (Or.inl (show @Ne Nat a1 b324 by omega))).other W360 (Or.inl (show @Ne Nat a1 b328 by omega)))
      obtain ⟨T362, X362, e362, st362⟩ := getF X360 hx hZ0 hown0 (host := "") (Or.inl (w_21 hw)) Via.refl e360 F361 (g := (mkF m 167 #[rv a1, iv 1, .val (.long 3), .second, rv b322, rv b324, rv b325, rv b328, iv 2, iv 0, iv 2, iv m1, iv r1, iv (r1 - r0)] [(.ref a1), (.int 2)])) rfl rfl (hb hby d11_167)
      have F363 := ((F347.other W358 (Or.inl (show @Ne Nat a1 b324 by omega))).other W360 (Or.inl (show @Ne Nat a1 b328 by omega)))
      obtain ⟨T364, X364, e364, st364⟩ := getF X362 hx hZ0 hown0 (host := "") (Or.inl (w_11 hw)) Via.refl e362 F363 (g := (mkF m 174 #[rv a1, iv 1, .val (.long 3), .second, rv b322, rv b324, rv b325, rv b328, iv 2, iv 0, iv 2, iv m1, iv r1, iv (r1 - r0)] [(.ref a1)])) rfl rfl (hb hby d11_174)
      have F365 := ((F349.other W358 (show @Ne Nat ks b324 by omega)).other W360 (show @Ne Nat ks b328 by omega))
      obtain ⟨cl366, Ar366, q366, S366, M366, H366, U366⟩ := id F365
      have hin366 := ((inb_of S366 ⟨(by decide), (by decide)⟩) : ¬ ((2 : Int32) < 0 ∨ cl366.slots.size ≤ ((2 : Int32)).toNatClampNeg))
      refine Go.on (w := T364.setTop (mkF m 182 #[rv a1, iv 1, .val (.long 3), .second, rv b322, rv b324, rv b325, rv b328, iv 2, iv 0, iv 2, iv m1, iv r1, iv (r1 - r0)] [(.int 32), (.long s2_294)])) (fun t k => st358 _ (XS.aload X358.here hx rfl (hb hby d11_294) rfl rfl (XS.iload X358.here hx rfl (hb hby d11_296) rfl (XS.iload X358.here hx rfl (hb hby d11_298) rfl (st360 _ (XS.iinc X360.here hx rfl (hb hby d11_301) rfl (l' := #[rv a1, iv 1, .val (.long 3), .second, rv b322, rv b324, rv b325, rv b328, iv 2, iv 0, iv 2, iv m1, iv r1, iv (r1 - r0)]) rfl (XS.goto X360.here hx rfl (pc0 := 304) (pc' := 164) rfl (hb hby d11_304) (by decide) (by decide) (XS.iload X360.here hx rfl (hb hby d11_164) rfl (XS.aloadN X360.here hx rfl (hb hby d11_166) rfl rfl (st362 _ (XS.icmpNo X362.here hx rfl (hb hby d11_170) rfl (tlt (by decide : (2 : Int32) < (3 : Int32))).2.1 (XS.aloadN X362.here hx rfl (hb hby d11_173) rfl rfl (st364 _ (XS.iload X364.here hx rfl (hb hby d11_177) rfl (X364.laload hx (j := (2 : Int32)) (v := (.long s2_294)) (by rw [e364]; exact Ar366.1) (State.isArrayOf_alike hZ0.alike Ar366.2.1) Ar366.2.2 hin366 (H366.at hin366 rfl) (g := (mkF m 179 #[rv a1, iv 1, .val (.long 3), .second, rv b322, rv b324, rv b325, rv b328, iv 2, iv 0, iv 2, iv m1, iv r1, iv (r1 - r0)] [(.int 2), (.ref ks)])) rfl rfl (hb hby d11_179) _ (XS.bipush X364.here hx rfl (hb hby d11_180) k)))))))))))))))) ?_
      refine Go.on (w := T364.setTop (mkF m 183 #[rv a1, iv 1, .val (.long 3), .second, rv b322, rv b324, rv b325, rv b328, iv 2, iv 0, iv 2, iv m1, iv r1, iv (r1 - r0)] [(.long (m2.toInt64))])) (fun t k => XS.lushr X364.here hx rfl (hb hby d11_182) rfl (by rw [(hu2 : ((s2_294.toUInt64 >>> ((32 : Int32) &&& 0x3f).toInt64.toUInt64).toInt64) = (m2.toInt64))]; exact k)) ?_
      refine Go.on (w := T364.setTop (mkF m 184 #[rv a1, iv 1, .val (.long 3), .second, rv b322, rv b324, rv b325, rv b328, iv 2, iv 0, iv 2, iv m1, iv r1, iv (r1 - r0)] [(.int m2)])) (fun t k => XS.l2i X364.here hx rfl (hb hby d11_183) rfl (by rw [(hm2 : ((m2.toInt64).toInt32) = m2)]; exact k)) ?_
      obtain ⟨T367, X367, e367, st367⟩ := getF X364 hx hZ0 hown0 (host := "") (Or.inl (w_11 hw)) Via.refl e364 F363 (g := (mkF m 187 #[rv a1, iv 1, .val (.long 3), .second, rv b322, rv b324, rv b325, rv b328, iv 2, iv 0, iv 2, iv m2, iv r1, iv (r1 - r0)] [(.ref a1)])) rfl rfl (hb hby d11_187)
      obtain ⟨cl368, Ar368, q368, S368, M368, H368, U368⟩ := id F365
      have hin368 := ((inb_of S368 ⟨(by decide), (by decide)⟩) : ¬ ((2 : Int32) < 0 ∨ cl368.slots.size ≤ ((2 : Int32)).toNatClampNeg))
      refine Go.on (w := T367.setTop (mkF m 193 #[rv a1, iv 1, .val (.long 3), .second, rv b322, rv b324, rv b325, rv b328, iv 2, iv 0, iv 2, iv m2, iv r1, iv (r1 - r0)] [(.long s2_294)])) (fun t k => XS.istore X364.here hx rfl (hb hby d11_184) rfl (l' := #[rv a1, iv 1, .val (.long 3), .second, rv b322, rv b324, rv b325, rv b328, iv 2, iv 0, iv 2, iv m2, iv r1, iv (r1 - r0)]) rfl (XS.aloadN X364.here hx rfl (hb hby d11_186) rfl rfl (st367 _ (XS.iload X367.here hx rfl (hb hby d11_190) rfl (X367.laload hx (j := (2 : Int32)) (v := (.long s2_294)) (by rw [e367]; exact Ar368.1) (State.isArrayOf_alike hZ0.alike Ar368.2.1) Ar368.2.2 hin368 (H368.at hin368 rfl) (g := (mkF m 192 #[rv a1, iv 1, .val (.long 3), .second, rv b322, rv b324, rv b325, rv b328, iv 2, iv 0, iv 2, iv m2, iv r1, iv (r1 - r0)] [(.int 2), (.ref ks)])) rfl rfl (hb hby d11_192) _ k))))) ?_
      refine Go.on (w := T367.setTop (mkF m 194 #[rv a1, iv 1, .val (.long 3), .second, rv b322, rv b324, rv b325, rv b328, iv 2, iv 0, iv 2, iv m2, iv r1, iv (r1 - r0)] [(.int r2)])) (fun t k => XS.l2i X367.here hx rfl (hb hby d11_193) rfl (by rw [(hl2 : (s2_294.toInt32) = r2)]; exact k)) ?_
      have F369 := ((F353.other W358 (show @Ne Nat b322 b324 by omega)).other W360 (show @Ne Nat b322 b328 by omega))
      obtain ⟨cl370, Ar370, q370, S370, M370, H370, U370⟩ := id F369
      have hin370 := ((inb_of S370 ⟨(by decide), (by decide)⟩) : ¬ ((0 : Int32) < 0 ∨ cl370.slots.size ≤ ((0 : Int32)).toNatClampNeg))
      obtain ⟨T371, X371, e371, st371⟩ := getF X367 hx hZ0 hown0 (host := "") (Or.inl (w_11 hw)) Via.refl e367 F363 (g := (mkF m 238 #[rv a1, iv 1, .val (.long 3), .second, rv b322, rv b324, rv b325, rv b328, iv 2, iv 0, iv 2, iv m2, iv r2, iv r2] [(.ref a1), (.int r2)])) rfl rfl (hb hby d11_238)
      refine Go.on (w := T371.setTop (mkF m 244 #[rv a1, iv 1, .val (.long 3), .second, rv b322, rv b324, rv b325, rv b328, iv 2, iv 0, iv 2, iv m2, iv r2, iv r2] [(.int 1), (.int 2), (.ref ks), (.int r2)])) (fun t k => XS.istore X367.here hx rfl (hb hby d11_194) rfl (l' := #[rv a1, iv 1, .val (.long 3), .second, rv b322, rv b324, rv b325, rv b328, iv 2, iv 0, iv 2, iv m2, iv r2, iv (r1 - r0)]) rfl (XS.iload X367.here hx rfl (hb hby d11_196) rfl (XS.istore X367.here hx rfl (hb hby d11_198) rfl (l' := #[rv a1, iv 1, .val (.long 3), .second, rv b322, rv b324, rv b325, rv b328, iv 2, iv 0, iv 2, iv m2, iv r2, iv r2]) rfl (XS.iload X367.here hx rfl (hb hby d11_200) rfl (XS.ifNo X367.here hx rfl (hb hby d11_202) rfl ((if0 _ _).trans (flt (by decide : ¬ ((0 : Int32) < (0 : Int32)))).1) (XS.aload X367.here hx rfl (hb hby d11_205) rfl rfl (XS.iload X367.here hx rfl (hb hby d11_207) rfl (X367.iaload hx (j := (0 : Int32)) (v := (.int m0)) (by rw [e367]; exact Ar370.1) (State.isArrayOf_alike hZ0.alike Ar370.2.1) Ar370.2.2 hin370 (H370.at hin370 rfl) (g := (mkF m 209 #[rv a1, iv 1, .val (.long 3), .second, rv b322, rv b324, rv b325, rv b328, iv 2, iv 0, iv 2, iv m2, iv r2, iv r2] [(.int 0), (.ref b322)])) rfl rfl (hb hby d11_209) _ (XS.iload X367.here hx rfl (hb hby d11_210) rfl (XS.icmpYes X367.here hx rfl (pc0 := 212) (pc' := 235) rfl (hb hby d11_212) rfl (teq (hb1.trans hb2)).1 (by decide) (by decide) (XS.iload X367.here hx rfl (hb hby d11_235) rfl (XS.aloadN X367.here hx rfl (hb hby d11_237) rfl rfl (st371 _ (XS.iload X371.here hx rfl (hb hby d11_241) rfl (XS.iconst X371.here hx rfl (hb hby d11_243) k))))))))))))))) ?_
      refine Go.on (w := T371.setTop (mkF m 245 #[rv a1, iv 1, .val (.long 3), .second, rv b322, rv b324, rv b325, rv b328, iv 2, iv 0, iv 2, iv m2, iv r2, iv r2] [(.int 1), (.ref ks), (.int r2)])) (fun t k => XS.isub X371.here hx rfl (hb hby d11_244) rfl (by rw [(by decide : ((2 : Int32) - (1 : Int32)) = (1 : Int32))]; exact k)) ?_
      obtain ⟨cl372, Ar372, q372, S372, M372, H372, U372⟩ := id F365
      have hin372 := ((inb_of S372 ⟨(by decide), (by decide)⟩) : ¬ ((1 : Int32) < 0 ∨ cl372.slots.size ≤ ((1 : Int32)).toNatClampNeg))
      refine Go.on (w := T371.setTop (mkF m 246 #[rv a1, iv 1, .val (.long 3), .second, rv b322, rv b324, rv b325, rv b328, iv 2, iv 0, iv 2, iv m2, iv r2, iv r2] [(.long s1_294), (.int r2)])) (fun t k => X371.laload hx (j := (1 : Int32)) (v := (.long s1_294)) (by rw [e371]; exact Ar372.1) (State.isArrayOf_alike hZ0.alike Ar372.2.1) Ar372.2.2 hin372 (H372.at hin372 rfl) (g := (mkF m 245 #[rv a1, iv 1, .val (.long 3), .second, rv b322, rv b324, rv b325, rv b328, iv 2, iv 0, iv 2, iv m2, iv r2, iv r2] [(.int 1), (.ref ks), (.int r2)])) rfl rfl (hb hby d11_245) _ k) ?_
      refine Go.on (w := T371.setTop (mkF m 247 #[rv a1, iv 1, .val (.long 3), .second, rv b322, rv b324, rv b325, rv b328, iv 2, iv 0, iv 2, iv m2, iv r2, iv r2] [(.int r1), (.int r2)])) (fun t k => XS.l2i X371.here hx rfl (hb hby d11_246) rfl (by rw [(hl1 : (s1_294.toInt32) = r1)]; exact k)) ?_
      refine Go.on (w := T371.setTop (mkF m 292 #[rv a1, iv 1, .val (.long 3), .second, rv b322, rv b324, rv b325, rv b328, iv 3, iv 0, iv 2, iv m2, iv r2, iv (r2 - r1)] [(.int (r2 - r1)), (.int 2), (.ref b324)])) (fun t k => XS.isub X371.here hx rfl (hb hby d11_247) rfl (XS.istore X371.here hx rfl (hb hby d11_248) rfl (l' := #[rv a1, iv 1, .val (.long 3), .second, rv b322, rv b324, rv b325, rv b328, iv 2, iv 0, iv 2, iv m2, iv r2, iv (r2 - r1)]) rfl (XS.iload X371.here hx rfl (hb hby d11_250) rfl (XS.sipush X371.here hx rfl (hb hby d11_252) (XS.icmpYes X371.here hx rfl (pc0 := 255) (pc' := 283) rfl (hb hby d11_255) rfl (tlt (own_d128 hr2 hr1)).1 (by decide) (by decide) (XS.aload X371.here hx rfl (hb hby d11_283) rfl rfl (XS.iload X371.here hx rfl (hb hby d11_285) rfl (XS.iinc X371.here hx rfl (hb hby d11_287) rfl (l' := #[rv a1, iv 1, .val (.long 3), .second, rv b322, rv b324, rv b325, rv b328, iv 3, iv 0, iv 2, iv m2, iv r2, iv (r2 - r1)]) rfl (XS.iload X371.here hx rfl (hb hby d11_290) rfl k))))))))) ?_
      refine Go.on (w := T371.setTop (mkF m 293 #[rv a1, iv 1, .val (.long 3), .second, rv b322, rv b324, rv b325, rv b328, iv 3, iv 0, iv 2, iv m2, iv r2, iv (r2 - r1)] [(.int (r2 - r1)), (.int 2), (.ref b324)])) (fun t k => XS.i2b X371.here hx rfl (hb hby d11_292) rfl (by rw [(own_d8 hr2 hr1 : ((r2 - r1).toInt8.toInt32) = (r2 - r1))]; exact k)) ?_
      have F373 := (V358.other W360 (show @Ne Nat b324 b328 by omega))
      obtain ⟨cl374, Ar374, q374, S374, M374, H374, U374⟩ := id F373
      obtain ⟨T374, h374, X374, e374, W374, st374⟩ := stB X371 hx hZ0 e371 Ar374 (j := (2 : Int32)) (inb_of S374 ⟨(by decide), (by decide)⟩) (g := (mkF m 293 #[rv a1, iv 1, .val (.long 3), .second, rv b322, rv b324, rv b325, rv b328, iv 3, iv 0, iv 2, iv m2, iv r2, iv (r2 - r1)] [(.int (r2 - r1)), (.int 2), (.ref b324)])) rfl rfl (hb hby d11_293)
      have V374 : Arv Z h374 b324 k324 .byte (3 : Int32) [(.int r0), (.int (r1 - r0)), (.int (r2 - r1))] (.int 0) := by rw [← (own_d8n hr2 hr1 : nar .byte (r2 - r1) = (r2 - r1))]; exact (Arv.set Ar374 q374 S374 M374 H374 U374 (fits_nar_byte _) W374 2 rfl (Nat.le_of_ble_eq_true rfl))
      have z374 : h360.size ≤ h374.size := Nat.le_of_eq W374.size.symm
      have KP374 : Keep h0 h374 ([ks] : List Addr) := KP360.wr W374 (Or.inr (by omega))
      have N374 := Fr.snoc X374 N360 (by omega)
      have F375 := (V360.other W374 (show @Ne Nat b328 b324 by omega))
      obtain ⟨T376, h376, sl376, y376a, y376b, y376c, X376, e376, W376, V376, st376⟩ := own_st3 X374 hx hZ0 e374 F375 hr2 (g := (mkF m 300 #[rv a1, iv 1, .val (.long 3), .second, rv b322, rv b324, rv b325, rv b328, iv 3, iv 0, iv 2, iv m2, iv r2, iv (r2 - r1)] [(.int 0), (.int r2), (.ref b328)])) rfl rfl (hb hby d11_300)
      have z376 : h374.size ≤ h376.size := Nat.le_of_eq W376.size.symm
      have KP376 : Keep h0 h376 ([ks] : List Addr) := KP374.wr W376 (Or.inr (by omega))
      have N376 := Fr.snoc X376 N374 (by omega)
      have F377 := ((F361.other W374 (Or.inl (show @Ne Nat a1 b324 by omega))).other W376 (Or.inl (show @Ne Nat a1 b328 by omega)))
      obtain ⟨T378, X378, e378, st378⟩ := getF X376 hx hZ0 hown0 (host := "") (Or.inl (w_21 hw)) Via.refl e376 F377 (g := (mkF m 167 #[rv a1, iv 1, .val (.long 3), .second, rv b322, rv b324, rv b325, rv b328, iv 3, iv 0, iv 3, iv m2, iv r2, iv (r2 - r1)] [(.ref a1), (.int 3)])) rfl rfl (hb hby d11_167)
      have F379 := ((((((V340.other W342 (show @Ne Nat b325 b324 by omega)).other W344 (show @Ne Nat b325 b328 by omega)).other W358 (show @Ne Nat b325 b324 by omega)).other W360 (show @Ne Nat b325 b328 by omega)).other W374 (show @Ne Nat b325 b324 by omega)).other W376 (show @Ne Nat b325 b328 by omega))
      obtain ⟨cl380, Ar380, q380, S380, M380, H380, U380⟩ := id F379
      obtain ⟨T380, h380, X380, e380, W380, st380⟩ := stI X378 hx hZ0 e378 Ar380 (j := (1 : Int32)) (inb_of S380 ⟨(by decide), (by decide)⟩) (g := (mkF m 312 #[rv a1, iv 1, .val (.long 3), .second, rv b322, rv b324, rv b325, rv b328, iv 3, iv 0, iv 3, iv m2, iv r2, iv (r2 - r1)] [(.int 3), (.int 1), (.ref b325)])) rfl rfl (hb hby d11_312)
      have V380 : Arv Z h380 b325 k325 .int (2 : Int32) [(.int 0), (.int 3)] (.int 0) := (Arv.set Ar380 q380 S380 M380 H380 U380 rfl W380 1 rfl (Nat.le_of_ble_eq_true rfl))
      have z380 : h376.size ≤ h380.size := Nat.le_of_eq W380.size.symm
      have KP380 : Keep h0 h380 ([ks] : List Addr) := KP376.wr W380 (Or.inr (by omega))
      have N380 := Fr.snoc X380 N376 (by omega)
      have F381 := (F377.other W380 (Or.inl (show @Ne Nat a1 b325 by omega)))
      obtain ⟨T382, X382, e382, st382⟩ := getF X380 hx hZ0 hown0 (host := "") (Or.inl (w_21 hw)) Via.refl e380 F381 (g := (mkF m 314 #[rv a1, iv 1, .val (.long 3), .second, rv b322, rv b324, rv b325, rv b328, iv 3, iv 0, iv 3, iv m2, iv r2, iv (r2 - r1)] [(.ref a1)])) rfl rfl (hb hby d11_314)
      refine Go.on (w := T382.setTop (mkF m 319 #[rv a1, iv 1, .val (.long 3), .second, rv b322, rv b324, rv b325, rv b328, iv 3, iv 0, iv 3, iv m2, iv r2, iv (r2 - r1)] [(.int 64), (.int 3)])) (fun t k => st374 _ (XS.aload X374.here hx rfl (hb hby d11_294) rfl rfl (XS.iload X374.here hx rfl (hb hby d11_296) rfl (XS.iload X374.here hx rfl (hb hby d11_298) rfl (st376 _ (XS.iinc X376.here hx rfl (hb hby d11_301) rfl (l' := #[rv a1, iv 1, .val (.long 3), .second, rv b322, rv b324, rv b325, rv b328, iv 3, iv 0, iv 3, iv m2, iv r2, iv (r2 - r1)]) rfl (XS.goto X376.here hx rfl (pc0 := 304) (pc' := 164) rfl (hb hby d11_304) (by decide) (by decide) (XS.iload X376.here hx rfl (hb hby d11_164) rfl (XS.aloadN X376.here hx rfl (hb hby d11_166) rfl rfl (st378 _ (XS.icmpYes X378.here hx rfl (pc0 := 170) (pc' := 307) rfl (hb hby d11_170) rfl (flt (by decide : ¬ ((3 : Int32) < (3 : Int32)))).2.1 (by decide) (by decide) (XS.aload X378.here hx rfl (hb hby d11_307) rfl rfl (XS.iloadN X378.here hx rfl (hb hby d11_309) rfl (XS.iload X378.here hx rfl (hb hby d11_310) rfl (st380 _ (XS.aloadN X380.here hx rfl (hb hby d11_313) rfl rfl (st382 _ (XS.bipush X382.here hx rfl (hb hby d11_317) k)))))))))))))))))) ?_
      refine Go.on (w := T382.setTop (mkF m 320 #[rv a1, iv 1, .val (.long 3), .second, rv b322, rv b324, rv b325, rv b328, iv 3, iv 0, iv 3, iv m2, iv r2, iv (r2 - r1)] [(.int 67)])) (fun t k => XS.iadd X382.here hx rfl (hb hby d11_319) rfl (by rw [(by decide : ((3 : Int32) + (64 : Int32)) = (67 : Int32))]; exact k)) ?_
      refine Go.on (w := T382.setTop (mkF m 321 #[rv a1, iv 1, .val (.long 3), .second, rv b322, rv b324, rv b325, rv b328, iv 3, iv 0, iv 3, iv m2, iv r2, iv (r2 - r1)] [(.int 1), (.int 67)])) (fun t k => XS.iconst X382.here hx rfl (hb hby d11_320) k) ?_
      refine Go.on (w := T382.setTop (mkF m 322 #[rv a1, iv 1, .val (.long 3), .second, rv b322, rv b324, rv b325, rv b328, iv 3, iv 0, iv 3, iv m2, iv r2, iv (r2 - r1)] [(.int 66)])) (fun t k => XS.isub X382.here hx rfl (hb hby d11_321) rfl (by rw [(by decide : ((67 : Int32) - (1 : Int32)) = (66 : Int32))]; exact k)) ?_
      refine Go.on (w := T382.setTop (mkF m 324 #[rv a1, iv 1, .val (.long 3), .second, rv b322, rv b324, rv b325, rv b328, iv 3, iv 0, iv 3, iv m2, iv r2, iv (r2 - r1)] [(.int 64), (.int 66)])) (fun t k => XS.bipush X382.here hx rfl (hb hby d11_322) k) ?_
      refine Go.on (w := T382.setTop (mkF m 325 #[rv a1, iv 1, .val (.long 3), .second, rv b322, rv b324, rv b325, rv b328, iv 3, iv 0, iv 3, iv m2, iv r2, iv (r2 - r1)] [(.int 1)])) (fun t k => XS.idiv X382.here hx rfl (hb hby d11_324) rfl (by decide) (by rw [(by decide : (66 : Int32) / (64 : Int32) = (1 : Int32))]; exact k)) ?_
      obtain ⟨T383, h383, k383, X383, e383, E383, A383, st383⟩ := newP (aty := .long) X382 hx hZ0 (w_10 hw) e382 (g := (mkF m 325 #[rv a1, iv 1, .val (.long 3), .second, rv b322, rv b324, rv b325, rv b328, iv 3, iv 0, iv 3, iv m2, iv r2, iv (r2 - r1)] [(.int 1)])) rfl (hb hby d11_325) rfl (by decide : ¬ ((1 : Int32) < (0 : Int32))) (cap := 1) (by decide) (by decide) (by decide) (by decide)
      obtain ⟨b383, g383⟩ : ∃ z, z = h380.size := ⟨_, rfl⟩
      rw [← g383] at A383 st383
      have V383 : Arv Z h383 b383 k383 .long (1 : Int32) [(.long 0)] (.long 0) := (Arv.new A383 (by decide : ¬ ((1 : Int32) < (0 : Int32)))).pad (pad_rep [] (.long 0) 1)
      have u383 : h383.size > b383 := V383.lt
      have z383 : h380.size ≤ h383.size := E383.1
      have KP383 : Keep h0 h383 ([ks] : List Addr) := KP380.ext E383
      have F384 := (((((((((((((((F_breakCount.keep K294 (ninS ne_a1_ks nin0)).ext E322).ext E324).ext E325).ext E328).other W338 (Or.inl (show @Ne Nat a1 b322 by omega))).other W340 (Or.inl (show @Ne Nat a1 b325 by omega))).other W342 (Or.inl (show @Ne Nat a1 b324 by omega))).other W344 (Or.inl (show @Ne Nat a1 b328 by omega))).other W358 (Or.inl (show @Ne Nat a1 b324 by omega))).other W360 (Or.inl (show @Ne Nat a1 b328 by omega))).other W374 (Or.inl (show @Ne Nat a1 b324 by omega))).other W376 (Or.inl (show @Ne Nat a1 b328 by omega))).other W380 (Or.inl (show @Ne Nat a1 b325 by omega))).ext E383)
      obtain ⟨T385, X385, e385, st385⟩ := getF X383 hx hZ0 hown0 (host := "") (Or.inl (w_53 hw)) Via.refl e383 F384 (g := (mkF m 335 #[rv a1, iv 1, .val (.long 3), .second, rv b322, rv b324, rv b325, rv b328, iv 3, iv 0, rv b383, iv 0, iv r2, iv (r2 - r1)] [(.ref a1), (.int 0)])) rfl rfl (hb hby d11_335)
      obtain ⟨T386, h386, X386, e386, E386, A386, D386, -, st386⟩ := newO X385 hx hZ0 hown0 (w_55 hw) (w_56 hw) (w_57 hw) e385 (g := (mkF m 386 #[rv a1, iv 1, .val (.long 3), .second, rv b322, rv b324, rv b325, rv b328, iv 3, iv 0, rv b383, iv 0, iv r2, iv (r2 - r1)] [])) rfl (hb hby d11_386) (by decide) (by decide)
      obtain ⟨b386, g386⟩ : ∃ z, z = h383.size := ⟨_, rfl⟩
      rw [← g386] at A386 D386 st386
      have u386 : h386.size > b386 := A386.lt
      have z386 : h383.size ≤ h386.size := E386.1
      have KP386 : Keep h0 h386 ([ks] : List Addr) := KP383.ext E386
      have Fn386_65 : Fld Z h386 b386 "com/example/syntagma/syntagma/service/DocumentText" "vocabulary" "[I" .null := D386 (Or.inr (w_65 hw)) (ty := (.array .int)) (by decide)
      have Fn386_67 : Fld Z h386 b386 "com/example/syntagma/syntagma/service/DocumentText" "gaps" "[B" .null := D386 (Or.inr (w_67 hw)) (ty := (.array .byte)) (by decide)
      have Fn386_69 : Fld Z h386 b386 "com/example/syntagma/syntagma/service/DocumentText" "stretched" "Z" (.int 0) := D386 (Or.inr (w_69 hw)) (ty := .boolean) (by decide)
      have Fn386_71 : Fld Z h386 b386 "com/example/syntagma/syntagma/service/DocumentText" "breaks" "[J" .null := D386 (Or.inr (w_71 hw)) (ty := (.array .long)) (by decide)
      have Fn386_73 : Fld Z h386 b386 "com/example/syntagma/syntagma/service/DocumentText" "words" "I" (.int 0) := D386 (Or.inr (w_73 hw)) (ty := .int) (by decide)
      have Fn386_75 : Fld Z h386 b386 "com/example/syntagma/syntagma/service/DocumentText" "firstSentenceWords" "I" (.int 0) := D386 (Or.inr (w_75 hw)) (ty := .int) (by decide)
      have Fn386_82 : Fld Z h386 b386 "com/example/syntagma/syntagma/service/DocumentText" "narrowStarts" "[C" .null := D386 (Or.inr (w_82 hw)) (ty := (.array .char)) (by decide)
      have Fn386_84 : Fld Z h386 b386 "com/example/syntagma/syntagma/service/DocumentText" "wideStarts" "[I" .null := D386 (Or.inr (w_84 hw)) (ty := (.array .int)) (by decide)
      have Fn386_87 : Fld Z h386 b386 "com/example/syntagma/syntagma/service/DocumentText" "narrowPlaces" "[C" .null := D386 (Or.inr (w_87 hw)) (ty := (.array .char)) (by decide)
      have Fn386_89 : Fld Z h386 b386 "com/example/syntagma/syntagma/service/DocumentText" "widePlaces" "[I" .null := D386 (Or.inr (w_89 hw)) (ty := (.array .int)) (by decide)
      have F387 := ((((((((((((((((F_sentences.keep K294 (ninS ne_a1_ks nin0)).ext E322).ext E324).ext E325).ext E328).other W338 (Or.inl (show @Ne Nat a1 b322 by omega))).other W340 (Or.inl (show @Ne Nat a1 b325 by omega))).other W342 (Or.inl (show @Ne Nat a1 b324 by omega))).other W344 (Or.inl (show @Ne Nat a1 b328 by omega))).other W358 (Or.inl (show @Ne Nat a1 b324 by omega))).other W360 (Or.inl (show @Ne Nat a1 b328 by omega))).other W374 (Or.inl (show @Ne Nat a1 b324 by omega))).other W376 (Or.inl (show @Ne Nat a1 b328 by omega))).other W380 (Or.inl (show @Ne Nat a1 b325 by omega))).ext E383).ext E386)
      obtain ⟨T388, X388, e388, st388⟩ := getF X386 hx hZ0 hown0 (host := "") (Or.inl (w_58 hw)) Via.refl e386 F387 (g := (mkF m 401 #[rv a1, iv 1, .val (.long 3), .second, rv b322, rv b324, rv b325, rv b328, iv 3, iv 0, rv b383, iv 0, iv r2, iv (r2 - r1)] [(.ref a1), (.ref b383), (.ref b328), (.ref b325), (.ref b324), (.ref b322), (.ref b386), (.ref b386)])) rfl rfl (hb hby d11_401)
      have F389 := ((F381.ext E383).ext E386)
      obtain ⟨T390, X390, e390, st390⟩ := getF X388 hx hZ0 hown0 (host := "") (Or.inl (w_21 hw)) Via.refl e388 F389 (g := (mkF m 409 #[rv a1, iv 1, .val (.long 3), .second, rv b322, rv b324, rv b325, rv b328, iv 3, iv 0, rv b383, iv 0, iv r2, iv (r2 - r1)] [(.ref a1), (.ref b383), (.ref b328), (.ref b325), (.ref b324), (.ref b322), (.ref b386), (.ref b386)])) rfl rfl (hb hby d11_409)
      have F392 := (((((F369.other W374 (show @Ne Nat b322 b324 by omega)).other W376 (show @Ne Nat b322 b328 by omega)).other W380 (show @Ne Nat b322 b325 by omega)).ext E383).ext E386)
      have F393 := ((((V374.other W376 (show @Ne Nat b324 b328 by omega)).other W380 (show @Ne Nat b324 b325 by omega)).ext E383).ext E386)
      have F394 := ((V380.ext E383).ext E386)
      have F395 := (((V376.other W380 (show @Ne Nat b328 b325 by omega)).ext E383).ext E386)
      obtain ⟨v391, _, ⟨T391, L391, k391, n391⟩, -, X391, ⟨Lc391, hQ391, l391, y391, z391⟩, st391⟩ := X390.specialBackNest hx (y := yM11) rfl hown0 (own_mvMN hZ0 (w_60 hw)) (mvT hZ0 (w_61 hw)) (mvT hZ0 (w_62 hw)) (by decide) (backOf (W := 1) (rmDT1 l Z a0 hw [] b386 b383 b322 k322 b324 k324 b325 k325 b328 k328 m0 r0 (r1 - r0) (r2 - r1) (0 : Int32) (3 : Int32) y376a y376b y376c h386 (by omega) (by omega) A386 Fn386_65 Fn386_67 Fn386_69 Fn386_71 Fn386_73 Fn386_75 Fn386_82 Fn386_84 Fn386_87 Fn386_89 (show @Ne Nat b322 b386 by omega) (show @Ne Nat b324 b386 by omega) (show @Ne Nat b325 b386 by omega) (show @Ne Nat b328 b386 by omega) F392 F393 F394 F395) hZ0 (w_62 hw) (w_57 hw) (by decide) (by decide)) (g := (mkF m 419 #[rv a1, iv 1, .val (.long 3), .second, rv b322, rv b324, rv b325, rv b328, iv 3, iv 0, rv b383, iv 0, iv r2, iv (r2 - r1)] [(.int 3), (.ref b383), (.ref b328), (.ref b325), (.ref b324), (.ref b322), (.ref b386), (.ref b386)])) rfl (by rw [hml]; rfl) (Steps.refl _) (a := b386) (argsL := [(.ref b322), (.ref b324), (.ref b325), (.ref b328), (.ref b383), (.int 3)]) (rest := [(.ref b386)]) (lenOf pd_7 rfl) rfl (by show 2 * 0 + _ ≤ _; exact Nat.le_of_eq rfl) (hb hby d11_419) (fun _ _ => ⟨rfl, e390, (by decide : 6 + 2 ≤ _), (by decide : 20 + 5 ≤ _)⟩)
      dsimp only [Pt.U, Pt.locs, Pt.cells, Pt.slots] at X391 l391 y391 z391 st391 hQ391
      subst l391 y391 z391
      obtain ⟨ns_391, kn_391, rfl, Nq391, K391, f391_0, f391_1, f391_2, f391_3, f391_4⟩ := hQ391
      have N391 := Fr.app N380 Nq391
      have eK391 : T391.heap = T391.heap := rfl
      have z391 : h386.size ≤ T391.heap.size := K391.1
      have KP391 : Keep h0 T391.heap ([ks] : List Addr) := KP386.trans K391 (allS (P := fun x => x ∈ ([ks] : List Addr) ∨ h0.size ≤ x) (Or.inr (by omega)) all0)
      have u391_4 : T391.heap.size > ns_391 := f391_4.lt
      have V396 : Arv Z T391.heap ns_391 kn_391 .char (2 : Int32) [(.int 0), (.int 3), (.int 0), (.int 0)] (.int 0) := by
        have q := f391_4
        simp only [own_nc0, own_nc1, own_nc2, own_nc3] at q
        exact q.pad (pad_rep [(.int 0), (.int 3)] (.int 0) 2)
      have F397 := (F393.keep K391 (ninS (show @Ne Nat b324 b386 by omega) nin0))
      refine Go.on (w := T391.setTop (mkF m 422 #[rv a1, iv 1, .val (.long 3), .second, rv b322, rv b324, rv b325, rv b328, iv 3, iv 0, rv b383, iv 0, iv r2, iv (r2 - r1)] [(.ref b386)])) (fun t k => st383 _ (XS.astore X383.here hx rfl (hb hby d11_327) rfl rfl (l' := #[rv a1, iv 1, .val (.long 3), .second, rv b322, rv b324, rv b325, rv b328, iv 3, iv 0, rv b383, iv m2, iv r2, iv (r2 - r1)]) rfl (XS.iconst X383.here hx rfl (hb hby d11_329) (XS.istore X383.here hx rfl (hb hby d11_330) rfl (l' := #[rv a1, iv 1, .val (.long 3), .second, rv b322, rv b324, rv b325, rv b328, iv 3, iv 0, rv b383, iv 0, iv r2, iv (r2 - r1)]) rfl (XS.iload X383.here hx rfl (hb hby d11_332) rfl (XS.aloadN X383.here hx rfl (hb hby d11_334) rfl rfl (st385 _ (XS.icmpYes X385.here hx rfl (pc0 := 338) (pc' := 386) rfl (hb hby d11_338) rfl (flt (by decide : ¬ ((0 : Int32) < (0 : Int32)))).2.1 (by decide) (by decide) (st386 _ (XS.dup X386.here hx rfl (hb hby d11_389) rfl rfl (XS.aload X386.here hx rfl (hb hby d11_390) rfl rfl (XS.aload X386.here hx rfl (hb hby d11_392) rfl rfl (XS.aload X386.here hx rfl (hb hby d11_394) rfl rfl (XS.aload X386.here hx rfl (hb hby d11_396) rfl rfl (XS.aload X386.here hx rfl (hb hby d11_398) rfl rfl (XS.aloadN X386.here hx rfl (hb hby d11_400) rfl rfl (st388 _ (XS.iconst X388.here hx rfl (hb hby d11_404) (XS.icmpNo X388.here hx rfl (hb hby d11_405) rfl (tlt (by decide : (0 : Int32) < (2 : Int32))).2.1 (XS.aloadN X388.here hx rfl (hb hby d11_408) rfl rfl (st390 _ (XS.goto X390.here hx rfl (pc0 := 412) (pc' := 419) rfl (hb hby d11_412) (by decide) (by decide) (st391.trans k))))))))))))))))))))))) ?_
      refine Go.finH X391 hlk (v := some (.ref b386)) (fun h => by rw [Bd.returns] at h; cases h) (fun fs hr => ?_) (endH (Q := Q_rmBuild Z a1 ks kk n0 n1 n2 h0) (by rw [eK391]; exact ⟨b386, b324, k324, ns_391, kn_391, (2 : Int32), (3 : Int32), (0 : Int32), (0 : Int32), r0, (r1 - r0), (r2 - r1), rfl, N391, KP391, (by omega), (by omega), (by omega), f391_1, f391_2, f391_3, F397, V396, ⟨m0, r0, m1, r1, m2, r2, hpm, Or.inr (Or.inr (Or.inr ⟨hb1, hb2, rfl, rfl, rfl, rfl, rfl, rfl, rfl⟩))⟩⟩) (by decide) (by decide))
      exact retOut X391 hx Bd.returns rfl (Or.inr (Or.inr (Or.inr (Or.inr ⟨rfl, rfl, rfl⟩)))) (hb hby d11_422) hr
    ·
      have hd1 := own_d3a hpm hb1
      have F398 := (Fw.keep K294 (ninS ne_a1_ks nin0))
      obtain ⟨T399, X399, e399, st399⟩ := getF X294 hx hZ0 hown0 (host := "") (Or.inl (w_21 hw)) Via.refl eK294 F398 (g := (mkF m 22 #[rv a1, iv 0, .val (.long 0), .second, iv 0, .unset, .unset, .unset, .unset, .unset, .unset, .unset, .unset, .unset] [(.ref a1), (.int 0)])) rfl rfl (hb hby d11_22)
      refine Go.on (w := T399.setTop (mkF m 77 #[rv a1, iv 0, .val (.long 0), .second, iv 0, iv 1, .unset, .unset, .unset, .unset, .unset, .unset, .unset, .unset] [(.int 1), (.int 0)])) (fun t k => XS.iconst X294.here hx rfl (hb hby d11_12) (XS.istoreN X294.here hx rfl (hb hby d11_13) rfl (l' := #[rv a1, iv 0, .unset, .unset, .unset, .unset, .unset, .unset, .unset, .unset, .unset, .unset, .unset, .unset]) rfl (XS.lconst X294.here hx rfl (hb hby d11_14) (XS.lstoreN X294.here hx rfl (hb hby d11_15) rfl (l' := #[rv a1, iv 0, .val (.long 0), .second, .unset, .unset, .unset, .unset, .unset, .unset, .unset, .unset, .unset, .unset]) rfl (XS.iconst X294.here hx rfl (hb hby d11_16) (XS.istore X294.here hx rfl (hb hby d11_17) rfl (l' := #[rv a1, iv 0, .val (.long 0), .second, iv 0, .unset, .unset, .unset, .unset, .unset, .unset, .unset, .unset, .unset]) rfl (XS.iload X294.here hx rfl (hb hby d11_19) rfl (XS.aloadN X294.here hx rfl (hb hby d11_21) rfl rfl (st399 _ (XS.icmpNo X399.here hx rfl (hb hby d11_25) rfl (tlt (by decide : (0 : Int32) < (3 : Int32))).2.1 (XS.iload X399.here hx rfl (hb hby d11_28) rfl (XS.ifYes X399.here hx rfl (pc0 := 30) (pc' := 59) rfl (hb hby d11_30) rfl ((if0 _ _).trans (teq (by decide : (0 : Int32) = (0 : Int32))).1) (by decide) (by decide) (XS.iconst X399.here hx rfl (hb hby d11_59) (XS.goto X399.here hx rfl (pc0 := 60) (pc' := 64) rfl (hb hby d11_60) (by decide) (by decide) (XS.istore X399.here hx rfl (hb hby d11_64) rfl (l' := #[rv a1, iv 0, .val (.long 0), .second, iv 0, iv 1, .unset, .unset, .unset, .unset, .unset, .unset, .unset, .unset]) rfl (XS.iloadN X399.here hx rfl (hb hby d11_66) rfl (XS.iload X399.here hx rfl (hb hby d11_67) rfl (XS.ifNo X399.here hx rfl (hb hby d11_69) rfl ((if0 _ _).trans (feq (by decide : ¬ ((1 : Int32) = (0 : Int32)))).1) (XS.iconst X399.here hx rfl (hb hby d11_72) (XS.goto X399.here hx rfl (pc0 := 73) (pc' := 77) rfl (hb hby d11_73) (by decide) (by decide) k)))))))))))))))))))) ?_
      refine Go.on (w := T399.setTop (mkF m 78 #[rv a1, iv 0, .val (.long 0), .second, iv 0, iv 1, .unset, .unset, .unset, .unset, .unset, .unset, .unset, .unset] [(.int 1)])) (fun t k => XS.iadd X399.here hx rfl (hb hby d11_77) rfl (by rw [(by decide : ((0 : Int32) + (1 : Int32)) = (1 : Int32))]; exact k)) ?_
      have F400 := (Fk.keep K294 (ninS ne_a1_ks nin0))
      obtain ⟨T401, X401, e401, st401⟩ := getF X399 hx hZ0 hown0 (host := "") (Or.inl (w_11 hw)) Via.refl e399 F400 (g := (mkF m 86 #[rv a1, iv 1, .val (.long 0), .second, iv 0, iv 1, .unset, .unset, .unset, .unset, .unset, .unset, .unset, .unset] [(.ref a1), (.long 0)])) rfl rfl (hb hby d11_86)
      obtain ⟨cl402, Ar402, q402, S402, M402, H402, U402⟩ := id f294_0
      have hin402 := ((inb_of S402 ⟨(by decide), (by decide)⟩) : ¬ ((0 : Int32) < 0 ∨ cl402.slots.size ≤ ((0 : Int32)).toNatClampNeg))
      refine Go.on (w := T401.setTop (mkF m 92 #[rv a1, iv 1, .val (.long 0), .second, iv 0, iv 1, .unset, .unset, .unset, .unset, .unset, .unset, .unset, .unset] [(.long s0_294), (.long 0)])) (fun t k => XS.istoreN X399.here hx rfl (hb hby d11_78) rfl (l' := #[rv a1, iv 1, .val (.long 0), .second, iv 0, iv 1, .unset, .unset, .unset, .unset, .unset, .unset, .unset, .unset]) rfl (XS.lloadN X399.here hx rfl (hb hby d11_79) rfl (XS.iload X399.here hx rfl (hb hby d11_80) rfl (XS.ifNo X399.here hx rfl (hb hby d11_82) rfl ((if0 _ _).trans (feq (by decide : ¬ ((1 : Int32) = (0 : Int32)))).1) (XS.aloadN X399.here hx rfl (hb hby d11_85) rfl rfl (st401 _ (XS.iload X401.here hx rfl (hb hby d11_89) rfl (X401.laload hx (j := (0 : Int32)) (v := (.long s0_294)) (by rw [e401]; exact Ar402.1) (State.isArrayOf_alike hZ0.alike Ar402.2.1) Ar402.2.2 hin402 (H402.at hin402 rfl) (g := (mkF m 91 #[rv a1, iv 1, .val (.long 0), .second, iv 0, iv 1, .unset, .unset, .unset, .unset, .unset, .unset, .unset, .unset] [(.int 0), (.ref ks), (.long 0)])) rfl rfl (hb hby d11_91) _ k)))))))) ?_
      refine Go.on (w := T401.setTop (mkF m 93 #[rv a1, iv 1, .val (.long 0), .second, iv 0, iv 1, .unset, .unset, .unset, .unset, .unset, .unset, .unset, .unset] [(.int r0), (.long 0)])) (fun t k => XS.l2i X401.here hx rfl (hb hby d11_92) rfl (by rw [(hl0 : (s0_294.toInt32) = r0)]; exact k)) ?_
      obtain ⟨v403, _, ⟨T403, L403, k403, n403⟩, -, X403, ⟨Lc403, hQ403, l403, y403, z403⟩, st403⟩ := Jvm.LawKit.callS X401 hx (y := yM9) hown0 (mvT hZ0 (w_45 hw)) (mvT hZ0 (w_46 hw)) (mvT hZ0 (w_3 hw)) (mvT hZ0 (w_47 hw)) (by decide) (backOf (W := 2) (rmByt l Z a0 hw [] r0 T294.heap (own_r7s hr0)) hZ0 (w_47 hw) (w_3 hw) (by decide) (by decide)) (g := (mkF m 115 #[rv a1, iv 1, .val (.long 0), .second, iv 0, iv 1, .unset, .unset, .unset, .unset, .unset, .unset, .unset, .unset] [(.int r0), (.long 0)])) rfl (by rw [hml]; rfl) (argsL := [(.int r0)]) (rest := [(.long 0)]) (lenOf pd_5 rfl) rfl (by show 2 * 0 + _ ≤ _; exact Nat.le_of_eq rfl) (hb hby d11_115) (fun _ _ => ⟨rfl, e401, (by decide : 0 + 0 ≤ _), (by decide : 0 + 0 ≤ _)⟩)
      dsimp only [Pt.U, Pt.locs, Pt.cells, Pt.slots] at X403 l403 y403 z403 st403 hQ403
      subst l403 y403 z403
      obtain ⟨rfl, Nq403, eh403⟩ := hQ403
      have N403 := Fr.app N294 Nq403
      refine Go.on (w := T403.setTop (mkF m 118 #[rv a1, iv 1, .val (.long 0), .second, iv 0, iv 1, .unset, .unset, .unset, .unset, .unset, .unset, .unset, .unset] [(.int 1), (.long 0)])) (fun t k => XS.goto X401.here hx rfl (pc0 := 93) (pc' := 115) rfl (hb hby d11_93) (by decide) (by decide) (st403 _ k)) ?_
      refine Go.on (w := T403.setTop (mkF m 119 #[rv a1, iv 1, .val (.long 0), .second, iv 0, iv 1, .unset, .unset, .unset, .unset, .unset, .unset, .unset, .unset] [(.long 1), (.long 0)])) (fun t k => XS.i2l X403.here hx rfl (hb hby d11_118) rfl (by rw [(by decide : ((1 : Int32).toInt64) = (1 : Int64))]; exact k)) ?_
      refine Go.on (w := T403.setTop (mkF m 120 #[rv a1, iv 1, .val (.long 0), .second, iv 0, iv 1, .unset, .unset, .unset, .unset, .unset, .unset, .unset, .unset] [(.long 1)])) (fun t k => XS.ladd X403.here hx rfl (hb hby d11_119) rfl (by rw [(by decide : ((0 : Int64) + (1 : Int64)) = (1 : Int64))]; exact k)) ?_
      obtain ⟨T404, X404, e404, st404⟩ := getF X403 hx hZ0 hown0 (host := "") (Or.inl (w_21 hw)) Via.refl eh403 F398 (g := (mkF m 22 #[rv a1, iv 1, .val (.long 1), .second, iv 1, iv 1, .unset, .unset, .unset, .unset, .unset, .unset, .unset, .unset] [(.ref a1), (.int 1)])) rfl rfl (hb hby d11_22)
      obtain ⟨T405, X405, e405, st405⟩ := getF X404 hx hZ0 hown0 (host := "") (Or.inl (w_11 hw)) Via.refl e404 F400 (g := (mkF m 34 #[rv a1, iv 1, .val (.long 1), .second, iv 1, iv 1, .unset, .unset, .unset, .unset, .unset, .unset, .unset, .unset] [(.ref a1)])) rfl rfl (hb hby d11_34)
      obtain ⟨cl406, Ar406, q406, S406, M406, H406, U406⟩ := id f294_0
      have hin406 := ((inb_of S406 ⟨(by decide), (by decide)⟩) : ¬ ((1 : Int32) < 0 ∨ cl406.slots.size ≤ ((1 : Int32)).toNatClampNeg))
      refine Go.on (w := T405.setTop (mkF m 42 #[rv a1, iv 1, .val (.long 1), .second, iv 1, iv 1, .unset, .unset, .unset, .unset, .unset, .unset, .unset, .unset] [(.int 32), (.long s1_294)])) (fun t k => XS.lstoreN X403.here hx rfl (hb hby d11_120) rfl (l' := #[rv a1, iv 1, .val (.long 1), .second, iv 0, iv 1, .unset, .unset, .unset, .unset, .unset, .unset, .unset, .unset]) rfl (XS.iinc X403.here hx rfl (hb hby d11_121) rfl (l' := #[rv a1, iv 1, .val (.long 1), .second, iv 1, iv 1, .unset, .unset, .unset, .unset, .unset, .unset, .unset, .unset]) rfl (XS.goto X403.here hx rfl (pc0 := 124) (pc' := 19) rfl (hb hby d11_124) (by decide) (by decide) (XS.iload X403.here hx rfl (hb hby d11_19) rfl (XS.aloadN X403.here hx rfl (hb hby d11_21) rfl rfl (st404 _ (XS.icmpNo X404.here hx rfl (hb hby d11_25) rfl (tlt (by decide : (1 : Int32) < (3 : Int32))).2.1 (XS.iload X404.here hx rfl (hb hby d11_28) rfl (XS.ifNo X404.here hx rfl (hb hby d11_30) rfl ((if0 _ _).trans (feq (by decide : ¬ ((1 : Int32) = (0 : Int32)))).1) (XS.aloadN X404.here hx rfl (hb hby d11_33) rfl rfl (st405 _ (XS.iload X405.here hx rfl (hb hby d11_37) rfl (X405.laload hx (j := (1 : Int32)) (v := (.long s1_294)) (by rw [e405]; exact Ar406.1) (State.isArrayOf_alike hZ0.alike Ar406.2.1) Ar406.2.2 hin406 (H406.at hin406 rfl) (g := (mkF m 39 #[rv a1, iv 1, .val (.long 1), .second, iv 1, iv 1, .unset, .unset, .unset, .unset, .unset, .unset, .unset, .unset] [(.int 1), (.ref ks)])) rfl rfl (hb hby d11_39) _ (XS.bipush X405.here hx rfl (hb hby d11_40) k)))))))))))))) ?_
      refine Go.on (w := T405.setTop (mkF m 43 #[rv a1, iv 1, .val (.long 1), .second, iv 1, iv 1, .unset, .unset, .unset, .unset, .unset, .unset, .unset, .unset] [(.long (m1.toInt64))])) (fun t k => XS.lushr X405.here hx rfl (hb hby d11_42) rfl (by rw [(hu1 : ((s1_294.toUInt64 >>> ((32 : Int32) &&& 0x3f).toInt64.toUInt64).toInt64) = (m1.toInt64))]; exact k)) ?_
      obtain ⟨T407, X407, e407, st407⟩ := getF X405 hx hZ0 hown0 (host := "") (Or.inl (w_11 hw)) Via.refl e405 F400 (g := (mkF m 44 #[rv a1, iv 1, .val (.long 1), .second, iv 1, iv 1, .unset, .unset, .unset, .unset, .unset, .unset, .unset, .unset] [(.ref a1), (.long (m1.toInt64))])) rfl rfl (hb hby d11_44)
      refine Go.on (w := T407.setTop (mkF m 50 #[rv a1, iv 1, .val (.long 1), .second, iv 1, iv 1, .unset, .unset, .unset, .unset, .unset, .unset, .unset, .unset] [(.int 1), (.int 1), (.ref ks), (.long (m1.toInt64))])) (fun t k => XS.aloadN X405.here hx rfl (hb hby d11_43) rfl rfl (st407 _ (XS.iload X407.here hx rfl (hb hby d11_47) rfl (XS.iconst X407.here hx rfl (hb hby d11_49) k)))) ?_
      refine Go.on (w := T407.setTop (mkF m 51 #[rv a1, iv 1, .val (.long 1), .second, iv 1, iv 1, .unset, .unset, .unset, .unset, .unset, .unset, .unset, .unset] [(.int 0), (.ref ks), (.long (m1.toInt64))])) (fun t k => XS.isub X407.here hx rfl (hb hby d11_50) rfl (by rw [(by decide : ((1 : Int32) - (1 : Int32)) = (0 : Int32))]; exact k)) ?_
      obtain ⟨cl408, Ar408, q408, S408, M408, H408, U408⟩ := id f294_0
      have hin408 := ((inb_of S408 ⟨(by decide), (by decide)⟩) : ¬ ((0 : Int32) < 0 ∨ cl408.slots.size ≤ ((0 : Int32)).toNatClampNeg))
      refine Go.on (w := T407.setTop (mkF m 54 #[rv a1, iv 1, .val (.long 1), .second, iv 1, iv 1, .unset, .unset, .unset, .unset, .unset, .unset, .unset, .unset] [(.int 32), (.long s0_294), (.long (m1.toInt64))])) (fun t k => X407.laload hx (j := (0 : Int32)) (v := (.long s0_294)) (by rw [e407]; exact Ar408.1) (State.isArrayOf_alike hZ0.alike Ar408.2.1) Ar408.2.2 hin408 (H408.at hin408 rfl) (g := (mkF m 51 #[rv a1, iv 1, .val (.long 1), .second, iv 1, iv 1, .unset, .unset, .unset, .unset, .unset, .unset, .unset, .unset] [(.int 0), (.ref ks), (.long (m1.toInt64))])) rfl rfl (hb hby d11_51) _ (XS.bipush X407.here hx rfl (hb hby d11_52) k)) ?_
      refine Go.on (w := T407.setTop (mkF m 55 #[rv a1, iv 1, .val (.long 1), .second, iv 1, iv 1, .unset, .unset, .unset, .unset, .unset, .unset, .unset, .unset] [(.long (m0.toInt64)), (.long (m1.toInt64))])) (fun t k => XS.lushr X407.here hx rfl (hb hby d11_54) rfl (by rw [(hu0 : ((s0_294.toUInt64 >>> ((32 : Int32) &&& 0x3f).toInt64.toUInt64).toInt64) = (m0.toInt64))]; exact k)) ?_
      refine Go.on (w := T407.setTop (mkF m 77 #[rv a1, iv 1, .val (.long 1), .second, iv 1, iv 0, .unset, .unset, .unset, .unset, .unset, .unset, .unset, .unset] [(.int 0), (.int 1)])) (fun t k => XS.lcmp X407.here hx rfl (hb hby d11_55) rfl (XS.ifYes X407.here hx rfl (pc0 := 56) (pc' := 63) rfl (hb hby d11_56) rfl ((if0 _ _).trans (teq (own_lce hb1)).1) (by decide) (by decide) (XS.iconst X407.here hx rfl (hb hby d11_63) (XS.istore X407.here hx rfl (hb hby d11_64) rfl (l' := #[rv a1, iv 1, .val (.long 1), .second, iv 1, iv 0, .unset, .unset, .unset, .unset, .unset, .unset, .unset, .unset]) rfl (XS.iloadN X407.here hx rfl (hb hby d11_66) rfl (XS.iload X407.here hx rfl (hb hby d11_67) rfl (XS.ifYes X407.here hx rfl (pc0 := 69) (pc' := 76) rfl (hb hby d11_69) rfl ((if0 _ _).trans (teq (by decide : (0 : Int32) = (0 : Int32))).1) (by decide) (by decide) (XS.iconst X407.here hx rfl (hb hby d11_76) k)))))))) ?_
      refine Go.on (w := T407.setTop (mkF m 78 #[rv a1, iv 1, .val (.long 1), .second, iv 1, iv 0, .unset, .unset, .unset, .unset, .unset, .unset, .unset, .unset] [(.int 1)])) (fun t k => XS.iadd X407.here hx rfl (hb hby d11_77) rfl (by rw [(by decide : ((1 : Int32) + (0 : Int32)) = (1 : Int32))]; exact k)) ?_
      obtain ⟨T409, X409, e409, st409⟩ := getF X407 hx hZ0 hown0 (host := "") (Or.inl (w_11 hw)) Via.refl e407 F400 (g := (mkF m 97 #[rv a1, iv 1, .val (.long 1), .second, iv 1, iv 0, .unset, .unset, .unset, .unset, .unset, .unset, .unset, .unset] [(.ref a1), (.long 1)])) rfl rfl (hb hby d11_97)
      obtain ⟨cl410, Ar410, q410, S410, M410, H410, U410⟩ := id f294_0
      have hin410 := ((inb_of S410 ⟨(by decide), (by decide)⟩) : ¬ ((1 : Int32) < 0 ∨ cl410.slots.size ≤ ((1 : Int32)).toNatClampNeg))
      refine Go.on (w := T409.setTop (mkF m 103 #[rv a1, iv 1, .val (.long 1), .second, iv 1, iv 0, .unset, .unset, .unset, .unset, .unset, .unset, .unset, .unset] [(.long s1_294), (.long 1)])) (fun t k => XS.istoreN X407.here hx rfl (hb hby d11_78) rfl (l' := #[rv a1, iv 1, .val (.long 1), .second, iv 1, iv 0, .unset, .unset, .unset, .unset, .unset, .unset, .unset, .unset]) rfl (XS.lloadN X407.here hx rfl (hb hby d11_79) rfl (XS.iload X407.here hx rfl (hb hby d11_80) rfl (XS.ifYes X407.here hx rfl (pc0 := 82) (pc' := 96) rfl (hb hby d11_82) rfl ((if0 _ _).trans (teq (by decide : (0 : Int32) = (0 : Int32))).1) (by decide) (by decide) (XS.aloadN X407.here hx rfl (hb hby d11_96) rfl rfl (st409 _ (XS.iload X409.here hx rfl (hb hby d11_100) rfl (X409.laload hx (j := (1 : Int32)) (v := (.long s1_294)) (by rw [e409]; exact Ar410.1) (State.isArrayOf_alike hZ0.alike Ar410.2.1) Ar410.2.2 hin410 (H410.at hin410 rfl) (g := (mkF m 102 #[rv a1, iv 1, .val (.long 1), .second, iv 1, iv 0, .unset, .unset, .unset, .unset, .unset, .unset, .unset, .unset] [(.int 1), (.ref ks), (.long 1)])) rfl rfl (hb hby d11_102) _ k)))))))) ?_
      refine Go.on (w := T409.setTop (mkF m 104 #[rv a1, iv 1, .val (.long 1), .second, iv 1, iv 0, .unset, .unset, .unset, .unset, .unset, .unset, .unset, .unset] [(.int r1), (.long 1)])) (fun t k => XS.l2i X409.here hx rfl (hb hby d11_103) rfl (by rw [(hl1 : (s1_294.toInt32) = r1)]; exact k)) ?_
      obtain ⟨T411, X411, e411, st411⟩ := getF X409 hx hZ0 hown0 (host := "") (Or.inl (w_11 hw)) Via.refl e409 F400 (g := (mkF m 105 #[rv a1, iv 1, .val (.long 1), .second, iv 1, iv 0, .unset, .unset, .unset, .unset, .unset, .unset, .unset, .unset] [(.ref a1), (.int r1), (.long 1)])) rfl rfl (hb hby d11_105)
      refine Go.on (w := T411.setTop (mkF m 111 #[rv a1, iv 1, .val (.long 1), .second, iv 1, iv 0, .unset, .unset, .unset, .unset, .unset, .unset, .unset, .unset] [(.int 1), (.int 1), (.ref ks), (.int r1), (.long 1)])) (fun t k => XS.aloadN X409.here hx rfl (hb hby d11_104) rfl rfl (st411 _ (XS.iload X411.here hx rfl (hb hby d11_108) rfl (XS.iconst X411.here hx rfl (hb hby d11_110) k)))) ?_
      refine Go.on (w := T411.setTop (mkF m 112 #[rv a1, iv 1, .val (.long 1), .second, iv 1, iv 0, .unset, .unset, .unset, .unset, .unset, .unset, .unset, .unset] [(.int 0), (.ref ks), (.int r1), (.long 1)])) (fun t k => XS.isub X411.here hx rfl (hb hby d11_111) rfl (by rw [(by decide : ((1 : Int32) - (1 : Int32)) = (0 : Int32))]; exact k)) ?_
      obtain ⟨cl412, Ar412, q412, S412, M412, H412, U412⟩ := id f294_0
      have hin412 := ((inb_of S412 ⟨(by decide), (by decide)⟩) : ¬ ((0 : Int32) < 0 ∨ cl412.slots.size ≤ ((0 : Int32)).toNatClampNeg))
      refine Go.on (w := T411.setTop (mkF m 113 #[rv a1, iv 1, .val (.long 1), .second, iv 1, iv 0, .unset, .unset, .unset, .unset, .unset, .unset, .unset, .unset] [(.long s0_294), (.int r1), (.long 1)])) (fun t k => X411.laload hx (j := (0 : Int32)) (v := (.long s0_294)) (by rw [e411]; exact Ar412.1) (State.isArrayOf_alike hZ0.alike Ar412.2.1) Ar412.2.2 hin412 (H412.at hin412 rfl) (g := (mkF m 112 #[rv a1, iv 1, .val (.long 1), .second, iv 1, iv 0, .unset, .unset, .unset, .unset, .unset, .unset, .unset, .unset] [(.int 0), (.ref ks), (.int r1), (.long 1)])) rfl rfl (hb hby d11_112) _ k) ?_
      refine Go.on (w := T411.setTop (mkF m 114 #[rv a1, iv 1, .val (.long 1), .second, iv 1, iv 0, .unset, .unset, .unset, .unset, .unset, .unset, .unset, .unset] [(.int r0), (.int r1), (.long 1)])) (fun t k => XS.l2i X411.here hx rfl (hb hby d11_113) rfl (by rw [(hl0 : (s0_294.toInt32) = r0)]; exact k)) ?_
      obtain ⟨v413, _, ⟨T413, L413, k413, n413⟩, -, X413, ⟨Lc413, hQ413, l413, y413, z413⟩, st413⟩ := Jvm.LawKit.callS X411 hx (y := yM9) hown0 (mvT hZ0 (w_45 hw)) (mvT hZ0 (w_46 hw)) (mvT hZ0 (w_3 hw)) (mvT hZ0 (w_47 hw)) (by decide) (backOf (W := 2) (rmByt l Z a0 hw [] (r1 - r0) T294.heap (own_r7s hd1)) hZ0 (w_47 hw) (w_3 hw) (by decide) (by decide)) (g := (mkF m 115 #[rv a1, iv 1, .val (.long 1), .second, iv 1, iv 0, .unset, .unset, .unset, .unset, .unset, .unset, .unset, .unset] [(.int (r1 - r0)), (.long 1)])) rfl (by rw [hml]; rfl) (argsL := [(.int (r1 - r0))]) (rest := [(.long 1)]) (lenOf pd_5 rfl) rfl (by show 2 * 0 + _ ≤ _; exact Nat.le_of_eq rfl) (hb hby d11_115) (fun _ _ => ⟨rfl, e411, (by decide : 0 + 0 ≤ _), (by decide : 0 + 0 ≤ _)⟩)
      dsimp only [Pt.U, Pt.locs, Pt.cells, Pt.slots] at X413 l413 y413 z413 st413 hQ413
      subst l413 y413 z413
      obtain ⟨rfl, Nq413, eh413⟩ := hQ413
      have N413 := Fr.app N403 Nq413
      refine Go.on (w := T413.setTop (mkF m 118 #[rv a1, iv 1, .val (.long 1), .second, iv 1, iv 0, .unset, .unset, .unset, .unset, .unset, .unset, .unset, .unset] [(.int 1), (.long 1)])) (fun t k => XS.isub X411.here hx rfl (hb hby d11_114) rfl (st413 _ k)) ?_
      refine Go.on (w := T413.setTop (mkF m 119 #[rv a1, iv 1, .val (.long 1), .second, iv 1, iv 0, .unset, .unset, .unset, .unset, .unset, .unset, .unset, .unset] [(.long 1), (.long 1)])) (fun t k => XS.i2l X413.here hx rfl (hb hby d11_118) rfl (by rw [(by decide : ((1 : Int32).toInt64) = (1 : Int64))]; exact k)) ?_
      refine Go.on (w := T413.setTop (mkF m 120 #[rv a1, iv 1, .val (.long 1), .second, iv 1, iv 0, .unset, .unset, .unset, .unset, .unset, .unset, .unset, .unset] [(.long 2)])) (fun t k => XS.ladd X413.here hx rfl (hb hby d11_119) rfl (by rw [(by decide : ((1 : Int64) + (1 : Int64)) = (2 : Int64))]; exact k)) ?_
      obtain ⟨T414, X414, e414, st414⟩ := getF X413 hx hZ0 hown0 (host := "") (Or.inl (w_21 hw)) Via.refl eh413 F398 (g := (mkF m 22 #[rv a1, iv 1, .val (.long 2), .second, iv 2, iv 0, .unset, .unset, .unset, .unset, .unset, .unset, .unset, .unset] [(.ref a1), (.int 2)])) rfl rfl (hb hby d11_22)
      obtain ⟨T415, X415, e415, st415⟩ := getF X414 hx hZ0 hown0 (host := "") (Or.inl (w_11 hw)) Via.refl e414 F400 (g := (mkF m 34 #[rv a1, iv 1, .val (.long 2), .second, iv 2, iv 0, .unset, .unset, .unset, .unset, .unset, .unset, .unset, .unset] [(.ref a1)])) rfl rfl (hb hby d11_34)
      obtain ⟨cl416, Ar416, q416, S416, M416, H416, U416⟩ := id f294_0
      have hin416 := ((inb_of S416 ⟨(by decide), (by decide)⟩) : ¬ ((2 : Int32) < 0 ∨ cl416.slots.size ≤ ((2 : Int32)).toNatClampNeg))
      refine Go.on (w := T415.setTop (mkF m 42 #[rv a1, iv 1, .val (.long 2), .second, iv 2, iv 0, .unset, .unset, .unset, .unset, .unset, .unset, .unset, .unset] [(.int 32), (.long s2_294)])) (fun t k => XS.lstoreN X413.here hx rfl (hb hby d11_120) rfl (l' := #[rv a1, iv 1, .val (.long 2), .second, iv 1, iv 0, .unset, .unset, .unset, .unset, .unset, .unset, .unset, .unset]) rfl (XS.iinc X413.here hx rfl (hb hby d11_121) rfl (l' := #[rv a1, iv 1, .val (.long 2), .second, iv 2, iv 0, .unset, .unset, .unset, .unset, .unset, .unset, .unset, .unset]) rfl (XS.goto X413.here hx rfl (pc0 := 124) (pc' := 19) rfl (hb hby d11_124) (by decide) (by decide) (XS.iload X413.here hx rfl (hb hby d11_19) rfl (XS.aloadN X413.here hx rfl (hb hby d11_21) rfl rfl (st414 _ (XS.icmpNo X414.here hx rfl (hb hby d11_25) rfl (tlt (by decide : (2 : Int32) < (3 : Int32))).2.1 (XS.iload X414.here hx rfl (hb hby d11_28) rfl (XS.ifNo X414.here hx rfl (hb hby d11_30) rfl ((if0 _ _).trans (feq (by decide : ¬ ((2 : Int32) = (0 : Int32)))).1) (XS.aloadN X414.here hx rfl (hb hby d11_33) rfl rfl (st415 _ (XS.iload X415.here hx rfl (hb hby d11_37) rfl (X415.laload hx (j := (2 : Int32)) (v := (.long s2_294)) (by rw [e415]; exact Ar416.1) (State.isArrayOf_alike hZ0.alike Ar416.2.1) Ar416.2.2 hin416 (H416.at hin416 rfl) (g := (mkF m 39 #[rv a1, iv 1, .val (.long 2), .second, iv 2, iv 0, .unset, .unset, .unset, .unset, .unset, .unset, .unset, .unset] [(.int 2), (.ref ks)])) rfl rfl (hb hby d11_39) _ (XS.bipush X415.here hx rfl (hb hby d11_40) k)))))))))))))) ?_
      refine Go.on (w := T415.setTop (mkF m 43 #[rv a1, iv 1, .val (.long 2), .second, iv 2, iv 0, .unset, .unset, .unset, .unset, .unset, .unset, .unset, .unset] [(.long (m2.toInt64))])) (fun t k => XS.lushr X415.here hx rfl (hb hby d11_42) rfl (by rw [(hu2 : ((s2_294.toUInt64 >>> ((32 : Int32) &&& 0x3f).toInt64.toUInt64).toInt64) = (m2.toInt64))]; exact k)) ?_
      obtain ⟨T417, X417, e417, st417⟩ := getF X415 hx hZ0 hown0 (host := "") (Or.inl (w_11 hw)) Via.refl e415 F400 (g := (mkF m 44 #[rv a1, iv 1, .val (.long 2), .second, iv 2, iv 0, .unset, .unset, .unset, .unset, .unset, .unset, .unset, .unset] [(.ref a1), (.long (m2.toInt64))])) rfl rfl (hb hby d11_44)
      refine Go.on (w := T417.setTop (mkF m 50 #[rv a1, iv 1, .val (.long 2), .second, iv 2, iv 0, .unset, .unset, .unset, .unset, .unset, .unset, .unset, .unset] [(.int 1), (.int 2), (.ref ks), (.long (m2.toInt64))])) (fun t k => XS.aloadN X415.here hx rfl (hb hby d11_43) rfl rfl (st417 _ (XS.iload X417.here hx rfl (hb hby d11_47) rfl (XS.iconst X417.here hx rfl (hb hby d11_49) k)))) ?_
      refine Go.on (w := T417.setTop (mkF m 51 #[rv a1, iv 1, .val (.long 2), .second, iv 2, iv 0, .unset, .unset, .unset, .unset, .unset, .unset, .unset, .unset] [(.int 1), (.ref ks), (.long (m2.toInt64))])) (fun t k => XS.isub X417.here hx rfl (hb hby d11_50) rfl (by rw [(by decide : ((2 : Int32) - (1 : Int32)) = (1 : Int32))]; exact k)) ?_
      obtain ⟨cl418, Ar418, q418, S418, M418, H418, U418⟩ := id f294_0
      have hin418 := ((inb_of S418 ⟨(by decide), (by decide)⟩) : ¬ ((1 : Int32) < 0 ∨ cl418.slots.size ≤ ((1 : Int32)).toNatClampNeg))
      refine Go.on (w := T417.setTop (mkF m 54 #[rv a1, iv 1, .val (.long 2), .second, iv 2, iv 0, .unset, .unset, .unset, .unset, .unset, .unset, .unset, .unset] [(.int 32), (.long s1_294), (.long (m2.toInt64))])) (fun t k => X417.laload hx (j := (1 : Int32)) (v := (.long s1_294)) (by rw [e417]; exact Ar418.1) (State.isArrayOf_alike hZ0.alike Ar418.2.1) Ar418.2.2 hin418 (H418.at hin418 rfl) (g := (mkF m 51 #[rv a1, iv 1, .val (.long 2), .second, iv 2, iv 0, .unset, .unset, .unset, .unset, .unset, .unset, .unset, .unset] [(.int 1), (.ref ks), (.long (m2.toInt64))])) rfl rfl (hb hby d11_51) _ (XS.bipush X417.here hx rfl (hb hby d11_52) k)) ?_
      refine Go.on (w := T417.setTop (mkF m 55 #[rv a1, iv 1, .val (.long 2), .second, iv 2, iv 0, .unset, .unset, .unset, .unset, .unset, .unset, .unset, .unset] [(.long (m1.toInt64)), (.long (m2.toInt64))])) (fun t k => XS.lushr X417.here hx rfl (hb hby d11_54) rfl (by rw [(hu1 : ((s1_294.toUInt64 >>> ((32 : Int32) &&& 0x3f).toInt64.toUInt64).toInt64) = (m1.toInt64))]; exact k)) ?_
      refine Go.on (w := T417.setTop (mkF m 77 #[rv a1, iv 1, .val (.long 2), .second, iv 2, iv 1, .unset, .unset, .unset, .unset, .unset, .unset, .unset, .unset] [(.int 1), (.int 1)])) (fun t k => XS.lcmp X417.here hx rfl (hb hby d11_55) rfl (XS.ifNo X417.here hx rfl (hb hby d11_56) rfl ((if0 _ _).trans (feq (own_lcn hb2)).1) (XS.iconst X417.here hx rfl (hb hby d11_59) (XS.goto X417.here hx rfl (pc0 := 60) (pc' := 64) rfl (hb hby d11_60) (by decide) (by decide) (XS.istore X417.here hx rfl (hb hby d11_64) rfl (l' := #[rv a1, iv 1, .val (.long 2), .second, iv 2, iv 1, .unset, .unset, .unset, .unset, .unset, .unset, .unset, .unset]) rfl (XS.iloadN X417.here hx rfl (hb hby d11_66) rfl (XS.iload X417.here hx rfl (hb hby d11_67) rfl (XS.ifNo X417.here hx rfl (hb hby d11_69) rfl ((if0 _ _).trans (feq (by decide : ¬ ((1 : Int32) = (0 : Int32)))).1) (XS.iconst X417.here hx rfl (hb hby d11_72) (XS.goto X417.here hx rfl (pc0 := 73) (pc' := 77) rfl (hb hby d11_73) (by decide) (by decide) k)))))))))) ?_
      refine Go.on (w := T417.setTop (mkF m 78 #[rv a1, iv 1, .val (.long 2), .second, iv 2, iv 1, .unset, .unset, .unset, .unset, .unset, .unset, .unset, .unset] [(.int 2)])) (fun t k => XS.iadd X417.here hx rfl (hb hby d11_77) rfl (by rw [(by decide : ((1 : Int32) + (1 : Int32)) = (2 : Int32))]; exact k)) ?_
      obtain ⟨T419, X419, e419, st419⟩ := getF X417 hx hZ0 hown0 (host := "") (Or.inl (w_11 hw)) Via.refl e417 F400 (g := (mkF m 86 #[rv a1, iv 2, .val (.long 2), .second, iv 2, iv 1, .unset, .unset, .unset, .unset, .unset, .unset, .unset, .unset] [(.ref a1), (.long 2)])) rfl rfl (hb hby d11_86)
      obtain ⟨cl420, Ar420, q420, S420, M420, H420, U420⟩ := id f294_0
      have hin420 := ((inb_of S420 ⟨(by decide), (by decide)⟩) : ¬ ((2 : Int32) < 0 ∨ cl420.slots.size ≤ ((2 : Int32)).toNatClampNeg))
      refine Go.on (w := T419.setTop (mkF m 92 #[rv a1, iv 2, .val (.long 2), .second, iv 2, iv 1, .unset, .unset, .unset, .unset, .unset, .unset, .unset, .unset] [(.long s2_294), (.long 2)])) (fun t k => XS.istoreN X417.here hx rfl (hb hby d11_78) rfl (l' := #[rv a1, iv 2, .val (.long 2), .second, iv 2, iv 1, .unset, .unset, .unset, .unset, .unset, .unset, .unset, .unset]) rfl (XS.lloadN X417.here hx rfl (hb hby d11_79) rfl (XS.iload X417.here hx rfl (hb hby d11_80) rfl (XS.ifNo X417.here hx rfl (hb hby d11_82) rfl ((if0 _ _).trans (feq (by decide : ¬ ((1 : Int32) = (0 : Int32)))).1) (XS.aloadN X417.here hx rfl (hb hby d11_85) rfl rfl (st419 _ (XS.iload X419.here hx rfl (hb hby d11_89) rfl (X419.laload hx (j := (2 : Int32)) (v := (.long s2_294)) (by rw [e419]; exact Ar420.1) (State.isArrayOf_alike hZ0.alike Ar420.2.1) Ar420.2.2 hin420 (H420.at hin420 rfl) (g := (mkF m 91 #[rv a1, iv 2, .val (.long 2), .second, iv 2, iv 1, .unset, .unset, .unset, .unset, .unset, .unset, .unset, .unset] [(.int 2), (.ref ks), (.long 2)])) rfl rfl (hb hby d11_91) _ k)))))))) ?_
      refine Go.on (w := T419.setTop (mkF m 93 #[rv a1, iv 2, .val (.long 2), .second, iv 2, iv 1, .unset, .unset, .unset, .unset, .unset, .unset, .unset, .unset] [(.int r2), (.long 2)])) (fun t k => XS.l2i X419.here hx rfl (hb hby d11_92) rfl (by rw [(hl2 : (s2_294.toInt32) = r2)]; exact k)) ?_
      obtain ⟨v421, _, ⟨T421, L421, k421, n421⟩, -, X421, ⟨Lc421, hQ421, l421, y421, z421⟩, st421⟩ := Jvm.LawKit.callS X419 hx (y := yM9) hown0 (mvT hZ0 (w_45 hw)) (mvT hZ0 (w_46 hw)) (mvT hZ0 (w_3 hw)) (mvT hZ0 (w_47 hw)) (by decide) (backOf (W := 2) (rmByt l Z a0 hw [] r2 T294.heap (own_r7s hr2)) hZ0 (w_47 hw) (w_3 hw) (by decide) (by decide)) (g := (mkF m 115 #[rv a1, iv 2, .val (.long 2), .second, iv 2, iv 1, .unset, .unset, .unset, .unset, .unset, .unset, .unset, .unset] [(.int r2), (.long 2)])) rfl (by rw [hml]; rfl) (argsL := [(.int r2)]) (rest := [(.long 2)]) (lenOf pd_5 rfl) rfl (by show 2 * 0 + _ ≤ _; exact Nat.le_of_eq rfl) (hb hby d11_115) (fun _ _ => ⟨rfl, e419, (by decide : 0 + 0 ≤ _), (by decide : 0 + 0 ≤ _)⟩)
      dsimp only [Pt.U, Pt.locs, Pt.cells, Pt.slots] at X421 l421 y421 z421 st421 hQ421
      subst l421 y421 z421
      obtain ⟨rfl, Nq421, eh421⟩ := hQ421
      have N421 := Fr.app N413 Nq421
      refine Go.on (w := T421.setTop (mkF m 118 #[rv a1, iv 2, .val (.long 2), .second, iv 2, iv 1, .unset, .unset, .unset, .unset, .unset, .unset, .unset, .unset] [(.int 1), (.long 2)])) (fun t k => XS.goto X419.here hx rfl (pc0 := 93) (pc' := 115) rfl (hb hby d11_93) (by decide) (by decide) (st421 _ k)) ?_
      refine Go.on (w := T421.setTop (mkF m 119 #[rv a1, iv 2, .val (.long 2), .second, iv 2, iv 1, .unset, .unset, .unset, .unset, .unset, .unset, .unset, .unset] [(.long 1), (.long 2)])) (fun t k => XS.i2l X421.here hx rfl (hb hby d11_118) rfl (by rw [(by decide : ((1 : Int32).toInt64) = (1 : Int64))]; exact k)) ?_
      refine Go.on (w := T421.setTop (mkF m 120 #[rv a1, iv 2, .val (.long 2), .second, iv 2, iv 1, .unset, .unset, .unset, .unset, .unset, .unset, .unset, .unset] [(.long 3)])) (fun t k => XS.ladd X421.here hx rfl (hb hby d11_119) rfl (by rw [(by decide : ((2 : Int64) + (1 : Int64)) = (3 : Int64))]; exact k)) ?_
      obtain ⟨T422, X422, e422, st422⟩ := getF X421 hx hZ0 hown0 (host := "") (Or.inl (w_21 hw)) Via.refl eh421 F398 (g := (mkF m 22 #[rv a1, iv 2, .val (.long 3), .second, iv 3, iv 1, .unset, .unset, .unset, .unset, .unset, .unset, .unset, .unset] [(.ref a1), (.int 3)])) rfl rfl (hb hby d11_22)
      obtain ⟨T423, h423, k423, X423, e423, E423, A423, st423⟩ := newP (aty := .int) X422 hx hZ0 (w_13 hw) e422 (g := (mkF m 128 #[rv a1, iv 2, .val (.long 3), .second, iv 3, iv 1, .unset, .unset, .unset, .unset, .unset, .unset, .unset, .unset] [(.int 2)])) rfl (hb hby d11_128) rfl (by decide : ¬ ((2 : Int32) < (0 : Int32))) (cap := 2) (by decide) (by decide) (by decide) (by decide)
      obtain ⟨b423, g423⟩ : ∃ z, z = T294.heap.size := ⟨_, rfl⟩
      rw [← g423] at A423 st423
      have V423 : Arv Z h423 b423 k423 .int (2 : Int32) [(.int 0), (.int 0)] (.int 0) := (Arv.new A423 (by decide : ¬ ((2 : Int32) < (0 : Int32)))).pad (pad_rep [] (.int 0) 2)
      have u423 : h423.size > b423 := V423.lt
      have z423 : T294.heap.size ≤ h423.size := E423.1
      have KP423 : Keep h0 h423 ([ks] : List Addr) := KP294.ext E423
      obtain ⟨v424, _, ⟨T424, L424, k424, n424⟩, -, X424, ⟨Lc424, hQ424, l424, y424, z424⟩, st424⟩ := Jvm.LawKit.callS X423 hx (y := yM10) hown0 (mvT hZ0 (w_48 hw)) (mvT hZ0 (w_49 hw)) (mvT hZ0 (w_50 hw)) (mvT hZ0 (w_51 hw)) (by decide) (backOf (W := 0) (rmTie l Z a0 hw [] () h423 ) hZ0 (w_51 hw) (w_50 hw) (by decide) (by decide)) (g := (mkF m 133 #[rv a1, iv 2, .val (.long 3), .second, rv b423, iv 1, .unset, .unset, .unset, .unset, .unset, .unset, .unset, .unset] [(.long 3)])) rfl (by rw [hml]; rfl) (argsL := [(.long 3)]) (rest := []) (lenOf pd_6 rfl) rfl (by show 2 * 0 + _ ≤ _; exact Nat.le_of_eq rfl) (hb hby d11_133) (fun _ _ => ⟨rfl, e423, (by decide : 1 + 0 ≤ _), (by decide : 2 + 0 ≤ _)⟩)
      dsimp only [Pt.U, Pt.locs, Pt.cells, Pt.slots] at X424 l424 y424 z424 st424 hQ424
      subst l424 y424 z424
      obtain ⟨rfl, Nq424, eh424⟩ := hQ424
      have N424 := Fr.app N421 Nq424
      obtain ⟨T425, h425, k425, X425, e425, E425, A425, st425⟩ := newP (aty := .byte) X424 hx hZ0 (w_52 hw) eh424 (g := (mkF m 136 #[rv a1, iv 2, .val (.long 3), .second, rv b423, iv 1, .unset, .unset, .unset, .unset, .unset, .unset, .unset, .unset] [(.int 3)])) rfl (hb hby d11_136) rfl (by decide : ¬ ((3 : Int32) < (0 : Int32))) (cap := 3) (by decide) (by decide) (by decide) (by decide)
      obtain ⟨b425, g425⟩ : ∃ z, z = h423.size := ⟨_, rfl⟩
      rw [← g425] at A425 st425
      have V425 : Arv Z h425 b425 k425 .byte (3 : Int32) [(.int 0), (.int 0), (.int 0)] (.int 0) := (Arv.new A425 (by decide : ¬ ((3 : Int32) < (0 : Int32)))).pad (pad_rep [] (.int 0) 3)
      have u425 : h425.size > b425 := V425.lt
      have z425 : h423.size ≤ h425.size := E425.1
      have KP425 : Keep h0 h425 ([ks] : List Addr) := KP423.ext E425
      refine Go.on (w := T425.setTop (mkF m 142 #[rv a1, iv 2, .val (.long 3), .second, rv b423, rv b425, .unset, .unset, .unset, .unset, .unset, .unset, .unset, .unset] [(.int 1), (.int 2)])) (fun t k => XS.lstoreN X421.here hx rfl (hb hby d11_120) rfl (l' := #[rv a1, iv 2, .val (.long 3), .second, iv 2, iv 1, .unset, .unset, .unset, .unset, .unset, .unset, .unset, .unset]) rfl (XS.iinc X421.here hx rfl (hb hby d11_121) rfl (l' := #[rv a1, iv 2, .val (.long 3), .second, iv 3, iv 1, .unset, .unset, .unset, .unset, .unset, .unset, .unset, .unset]) rfl (XS.goto X421.here hx rfl (pc0 := 124) (pc' := 19) rfl (hb hby d11_124) (by decide) (by decide) (XS.iload X421.here hx rfl (hb hby d11_19) rfl (XS.aloadN X421.here hx rfl (hb hby d11_21) rfl rfl (st422 _ (XS.icmpYes X422.here hx rfl (pc0 := 25) (pc' := 127) rfl (hb hby d11_25) rfl (flt (by decide : ¬ ((3 : Int32) < (3 : Int32)))).2.1 (by decide) (by decide) (XS.iloadN X422.here hx rfl (hb hby d11_127) rfl (st423 _ (XS.astore X423.here hx rfl (hb hby d11_130) rfl rfl (l' := #[rv a1, iv 2, .val (.long 3), .second, rv b423, iv 1, .unset, .unset, .unset, .unset, .unset, .unset, .unset, .unset]) rfl (XS.lloadN X423.here hx rfl (hb hby d11_132) rfl (st424 _ (st425 _ (XS.astore X425.here hx rfl (hb hby d11_138) rfl rfl (l' := #[rv a1, iv 2, .val (.long 3), .second, rv b423, rv b425, .unset, .unset, .unset, .unset, .unset, .unset, .unset, .unset]) rfl (XS.iloadN X425.here hx rfl (hb hby d11_140) rfl (XS.iconst X425.here hx rfl (hb hby d11_141) k)))))))))))))))) ?_
      refine Go.on (w := T425.setTop (mkF m 143 #[rv a1, iv 2, .val (.long 3), .second, rv b423, rv b425, .unset, .unset, .unset, .unset, .unset, .unset, .unset, .unset] [(.int 3)])) (fun t k => XS.iadd X425.here hx rfl (hb hby d11_142) rfl (by rw [(by decide : ((2 : Int32) + (1 : Int32)) = (3 : Int32))]; exact k)) ?_
      obtain ⟨T426, h426, k426, X426, e426, E426, A426, st426⟩ := newP (aty := .int) X425 hx hZ0 (w_13 hw) e425 (g := (mkF m 143 #[rv a1, iv 2, .val (.long 3), .second, rv b423, rv b425, .unset, .unset, .unset, .unset, .unset, .unset, .unset, .unset] [(.int 3)])) rfl (hb hby d11_143) rfl (by decide : ¬ ((3 : Int32) < (0 : Int32))) (cap := 3) (by decide) (by decide) (by decide) (by decide)
      obtain ⟨b426, g426⟩ : ∃ z, z = h425.size := ⟨_, rfl⟩
      rw [← g426] at A426 st426
      have V426 : Arv Z h426 b426 k426 .int (3 : Int32) [(.int 0), (.int 0), (.int 0)] (.int 0) := (Arv.new A426 (by decide : ¬ ((3 : Int32) < (0 : Int32)))).pad (pad_rep [] (.int 0) 3)
      have u426 : h426.size > b426 := V426.lt
      have z426 : h425.size ≤ h426.size := E426.1
      have KP426 : Keep h0 h426 ([ks] : List Addr) := KP425.ext E426
      have F427 := (((F398.ext E423).ext E425).ext E426)
      obtain ⟨T428, X428, e428, st428⟩ := getF X426 hx hZ0 hown0 (host := "") (Or.inl (w_21 hw)) Via.refl e426 F427 (g := (mkF m 148 #[rv a1, iv 2, .val (.long 3), .second, rv b423, rv b425, rv b426, .unset, .unset, .unset, .unset, .unset, .unset, .unset] [(.ref a1)])) rfl rfl (hb hby d11_148)
      obtain ⟨T429, h429, k429, X429, e429, E429, A429, st429⟩ := newP (aty := .int) X428 hx hZ0 (w_13 hw) e428 (g := (mkF m 151 #[rv a1, iv 2, .val (.long 3), .second, rv b423, rv b425, rv b426, .unset, .unset, .unset, .unset, .unset, .unset, .unset] [(.int 3)])) rfl (hb hby d11_151) rfl (by decide : ¬ ((3 : Int32) < (0 : Int32))) (cap := 3) (by decide) (by decide) (by decide) (by decide)
      obtain ⟨b429, g429⟩ : ∃ z, z = h426.size := ⟨_, rfl⟩
      rw [← g429] at A429 st429
      have V429 : Arv Z h429 b429 k429 .int (3 : Int32) [(.int 0), (.int 0), (.int 0)] (.int 0) := (Arv.new A429 (by decide : ¬ ((3 : Int32) < (0 : Int32)))).pad (pad_rep [] (.int 0) 3)
      have u429 : h429.size > b429 := V429.lt
      have z429 : h426.size ≤ h429.size := E429.1
      have KP429 : Keep h0 h429 ([ks] : List Addr) := KP426.ext E429
      have F430 := (F427.ext E429)
      obtain ⟨T431, X431, e431, st431⟩ := getF X429 hx hZ0 hown0 (host := "") (Or.inl (w_21 hw)) Via.refl e429 F430 (g := (mkF m 167 #[rv a1, iv 2, .val (.long 3), .second, rv b423, rv b425, rv b426, rv b429, iv 0, iv (-1), iv 0, .unset, .unset, .unset] [(.ref a1), (.int 0)])) rfl rfl (hb hby d11_167)
      have F432 := ((((F400.ext E423).ext E425).ext E426).ext E429)
      obtain ⟨T433, X433, e433, st433⟩ := getF X431 hx hZ0 hown0 (host := "") (Or.inl (w_11 hw)) Via.refl e431 F432 (g := (mkF m 174 #[rv a1, iv 2, .val (.long 3), .second, rv b423, rv b425, rv b426, rv b429, iv 0, iv (-1), iv 0, .unset, .unset, .unset] [(.ref a1)])) rfl rfl (hb hby d11_174)
      have F434 := ((((f294_0.ext E423).ext E425).ext E426).ext E429)
      obtain ⟨cl435, Ar435, q435, S435, M435, H435, U435⟩ := id F434
      have hin435 := ((inb_of S435 ⟨(by decide), (by decide)⟩) : ¬ ((0 : Int32) < 0 ∨ cl435.slots.size ≤ ((0 : Int32)).toNatClampNeg))
      refine Go.on (w := T433.setTop (mkF m 182 #[rv a1, iv 2, .val (.long 3), .second, rv b423, rv b425, rv b426, rv b429, iv 0, iv (-1), iv 0, .unset, .unset, .unset] [(.int 32), (.long s0_294)])) (fun t k => st426 _ (XS.astore X426.here hx rfl (hb hby d11_145) rfl rfl (l' := #[rv a1, iv 2, .val (.long 3), .second, rv b423, rv b425, rv b426, .unset, .unset, .unset, .unset, .unset, .unset, .unset]) rfl (XS.aloadN X426.here hx rfl (hb hby d11_147) rfl rfl (st428 _ (st429 _ (XS.astore X429.here hx rfl (hb hby d11_153) rfl rfl (l' := #[rv a1, iv 2, .val (.long 3), .second, rv b423, rv b425, rv b426, rv b429, .unset, .unset, .unset, .unset, .unset, .unset]) rfl (XS.iconst X429.here hx rfl (hb hby d11_155) (XS.istore X429.here hx rfl (hb hby d11_156) rfl (l' := #[rv a1, iv 2, .val (.long 3), .second, rv b423, rv b425, rv b426, rv b429, iv 0, .unset, .unset, .unset, .unset, .unset]) rfl (XS.iconst X429.here hx rfl (hb hby d11_158) (XS.istore X429.here hx rfl (hb hby d11_159) rfl (l' := #[rv a1, iv 2, .val (.long 3), .second, rv b423, rv b425, rv b426, rv b429, iv 0, iv (-1), .unset, .unset, .unset, .unset]) rfl (XS.iconst X429.here hx rfl (hb hby d11_161) (XS.istore X429.here hx rfl (hb hby d11_162) rfl (l' := #[rv a1, iv 2, .val (.long 3), .second, rv b423, rv b425, rv b426, rv b429, iv 0, iv (-1), iv 0, .unset, .unset, .unset]) rfl (XS.iload X429.here hx rfl (hb hby d11_164) rfl (XS.aloadN X429.here hx rfl (hb hby d11_166) rfl rfl (st431 _ (XS.icmpNo X431.here hx rfl (hb hby d11_170) rfl (tlt (by decide : (0 : Int32) < (3 : Int32))).2.1 (XS.aloadN X431.here hx rfl (hb hby d11_173) rfl rfl (st433 _ (XS.iload X433.here hx rfl (hb hby d11_177) rfl (X433.laload hx (j := (0 : Int32)) (v := (.long s0_294)) (by rw [e433]; exact Ar435.1) (State.isArrayOf_alike hZ0.alike Ar435.2.1) Ar435.2.2 hin435 (H435.at hin435 rfl) (g := (mkF m 179 #[rv a1, iv 2, .val (.long 3), .second, rv b423, rv b425, rv b426, rv b429, iv 0, iv (-1), iv 0, .unset, .unset, .unset] [(.int 0), (.ref ks)])) rfl rfl (hb hby d11_179) _ (XS.bipush X433.here hx rfl (hb hby d11_180) k))))))))))))))))))))) ?_
      refine Go.on (w := T433.setTop (mkF m 183 #[rv a1, iv 2, .val (.long 3), .second, rv b423, rv b425, rv b426, rv b429, iv 0, iv (-1), iv 0, .unset, .unset, .unset] [(.long (m0.toInt64))])) (fun t k => XS.lushr X433.here hx rfl (hb hby d11_182) rfl (by rw [(hu0 : ((s0_294.toUInt64 >>> ((32 : Int32) &&& 0x3f).toInt64.toUInt64).toInt64) = (m0.toInt64))]; exact k)) ?_
      refine Go.on (w := T433.setTop (mkF m 184 #[rv a1, iv 2, .val (.long 3), .second, rv b423, rv b425, rv b426, rv b429, iv 0, iv (-1), iv 0, .unset, .unset, .unset] [(.int m0)])) (fun t k => XS.l2i X433.here hx rfl (hb hby d11_183) rfl (by rw [(hm0 : ((m0.toInt64).toInt32) = m0)]; exact k)) ?_
      obtain ⟨T436, X436, e436, st436⟩ := getF X433 hx hZ0 hown0 (host := "") (Or.inl (w_11 hw)) Via.refl e433 F432 (g := (mkF m 187 #[rv a1, iv 2, .val (.long 3), .second, rv b423, rv b425, rv b426, rv b429, iv 0, iv (-1), iv 0, iv m0, .unset, .unset] [(.ref a1)])) rfl rfl (hb hby d11_187)
      obtain ⟨cl437, Ar437, q437, S437, M437, H437, U437⟩ := id F434
      have hin437 := ((inb_of S437 ⟨(by decide), (by decide)⟩) : ¬ ((0 : Int32) < 0 ∨ cl437.slots.size ≤ ((0 : Int32)).toNatClampNeg))
      refine Go.on (w := T436.setTop (mkF m 193 #[rv a1, iv 2, .val (.long 3), .second, rv b423, rv b425, rv b426, rv b429, iv 0, iv (-1), iv 0, iv m0, .unset, .unset] [(.long s0_294)])) (fun t k => XS.istore X433.here hx rfl (hb hby d11_184) rfl (l' := #[rv a1, iv 2, .val (.long 3), .second, rv b423, rv b425, rv b426, rv b429, iv 0, iv (-1), iv 0, iv m0, .unset, .unset]) rfl (XS.aloadN X433.here hx rfl (hb hby d11_186) rfl rfl (st436 _ (XS.iload X436.here hx rfl (hb hby d11_190) rfl (X436.laload hx (j := (0 : Int32)) (v := (.long s0_294)) (by rw [e436]; exact Ar437.1) (State.isArrayOf_alike hZ0.alike Ar437.2.1) Ar437.2.2 hin437 (H437.at hin437 rfl) (g := (mkF m 192 #[rv a1, iv 2, .val (.long 3), .second, rv b423, rv b425, rv b426, rv b429, iv 0, iv (-1), iv 0, iv m0, .unset, .unset] [(.int 0), (.ref ks)])) rfl rfl (hb hby d11_192) _ k))))) ?_
      refine Go.on (w := T436.setTop (mkF m 194 #[rv a1, iv 2, .val (.long 3), .second, rv b423, rv b425, rv b426, rv b429, iv 0, iv (-1), iv 0, iv m0, .unset, .unset] [(.int r0)])) (fun t k => XS.l2i X436.here hx rfl (hb hby d11_193) rfl (by rw [(hl0 : (s0_294.toInt32) = r0)]; exact k)) ?_
      have F438 := (((V423.ext E425).ext E426).ext E429)
      obtain ⟨cl439, Ar439, q439, S439, M439, H439, U439⟩ := id F438
      obtain ⟨T439, h439, X439, e439, W439, st439⟩ := stI X436 hx hZ0 e436 Ar439 (j := (0 : Int32)) (inb_of S439 ⟨(by decide), (by decide)⟩) (g := (mkF m 224 #[rv a1, iv 2, .val (.long 3), .second, rv b423, rv b425, rv b426, rv b429, iv 0, iv 0, iv 0, iv m0, iv r0, iv r0] [(.int m0), (.int 0), (.ref b423)])) rfl rfl (hb hby d11_224)
      have V439 : Arv Z h439 b423 k423 .int (2 : Int32) [(.int m0), (.int 0)] (.int 0) := (Arv.set Ar439 q439 S439 M439 H439 U439 rfl W439 0 rfl (Nat.le_of_ble_eq_true rfl))
      have z439 : h429.size ≤ h439.size := Nat.le_of_eq W439.size.symm
      have KP439 : Keep h0 h439 ([ks] : List Addr) := KP429.wr W439 (Or.inr (by omega))
      have N439 := Fr.snoc X439 N424 (by omega)
      have F440 := ((V426.ext E429).other W439 (show @Ne Nat b426 b423 by omega))
      obtain ⟨cl441, Ar441, q441, S441, M441, H441, U441⟩ := id F440
      obtain ⟨T441, h441, X441, e441, W441, st441⟩ := stI X439 hx hZ0 e439 Ar441 (j := (0 : Int32)) (inb_of S441 ⟨(by decide), (by decide)⟩) (g := (mkF m 231 #[rv a1, iv 2, .val (.long 3), .second, rv b423, rv b425, rv b426, rv b429, iv 0, iv 0, iv 0, iv m0, iv r0, iv r0] [(.int 0), (.int 0), (.ref b426)])) rfl rfl (hb hby d11_231)
      have V441 : Arv Z h441 b426 k426 .int (3 : Int32) [(.int 0), (.int 0), (.int 0)] (.int 0) := (Arv.set Ar441 q441 S441 M441 H441 U441 rfl W441 0 rfl (Nat.le_of_ble_eq_true rfl))
      have z441 : h439.size ≤ h441.size := Nat.le_of_eq W441.size.symm
      have KP441 : Keep h0 h441 ([ks] : List Addr) := KP439.wr W441 (Or.inr (by omega))
      have N441 := Fr.snoc X441 N439 (by omega)
      refine Go.on (w := T441.setTop (mkF m 292 #[rv a1, iv 2, .val (.long 3), .second, rv b423, rv b425, rv b426, rv b429, iv 1, iv 0, iv 0, iv m0, iv r0, iv r0] [(.int r0), (.int 0), (.ref b425)])) (fun t k => XS.istore X436.here hx rfl (hb hby d11_194) rfl (l' := #[rv a1, iv 2, .val (.long 3), .second, rv b423, rv b425, rv b426, rv b429, iv 0, iv (-1), iv 0, iv m0, iv r0, .unset]) rfl (XS.iload X436.here hx rfl (hb hby d11_196) rfl (XS.istore X436.here hx rfl (hb hby d11_198) rfl (l' := #[rv a1, iv 2, .val (.long 3), .second, rv b423, rv b425, rv b426, rv b429, iv 0, iv (-1), iv 0, iv m0, iv r0, iv r0]) rfl (XS.iload X436.here hx rfl (hb hby d11_200) rfl (XS.ifYes X436.here hx rfl (pc0 := 202) (pc' := 215) rfl (hb hby d11_202) rfl ((if0 _ _).trans (tlt (by decide : (-1 : Int32) < (0 : Int32))).1) (by decide) (by decide) (XS.aload X436.here hx rfl (hb hby d11_215) rfl rfl (XS.iinc X436.here hx rfl (hb hby d11_217) rfl (l' := #[rv a1, iv 2, .val (.long 3), .second, rv b423, rv b425, rv b426, rv b429, iv 0, iv 0, iv 0, iv m0, iv r0, iv r0]) rfl (XS.iload X436.here hx rfl (hb hby d11_220) rfl (XS.iload X436.here hx rfl (hb hby d11_222) rfl (st439 _ (XS.aload X439.here hx rfl (hb hby d11_225) rfl rfl (XS.iload X439.here hx rfl (hb hby d11_227) rfl (XS.iload X439.here hx rfl (hb hby d11_229) rfl (st441 _ (XS.goto X441.here hx rfl (pc0 := 232) (pc' := 250) rfl (hb hby d11_232) (by decide) (by decide) (XS.iload X441.here hx rfl (hb hby d11_250) rfl (XS.sipush X441.here hx rfl (hb hby d11_252) (XS.icmpYes X441.here hx rfl (pc0 := 255) (pc' := 283) rfl (hb hby d11_255) rfl (tlt (own_r128 hr0)).1 (by decide) (by decide) (XS.aload X441.here hx rfl (hb hby d11_283) rfl rfl (XS.iload X441.here hx rfl (hb hby d11_285) rfl (XS.iinc X441.here hx rfl (hb hby d11_287) rfl (l' := #[rv a1, iv 2, .val (.long 3), .second, rv b423, rv b425, rv b426, rv b429, iv 1, iv 0, iv 0, iv m0, iv r0, iv r0]) rfl (XS.iload X441.here hx rfl (hb hby d11_290) rfl k)))))))))))))))))))))) ?_
      refine Go.on (w := T441.setTop (mkF m 293 #[rv a1, iv 2, .val (.long 3), .second, rv b423, rv b425, rv b426, rv b429, iv 1, iv 0, iv 0, iv m0, iv r0, iv r0] [(.int r0), (.int 0), (.ref b425)])) (fun t k => XS.i2b X441.here hx rfl (hb hby d11_292) rfl (by rw [(own_r8 hr0 : (r0.toInt8.toInt32) = r0)]; exact k)) ?_
      have F442 := ((((V425.ext E426).ext E429).other W439 (show @Ne Nat b425 b423 by omega)).other W441 (show @Ne Nat b425 b426 by omega))
      obtain ⟨cl443, Ar443, q443, S443, M443, H443, U443⟩ := id F442
      obtain ⟨T443, h443, X443, e443, W443, st443⟩ := stB X441 hx hZ0 e441 Ar443 (j := (0 : Int32)) (inb_of S443 ⟨(by decide), (by decide)⟩) (g := (mkF m 293 #[rv a1, iv 2, .val (.long 3), .second, rv b423, rv b425, rv b426, rv b429, iv 1, iv 0, iv 0, iv m0, iv r0, iv r0] [(.int r0), (.int 0), (.ref b425)])) rfl rfl (hb hby d11_293)
      have V443 : Arv Z h443 b425 k425 .byte (3 : Int32) [(.int r0), (.int 0), (.int 0)] (.int 0) := by rw [← (own_r8n hr0 : nar .byte r0 = r0)]; exact (Arv.set Ar443 q443 S443 M443 H443 U443 (fits_nar_byte _) W443 0 rfl (Nat.le_of_ble_eq_true rfl))
      have z443 : h441.size ≤ h443.size := Nat.le_of_eq W443.size.symm
      have KP443 : Keep h0 h443 ([ks] : List Addr) := KP441.wr W443 (Or.inr (by omega))
      have N443 := Fr.snoc X443 N441 (by omega)
      have F444 := (((V429.other W439 (show @Ne Nat b429 b423 by omega)).other W441 (show @Ne Nat b429 b426 by omega)).other W443 (show @Ne Nat b429 b425 by omega))
      obtain ⟨T445, h445, sl445, y445a, y445b, y445c, X445, e445, W445, V445, st445⟩ := own_st3 X443 hx hZ0 e443 F444 hr0 (g := (mkF m 300 #[rv a1, iv 2, .val (.long 3), .second, rv b423, rv b425, rv b426, rv b429, iv 1, iv 0, iv 0, iv m0, iv r0, iv r0] [(.int 0), (.int r0), (.ref b429)])) rfl rfl (hb hby d11_300)
      have z445 : h443.size ≤ h445.size := Nat.le_of_eq W445.size.symm
      have KP445 : Keep h0 h445 ([ks] : List Addr) := KP443.wr W445 (Or.inr (by omega))
      have N445 := Fr.snoc X445 N443 (by omega)
      have F446 := ((((F430.other W439 (Or.inl (show @Ne Nat a1 b423 by omega))).other W441 (Or.inl (show @Ne Nat a1 b426 by omega))).other W443 (Or.inl (show @Ne Nat a1 b425 by omega))).other W445 (Or.inl (show @Ne Nat a1 b429 by omega)))
      obtain ⟨T447, X447, e447, st447⟩ := getF X445 hx hZ0 hown0 (host := "") (Or.inl (w_21 hw)) Via.refl e445 F446 (g := (mkF m 167 #[rv a1, iv 2, .val (.long 3), .second, rv b423, rv b425, rv b426, rv b429, iv 1, iv 0, iv 1, iv m0, iv r0, iv r0] [(.ref a1), (.int 1)])) rfl rfl (hb hby d11_167)
      have F448 := ((((F432.other W439 (Or.inl (show @Ne Nat a1 b423 by omega))).other W441 (Or.inl (show @Ne Nat a1 b426 by omega))).other W443 (Or.inl (show @Ne Nat a1 b425 by omega))).other W445 (Or.inl (show @Ne Nat a1 b429 by omega)))
      obtain ⟨T449, X449, e449, st449⟩ := getF X447 hx hZ0 hown0 (host := "") (Or.inl (w_11 hw)) Via.refl e447 F448 (g := (mkF m 174 #[rv a1, iv 2, .val (.long 3), .second, rv b423, rv b425, rv b426, rv b429, iv 1, iv 0, iv 1, iv m0, iv r0, iv r0] [(.ref a1)])) rfl rfl (hb hby d11_174)
      have F450 := ((((F434.other W439 (show @Ne Nat ks b423 by omega)).other W441 (show @Ne Nat ks b426 by omega)).other W443 (show @Ne Nat ks b425 by omega)).other W445 (show @Ne Nat ks b429 by omega))
      obtain ⟨cl451, Ar451, q451, S451, M451, H451, U451⟩ := id F450
      have hin451 := ((inb_of S451 ⟨(by decide), (by decide)⟩) : ¬ ((1 : Int32) < 0 ∨ cl451.slots.size ≤ ((1 : Int32)).toNatClampNeg))
      refine Go.on (w := T449.setTop (mkF m 182 #[rv a1, iv 2, .val (.long 3), .second, rv b423, rv b425, rv b426, rv b429, iv 1, iv 0, iv 1, iv m0, iv r0, iv r0] [(.int 32), (.long s1_294)])) (fun t k => st443 _ (XS.aload X443.here hx rfl (hb hby d11_294) rfl rfl (XS.iload X443.here hx rfl (hb hby d11_296) rfl (XS.iload X443.here hx rfl (hb hby d11_298) rfl (st445 _ (XS.iinc X445.here hx rfl (hb hby d11_301) rfl (l' := #[rv a1, iv 2, .val (.long 3), .second, rv b423, rv b425, rv b426, rv b429, iv 1, iv 0, iv 1, iv m0, iv r0, iv r0]) rfl (XS.goto X445.here hx rfl (pc0 := 304) (pc' := 164) rfl (hb hby d11_304) (by decide) (by decide) (XS.iload X445.here hx rfl (hb hby d11_164) rfl (XS.aloadN X445.here hx rfl (hb hby d11_166) rfl rfl (st447 _ (XS.icmpNo X447.here hx rfl (hb hby d11_170) rfl (tlt (by decide : (1 : Int32) < (3 : Int32))).2.1 (XS.aloadN X447.here hx rfl (hb hby d11_173) rfl rfl (st449 _ (XS.iload X449.here hx rfl (hb hby d11_177) rfl (X449.laload hx (j := (1 : Int32)) (v := (.long s1_294)) (by rw [e449]; exact Ar451.1) (State.isArrayOf_alike hZ0.alike Ar451.2.1) Ar451.2.2 hin451 (H451.at hin451 rfl) (g := (mkF m 179 #[rv a1, iv 2, .val (.long 3), .second, rv b423, rv b425, rv b426, rv b429, iv 1, iv 0, iv 1, iv m0, iv r0, iv r0] [(.int 1), (.ref ks)])) rfl rfl (hb hby d11_179) _ (XS.bipush X449.here hx rfl (hb hby d11_180) k)))))))))))))))) ?_
      refine Go.on (w := T449.setTop (mkF m 183 #[rv a1, iv 2, .val (.long 3), .second, rv b423, rv b425, rv b426, rv b429, iv 1, iv 0, iv 1, iv m0, iv r0, iv r0] [(.long (m1.toInt64))])) (fun t k => XS.lushr X449.here hx rfl (hb hby d11_182) rfl (by rw [(hu1 : ((s1_294.toUInt64 >>> ((32 : Int32) &&& 0x3f).toInt64.toUInt64).toInt64) = (m1.toInt64))]; exact k)) ?_
      refine Go.on (w := T449.setTop (mkF m 184 #[rv a1, iv 2, .val (.long 3), .second, rv b423, rv b425, rv b426, rv b429, iv 1, iv 0, iv 1, iv m0, iv r0, iv r0] [(.int m1)])) (fun t k => XS.l2i X449.here hx rfl (hb hby d11_183) rfl (by rw [(hm1 : ((m1.toInt64).toInt32) = m1)]; exact k)) ?_
      obtain ⟨T452, X452, e452, st452⟩ := getF X449 hx hZ0 hown0 (host := "") (Or.inl (w_11 hw)) Via.refl e449 F448 (g := (mkF m 187 #[rv a1, iv 2, .val (.long 3), .second, rv b423, rv b425, rv b426, rv b429, iv 1, iv 0, iv 1, iv m1, iv r0, iv r0] [(.ref a1)])) rfl rfl (hb hby d11_187)
      obtain ⟨cl453, Ar453, q453, S453, M453, H453, U453⟩ := id F450
      have hin453 := ((inb_of S453 ⟨(by decide), (by decide)⟩) : ¬ ((1 : Int32) < 0 ∨ cl453.slots.size ≤ ((1 : Int32)).toNatClampNeg))
      refine Go.on (w := T452.setTop (mkF m 193 #[rv a1, iv 2, .val (.long 3), .second, rv b423, rv b425, rv b426, rv b429, iv 1, iv 0, iv 1, iv m1, iv r0, iv r0] [(.long s1_294)])) (fun t k => XS.istore X449.here hx rfl (hb hby d11_184) rfl (l' := #[rv a1, iv 2, .val (.long 3), .second, rv b423, rv b425, rv b426, rv b429, iv 1, iv 0, iv 1, iv m1, iv r0, iv r0]) rfl (XS.aloadN X449.here hx rfl (hb hby d11_186) rfl rfl (st452 _ (XS.iload X452.here hx rfl (hb hby d11_190) rfl (X452.laload hx (j := (1 : Int32)) (v := (.long s1_294)) (by rw [e452]; exact Ar453.1) (State.isArrayOf_alike hZ0.alike Ar453.2.1) Ar453.2.2 hin453 (H453.at hin453 rfl) (g := (mkF m 192 #[rv a1, iv 2, .val (.long 3), .second, rv b423, rv b425, rv b426, rv b429, iv 1, iv 0, iv 1, iv m1, iv r0, iv r0] [(.int 1), (.ref ks)])) rfl rfl (hb hby d11_192) _ k))))) ?_
      refine Go.on (w := T452.setTop (mkF m 194 #[rv a1, iv 2, .val (.long 3), .second, rv b423, rv b425, rv b426, rv b429, iv 1, iv 0, iv 1, iv m1, iv r0, iv r0] [(.int r1)])) (fun t k => XS.l2i X452.here hx rfl (hb hby d11_193) rfl (by rw [(hl1 : (s1_294.toInt32) = r1)]; exact k)) ?_
      have F454 := (((V439.other W441 (show @Ne Nat b423 b426 by omega)).other W443 (show @Ne Nat b423 b425 by omega)).other W445 (show @Ne Nat b423 b429 by omega))
      obtain ⟨cl455, Ar455, q455, S455, M455, H455, U455⟩ := id F454
      have hin455 := ((inb_of S455 ⟨(by decide), (by decide)⟩) : ¬ ((0 : Int32) < 0 ∨ cl455.slots.size ≤ ((0 : Int32)).toNatClampNeg))
      obtain ⟨T456, X456, e456, st456⟩ := getF X452 hx hZ0 hown0 (host := "") (Or.inl (w_11 hw)) Via.refl e452 F448 (g := (mkF m 238 #[rv a1, iv 2, .val (.long 3), .second, rv b423, rv b425, rv b426, rv b429, iv 1, iv 0, iv 1, iv m1, iv r1, iv r1] [(.ref a1), (.int r1)])) rfl rfl (hb hby d11_238)
      refine Go.on (w := T456.setTop (mkF m 244 #[rv a1, iv 2, .val (.long 3), .second, rv b423, rv b425, rv b426, rv b429, iv 1, iv 0, iv 1, iv m1, iv r1, iv r1] [(.int 1), (.int 1), (.ref ks), (.int r1)])) (fun t k => XS.istore X452.here hx rfl (hb hby d11_194) rfl (l' := #[rv a1, iv 2, .val (.long 3), .second, rv b423, rv b425, rv b426, rv b429, iv 1, iv 0, iv 1, iv m1, iv r1, iv r0]) rfl (XS.iload X452.here hx rfl (hb hby d11_196) rfl (XS.istore X452.here hx rfl (hb hby d11_198) rfl (l' := #[rv a1, iv 2, .val (.long 3), .second, rv b423, rv b425, rv b426, rv b429, iv 1, iv 0, iv 1, iv m1, iv r1, iv r1]) rfl (XS.iload X452.here hx rfl (hb hby d11_200) rfl (XS.ifNo X452.here hx rfl (hb hby d11_202) rfl ((if0 _ _).trans (flt (by decide : ¬ ((0 : Int32) < (0 : Int32)))).1) (XS.aload X452.here hx rfl (hb hby d11_205) rfl rfl (XS.iload X452.here hx rfl (hb hby d11_207) rfl (X452.iaload hx (j := (0 : Int32)) (v := (.int m0)) (by rw [e452]; exact Ar455.1) (State.isArrayOf_alike hZ0.alike Ar455.2.1) Ar455.2.2 hin455 (H455.at hin455 rfl) (g := (mkF m 209 #[rv a1, iv 2, .val (.long 3), .second, rv b423, rv b425, rv b426, rv b429, iv 1, iv 0, iv 1, iv m1, iv r1, iv r1] [(.int 0), (.ref b423)])) rfl rfl (hb hby d11_209) _ (XS.iload X452.here hx rfl (hb hby d11_210) rfl (XS.icmpYes X452.here hx rfl (pc0 := 212) (pc' := 235) rfl (hb hby d11_212) rfl (teq hb1).1 (by decide) (by decide) (XS.iload X452.here hx rfl (hb hby d11_235) rfl (XS.aloadN X452.here hx rfl (hb hby d11_237) rfl rfl (st456 _ (XS.iload X456.here hx rfl (hb hby d11_241) rfl (XS.iconst X456.here hx rfl (hb hby d11_243) k))))))))))))))) ?_
      refine Go.on (w := T456.setTop (mkF m 245 #[rv a1, iv 2, .val (.long 3), .second, rv b423, rv b425, rv b426, rv b429, iv 1, iv 0, iv 1, iv m1, iv r1, iv r1] [(.int 0), (.ref ks), (.int r1)])) (fun t k => XS.isub X456.here hx rfl (hb hby d11_244) rfl (by rw [(by decide : ((1 : Int32) - (1 : Int32)) = (0 : Int32))]; exact k)) ?_
      obtain ⟨cl457, Ar457, q457, S457, M457, H457, U457⟩ := id F450
      have hin457 := ((inb_of S457 ⟨(by decide), (by decide)⟩) : ¬ ((0 : Int32) < 0 ∨ cl457.slots.size ≤ ((0 : Int32)).toNatClampNeg))
      refine Go.on (w := T456.setTop (mkF m 246 #[rv a1, iv 2, .val (.long 3), .second, rv b423, rv b425, rv b426, rv b429, iv 1, iv 0, iv 1, iv m1, iv r1, iv r1] [(.long s0_294), (.int r1)])) (fun t k => X456.laload hx (j := (0 : Int32)) (v := (.long s0_294)) (by rw [e456]; exact Ar457.1) (State.isArrayOf_alike hZ0.alike Ar457.2.1) Ar457.2.2 hin457 (H457.at hin457 rfl) (g := (mkF m 245 #[rv a1, iv 2, .val (.long 3), .second, rv b423, rv b425, rv b426, rv b429, iv 1, iv 0, iv 1, iv m1, iv r1, iv r1] [(.int 0), (.ref ks), (.int r1)])) rfl rfl (hb hby d11_245) _ k) ?_
      refine Go.on (w := T456.setTop (mkF m 247 #[rv a1, iv 2, .val (.long 3), .second, rv b423, rv b425, rv b426, rv b429, iv 1, iv 0, iv 1, iv m1, iv r1, iv r1] [(.int r0), (.int r1)])) (fun t k => XS.l2i X456.here hx rfl (hb hby d11_246) rfl (by rw [(hl0 : (s0_294.toInt32) = r0)]; exact k)) ?_
      refine Go.on (w := T456.setTop (mkF m 292 #[rv a1, iv 2, .val (.long 3), .second, rv b423, rv b425, rv b426, rv b429, iv 2, iv 0, iv 1, iv m1, iv r1, iv (r1 - r0)] [(.int (r1 - r0)), (.int 1), (.ref b425)])) (fun t k => XS.isub X456.here hx rfl (hb hby d11_247) rfl (XS.istore X456.here hx rfl (hb hby d11_248) rfl (l' := #[rv a1, iv 2, .val (.long 3), .second, rv b423, rv b425, rv b426, rv b429, iv 1, iv 0, iv 1, iv m1, iv r1, iv (r1 - r0)]) rfl (XS.iload X456.here hx rfl (hb hby d11_250) rfl (XS.sipush X456.here hx rfl (hb hby d11_252) (XS.icmpYes X456.here hx rfl (pc0 := 255) (pc' := 283) rfl (hb hby d11_255) rfl (tlt (own_d128 hr1 hr0)).1 (by decide) (by decide) (XS.aload X456.here hx rfl (hb hby d11_283) rfl rfl (XS.iload X456.here hx rfl (hb hby d11_285) rfl (XS.iinc X456.here hx rfl (hb hby d11_287) rfl (l' := #[rv a1, iv 2, .val (.long 3), .second, rv b423, rv b425, rv b426, rv b429, iv 2, iv 0, iv 1, iv m1, iv r1, iv (r1 - r0)]) rfl (XS.iload X456.here hx rfl (hb hby d11_290) rfl k))))))))) ?_
      refine Go.on (w := T456.setTop (mkF m 293 #[rv a1, iv 2, .val (.long 3), .second, rv b423, rv b425, rv b426, rv b429, iv 2, iv 0, iv 1, iv m1, iv r1, iv (r1 - r0)] [(.int (r1 - r0)), (.int 1), (.ref b425)])) (fun t k => XS.i2b X456.here hx rfl (hb hby d11_292) rfl (by rw [(own_d8 hr1 hr0 : ((r1 - r0).toInt8.toInt32) = (r1 - r0))]; exact k)) ?_
      have F458 := (V443.other W445 (show @Ne Nat b425 b429 by omega))
      obtain ⟨cl459, Ar459, q459, S459, M459, H459, U459⟩ := id F458
      obtain ⟨T459, h459, X459, e459, W459, st459⟩ := stB X456 hx hZ0 e456 Ar459 (j := (1 : Int32)) (inb_of S459 ⟨(by decide), (by decide)⟩) (g := (mkF m 293 #[rv a1, iv 2, .val (.long 3), .second, rv b423, rv b425, rv b426, rv b429, iv 2, iv 0, iv 1, iv m1, iv r1, iv (r1 - r0)] [(.int (r1 - r0)), (.int 1), (.ref b425)])) rfl rfl (hb hby d11_293)
      have V459 : Arv Z h459 b425 k425 .byte (3 : Int32) [(.int r0), (.int (r1 - r0)), (.int 0)] (.int 0) := by rw [← (own_d8n hr1 hr0 : nar .byte (r1 - r0) = (r1 - r0))]; exact (Arv.set Ar459 q459 S459 M459 H459 U459 (fits_nar_byte _) W459 1 rfl (Nat.le_of_ble_eq_true rfl))
      have z459 : h445.size ≤ h459.size := Nat.le_of_eq W459.size.symm
      have KP459 : Keep h0 h459 ([ks] : List Addr) := KP445.wr W459 (Or.inr (by omega))
      have N459 := Fr.snoc X459 N445 (by omega)
      have F460 := (V445.other W459 (show @Ne Nat b429 b425 by omega))
      obtain ⟨T461, h461, sl461, y461a, y461b, y461c, X461, e461, W461, V461, st461⟩ := own_st3 X459 hx hZ0 e459 F460 hr1 (g := (mkF m 300 #[rv a1, iv 2, .val (.long 3), .second, rv b423, rv b425, rv b426, rv b429, iv 2, iv 0, iv 1, iv m1, iv r1, iv (r1 - r0)] [(.int 0), (.int r1), (.ref b429)])) rfl rfl (hb hby d11_300)
      have z461 : h459.size ≤ h461.size := Nat.le_of_eq W461.size.symm
      have KP461 : Keep h0 h461 ([ks] : List Addr) := KP459.wr W461 (Or.inr (by omega))
      have N461 := Fr.snoc X461 N459 (by omega)
      have F462 := ((F446.other W459 (Or.inl (show @Ne Nat a1 b425 by omega))).other W461 (Or.inl (show @Ne Nat a1 b429 by omega)))
      obtain ⟨T463, X463, e463, st463⟩ := getF X461 hx hZ0 hown0 (host := "") (Or.inl (w_21 hw)) Via.refl e461 F462 (g := (mkF m 167 #[rv a1, iv 2, .val (.long 3), .second, rv b423, rv b425, rv b426, rv b429, iv 2, iv 0, iv 2, iv m1, iv r1, iv (r1 - r0)] [(.ref a1), (.int 2)])) rfl rfl (hb hby d11_167)
      have F464 := ((F448.other W459 (Or.inl (show @Ne Nat a1 b425 by omega))).other W461 (Or.inl (show @Ne Nat a1 b429 by omega)))
      obtain ⟨T465, X465, e465, st465⟩ := getF X463 hx hZ0 hown0 (host := "") (Or.inl (w_11 hw)) Via.refl e463 F464 (g := (mkF m 174 #[rv a1, iv 2, .val (.long 3), .second, rv b423, rv b425, rv b426, rv b429, iv 2, iv 0, iv 2, iv m1, iv r1, iv (r1 - r0)] [(.ref a1)])) rfl rfl (hb hby d11_174)
      have F466 := ((F450.other W459 (show @Ne Nat ks b425 by omega)).other W461 (show @Ne Nat ks b429 by omega))
      obtain ⟨cl467, Ar467, q467, S467, M467, H467, U467⟩ := id F466
      have hin467 := ((inb_of S467 ⟨(by decide), (by decide)⟩) : ¬ ((2 : Int32) < 0 ∨ cl467.slots.size ≤ ((2 : Int32)).toNatClampNeg))
      refine Go.on (w := T465.setTop (mkF m 182 #[rv a1, iv 2, .val (.long 3), .second, rv b423, rv b425, rv b426, rv b429, iv 2, iv 0, iv 2, iv m1, iv r1, iv (r1 - r0)] [(.int 32), (.long s2_294)])) (fun t k => st459 _ (XS.aload X459.here hx rfl (hb hby d11_294) rfl rfl (XS.iload X459.here hx rfl (hb hby d11_296) rfl (XS.iload X459.here hx rfl (hb hby d11_298) rfl (st461 _ (XS.iinc X461.here hx rfl (hb hby d11_301) rfl (l' := #[rv a1, iv 2, .val (.long 3), .second, rv b423, rv b425, rv b426, rv b429, iv 2, iv 0, iv 2, iv m1, iv r1, iv (r1 - r0)]) rfl (XS.goto X461.here hx rfl (pc0 := 304) (pc' := 164) rfl (hb hby d11_304) (by decide) (by decide) (XS.iload X461.here hx rfl (hb hby d11_164) rfl (XS.aloadN X461.here hx rfl (hb hby d11_166) rfl rfl (st463 _ (XS.icmpNo X463.here hx rfl (hb hby d11_170) rfl (tlt (by decide : (2 : Int32) < (3 : Int32))).2.1 (XS.aloadN X463.here hx rfl (hb hby d11_173) rfl rfl (st465 _ (XS.iload X465.here hx rfl (hb hby d11_177) rfl (X465.laload hx (j := (2 : Int32)) (v := (.long s2_294)) (by rw [e465]; exact Ar467.1) (State.isArrayOf_alike hZ0.alike Ar467.2.1) Ar467.2.2 hin467 (H467.at hin467 rfl) (g := (mkF m 179 #[rv a1, iv 2, .val (.long 3), .second, rv b423, rv b425, rv b426, rv b429, iv 2, iv 0, iv 2, iv m1, iv r1, iv (r1 - r0)] [(.int 2), (.ref ks)])) rfl rfl (hb hby d11_179) _ (XS.bipush X465.here hx rfl (hb hby d11_180) k)))))))))))))))) ?_
      refine Go.on (w := T465.setTop (mkF m 183 #[rv a1, iv 2, .val (.long 3), .second, rv b423, rv b425, rv b426, rv b429, iv 2, iv 0, iv 2, iv m1, iv r1, iv (r1 - r0)] [(.long (m2.toInt64))])) (fun t k => XS.lushr X465.here hx rfl (hb hby d11_182) rfl (by rw [(hu2 : ((s2_294.toUInt64 >>> ((32 : Int32) &&& 0x3f).toInt64.toUInt64).toInt64) = (m2.toInt64))]; exact k)) ?_
      refine Go.on (w := T465.setTop (mkF m 184 #[rv a1, iv 2, .val (.long 3), .second, rv b423, rv b425, rv b426, rv b429, iv 2, iv 0, iv 2, iv m1, iv r1, iv (r1 - r0)] [(.int m2)])) (fun t k => XS.l2i X465.here hx rfl (hb hby d11_183) rfl (by rw [(hm2 : ((m2.toInt64).toInt32) = m2)]; exact k)) ?_
      obtain ⟨T468, X468, e468, st468⟩ := getF X465 hx hZ0 hown0 (host := "") (Or.inl (w_11 hw)) Via.refl e465 F464 (g := (mkF m 187 #[rv a1, iv 2, .val (.long 3), .second, rv b423, rv b425, rv b426, rv b429, iv 2, iv 0, iv 2, iv m2, iv r1, iv (r1 - r0)] [(.ref a1)])) rfl rfl (hb hby d11_187)
      obtain ⟨cl469, Ar469, q469, S469, M469, H469, U469⟩ := id F466
      have hin469 := ((inb_of S469 ⟨(by decide), (by decide)⟩) : ¬ ((2 : Int32) < 0 ∨ cl469.slots.size ≤ ((2 : Int32)).toNatClampNeg))
      refine Go.on (w := T468.setTop (mkF m 193 #[rv a1, iv 2, .val (.long 3), .second, rv b423, rv b425, rv b426, rv b429, iv 2, iv 0, iv 2, iv m2, iv r1, iv (r1 - r0)] [(.long s2_294)])) (fun t k => XS.istore X465.here hx rfl (hb hby d11_184) rfl (l' := #[rv a1, iv 2, .val (.long 3), .second, rv b423, rv b425, rv b426, rv b429, iv 2, iv 0, iv 2, iv m2, iv r1, iv (r1 - r0)]) rfl (XS.aloadN X465.here hx rfl (hb hby d11_186) rfl rfl (st468 _ (XS.iload X468.here hx rfl (hb hby d11_190) rfl (X468.laload hx (j := (2 : Int32)) (v := (.long s2_294)) (by rw [e468]; exact Ar469.1) (State.isArrayOf_alike hZ0.alike Ar469.2.1) Ar469.2.2 hin469 (H469.at hin469 rfl) (g := (mkF m 192 #[rv a1, iv 2, .val (.long 3), .second, rv b423, rv b425, rv b426, rv b429, iv 2, iv 0, iv 2, iv m2, iv r1, iv (r1 - r0)] [(.int 2), (.ref ks)])) rfl rfl (hb hby d11_192) _ k))))) ?_
      refine Go.on (w := T468.setTop (mkF m 194 #[rv a1, iv 2, .val (.long 3), .second, rv b423, rv b425, rv b426, rv b429, iv 2, iv 0, iv 2, iv m2, iv r1, iv (r1 - r0)] [(.int r2)])) (fun t k => XS.l2i X468.here hx rfl (hb hby d11_193) rfl (by rw [(hl2 : (s2_294.toInt32) = r2)]; exact k)) ?_
      have F470 := ((F454.other W459 (show @Ne Nat b423 b425 by omega)).other W461 (show @Ne Nat b423 b429 by omega))
      obtain ⟨cl471, Ar471, q471, S471, M471, H471, U471⟩ := id F470
      have hin471 := ((inb_of S471 ⟨(by decide), (by decide)⟩) : ¬ ((0 : Int32) < 0 ∨ cl471.slots.size ≤ ((0 : Int32)).toNatClampNeg))
      obtain ⟨cl472, Ar472, q472, S472, M472, H472, U472⟩ := id F470
      obtain ⟨T472, h472, X472, e472, W472, st472⟩ := stI X468 hx hZ0 e468 Ar472 (j := (1 : Int32)) (inb_of S472 ⟨(by decide), (by decide)⟩) (g := (mkF m 224 #[rv a1, iv 2, .val (.long 3), .second, rv b423, rv b425, rv b426, rv b429, iv 2, iv 1, iv 2, iv m2, iv r2, iv r2] [(.int m2), (.int 1), (.ref b423)])) rfl rfl (hb hby d11_224)
      have V472 : Arv Z h472 b423 k423 .int (2 : Int32) [(.int m0), (.int m2)] (.int 0) := (Arv.set Ar472 q472 S472 M472 H472 U472 rfl W472 1 rfl (Nat.le_of_ble_eq_true rfl))
      have z472 : h461.size ≤ h472.size := Nat.le_of_eq W472.size.symm
      have KP472 : Keep h0 h472 ([ks] : List Addr) := KP461.wr W472 (Or.inr (by omega))
      have N472 := Fr.snoc X472 N461 (by omega)
      have F473 := (((((V441.other W443 (show @Ne Nat b426 b425 by omega)).other W445 (show @Ne Nat b426 b429 by omega)).other W459 (show @Ne Nat b426 b425 by omega)).other W461 (show @Ne Nat b426 b429 by omega)).other W472 (show @Ne Nat b426 b423 by omega))
      obtain ⟨cl474, Ar474, q474, S474, M474, H474, U474⟩ := id F473
      obtain ⟨T474, h474, X474, e474, W474, st474⟩ := stI X472 hx hZ0 e472 Ar474 (j := (1 : Int32)) (inb_of S474 ⟨(by decide), (by decide)⟩) (g := (mkF m 231 #[rv a1, iv 2, .val (.long 3), .second, rv b423, rv b425, rv b426, rv b429, iv 2, iv 1, iv 2, iv m2, iv r2, iv r2] [(.int 2), (.int 1), (.ref b426)])) rfl rfl (hb hby d11_231)
      have V474 : Arv Z h474 b426 k426 .int (3 : Int32) [(.int 0), (.int 2), (.int 0)] (.int 0) := (Arv.set Ar474 q474 S474 M474 H474 U474 rfl W474 1 rfl (Nat.le_of_ble_eq_true rfl))
      have z474 : h472.size ≤ h474.size := Nat.le_of_eq W474.size.symm
      have KP474 : Keep h0 h474 ([ks] : List Addr) := KP472.wr W474 (Or.inr (by omega))
      have N474 := Fr.snoc X474 N472 (by omega)
      refine Go.on (w := T474.setTop (mkF m 285 #[rv a1, iv 2, .val (.long 3), .second, rv b423, rv b425, rv b426, rv b429, iv 2, iv 1, iv 2, iv m2, iv r2, iv r2] [(.ref b425)])) (fun t k => XS.istore X468.here hx rfl (hb hby d11_194) rfl (l' := #[rv a1, iv 2, .val (.long 3), .second, rv b423, rv b425, rv b426, rv b429, iv 2, iv 0, iv 2, iv m2, iv r2, iv (r1 - r0)]) rfl (XS.iload X468.here hx rfl (hb hby d11_196) rfl (XS.istore X468.here hx rfl (hb hby d11_198) rfl (l' := #[rv a1, iv 2, .val (.long 3), .second, rv b423, rv b425, rv b426, rv b429, iv 2, iv 0, iv 2, iv m2, iv r2, iv r2]) rfl (XS.iload X468.here hx rfl (hb hby d11_200) rfl (XS.ifNo X468.here hx rfl (hb hby d11_202) rfl ((if0 _ _).trans (flt (by decide : ¬ ((0 : Int32) < (0 : Int32)))).1) (XS.aload X468.here hx rfl (hb hby d11_205) rfl rfl (XS.iload X468.here hx rfl (hb hby d11_207) rfl (X468.iaload hx (j := (0 : Int32)) (v := (.int m0)) (by rw [e468]; exact Ar471.1) (State.isArrayOf_alike hZ0.alike Ar471.2.1) Ar471.2.2 hin471 (H471.at hin471 rfl) (g := (mkF m 209 #[rv a1, iv 2, .val (.long 3), .second, rv b423, rv b425, rv b426, rv b429, iv 2, iv 0, iv 2, iv m2, iv r2, iv r2] [(.int 0), (.ref b423)])) rfl rfl (hb hby d11_209) _ (XS.iload X468.here hx rfl (hb hby d11_210) rfl (XS.icmpNo X468.here hx rfl (hb hby d11_212) rfl (feq (fun q => hb2 (hb1.symm.trans q))).1 (XS.aload X468.here hx rfl (hb hby d11_215) rfl rfl (XS.iinc X468.here hx rfl (hb hby d11_217) rfl (l' := #[rv a1, iv 2, .val (.long 3), .second, rv b423, rv b425, rv b426, rv b429, iv 2, iv 1, iv 2, iv m2, iv r2, iv r2]) rfl (XS.iload X468.here hx rfl (hb hby d11_220) rfl (XS.iload X468.here hx rfl (hb hby d11_222) rfl (st472 _ (XS.aload X472.here hx rfl (hb hby d11_225) rfl rfl (XS.iload X472.here hx rfl (hb hby d11_227) rfl (XS.iload X472.here hx rfl (hb hby d11_229) rfl (st474 _ (XS.goto X474.here hx rfl (pc0 := 232) (pc' := 250) rfl (hb hby d11_232) (by decide) (by decide) (XS.iload X474.here hx rfl (hb hby d11_250) rfl (XS.sipush X474.here hx rfl (hb hby d11_252) (XS.icmpYes X474.here hx rfl (pc0 := 255) (pc' := 283) rfl (hb hby d11_255) rfl (tlt (own_r128 hr2)).1 (by decide) (by decide) (XS.aload X474.here hx rfl (hb hby d11_283) rfl rfl k)))))))))))))))))))))))) ?_
      refine Go.on (w := T474.setTop (mkF m 287 #[rv a1, iv 2, .val (.long 3), .second, rv b423, rv b425, rv b426, rv b429, iv 2, iv 1, iv 2, iv m2, iv r2, iv r2] [(.int 2), (.ref b425)])) (fun t k => XS.iload X474.here hx rfl (hb hby d11_285) rfl k) ?_
      refine Go.on (w := T474.setTop (mkF m 292 #[rv a1, iv 2, .val (.long 3), .second, rv b423, rv b425, rv b426, rv b429, iv 3, iv 1, iv 2, iv m2, iv r2, iv r2] [(.int r2), (.int 2), (.ref b425)])) (fun t k => XS.iinc X474.here hx rfl (hb hby d11_287) rfl (l' := #[rv a1, iv 2, .val (.long 3), .second, rv b423, rv b425, rv b426, rv b429, iv 3, iv 1, iv 2, iv m2, iv r2, iv r2]) rfl (XS.iload X474.here hx rfl (hb hby d11_290) rfl k)) ?_
      refine Go.on (w := T474.setTop (mkF m 293 #[rv a1, iv 2, .val (.long 3), .second, rv b423, rv b425, rv b426, rv b429, iv 3, iv 1, iv 2, iv m2, iv r2, iv r2] [(.int r2), (.int 2), (.ref b425)])) (fun t k => XS.i2b X474.here hx rfl (hb hby d11_292) rfl (by rw [(own_r8 hr2 : (r2.toInt8.toInt32) = r2)]; exact k)) ?_
      have F475 := (((V459.other W461 (show @Ne Nat b425 b429 by omega)).other W472 (show @Ne Nat b425 b423 by omega)).other W474 (show @Ne Nat b425 b426 by omega))
      obtain ⟨cl476, Ar476, q476, S476, M476, H476, U476⟩ := id F475
      obtain ⟨T476, h476, X476, e476, W476, st476⟩ := stB X474 hx hZ0 e474 Ar476 (j := (2 : Int32)) (inb_of S476 ⟨(by decide), (by decide)⟩) (g := (mkF m 293 #[rv a1, iv 2, .val (.long 3), .second, rv b423, rv b425, rv b426, rv b429, iv 3, iv 1, iv 2, iv m2, iv r2, iv r2] [(.int r2), (.int 2), (.ref b425)])) rfl rfl (hb hby d11_293)
      have V476 : Arv Z h476 b425 k425 .byte (3 : Int32) [(.int r0), (.int (r1 - r0)), (.int r2)] (.int 0) := by rw [← (own_r8n hr2 : nar .byte r2 = r2)]; exact (Arv.set Ar476 q476 S476 M476 H476 U476 (fits_nar_byte _) W476 2 rfl (Nat.le_of_ble_eq_true rfl))
      have z476 : h474.size ≤ h476.size := Nat.le_of_eq W476.size.symm
      have KP476 : Keep h0 h476 ([ks] : List Addr) := KP474.wr W476 (Or.inr (by omega))
      have N476 := Fr.snoc X476 N474 (by omega)
      have F477 := (((V461.other W472 (show @Ne Nat b429 b423 by omega)).other W474 (show @Ne Nat b429 b426 by omega)).other W476 (show @Ne Nat b429 b425 by omega))
      obtain ⟨T478, h478, sl478, y478a, y478b, y478c, X478, e478, W478, V478, st478⟩ := own_st3 X476 hx hZ0 e476 F477 hr2 (g := (mkF m 300 #[rv a1, iv 2, .val (.long 3), .second, rv b423, rv b425, rv b426, rv b429, iv 3, iv 1, iv 2, iv m2, iv r2, iv r2] [(.int 1), (.int r2), (.ref b429)])) rfl rfl (hb hby d11_300)
      have z478 : h476.size ≤ h478.size := Nat.le_of_eq W478.size.symm
      have KP478 : Keep h0 h478 ([ks] : List Addr) := KP476.wr W478 (Or.inr (by omega))
      have N478 := Fr.snoc X478 N476 (by omega)
      have F479 := ((((F462.other W472 (Or.inl (show @Ne Nat a1 b423 by omega))).other W474 (Or.inl (show @Ne Nat a1 b426 by omega))).other W476 (Or.inl (show @Ne Nat a1 b425 by omega))).other W478 (Or.inl (show @Ne Nat a1 b429 by omega)))
      obtain ⟨T480, X480, e480, st480⟩ := getF X478 hx hZ0 hown0 (host := "") (Or.inl (w_21 hw)) Via.refl e478 F479 (g := (mkF m 167 #[rv a1, iv 2, .val (.long 3), .second, rv b423, rv b425, rv b426, rv b429, iv 3, iv 1, iv 3, iv m2, iv r2, iv r2] [(.ref a1), (.int 3)])) rfl rfl (hb hby d11_167)
      have F481 := ((V474.other W476 (show @Ne Nat b426 b425 by omega)).other W478 (show @Ne Nat b426 b429 by omega))
      obtain ⟨cl482, Ar482, q482, S482, M482, H482, U482⟩ := id F481
      obtain ⟨T482, h482, X482, e482, W482, st482⟩ := stI X480 hx hZ0 e480 Ar482 (j := (2 : Int32)) (inb_of S482 ⟨(by decide), (by decide)⟩) (g := (mkF m 312 #[rv a1, iv 2, .val (.long 3), .second, rv b423, rv b425, rv b426, rv b429, iv 3, iv 1, iv 3, iv m2, iv r2, iv r2] [(.int 3), (.int 2), (.ref b426)])) rfl rfl (hb hby d11_312)
      have V482 : Arv Z h482 b426 k426 .int (3 : Int32) [(.int 0), (.int 2), (.int 3)] (.int 0) := (Arv.set Ar482 q482 S482 M482 H482 U482 rfl W482 2 rfl (Nat.le_of_ble_eq_true rfl))
      have z482 : h478.size ≤ h482.size := Nat.le_of_eq W482.size.symm
      have KP482 : Keep h0 h482 ([ks] : List Addr) := KP478.wr W482 (Or.inr (by omega))
      have N482 := Fr.snoc X482 N478 (by omega)
      have F483 := (F479.other W482 (Or.inl (show @Ne Nat a1 b426 by omega)))
      obtain ⟨T484, X484, e484, st484⟩ := getF X482 hx hZ0 hown0 (host := "") (Or.inl (w_21 hw)) Via.refl e482 F483 (g := (mkF m 314 #[rv a1, iv 2, .val (.long 3), .second, rv b423, rv b425, rv b426, rv b429, iv 3, iv 1, iv 3, iv m2, iv r2, iv r2] [(.ref a1)])) rfl rfl (hb hby d11_314)
      refine Go.on (w := T484.setTop (mkF m 319 #[rv a1, iv 2, .val (.long 3), .second, rv b423, rv b425, rv b426, rv b429, iv 3, iv 1, iv 3, iv m2, iv r2, iv r2] [(.int 64), (.int 3)])) (fun t k => st476 _ (XS.aload X476.here hx rfl (hb hby d11_294) rfl rfl (XS.iload X476.here hx rfl (hb hby d11_296) rfl (XS.iload X476.here hx rfl (hb hby d11_298) rfl (st478 _ (XS.iinc X478.here hx rfl (hb hby d11_301) rfl (l' := #[rv a1, iv 2, .val (.long 3), .second, rv b423, rv b425, rv b426, rv b429, iv 3, iv 1, iv 3, iv m2, iv r2, iv r2]) rfl (XS.goto X478.here hx rfl (pc0 := 304) (pc' := 164) rfl (hb hby d11_304) (by decide) (by decide) (XS.iload X478.here hx rfl (hb hby d11_164) rfl (XS.aloadN X478.here hx rfl (hb hby d11_166) rfl rfl (st480 _ (XS.icmpYes X480.here hx rfl (pc0 := 170) (pc' := 307) rfl (hb hby d11_170) rfl (flt (by decide : ¬ ((3 : Int32) < (3 : Int32)))).2.1 (by decide) (by decide) (XS.aload X480.here hx rfl (hb hby d11_307) rfl rfl (XS.iloadN X480.here hx rfl (hb hby d11_309) rfl (XS.iload X480.here hx rfl (hb hby d11_310) rfl (st482 _ (XS.aloadN X482.here hx rfl (hb hby d11_313) rfl rfl (st484 _ (XS.bipush X484.here hx rfl (hb hby d11_317) k)))))))))))))))))) ?_
      refine Go.on (w := T484.setTop (mkF m 320 #[rv a1, iv 2, .val (.long 3), .second, rv b423, rv b425, rv b426, rv b429, iv 3, iv 1, iv 3, iv m2, iv r2, iv r2] [(.int 67)])) (fun t k => XS.iadd X484.here hx rfl (hb hby d11_319) rfl (by rw [(by decide : ((3 : Int32) + (64 : Int32)) = (67 : Int32))]; exact k)) ?_
      refine Go.on (w := T484.setTop (mkF m 321 #[rv a1, iv 2, .val (.long 3), .second, rv b423, rv b425, rv b426, rv b429, iv 3, iv 1, iv 3, iv m2, iv r2, iv r2] [(.int 1), (.int 67)])) (fun t k => XS.iconst X484.here hx rfl (hb hby d11_320) k) ?_
      refine Go.on (w := T484.setTop (mkF m 322 #[rv a1, iv 2, .val (.long 3), .second, rv b423, rv b425, rv b426, rv b429, iv 3, iv 1, iv 3, iv m2, iv r2, iv r2] [(.int 66)])) (fun t k => XS.isub X484.here hx rfl (hb hby d11_321) rfl (by rw [(by decide : ((67 : Int32) - (1 : Int32)) = (66 : Int32))]; exact k)) ?_
      refine Go.on (w := T484.setTop (mkF m 324 #[rv a1, iv 2, .val (.long 3), .second, rv b423, rv b425, rv b426, rv b429, iv 3, iv 1, iv 3, iv m2, iv r2, iv r2] [(.int 64), (.int 66)])) (fun t k => XS.bipush X484.here hx rfl (hb hby d11_322) k) ?_
      refine Go.on (w := T484.setTop (mkF m 325 #[rv a1, iv 2, .val (.long 3), .second, rv b423, rv b425, rv b426, rv b429, iv 3, iv 1, iv 3, iv m2, iv r2, iv r2] [(.int 1)])) (fun t k => XS.idiv X484.here hx rfl (hb hby d11_324) rfl (by decide) (by rw [(by decide : (66 : Int32) / (64 : Int32) = (1 : Int32))]; exact k)) ?_
      obtain ⟨T485, h485, k485, X485, e485, E485, A485, st485⟩ := newP (aty := .long) X484 hx hZ0 (w_10 hw) e484 (g := (mkF m 325 #[rv a1, iv 2, .val (.long 3), .second, rv b423, rv b425, rv b426, rv b429, iv 3, iv 1, iv 3, iv m2, iv r2, iv r2] [(.int 1)])) rfl (hb hby d11_325) rfl (by decide : ¬ ((1 : Int32) < (0 : Int32))) (cap := 1) (by decide) (by decide) (by decide) (by decide)
      obtain ⟨b485, g485⟩ : ∃ z, z = h482.size := ⟨_, rfl⟩
      rw [← g485] at A485 st485
      have V485 : Arv Z h485 b485 k485 .long (1 : Int32) [(.long 0)] (.long 0) := (Arv.new A485 (by decide : ¬ ((1 : Int32) < (0 : Int32)))).pad (pad_rep [] (.long 0) 1)
      have u485 : h485.size > b485 := V485.lt
      have z485 : h482.size ≤ h485.size := E485.1
      have KP485 : Keep h0 h485 ([ks] : List Addr) := KP482.ext E485
      have F486 := (((((((((((((((((F_breakCount.keep K294 (ninS ne_a1_ks nin0)).ext E423).ext E425).ext E426).ext E429).other W439 (Or.inl (show @Ne Nat a1 b423 by omega))).other W441 (Or.inl (show @Ne Nat a1 b426 by omega))).other W443 (Or.inl (show @Ne Nat a1 b425 by omega))).other W445 (Or.inl (show @Ne Nat a1 b429 by omega))).other W459 (Or.inl (show @Ne Nat a1 b425 by omega))).other W461 (Or.inl (show @Ne Nat a1 b429 by omega))).other W472 (Or.inl (show @Ne Nat a1 b423 by omega))).other W474 (Or.inl (show @Ne Nat a1 b426 by omega))).other W476 (Or.inl (show @Ne Nat a1 b425 by omega))).other W478 (Or.inl (show @Ne Nat a1 b429 by omega))).other W482 (Or.inl (show @Ne Nat a1 b426 by omega))).ext E485)
      obtain ⟨T487, X487, e487, st487⟩ := getF X485 hx hZ0 hown0 (host := "") (Or.inl (w_53 hw)) Via.refl e485 F486 (g := (mkF m 335 #[rv a1, iv 2, .val (.long 3), .second, rv b423, rv b425, rv b426, rv b429, iv 3, iv 1, rv b485, iv 0, iv r2, iv r2] [(.ref a1), (.int 0)])) rfl rfl (hb hby d11_335)
      obtain ⟨T488, h488, X488, e488, E488, A488, D488, -, st488⟩ := newO X487 hx hZ0 hown0 (w_55 hw) (w_56 hw) (w_57 hw) e487 (g := (mkF m 386 #[rv a1, iv 2, .val (.long 3), .second, rv b423, rv b425, rv b426, rv b429, iv 3, iv 1, rv b485, iv 0, iv r2, iv r2] [])) rfl (hb hby d11_386) (by decide) (by decide)
      obtain ⟨b488, g488⟩ : ∃ z, z = h485.size := ⟨_, rfl⟩
      rw [← g488] at A488 D488 st488
      have u488 : h488.size > b488 := A488.lt
      have z488 : h485.size ≤ h488.size := E488.1
      have KP488 : Keep h0 h488 ([ks] : List Addr) := KP485.ext E488
      have Fn488_65 : Fld Z h488 b488 "com/example/syntagma/syntagma/service/DocumentText" "vocabulary" "[I" .null := D488 (Or.inr (w_65 hw)) (ty := (.array .int)) (by decide)
      have Fn488_67 : Fld Z h488 b488 "com/example/syntagma/syntagma/service/DocumentText" "gaps" "[B" .null := D488 (Or.inr (w_67 hw)) (ty := (.array .byte)) (by decide)
      have Fn488_69 : Fld Z h488 b488 "com/example/syntagma/syntagma/service/DocumentText" "stretched" "Z" (.int 0) := D488 (Or.inr (w_69 hw)) (ty := .boolean) (by decide)
      have Fn488_71 : Fld Z h488 b488 "com/example/syntagma/syntagma/service/DocumentText" "breaks" "[J" .null := D488 (Or.inr (w_71 hw)) (ty := (.array .long)) (by decide)
      have Fn488_73 : Fld Z h488 b488 "com/example/syntagma/syntagma/service/DocumentText" "words" "I" (.int 0) := D488 (Or.inr (w_73 hw)) (ty := .int) (by decide)
      have Fn488_75 : Fld Z h488 b488 "com/example/syntagma/syntagma/service/DocumentText" "firstSentenceWords" "I" (.int 0) := D488 (Or.inr (w_75 hw)) (ty := .int) (by decide)
      have Fn488_82 : Fld Z h488 b488 "com/example/syntagma/syntagma/service/DocumentText" "narrowStarts" "[C" .null := D488 (Or.inr (w_82 hw)) (ty := (.array .char)) (by decide)
      have Fn488_84 : Fld Z h488 b488 "com/example/syntagma/syntagma/service/DocumentText" "wideStarts" "[I" .null := D488 (Or.inr (w_84 hw)) (ty := (.array .int)) (by decide)
      have Fn488_87 : Fld Z h488 b488 "com/example/syntagma/syntagma/service/DocumentText" "narrowPlaces" "[C" .null := D488 (Or.inr (w_87 hw)) (ty := (.array .char)) (by decide)
      have Fn488_89 : Fld Z h488 b488 "com/example/syntagma/syntagma/service/DocumentText" "widePlaces" "[I" .null := D488 (Or.inr (w_89 hw)) (ty := (.array .int)) (by decide)
      have F489 := ((((((((((((((((((F_sentences.keep K294 (ninS ne_a1_ks nin0)).ext E423).ext E425).ext E426).ext E429).other W439 (Or.inl (show @Ne Nat a1 b423 by omega))).other W441 (Or.inl (show @Ne Nat a1 b426 by omega))).other W443 (Or.inl (show @Ne Nat a1 b425 by omega))).other W445 (Or.inl (show @Ne Nat a1 b429 by omega))).other W459 (Or.inl (show @Ne Nat a1 b425 by omega))).other W461 (Or.inl (show @Ne Nat a1 b429 by omega))).other W472 (Or.inl (show @Ne Nat a1 b423 by omega))).other W474 (Or.inl (show @Ne Nat a1 b426 by omega))).other W476 (Or.inl (show @Ne Nat a1 b425 by omega))).other W478 (Or.inl (show @Ne Nat a1 b429 by omega))).other W482 (Or.inl (show @Ne Nat a1 b426 by omega))).ext E485).ext E488)
      obtain ⟨T490, X490, e490, st490⟩ := getF X488 hx hZ0 hown0 (host := "") (Or.inl (w_58 hw)) Via.refl e488 F489 (g := (mkF m 401 #[rv a1, iv 2, .val (.long 3), .second, rv b423, rv b425, rv b426, rv b429, iv 3, iv 1, rv b485, iv 0, iv r2, iv r2] [(.ref a1), (.ref b485), (.ref b429), (.ref b426), (.ref b425), (.ref b423), (.ref b488), (.ref b488)])) rfl rfl (hb hby d11_401)
      have F491 := ((F483.ext E485).ext E488)
      obtain ⟨T492, X492, e492, st492⟩ := getF X490 hx hZ0 hown0 (host := "") (Or.inl (w_21 hw)) Via.refl e490 F491 (g := (mkF m 409 #[rv a1, iv 2, .val (.long 3), .second, rv b423, rv b425, rv b426, rv b429, iv 3, iv 1, rv b485, iv 0, iv r2, iv r2] [(.ref a1), (.ref b485), (.ref b429), (.ref b426), (.ref b425), (.ref b423), (.ref b488), (.ref b488)])) rfl rfl (hb hby d11_409)
      have F494 := ((((((V472.other W474 (show @Ne Nat b423 b426 by omega)).other W476 (show @Ne Nat b423 b425 by omega)).other W478 (show @Ne Nat b423 b429 by omega)).other W482 (show @Ne Nat b423 b426 by omega)).ext E485).ext E488)
      have F495 := ((((V476.other W478 (show @Ne Nat b425 b429 by omega)).other W482 (show @Ne Nat b425 b426 by omega)).ext E485).ext E488)
      have F496 := ((V482.ext E485).ext E488)
      have F497 := (((V478.other W482 (show @Ne Nat b429 b426 by omega)).ext E485).ext E488)
      obtain ⟨v493, _, ⟨T493, L493, k493, n493⟩, -, X493, ⟨Lc493, hQ493, l493, y493, z493⟩, st493⟩ := X492.specialBackNest hx (y := yM11) rfl hown0 (own_mvMN hZ0 (w_60 hw)) (mvT hZ0 (w_61 hw)) (mvT hZ0 (w_62 hw)) (by decide) (backOf (W := 1) (rmDT2 l Z a0 hw [] b488 b485 b423 k423 b425 k425 b426 k426 b429 k429 m0 m2 r0 (r1 - r0) r2 (0 : Int32) (2 : Int32) (3 : Int32) y478a y478b y478c h488 (by omega) (by omega) A488 Fn488_65 Fn488_67 Fn488_69 Fn488_71 Fn488_73 Fn488_75 Fn488_82 Fn488_84 Fn488_87 Fn488_89 (show @Ne Nat b423 b488 by omega) (show @Ne Nat b425 b488 by omega) (show @Ne Nat b426 b488 by omega) (show @Ne Nat b429 b488 by omega) F494 F495 F496 F497) hZ0 (w_62 hw) (w_57 hw) (by decide) (by decide)) (g := (mkF m 419 #[rv a1, iv 2, .val (.long 3), .second, rv b423, rv b425, rv b426, rv b429, iv 3, iv 1, rv b485, iv 0, iv r2, iv r2] [(.int 3), (.ref b485), (.ref b429), (.ref b426), (.ref b425), (.ref b423), (.ref b488), (.ref b488)])) rfl (by rw [hml]; rfl) (Steps.refl _) (a := b488) (argsL := [(.ref b423), (.ref b425), (.ref b426), (.ref b429), (.ref b485), (.int 3)]) (rest := [(.ref b488)]) (lenOf pd_7 rfl) rfl (by show 2 * 0 + _ ≤ _; exact Nat.le_of_eq rfl) (hb hby d11_419) (fun _ _ => ⟨rfl, e492, (by decide : 6 + 2 ≤ _), (by decide : 22 + 6 ≤ _)⟩)
      dsimp only [Pt.U, Pt.locs, Pt.cells, Pt.slots] at X493 l493 y493 z493 st493 hQ493
      subst l493 y493 z493
      obtain ⟨ns_493, kn_493, rfl, Nq493, K493, f493_0, f493_1, f493_2, f493_3, f493_4⟩ := hQ493
      have N493 := Fr.app N482 Nq493
      have eK493 : T493.heap = T493.heap := rfl
      have z493 : h488.size ≤ T493.heap.size := K493.1
      have KP493 : Keep h0 T493.heap ([ks] : List Addr) := KP488.trans K493 (allS (P := fun x => x ∈ ([ks] : List Addr) ∨ h0.size ≤ x) (Or.inr (by omega)) all0)
      have u493_4 : T493.heap.size > ns_493 := f493_4.lt
      have V498 : Arv Z T493.heap ns_493 kn_493 .char (3 : Int32) [(.int 0), (.int 2), (.int 3), (.int 0)] (.int 0) := by
        have q := f493_4
        simp only [own_nc0, own_nc1, own_nc2, own_nc3] at q
        exact q.pad (pad_rep [(.int 0), (.int 2), (.int 3)] (.int 0) 1)
      have F499 := (F495.keep K493 (ninS (show @Ne Nat b425 b488 by omega) nin0))
      refine Go.on (w := T493.setTop (mkF m 422 #[rv a1, iv 2, .val (.long 3), .second, rv b423, rv b425, rv b426, rv b429, iv 3, iv 1, rv b485, iv 0, iv r2, iv r2] [(.ref b488)])) (fun t k => st485 _ (XS.astore X485.here hx rfl (hb hby d11_327) rfl rfl (l' := #[rv a1, iv 2, .val (.long 3), .second, rv b423, rv b425, rv b426, rv b429, iv 3, iv 1, rv b485, iv m2, iv r2, iv r2]) rfl (XS.iconst X485.here hx rfl (hb hby d11_329) (XS.istore X485.here hx rfl (hb hby d11_330) rfl (l' := #[rv a1, iv 2, .val (.long 3), .second, rv b423, rv b425, rv b426, rv b429, iv 3, iv 1, rv b485, iv 0, iv r2, iv r2]) rfl (XS.iload X485.here hx rfl (hb hby d11_332) rfl (XS.aloadN X485.here hx rfl (hb hby d11_334) rfl rfl (st487 _ (XS.icmpYes X487.here hx rfl (pc0 := 338) (pc' := 386) rfl (hb hby d11_338) rfl (flt (by decide : ¬ ((0 : Int32) < (0 : Int32)))).2.1 (by decide) (by decide) (st488 _ (XS.dup X488.here hx rfl (hb hby d11_389) rfl rfl (XS.aload X488.here hx rfl (hb hby d11_390) rfl rfl (XS.aload X488.here hx rfl (hb hby d11_392) rfl rfl (XS.aload X488.here hx rfl (hb hby d11_394) rfl rfl (XS.aload X488.here hx rfl (hb hby d11_396) rfl rfl (XS.aload X488.here hx rfl (hb hby d11_398) rfl rfl (XS.aloadN X488.here hx rfl (hb hby d11_400) rfl rfl (st490 _ (XS.iconst X490.here hx rfl (hb hby d11_404) (XS.icmpNo X490.here hx rfl (hb hby d11_405) rfl (tlt (by decide : (0 : Int32) < (2 : Int32))).2.1 (XS.aloadN X490.here hx rfl (hb hby d11_408) rfl rfl (st492 _ (XS.goto X492.here hx rfl (pc0 := 412) (pc' := 419) rfl (hb hby d11_412) (by decide) (by decide) (st493.trans k))))))))))))))))))))))) ?_
      refine Go.finH X493 hlk (v := some (.ref b488)) (fun h => by rw [Bd.returns] at h; cases h) (fun fs hr => ?_) (endH (Q := Q_rmBuild Z a1 ks kk n0 n1 n2 h0) (by rw [eK493]; exact ⟨b488, b425, k425, ns_493, kn_493, (3 : Int32), (2 : Int32), (3 : Int32), (0 : Int32), r0, (r1 - r0), r2, rfl, N493, KP493, (by omega), (by omega), (by omega), f493_1, f493_2, f493_3, F499, V498, ⟨m0, r0, m1, r1, m2, r2, hpm, Or.inr (Or.inl ⟨hb1, hb2, rfl, rfl, rfl, rfl, rfl, rfl, rfl⟩)⟩⟩) (by decide) (by decide))
      exact retOut X493 hx Bd.returns rfl (Or.inr (Or.inr (Or.inr (Or.inr ⟨rfl, rfl, rfl⟩)))) (hb hby d11_422) hr
  ·
    by_cases hb2 : m1 = m2
    ·
      have hd2 := own_d3b hpm hb2
      have F500 := (Fw.keep K294 (ninS ne_a1_ks nin0))
      obtain ⟨T501, X501, e501, st501⟩ := getF X294 hx hZ0 hown0 (host := "") (Or.inl (w_21 hw)) Via.refl eK294 F500 (g := (mkF m 22 #[rv a1, iv 0, .val (.long 0), .second, iv 0, .unset, .unset, .unset, .unset, .unset, .unset, .unset, .unset, .unset] [(.ref a1), (.int 0)])) rfl rfl (hb hby d11_22)
      refine Go.on (w := T501.setTop (mkF m 77 #[rv a1, iv 0, .val (.long 0), .second, iv 0, iv 1, .unset, .unset, .unset, .unset, .unset, .unset, .unset, .unset] [(.int 1), (.int 0)])) (fun t k => XS.iconst X294.here hx rfl (hb hby d11_12) (XS.istoreN X294.here hx rfl (hb hby d11_13) rfl (l' := #[rv a1, iv 0, .unset, .unset, .unset, .unset, .unset, .unset, .unset, .unset, .unset, .unset, .unset, .unset]) rfl (XS.lconst X294.here hx rfl (hb hby d11_14) (XS.lstoreN X294.here hx rfl (hb hby d11_15) rfl (l' := #[rv a1, iv 0, .val (.long 0), .second, .unset, .unset, .unset, .unset, .unset, .unset, .unset, .unset, .unset, .unset]) rfl (XS.iconst X294.here hx rfl (hb hby d11_16) (XS.istore X294.here hx rfl (hb hby d11_17) rfl (l' := #[rv a1, iv 0, .val (.long 0), .second, iv 0, .unset, .unset, .unset, .unset, .unset, .unset, .unset, .unset, .unset]) rfl (XS.iload X294.here hx rfl (hb hby d11_19) rfl (XS.aloadN X294.here hx rfl (hb hby d11_21) rfl rfl (st501 _ (XS.icmpNo X501.here hx rfl (hb hby d11_25) rfl (tlt (by decide : (0 : Int32) < (3 : Int32))).2.1 (XS.iload X501.here hx rfl (hb hby d11_28) rfl (XS.ifYes X501.here hx rfl (pc0 := 30) (pc' := 59) rfl (hb hby d11_30) rfl ((if0 _ _).trans (teq (by decide : (0 : Int32) = (0 : Int32))).1) (by decide) (by decide) (XS.iconst X501.here hx rfl (hb hby d11_59) (XS.goto X501.here hx rfl (pc0 := 60) (pc' := 64) rfl (hb hby d11_60) (by decide) (by decide) (XS.istore X501.here hx rfl (hb hby d11_64) rfl (l' := #[rv a1, iv 0, .val (.long 0), .second, iv 0, iv 1, .unset, .unset, .unset, .unset, .unset, .unset, .unset, .unset]) rfl (XS.iloadN X501.here hx rfl (hb hby d11_66) rfl (XS.iload X501.here hx rfl (hb hby d11_67) rfl (XS.ifNo X501.here hx rfl (hb hby d11_69) rfl ((if0 _ _).trans (feq (by decide : ¬ ((1 : Int32) = (0 : Int32)))).1) (XS.iconst X501.here hx rfl (hb hby d11_72) (XS.goto X501.here hx rfl (pc0 := 73) (pc' := 77) rfl (hb hby d11_73) (by decide) (by decide) k)))))))))))))))))))) ?_
      refine Go.on (w := T501.setTop (mkF m 78 #[rv a1, iv 0, .val (.long 0), .second, iv 0, iv 1, .unset, .unset, .unset, .unset, .unset, .unset, .unset, .unset] [(.int 1)])) (fun t k => XS.iadd X501.here hx rfl (hb hby d11_77) rfl (by rw [(by decide : ((0 : Int32) + (1 : Int32)) = (1 : Int32))]; exact k)) ?_
      have F502 := (Fk.keep K294 (ninS ne_a1_ks nin0))
      obtain ⟨T503, X503, e503, st503⟩ := getF X501 hx hZ0 hown0 (host := "") (Or.inl (w_11 hw)) Via.refl e501 F502 (g := (mkF m 86 #[rv a1, iv 1, .val (.long 0), .second, iv 0, iv 1, .unset, .unset, .unset, .unset, .unset, .unset, .unset, .unset] [(.ref a1), (.long 0)])) rfl rfl (hb hby d11_86)
      obtain ⟨cl504, Ar504, q504, S504, M504, H504, U504⟩ := id f294_0
      have hin504 := ((inb_of S504 ⟨(by decide), (by decide)⟩) : ¬ ((0 : Int32) < 0 ∨ cl504.slots.size ≤ ((0 : Int32)).toNatClampNeg))
      refine Go.on (w := T503.setTop (mkF m 92 #[rv a1, iv 1, .val (.long 0), .second, iv 0, iv 1, .unset, .unset, .unset, .unset, .unset, .unset, .unset, .unset] [(.long s0_294), (.long 0)])) (fun t k => XS.istoreN X501.here hx rfl (hb hby d11_78) rfl (l' := #[rv a1, iv 1, .val (.long 0), .second, iv 0, iv 1, .unset, .unset, .unset, .unset, .unset, .unset, .unset, .unset]) rfl (XS.lloadN X501.here hx rfl (hb hby d11_79) rfl (XS.iload X501.here hx rfl (hb hby d11_80) rfl (XS.ifNo X501.here hx rfl (hb hby d11_82) rfl ((if0 _ _).trans (feq (by decide : ¬ ((1 : Int32) = (0 : Int32)))).1) (XS.aloadN X501.here hx rfl (hb hby d11_85) rfl rfl (st503 _ (XS.iload X503.here hx rfl (hb hby d11_89) rfl (X503.laload hx (j := (0 : Int32)) (v := (.long s0_294)) (by rw [e503]; exact Ar504.1) (State.isArrayOf_alike hZ0.alike Ar504.2.1) Ar504.2.2 hin504 (H504.at hin504 rfl) (g := (mkF m 91 #[rv a1, iv 1, .val (.long 0), .second, iv 0, iv 1, .unset, .unset, .unset, .unset, .unset, .unset, .unset, .unset] [(.int 0), (.ref ks), (.long 0)])) rfl rfl (hb hby d11_91) _ k)))))))) ?_
      refine Go.on (w := T503.setTop (mkF m 93 #[rv a1, iv 1, .val (.long 0), .second, iv 0, iv 1, .unset, .unset, .unset, .unset, .unset, .unset, .unset, .unset] [(.int r0), (.long 0)])) (fun t k => XS.l2i X503.here hx rfl (hb hby d11_92) rfl (by rw [(hl0 : (s0_294.toInt32) = r0)]; exact k)) ?_
      obtain ⟨v505, _, ⟨T505, L505, k505, n505⟩, -, X505, ⟨Lc505, hQ505, l505, y505, z505⟩, st505⟩ := Jvm.LawKit.callS X503 hx (y := yM9) hown0 (mvT hZ0 (w_45 hw)) (mvT hZ0 (w_46 hw)) (mvT hZ0 (w_3 hw)) (mvT hZ0 (w_47 hw)) (by decide) (backOf (W := 2) (rmByt l Z a0 hw [] r0 T294.heap (own_r7s hr0)) hZ0 (w_47 hw) (w_3 hw) (by decide) (by decide)) (g := (mkF m 115 #[rv a1, iv 1, .val (.long 0), .second, iv 0, iv 1, .unset, .unset, .unset, .unset, .unset, .unset, .unset, .unset] [(.int r0), (.long 0)])) rfl (by rw [hml]; rfl) (argsL := [(.int r0)]) (rest := [(.long 0)]) (lenOf pd_5 rfl) rfl (by show 2 * 0 + _ ≤ _; exact Nat.le_of_eq rfl) (hb hby d11_115) (fun _ _ => ⟨rfl, e503, (by decide : 0 + 0 ≤ _), (by decide : 0 + 0 ≤ _)⟩)
      dsimp only [Pt.U, Pt.locs, Pt.cells, Pt.slots] at X505 l505 y505 z505 st505 hQ505
      subst l505 y505 z505
      obtain ⟨rfl, Nq505, eh505⟩ := hQ505
      have N505 := Fr.app N294 Nq505
      refine Go.on (w := T505.setTop (mkF m 118 #[rv a1, iv 1, .val (.long 0), .second, iv 0, iv 1, .unset, .unset, .unset, .unset, .unset, .unset, .unset, .unset] [(.int 1), (.long 0)])) (fun t k => XS.goto X503.here hx rfl (pc0 := 93) (pc' := 115) rfl (hb hby d11_93) (by decide) (by decide) (st505 _ k)) ?_
      refine Go.on (w := T505.setTop (mkF m 119 #[rv a1, iv 1, .val (.long 0), .second, iv 0, iv 1, .unset, .unset, .unset, .unset, .unset, .unset, .unset, .unset] [(.long 1), (.long 0)])) (fun t k => XS.i2l X505.here hx rfl (hb hby d11_118) rfl (by rw [(by decide : ((1 : Int32).toInt64) = (1 : Int64))]; exact k)) ?_
      refine Go.on (w := T505.setTop (mkF m 120 #[rv a1, iv 1, .val (.long 0), .second, iv 0, iv 1, .unset, .unset, .unset, .unset, .unset, .unset, .unset, .unset] [(.long 1)])) (fun t k => XS.ladd X505.here hx rfl (hb hby d11_119) rfl (by rw [(by decide : ((0 : Int64) + (1 : Int64)) = (1 : Int64))]; exact k)) ?_
      obtain ⟨T506, X506, e506, st506⟩ := getF X505 hx hZ0 hown0 (host := "") (Or.inl (w_21 hw)) Via.refl eh505 F500 (g := (mkF m 22 #[rv a1, iv 1, .val (.long 1), .second, iv 1, iv 1, .unset, .unset, .unset, .unset, .unset, .unset, .unset, .unset] [(.ref a1), (.int 1)])) rfl rfl (hb hby d11_22)
      obtain ⟨T507, X507, e507, st507⟩ := getF X506 hx hZ0 hown0 (host := "") (Or.inl (w_11 hw)) Via.refl e506 F502 (g := (mkF m 34 #[rv a1, iv 1, .val (.long 1), .second, iv 1, iv 1, .unset, .unset, .unset, .unset, .unset, .unset, .unset, .unset] [(.ref a1)])) rfl rfl (hb hby d11_34)
      obtain ⟨cl508, Ar508, q508, S508, M508, H508, U508⟩ := id f294_0
      have hin508 := ((inb_of S508 ⟨(by decide), (by decide)⟩) : ¬ ((1 : Int32) < 0 ∨ cl508.slots.size ≤ ((1 : Int32)).toNatClampNeg))
      refine Go.on (w := T507.setTop (mkF m 42 #[rv a1, iv 1, .val (.long 1), .second, iv 1, iv 1, .unset, .unset, .unset, .unset, .unset, .unset, .unset, .unset] [(.int 32), (.long s1_294)])) (fun t k => XS.lstoreN X505.here hx rfl (hb hby d11_120) rfl (l' := #[rv a1, iv 1, .val (.long 1), .second, iv 0, iv 1, .unset, .unset, .unset, .unset, .unset, .unset, .unset, .unset]) rfl (XS.iinc X505.here hx rfl (hb hby d11_121) rfl (l' := #[rv a1, iv 1, .val (.long 1), .second, iv 1, iv 1, .unset, .unset, .unset, .unset, .unset, .unset, .unset, .unset]) rfl (XS.goto X505.here hx rfl (pc0 := 124) (pc' := 19) rfl (hb hby d11_124) (by decide) (by decide) (XS.iload X505.here hx rfl (hb hby d11_19) rfl (XS.aloadN X505.here hx rfl (hb hby d11_21) rfl rfl (st506 _ (XS.icmpNo X506.here hx rfl (hb hby d11_25) rfl (tlt (by decide : (1 : Int32) < (3 : Int32))).2.1 (XS.iload X506.here hx rfl (hb hby d11_28) rfl (XS.ifNo X506.here hx rfl (hb hby d11_30) rfl ((if0 _ _).trans (feq (by decide : ¬ ((1 : Int32) = (0 : Int32)))).1) (XS.aloadN X506.here hx rfl (hb hby d11_33) rfl rfl (st507 _ (XS.iload X507.here hx rfl (hb hby d11_37) rfl (X507.laload hx (j := (1 : Int32)) (v := (.long s1_294)) (by rw [e507]; exact Ar508.1) (State.isArrayOf_alike hZ0.alike Ar508.2.1) Ar508.2.2 hin508 (H508.at hin508 rfl) (g := (mkF m 39 #[rv a1, iv 1, .val (.long 1), .second, iv 1, iv 1, .unset, .unset, .unset, .unset, .unset, .unset, .unset, .unset] [(.int 1), (.ref ks)])) rfl rfl (hb hby d11_39) _ (XS.bipush X507.here hx rfl (hb hby d11_40) k)))))))))))))) ?_
      refine Go.on (w := T507.setTop (mkF m 43 #[rv a1, iv 1, .val (.long 1), .second, iv 1, iv 1, .unset, .unset, .unset, .unset, .unset, .unset, .unset, .unset] [(.long (m1.toInt64))])) (fun t k => XS.lushr X507.here hx rfl (hb hby d11_42) rfl (by rw [(hu1 : ((s1_294.toUInt64 >>> ((32 : Int32) &&& 0x3f).toInt64.toUInt64).toInt64) = (m1.toInt64))]; exact k)) ?_
      obtain ⟨T509, X509, e509, st509⟩ := getF X507 hx hZ0 hown0 (host := "") (Or.inl (w_11 hw)) Via.refl e507 F502 (g := (mkF m 44 #[rv a1, iv 1, .val (.long 1), .second, iv 1, iv 1, .unset, .unset, .unset, .unset, .unset, .unset, .unset, .unset] [(.ref a1), (.long (m1.toInt64))])) rfl rfl (hb hby d11_44)
      refine Go.on (w := T509.setTop (mkF m 50 #[rv a1, iv 1, .val (.long 1), .second, iv 1, iv 1, .unset, .unset, .unset, .unset, .unset, .unset, .unset, .unset] [(.int 1), (.int 1), (.ref ks), (.long (m1.toInt64))])) (fun t k => XS.aloadN X507.here hx rfl (hb hby d11_43) rfl rfl (st509 _ (XS.iload X509.here hx rfl (hb hby d11_47) rfl (XS.iconst X509.here hx rfl (hb hby d11_49) k)))) ?_
      refine Go.on (w := T509.setTop (mkF m 51 #[rv a1, iv 1, .val (.long 1), .second, iv 1, iv 1, .unset, .unset, .unset, .unset, .unset, .unset, .unset, .unset] [(.int 0), (.ref ks), (.long (m1.toInt64))])) (fun t k => XS.isub X509.here hx rfl (hb hby d11_50) rfl (by rw [(by decide : ((1 : Int32) - (1 : Int32)) = (0 : Int32))]; exact k)) ?_
      obtain ⟨cl510, Ar510, q510, S510, M510, H510, U510⟩ := id f294_0
      have hin510 := ((inb_of S510 ⟨(by decide), (by decide)⟩) : ¬ ((0 : Int32) < 0 ∨ cl510.slots.size ≤ ((0 : Int32)).toNatClampNeg))
      refine Go.on (w := T509.setTop (mkF m 54 #[rv a1, iv 1, .val (.long 1), .second, iv 1, iv 1, .unset, .unset, .unset, .unset, .unset, .unset, .unset, .unset] [(.int 32), (.long s0_294), (.long (m1.toInt64))])) (fun t k => X509.laload hx (j := (0 : Int32)) (v := (.long s0_294)) (by rw [e509]; exact Ar510.1) (State.isArrayOf_alike hZ0.alike Ar510.2.1) Ar510.2.2 hin510 (H510.at hin510 rfl) (g := (mkF m 51 #[rv a1, iv 1, .val (.long 1), .second, iv 1, iv 1, .unset, .unset, .unset, .unset, .unset, .unset, .unset, .unset] [(.int 0), (.ref ks), (.long (m1.toInt64))])) rfl rfl (hb hby d11_51) _ (XS.bipush X509.here hx rfl (hb hby d11_52) k)) ?_
      refine Go.on (w := T509.setTop (mkF m 55 #[rv a1, iv 1, .val (.long 1), .second, iv 1, iv 1, .unset, .unset, .unset, .unset, .unset, .unset, .unset, .unset] [(.long (m0.toInt64)), (.long (m1.toInt64))])) (fun t k => XS.lushr X509.here hx rfl (hb hby d11_54) rfl (by rw [(hu0 : ((s0_294.toUInt64 >>> ((32 : Int32) &&& 0x3f).toInt64.toUInt64).toInt64) = (m0.toInt64))]; exact k)) ?_
      refine Go.on (w := T509.setTop (mkF m 77 #[rv a1, iv 1, .val (.long 1), .second, iv 1, iv 1, .unset, .unset, .unset, .unset, .unset, .unset, .unset, .unset] [(.int 1), (.int 1)])) (fun t k => XS.lcmp X509.here hx rfl (hb hby d11_55) rfl (XS.ifNo X509.here hx rfl (hb hby d11_56) rfl ((if0 _ _).trans (feq (own_lcn hb1)).1) (XS.iconst X509.here hx rfl (hb hby d11_59) (XS.goto X509.here hx rfl (pc0 := 60) (pc' := 64) rfl (hb hby d11_60) (by decide) (by decide) (XS.istore X509.here hx rfl (hb hby d11_64) rfl (l' := #[rv a1, iv 1, .val (.long 1), .second, iv 1, iv 1, .unset, .unset, .unset, .unset, .unset, .unset, .unset, .unset]) rfl (XS.iloadN X509.here hx rfl (hb hby d11_66) rfl (XS.iload X509.here hx rfl (hb hby d11_67) rfl (XS.ifNo X509.here hx rfl (hb hby d11_69) rfl ((if0 _ _).trans (feq (by decide : ¬ ((1 : Int32) = (0 : Int32)))).1) (XS.iconst X509.here hx rfl (hb hby d11_72) (XS.goto X509.here hx rfl (pc0 := 73) (pc' := 77) rfl (hb hby d11_73) (by decide) (by decide) k)))))))))) ?_
      refine Go.on (w := T509.setTop (mkF m 78 #[rv a1, iv 1, .val (.long 1), .second, iv 1, iv 1, .unset, .unset, .unset, .unset, .unset, .unset, .unset, .unset] [(.int 2)])) (fun t k => XS.iadd X509.here hx rfl (hb hby d11_77) rfl (by rw [(by decide : ((1 : Int32) + (1 : Int32)) = (2 : Int32))]; exact k)) ?_
      obtain ⟨T511, X511, e511, st511⟩ := getF X509 hx hZ0 hown0 (host := "") (Or.inl (w_11 hw)) Via.refl e509 F502 (g := (mkF m 86 #[rv a1, iv 2, .val (.long 1), .second, iv 1, iv 1, .unset, .unset, .unset, .unset, .unset, .unset, .unset, .unset] [(.ref a1), (.long 1)])) rfl rfl (hb hby d11_86)
      obtain ⟨cl512, Ar512, q512, S512, M512, H512, U512⟩ := id f294_0
      have hin512 := ((inb_of S512 ⟨(by decide), (by decide)⟩) : ¬ ((1 : Int32) < 0 ∨ cl512.slots.size ≤ ((1 : Int32)).toNatClampNeg))
      refine Go.on (w := T511.setTop (mkF m 92 #[rv a1, iv 2, .val (.long 1), .second, iv 1, iv 1, .unset, .unset, .unset, .unset, .unset, .unset, .unset, .unset] [(.long s1_294), (.long 1)])) (fun t k => XS.istoreN X509.here hx rfl (hb hby d11_78) rfl (l' := #[rv a1, iv 2, .val (.long 1), .second, iv 1, iv 1, .unset, .unset, .unset, .unset, .unset, .unset, .unset, .unset]) rfl (XS.lloadN X509.here hx rfl (hb hby d11_79) rfl (XS.iload X509.here hx rfl (hb hby d11_80) rfl (XS.ifNo X509.here hx rfl (hb hby d11_82) rfl ((if0 _ _).trans (feq (by decide : ¬ ((1 : Int32) = (0 : Int32)))).1) (XS.aloadN X509.here hx rfl (hb hby d11_85) rfl rfl (st511 _ (XS.iload X511.here hx rfl (hb hby d11_89) rfl (X511.laload hx (j := (1 : Int32)) (v := (.long s1_294)) (by rw [e511]; exact Ar512.1) (State.isArrayOf_alike hZ0.alike Ar512.2.1) Ar512.2.2 hin512 (H512.at hin512 rfl) (g := (mkF m 91 #[rv a1, iv 2, .val (.long 1), .second, iv 1, iv 1, .unset, .unset, .unset, .unset, .unset, .unset, .unset, .unset] [(.int 1), (.ref ks), (.long 1)])) rfl rfl (hb hby d11_91) _ k)))))))) ?_
      refine Go.on (w := T511.setTop (mkF m 93 #[rv a1, iv 2, .val (.long 1), .second, iv 1, iv 1, .unset, .unset, .unset, .unset, .unset, .unset, .unset, .unset] [(.int r1), (.long 1)])) (fun t k => XS.l2i X511.here hx rfl (hb hby d11_92) rfl (by rw [(hl1 : (s1_294.toInt32) = r1)]; exact k)) ?_
      obtain ⟨v513, _, ⟨T513, L513, k513, n513⟩, -, X513, ⟨Lc513, hQ513, l513, y513, z513⟩, st513⟩ := Jvm.LawKit.callS X511 hx (y := yM9) hown0 (mvT hZ0 (w_45 hw)) (mvT hZ0 (w_46 hw)) (mvT hZ0 (w_3 hw)) (mvT hZ0 (w_47 hw)) (by decide) (backOf (W := 2) (rmByt l Z a0 hw [] r1 T294.heap (own_r7s hr1)) hZ0 (w_47 hw) (w_3 hw) (by decide) (by decide)) (g := (mkF m 115 #[rv a1, iv 2, .val (.long 1), .second, iv 1, iv 1, .unset, .unset, .unset, .unset, .unset, .unset, .unset, .unset] [(.int r1), (.long 1)])) rfl (by rw [hml]; rfl) (argsL := [(.int r1)]) (rest := [(.long 1)]) (lenOf pd_5 rfl) rfl (by show 2 * 0 + _ ≤ _; exact Nat.le_of_eq rfl) (hb hby d11_115) (fun _ _ => ⟨rfl, e511, (by decide : 0 + 0 ≤ _), (by decide : 0 + 0 ≤ _)⟩)
      dsimp only [Pt.U, Pt.locs, Pt.cells, Pt.slots] at X513 l513 y513 z513 st513 hQ513
      subst l513 y513 z513
      obtain ⟨rfl, Nq513, eh513⟩ := hQ513
      have N513 := Fr.app N505 Nq513
      refine Go.on (w := T513.setTop (mkF m 118 #[rv a1, iv 2, .val (.long 1), .second, iv 1, iv 1, .unset, .unset, .unset, .unset, .unset, .unset, .unset, .unset] [(.int 1), (.long 1)])) (fun t k => XS.goto X511.here hx rfl (pc0 := 93) (pc' := 115) rfl (hb hby d11_93) (by decide) (by decide) (st513 _ k)) ?_
      refine Go.on (w := T513.setTop (mkF m 119 #[rv a1, iv 2, .val (.long 1), .second, iv 1, iv 1, .unset, .unset, .unset, .unset, .unset, .unset, .unset, .unset] [(.long 1), (.long 1)])) (fun t k => XS.i2l X513.here hx rfl (hb hby d11_118) rfl (by rw [(by decide : ((1 : Int32).toInt64) = (1 : Int64))]; exact k)) ?_
      refine Go.on (w := T513.setTop (mkF m 120 #[rv a1, iv 2, .val (.long 1), .second, iv 1, iv 1, .unset, .unset, .unset, .unset, .unset, .unset, .unset, .unset] [(.long 2)])) (fun t k => XS.ladd X513.here hx rfl (hb hby d11_119) rfl (by rw [(by decide : ((1 : Int64) + (1 : Int64)) = (2 : Int64))]; exact k)) ?_
      obtain ⟨T514, X514, e514, st514⟩ := getF X513 hx hZ0 hown0 (host := "") (Or.inl (w_21 hw)) Via.refl eh513 F500 (g := (mkF m 22 #[rv a1, iv 2, .val (.long 2), .second, iv 2, iv 1, .unset, .unset, .unset, .unset, .unset, .unset, .unset, .unset] [(.ref a1), (.int 2)])) rfl rfl (hb hby d11_22)
      obtain ⟨T515, X515, e515, st515⟩ := getF X514 hx hZ0 hown0 (host := "") (Or.inl (w_11 hw)) Via.refl e514 F502 (g := (mkF m 34 #[rv a1, iv 2, .val (.long 2), .second, iv 2, iv 1, .unset, .unset, .unset, .unset, .unset, .unset, .unset, .unset] [(.ref a1)])) rfl rfl (hb hby d11_34)
      obtain ⟨cl516, Ar516, q516, S516, M516, H516, U516⟩ := id f294_0
      have hin516 := ((inb_of S516 ⟨(by decide), (by decide)⟩) : ¬ ((2 : Int32) < 0 ∨ cl516.slots.size ≤ ((2 : Int32)).toNatClampNeg))
      refine Go.on (w := T515.setTop (mkF m 42 #[rv a1, iv 2, .val (.long 2), .second, iv 2, iv 1, .unset, .unset, .unset, .unset, .unset, .unset, .unset, .unset] [(.int 32), (.long s2_294)])) (fun t k => XS.lstoreN X513.here hx rfl (hb hby d11_120) rfl (l' := #[rv a1, iv 2, .val (.long 2), .second, iv 1, iv 1, .unset, .unset, .unset, .unset, .unset, .unset, .unset, .unset]) rfl (XS.iinc X513.here hx rfl (hb hby d11_121) rfl (l' := #[rv a1, iv 2, .val (.long 2), .second, iv 2, iv 1, .unset, .unset, .unset, .unset, .unset, .unset, .unset, .unset]) rfl (XS.goto X513.here hx rfl (pc0 := 124) (pc' := 19) rfl (hb hby d11_124) (by decide) (by decide) (XS.iload X513.here hx rfl (hb hby d11_19) rfl (XS.aloadN X513.here hx rfl (hb hby d11_21) rfl rfl (st514 _ (XS.icmpNo X514.here hx rfl (hb hby d11_25) rfl (tlt (by decide : (2 : Int32) < (3 : Int32))).2.1 (XS.iload X514.here hx rfl (hb hby d11_28) rfl (XS.ifNo X514.here hx rfl (hb hby d11_30) rfl ((if0 _ _).trans (feq (by decide : ¬ ((2 : Int32) = (0 : Int32)))).1) (XS.aloadN X514.here hx rfl (hb hby d11_33) rfl rfl (st515 _ (XS.iload X515.here hx rfl (hb hby d11_37) rfl (X515.laload hx (j := (2 : Int32)) (v := (.long s2_294)) (by rw [e515]; exact Ar516.1) (State.isArrayOf_alike hZ0.alike Ar516.2.1) Ar516.2.2 hin516 (H516.at hin516 rfl) (g := (mkF m 39 #[rv a1, iv 2, .val (.long 2), .second, iv 2, iv 1, .unset, .unset, .unset, .unset, .unset, .unset, .unset, .unset] [(.int 2), (.ref ks)])) rfl rfl (hb hby d11_39) _ (XS.bipush X515.here hx rfl (hb hby d11_40) k)))))))))))))) ?_
      refine Go.on (w := T515.setTop (mkF m 43 #[rv a1, iv 2, .val (.long 2), .second, iv 2, iv 1, .unset, .unset, .unset, .unset, .unset, .unset, .unset, .unset] [(.long (m2.toInt64))])) (fun t k => XS.lushr X515.here hx rfl (hb hby d11_42) rfl (by rw [(hu2 : ((s2_294.toUInt64 >>> ((32 : Int32) &&& 0x3f).toInt64.toUInt64).toInt64) = (m2.toInt64))]; exact k)) ?_
      obtain ⟨T517, X517, e517, st517⟩ := getF X515 hx hZ0 hown0 (host := "") (Or.inl (w_11 hw)) Via.refl e515 F502 (g := (mkF m 44 #[rv a1, iv 2, .val (.long 2), .second, iv 2, iv 1, .unset, .unset, .unset, .unset, .unset, .unset, .unset, .unset] [(.ref a1), (.long (m2.toInt64))])) rfl rfl (hb hby d11_44)
      refine Go.on (w := T517.setTop (mkF m 50 #[rv a1, iv 2, .val (.long 2), .second, iv 2, iv 1, .unset, .unset, .unset, .unset, .unset, .unset, .unset, .unset] [(.int 1), (.int 2), (.ref ks), (.long (m2.toInt64))])) (fun t k => XS.aloadN X515.here hx rfl (hb hby d11_43) rfl rfl (st517 _ (XS.iload X517.here hx rfl (hb hby d11_47) rfl (XS.iconst X517.here hx rfl (hb hby d11_49) k)))) ?_
      refine Go.on (w := T517.setTop (mkF m 51 #[rv a1, iv 2, .val (.long 2), .second, iv 2, iv 1, .unset, .unset, .unset, .unset, .unset, .unset, .unset, .unset] [(.int 1), (.ref ks), (.long (m2.toInt64))])) (fun t k => XS.isub X517.here hx rfl (hb hby d11_50) rfl (by rw [(by decide : ((2 : Int32) - (1 : Int32)) = (1 : Int32))]; exact k)) ?_
      obtain ⟨cl518, Ar518, q518, S518, M518, H518, U518⟩ := id f294_0
      have hin518 := ((inb_of S518 ⟨(by decide), (by decide)⟩) : ¬ ((1 : Int32) < 0 ∨ cl518.slots.size ≤ ((1 : Int32)).toNatClampNeg))
      refine Go.on (w := T517.setTop (mkF m 54 #[rv a1, iv 2, .val (.long 2), .second, iv 2, iv 1, .unset, .unset, .unset, .unset, .unset, .unset, .unset, .unset] [(.int 32), (.long s1_294), (.long (m2.toInt64))])) (fun t k => X517.laload hx (j := (1 : Int32)) (v := (.long s1_294)) (by rw [e517]; exact Ar518.1) (State.isArrayOf_alike hZ0.alike Ar518.2.1) Ar518.2.2 hin518 (H518.at hin518 rfl) (g := (mkF m 51 #[rv a1, iv 2, .val (.long 2), .second, iv 2, iv 1, .unset, .unset, .unset, .unset, .unset, .unset, .unset, .unset] [(.int 1), (.ref ks), (.long (m2.toInt64))])) rfl rfl (hb hby d11_51) _ (XS.bipush X517.here hx rfl (hb hby d11_52) k)) ?_
      refine Go.on (w := T517.setTop (mkF m 55 #[rv a1, iv 2, .val (.long 2), .second, iv 2, iv 1, .unset, .unset, .unset, .unset, .unset, .unset, .unset, .unset] [(.long (m1.toInt64)), (.long (m2.toInt64))])) (fun t k => XS.lushr X517.here hx rfl (hb hby d11_54) rfl (by rw [(hu1 : ((s1_294.toUInt64 >>> ((32 : Int32) &&& 0x3f).toInt64.toUInt64).toInt64) = (m1.toInt64))]; exact k)) ?_
      refine Go.on (w := T517.setTop (mkF m 77 #[rv a1, iv 2, .val (.long 2), .second, iv 2, iv 0, .unset, .unset, .unset, .unset, .unset, .unset, .unset, .unset] [(.int 0), (.int 2)])) (fun t k => XS.lcmp X517.here hx rfl (hb hby d11_55) rfl (XS.ifYes X517.here hx rfl (pc0 := 56) (pc' := 63) rfl (hb hby d11_56) rfl ((if0 _ _).trans (teq (own_lce hb2)).1) (by decide) (by decide) (XS.iconst X517.here hx rfl (hb hby d11_63) (XS.istore X517.here hx rfl (hb hby d11_64) rfl (l' := #[rv a1, iv 2, .val (.long 2), .second, iv 2, iv 0, .unset, .unset, .unset, .unset, .unset, .unset, .unset, .unset]) rfl (XS.iloadN X517.here hx rfl (hb hby d11_66) rfl (XS.iload X517.here hx rfl (hb hby d11_67) rfl (XS.ifYes X517.here hx rfl (pc0 := 69) (pc' := 76) rfl (hb hby d11_69) rfl ((if0 _ _).trans (teq (by decide : (0 : Int32) = (0 : Int32))).1) (by decide) (by decide) (XS.iconst X517.here hx rfl (hb hby d11_76) k)))))))) ?_
      refine Go.on (w := T517.setTop (mkF m 78 #[rv a1, iv 2, .val (.long 2), .second, iv 2, iv 0, .unset, .unset, .unset, .unset, .unset, .unset, .unset, .unset] [(.int 2)])) (fun t k => XS.iadd X517.here hx rfl (hb hby d11_77) rfl (by rw [(by decide : ((2 : Int32) + (0 : Int32)) = (2 : Int32))]; exact k)) ?_
      obtain ⟨T519, X519, e519, st519⟩ := getF X517 hx hZ0 hown0 (host := "") (Or.inl (w_11 hw)) Via.refl e517 F502 (g := (mkF m 97 #[rv a1, iv 2, .val (.long 2), .second, iv 2, iv 0, .unset, .unset, .unset, .unset, .unset, .unset, .unset, .unset] [(.ref a1), (.long 2)])) rfl rfl (hb hby d11_97)
      obtain ⟨cl520, Ar520, q520, S520, M520, H520, U520⟩ := id f294_0
      have hin520 := ((inb_of S520 ⟨(by decide), (by decide)⟩) : ¬ ((2 : Int32) < 0 ∨ cl520.slots.size ≤ ((2 : Int32)).toNatClampNeg))
      refine Go.on (w := T519.setTop (mkF m 103 #[rv a1, iv 2, .val (.long 2), .second, iv 2, iv 0, .unset, .unset, .unset, .unset, .unset, .unset, .unset, .unset] [(.long s2_294), (.long 2)])) (fun t k => XS.istoreN X517.here hx rfl (hb hby d11_78) rfl (l' := #[rv a1, iv 2, .val (.long 2), .second, iv 2, iv 0, .unset, .unset, .unset, .unset, .unset, .unset, .unset, .unset]) rfl (XS.lloadN X517.here hx rfl (hb hby d11_79) rfl (XS.iload X517.here hx rfl (hb hby d11_80) rfl (XS.ifYes X517.here hx rfl (pc0 := 82) (pc' := 96) rfl (hb hby d11_82) rfl ((if0 _ _).trans (teq (by decide : (0 : Int32) = (0 : Int32))).1) (by decide) (by decide) (XS.aloadN X517.here hx rfl (hb hby d11_96) rfl rfl (st519 _ (XS.iload X519.here hx rfl (hb hby d11_100) rfl (X519.laload hx (j := (2 : Int32)) (v := (.long s2_294)) (by rw [e519]; exact Ar520.1) (State.isArrayOf_alike hZ0.alike Ar520.2.1) Ar520.2.2 hin520 (H520.at hin520 rfl) (g := (mkF m 102 #[rv a1, iv 2, .val (.long 2), .second, iv 2, iv 0, .unset, .unset, .unset, .unset, .unset, .unset, .unset, .unset] [(.int 2), (.ref ks), (.long 2)])) rfl rfl (hb hby d11_102) _ k)))))))) ?_
      refine Go.on (w := T519.setTop (mkF m 104 #[rv a1, iv 2, .val (.long 2), .second, iv 2, iv 0, .unset, .unset, .unset, .unset, .unset, .unset, .unset, .unset] [(.int r2), (.long 2)])) (fun t k => XS.l2i X519.here hx rfl (hb hby d11_103) rfl (by rw [(hl2 : (s2_294.toInt32) = r2)]; exact k)) ?_
      obtain ⟨T521, X521, e521, st521⟩ := getF X519 hx hZ0 hown0 (host := "") (Or.inl (w_11 hw)) Via.refl e519 F502 (g := (mkF m 105 #[rv a1, iv 2, .val (.long 2), .second, iv 2, iv 0, .unset, .unset, .unset, .unset, .unset, .unset, .unset, .unset] [(.ref a1), (.int r2), (.long 2)])) rfl rfl (hb hby d11_105)
      refine Go.on (w := T521.setTop (mkF m 111 #[rv a1, iv 2, .val (.long 2), .second, iv 2, iv 0, .unset, .unset, .unset, .unset, .unset, .unset, .unset, .unset] [(.int 1), (.int 2), (.ref ks), (.int r2), (.long 2)])) (fun t k => XS.aloadN X519.here hx rfl (hb hby d11_104) rfl rfl (st521 _ (XS.iload X521.here hx rfl (hb hby d11_108) rfl (XS.iconst X521.here hx rfl (hb hby d11_110) k)))) ?_
      refine Go.on (w := T521.setTop (mkF m 112 #[rv a1, iv 2, .val (.long 2), .second, iv 2, iv 0, .unset, .unset, .unset, .unset, .unset, .unset, .unset, .unset] [(.int 1), (.ref ks), (.int r2), (.long 2)])) (fun t k => XS.isub X521.here hx rfl (hb hby d11_111) rfl (by rw [(by decide : ((2 : Int32) - (1 : Int32)) = (1 : Int32))]; exact k)) ?_
      obtain ⟨cl522, Ar522, q522, S522, M522, H522, U522⟩ := id f294_0
      have hin522 := ((inb_of S522 ⟨(by decide), (by decide)⟩) : ¬ ((1 : Int32) < 0 ∨ cl522.slots.size ≤ ((1 : Int32)).toNatClampNeg))
      refine Go.on (w := T521.setTop (mkF m 113 #[rv a1, iv 2, .val (.long 2), .second, iv 2, iv 0, .unset, .unset, .unset, .unset, .unset, .unset, .unset, .unset] [(.long s1_294), (.int r2), (.long 2)])) (fun t k => X521.laload hx (j := (1 : Int32)) (v := (.long s1_294)) (by rw [e521]; exact Ar522.1) (State.isArrayOf_alike hZ0.alike Ar522.2.1) Ar522.2.2 hin522 (H522.at hin522 rfl) (g := (mkF m 112 #[rv a1, iv 2, .val (.long 2), .second, iv 2, iv 0, .unset, .unset, .unset, .unset, .unset, .unset, .unset, .unset] [(.int 1), (.ref ks), (.int r2), (.long 2)])) rfl rfl (hb hby d11_112) _ k) ?_
      refine Go.on (w := T521.setTop (mkF m 114 #[rv a1, iv 2, .val (.long 2), .second, iv 2, iv 0, .unset, .unset, .unset, .unset, .unset, .unset, .unset, .unset] [(.int r1), (.int r2), (.long 2)])) (fun t k => XS.l2i X521.here hx rfl (hb hby d11_113) rfl (by rw [(hl1 : (s1_294.toInt32) = r1)]; exact k)) ?_
      obtain ⟨v523, _, ⟨T523, L523, k523, n523⟩, -, X523, ⟨Lc523, hQ523, l523, y523, z523⟩, st523⟩ := Jvm.LawKit.callS X521 hx (y := yM9) hown0 (mvT hZ0 (w_45 hw)) (mvT hZ0 (w_46 hw)) (mvT hZ0 (w_3 hw)) (mvT hZ0 (w_47 hw)) (by decide) (backOf (W := 2) (rmByt l Z a0 hw [] (r2 - r1) T294.heap (own_r7s hd2)) hZ0 (w_47 hw) (w_3 hw) (by decide) (by decide)) (g := (mkF m 115 #[rv a1, iv 2, .val (.long 2), .second, iv 2, iv 0, .unset, .unset, .unset, .unset, .unset, .unset, .unset, .unset] [(.int (r2 - r1)), (.long 2)])) rfl (by rw [hml]; rfl) (argsL := [(.int (r2 - r1))]) (rest := [(.long 2)]) (lenOf pd_5 rfl) rfl (by show 2 * 0 + _ ≤ _; exact Nat.le_of_eq rfl) (hb hby d11_115) (fun _ _ => ⟨rfl, e521, (by decide : 0 + 0 ≤ _), (by decide : 0 + 0 ≤ _)⟩)
      dsimp only [Pt.U, Pt.locs, Pt.cells, Pt.slots] at X523 l523 y523 z523 st523 hQ523
      subst l523 y523 z523
      obtain ⟨rfl, Nq523, eh523⟩ := hQ523
      have N523 := Fr.app N513 Nq523
      refine Go.on (w := T523.setTop (mkF m 118 #[rv a1, iv 2, .val (.long 2), .second, iv 2, iv 0, .unset, .unset, .unset, .unset, .unset, .unset, .unset, .unset] [(.int 1), (.long 2)])) (fun t k => XS.isub X521.here hx rfl (hb hby d11_114) rfl (st523 _ k)) ?_
      refine Go.on (w := T523.setTop (mkF m 119 #[rv a1, iv 2, .val (.long 2), .second, iv 2, iv 0, .unset, .unset, .unset, .unset, .unset, .unset, .unset, .unset] [(.long 1), (.long 2)])) (fun t k => XS.i2l X523.here hx rfl (hb hby d11_118) rfl (by rw [(by decide : ((1 : Int32).toInt64) = (1 : Int64))]; exact k)) ?_
      refine Go.on (w := T523.setTop (mkF m 120 #[rv a1, iv 2, .val (.long 2), .second, iv 2, iv 0, .unset, .unset, .unset, .unset, .unset, .unset, .unset, .unset] [(.long 3)])) (fun t k => XS.ladd X523.here hx rfl (hb hby d11_119) rfl (by rw [(by decide : ((2 : Int64) + (1 : Int64)) = (3 : Int64))]; exact k)) ?_
      obtain ⟨T524, X524, e524, st524⟩ := getF X523 hx hZ0 hown0 (host := "") (Or.inl (w_21 hw)) Via.refl eh523 F500 (g := (mkF m 22 #[rv a1, iv 2, .val (.long 3), .second, iv 3, iv 0, .unset, .unset, .unset, .unset, .unset, .unset, .unset, .unset] [(.ref a1), (.int 3)])) rfl rfl (hb hby d11_22)
      obtain ⟨T525, h525, k525, X525, e525, E525, A525, st525⟩ := newP (aty := .int) X524 hx hZ0 (w_13 hw) e524 (g := (mkF m 128 #[rv a1, iv 2, .val (.long 3), .second, iv 3, iv 0, .unset, .unset, .unset, .unset, .unset, .unset, .unset, .unset] [(.int 2)])) rfl (hb hby d11_128) rfl (by decide : ¬ ((2 : Int32) < (0 : Int32))) (cap := 2) (by decide) (by decide) (by decide) (by decide)
      obtain ⟨b525, g525⟩ : ∃ z, z = T294.heap.size := ⟨_, rfl⟩
      rw [← g525] at A525 st525
      have V525 : Arv Z h525 b525 k525 .int (2 : Int32) [(.int 0), (.int 0)] (.int 0) := (Arv.new A525 (by decide : ¬ ((2 : Int32) < (0 : Int32)))).pad (pad_rep [] (.int 0) 2)
      have u525 : h525.size > b525 := V525.lt
      have z525 : T294.heap.size ≤ h525.size := E525.1
      have KP525 : Keep h0 h525 ([ks] : List Addr) := KP294.ext E525
      obtain ⟨v526, _, ⟨T526, L526, k526, n526⟩, -, X526, ⟨Lc526, hQ526, l526, y526, z526⟩, st526⟩ := Jvm.LawKit.callS X525 hx (y := yM10) hown0 (mvT hZ0 (w_48 hw)) (mvT hZ0 (w_49 hw)) (mvT hZ0 (w_50 hw)) (mvT hZ0 (w_51 hw)) (by decide) (backOf (W := 0) (rmTie l Z a0 hw [] () h525 ) hZ0 (w_51 hw) (w_50 hw) (by decide) (by decide)) (g := (mkF m 133 #[rv a1, iv 2, .val (.long 3), .second, rv b525, iv 0, .unset, .unset, .unset, .unset, .unset, .unset, .unset, .unset] [(.long 3)])) rfl (by rw [hml]; rfl) (argsL := [(.long 3)]) (rest := []) (lenOf pd_6 rfl) rfl (by show 2 * 0 + _ ≤ _; exact Nat.le_of_eq rfl) (hb hby d11_133) (fun _ _ => ⟨rfl, e525, (by decide : 1 + 0 ≤ _), (by decide : 2 + 0 ≤ _)⟩)
      dsimp only [Pt.U, Pt.locs, Pt.cells, Pt.slots] at X526 l526 y526 z526 st526 hQ526
      subst l526 y526 z526
      obtain ⟨rfl, Nq526, eh526⟩ := hQ526
      have N526 := Fr.app N523 Nq526
      obtain ⟨T527, h527, k527, X527, e527, E527, A527, st527⟩ := newP (aty := .byte) X526 hx hZ0 (w_52 hw) eh526 (g := (mkF m 136 #[rv a1, iv 2, .val (.long 3), .second, rv b525, iv 0, .unset, .unset, .unset, .unset, .unset, .unset, .unset, .unset] [(.int 3)])) rfl (hb hby d11_136) rfl (by decide : ¬ ((3 : Int32) < (0 : Int32))) (cap := 3) (by decide) (by decide) (by decide) (by decide)
      obtain ⟨b527, g527⟩ : ∃ z, z = h525.size := ⟨_, rfl⟩
      rw [← g527] at A527 st527
      have V527 : Arv Z h527 b527 k527 .byte (3 : Int32) [(.int 0), (.int 0), (.int 0)] (.int 0) := (Arv.new A527 (by decide : ¬ ((3 : Int32) < (0 : Int32)))).pad (pad_rep [] (.int 0) 3)
      have u527 : h527.size > b527 := V527.lt
      have z527 : h525.size ≤ h527.size := E527.1
      have KP527 : Keep h0 h527 ([ks] : List Addr) := KP525.ext E527
      refine Go.on (w := T527.setTop (mkF m 142 #[rv a1, iv 2, .val (.long 3), .second, rv b525, rv b527, .unset, .unset, .unset, .unset, .unset, .unset, .unset, .unset] [(.int 1), (.int 2)])) (fun t k => XS.lstoreN X523.here hx rfl (hb hby d11_120) rfl (l' := #[rv a1, iv 2, .val (.long 3), .second, iv 2, iv 0, .unset, .unset, .unset, .unset, .unset, .unset, .unset, .unset]) rfl (XS.iinc X523.here hx rfl (hb hby d11_121) rfl (l' := #[rv a1, iv 2, .val (.long 3), .second, iv 3, iv 0, .unset, .unset, .unset, .unset, .unset, .unset, .unset, .unset]) rfl (XS.goto X523.here hx rfl (pc0 := 124) (pc' := 19) rfl (hb hby d11_124) (by decide) (by decide) (XS.iload X523.here hx rfl (hb hby d11_19) rfl (XS.aloadN X523.here hx rfl (hb hby d11_21) rfl rfl (st524 _ (XS.icmpYes X524.here hx rfl (pc0 := 25) (pc' := 127) rfl (hb hby d11_25) rfl (flt (by decide : ¬ ((3 : Int32) < (3 : Int32)))).2.1 (by decide) (by decide) (XS.iloadN X524.here hx rfl (hb hby d11_127) rfl (st525 _ (XS.astore X525.here hx rfl (hb hby d11_130) rfl rfl (l' := #[rv a1, iv 2, .val (.long 3), .second, rv b525, iv 0, .unset, .unset, .unset, .unset, .unset, .unset, .unset, .unset]) rfl (XS.lloadN X525.here hx rfl (hb hby d11_132) rfl (st526 _ (st527 _ (XS.astore X527.here hx rfl (hb hby d11_138) rfl rfl (l' := #[rv a1, iv 2, .val (.long 3), .second, rv b525, rv b527, .unset, .unset, .unset, .unset, .unset, .unset, .unset, .unset]) rfl (XS.iloadN X527.here hx rfl (hb hby d11_140) rfl (XS.iconst X527.here hx rfl (hb hby d11_141) k)))))))))))))))) ?_
      refine Go.on (w := T527.setTop (mkF m 143 #[rv a1, iv 2, .val (.long 3), .second, rv b525, rv b527, .unset, .unset, .unset, .unset, .unset, .unset, .unset, .unset] [(.int 3)])) (fun t k => XS.iadd X527.here hx rfl (hb hby d11_142) rfl (by rw [(by decide : ((2 : Int32) + (1 : Int32)) = (3 : Int32))]; exact k)) ?_
      obtain ⟨T528, h528, k528, X528, e528, E528, A528, st528⟩ := newP (aty := .int) X527 hx hZ0 (w_13 hw) e527 (g := (mkF m 143 #[rv a1, iv 2, .val (.long 3), .second, rv b525, rv b527, .unset, .unset, .unset, .unset, .unset, .unset, .unset, .unset] [(.int 3)])) rfl (hb hby d11_143) rfl (by decide : ¬ ((3 : Int32) < (0 : Int32))) (cap := 3) (by decide) (by decide) (by decide) (by decide)
      obtain ⟨b528, g528⟩ : ∃ z, z = h527.size := ⟨_, rfl⟩
      rw [← g528] at A528 st528
      have V528 : Arv Z h528 b528 k528 .int (3 : Int32) [(.int 0), (.int 0), (.int 0)] (.int 0) := (Arv.new A528 (by decide : ¬ ((3 : Int32) < (0 : Int32)))).pad (pad_rep [] (.int 0) 3)
      have u528 : h528.size > b528 := V528.lt
      have z528 : h527.size ≤ h528.size := E528.1
      have KP528 : Keep h0 h528 ([ks] : List Addr) := KP527.ext E528
      have F529 := (((F500.ext E525).ext E527).ext E528)
      obtain ⟨T530, X530, e530, st530⟩ := getF X528 hx hZ0 hown0 (host := "") (Or.inl (w_21 hw)) Via.refl e528 F529 (g := (mkF m 148 #[rv a1, iv 2, .val (.long 3), .second, rv b525, rv b527, rv b528, .unset, .unset, .unset, .unset, .unset, .unset, .unset] [(.ref a1)])) rfl rfl (hb hby d11_148)
      obtain ⟨T531, h531, k531, X531, e531, E531, A531, st531⟩ := newP (aty := .int) X530 hx hZ0 (w_13 hw) e530 (g := (mkF m 151 #[rv a1, iv 2, .val (.long 3), .second, rv b525, rv b527, rv b528, .unset, .unset, .unset, .unset, .unset, .unset, .unset] [(.int 3)])) rfl (hb hby d11_151) rfl (by decide : ¬ ((3 : Int32) < (0 : Int32))) (cap := 3) (by decide) (by decide) (by decide) (by decide)
      obtain ⟨b531, g531⟩ : ∃ z, z = h528.size := ⟨_, rfl⟩
      rw [← g531] at A531 st531
      have V531 : Arv Z h531 b531 k531 .int (3 : Int32) [(.int 0), (.int 0), (.int 0)] (.int 0) := (Arv.new A531 (by decide : ¬ ((3 : Int32) < (0 : Int32)))).pad (pad_rep [] (.int 0) 3)
      have u531 : h531.size > b531 := V531.lt
      have z531 : h528.size ≤ h531.size := E531.1
      have KP531 : Keep h0 h531 ([ks] : List Addr) := KP528.ext E531
      have F532 := (F529.ext E531)
      obtain ⟨T533, X533, e533, st533⟩ := getF X531 hx hZ0 hown0 (host := "") (Or.inl (w_21 hw)) Via.refl e531 F532 (g := (mkF m 167 #[rv a1, iv 2, .val (.long 3), .second, rv b525, rv b527, rv b528, rv b531, iv 0, iv (-1), iv 0, .unset, .unset, .unset] [(.ref a1), (.int 0)])) rfl rfl (hb hby d11_167)
      have F534 := ((((F502.ext E525).ext E527).ext E528).ext E531)
      obtain ⟨T535, X535, e535, st535⟩ := getF X533 hx hZ0 hown0 (host := "") (Or.inl (w_11 hw)) Via.refl e533 F534 (g := (mkF m 174 #[rv a1, iv 2, .val (.long 3), .second, rv b525, rv b527, rv b528, rv b531, iv 0, iv (-1), iv 0, .unset, .unset, .unset] [(.ref a1)])) rfl rfl (hb hby d11_174)
      have F536 := ((((f294_0.ext E525).ext E527).ext E528).ext E531)
      obtain ⟨cl537, Ar537, q537, S537, M537, H537, U537⟩ := id F536
      have hin537 := ((inb_of S537 ⟨(by decide), (by decide)⟩) : ¬ ((0 : Int32) < 0 ∨ cl537.slots.size ≤ ((0 : Int32)).toNatClampNeg))
      refine Go.on (w := T535.setTop (mkF m 182 #[rv a1, iv 2, .val (.long 3), .second, rv b525, rv b527, rv b528, rv b531, iv 0, iv (-1), iv 0, .unset, .unset, .unset] [(.int 32), (.long s0_294)])) (fun t k => st528 _ (XS.astore X528.here hx rfl (hb hby d11_145) rfl rfl (l' := #[rv a1, iv 2, .val (.long 3), .second, rv b525, rv b527, rv b528, .unset, .unset, .unset, .unset, .unset, .unset, .unset]) rfl (XS.aloadN X528.here hx rfl (hb hby d11_147) rfl rfl (st530 _ (st531 _ (XS.astore X531.here hx rfl (hb hby d11_153) rfl rfl (l' := #[rv a1, iv 2, .val (.long 3), .second, rv b525, rv b527, rv b528, rv b531, .unset, .unset, .unset, .unset, .unset, .unset]) rfl (XS.iconst X531.here hx rfl (hb hby d11_155) (XS.istore X531.here hx rfl (hb hby d11_156) rfl (l' := #[rv a1, iv 2, .val (.long 3), .second, rv b525, rv b527, rv b528, rv b531, iv 0, .unset, .unset, .unset, .unset, .unset]) rfl (XS.iconst X531.here hx rfl (hb hby d11_158) (XS.istore X531.here hx rfl (hb hby d11_159) rfl (l' := #[rv a1, iv 2, .val (.long 3), .second, rv b525, rv b527, rv b528, rv b531, iv 0, iv (-1), .unset, .unset, .unset, .unset]) rfl (XS.iconst X531.here hx rfl (hb hby d11_161) (XS.istore X531.here hx rfl (hb hby d11_162) rfl (l' := #[rv a1, iv 2, .val (.long 3), .second, rv b525, rv b527, rv b528, rv b531, iv 0, iv (-1), iv 0, .unset, .unset, .unset]) rfl (XS.iload X531.here hx rfl (hb hby d11_164) rfl (XS.aloadN X531.here hx rfl (hb hby d11_166) rfl rfl (st533 _ (XS.icmpNo X533.here hx rfl (hb hby d11_170) rfl (tlt (by decide : (0 : Int32) < (3 : Int32))).2.1 (XS.aloadN X533.here hx rfl (hb hby d11_173) rfl rfl (st535 _ (XS.iload X535.here hx rfl (hb hby d11_177) rfl (X535.laload hx (j := (0 : Int32)) (v := (.long s0_294)) (by rw [e535]; exact Ar537.1) (State.isArrayOf_alike hZ0.alike Ar537.2.1) Ar537.2.2 hin537 (H537.at hin537 rfl) (g := (mkF m 179 #[rv a1, iv 2, .val (.long 3), .second, rv b525, rv b527, rv b528, rv b531, iv 0, iv (-1), iv 0, .unset, .unset, .unset] [(.int 0), (.ref ks)])) rfl rfl (hb hby d11_179) _ (XS.bipush X535.here hx rfl (hb hby d11_180) k))))))))))))))))))))) ?_
      refine Go.on (w := T535.setTop (mkF m 183 #[rv a1, iv 2, .val (.long 3), .second, rv b525, rv b527, rv b528, rv b531, iv 0, iv (-1), iv 0, .unset, .unset, .unset] [(.long (m0.toInt64))])) (fun t k => XS.lushr X535.here hx rfl (hb hby d11_182) rfl (by rw [(hu0 : ((s0_294.toUInt64 >>> ((32 : Int32) &&& 0x3f).toInt64.toUInt64).toInt64) = (m0.toInt64))]; exact k)) ?_
      refine Go.on (w := T535.setTop (mkF m 184 #[rv a1, iv 2, .val (.long 3), .second, rv b525, rv b527, rv b528, rv b531, iv 0, iv (-1), iv 0, .unset, .unset, .unset] [(.int m0)])) (fun t k => XS.l2i X535.here hx rfl (hb hby d11_183) rfl (by rw [(hm0 : ((m0.toInt64).toInt32) = m0)]; exact k)) ?_
      obtain ⟨T538, X538, e538, st538⟩ := getF X535 hx hZ0 hown0 (host := "") (Or.inl (w_11 hw)) Via.refl e535 F534 (g := (mkF m 187 #[rv a1, iv 2, .val (.long 3), .second, rv b525, rv b527, rv b528, rv b531, iv 0, iv (-1), iv 0, iv m0, .unset, .unset] [(.ref a1)])) rfl rfl (hb hby d11_187)
      obtain ⟨cl539, Ar539, q539, S539, M539, H539, U539⟩ := id F536
      have hin539 := ((inb_of S539 ⟨(by decide), (by decide)⟩) : ¬ ((0 : Int32) < 0 ∨ cl539.slots.size ≤ ((0 : Int32)).toNatClampNeg))
      refine Go.on (w := T538.setTop (mkF m 193 #[rv a1, iv 2, .val (.long 3), .second, rv b525, rv b527, rv b528, rv b531, iv 0, iv (-1), iv 0, iv m0, .unset, .unset] [(.long s0_294)])) (fun t k => XS.istore X535.here hx rfl (hb hby d11_184) rfl (l' := #[rv a1, iv 2, .val (.long 3), .second, rv b525, rv b527, rv b528, rv b531, iv 0, iv (-1), iv 0, iv m0, .unset, .unset]) rfl (XS.aloadN X535.here hx rfl (hb hby d11_186) rfl rfl (st538 _ (XS.iload X538.here hx rfl (hb hby d11_190) rfl (X538.laload hx (j := (0 : Int32)) (v := (.long s0_294)) (by rw [e538]; exact Ar539.1) (State.isArrayOf_alike hZ0.alike Ar539.2.1) Ar539.2.2 hin539 (H539.at hin539 rfl) (g := (mkF m 192 #[rv a1, iv 2, .val (.long 3), .second, rv b525, rv b527, rv b528, rv b531, iv 0, iv (-1), iv 0, iv m0, .unset, .unset] [(.int 0), (.ref ks)])) rfl rfl (hb hby d11_192) _ k))))) ?_
      refine Go.on (w := T538.setTop (mkF m 194 #[rv a1, iv 2, .val (.long 3), .second, rv b525, rv b527, rv b528, rv b531, iv 0, iv (-1), iv 0, iv m0, .unset, .unset] [(.int r0)])) (fun t k => XS.l2i X538.here hx rfl (hb hby d11_193) rfl (by rw [(hl0 : (s0_294.toInt32) = r0)]; exact k)) ?_
      have F540 := (((V525.ext E527).ext E528).ext E531)
      obtain ⟨cl541, Ar541, q541, S541, M541, H541, U541⟩ := id F540
      obtain ⟨T541, h541, X541, e541, W541, st541⟩ := stI X538 hx hZ0 e538 Ar541 (j := (0 : Int32)) (inb_of S541 ⟨(by decide), (by decide)⟩) (g := (mkF m 224 #[rv a1, iv 2, .val (.long 3), .second, rv b525, rv b527, rv b528, rv b531, iv 0, iv 0, iv 0, iv m0, iv r0, iv r0] [(.int m0), (.int 0), (.ref b525)])) rfl rfl (hb hby d11_224)
      have V541 : Arv Z h541 b525 k525 .int (2 : Int32) [(.int m0), (.int 0)] (.int 0) := (Arv.set Ar541 q541 S541 M541 H541 U541 rfl W541 0 rfl (Nat.le_of_ble_eq_true rfl))
      have z541 : h531.size ≤ h541.size := Nat.le_of_eq W541.size.symm
      have KP541 : Keep h0 h541 ([ks] : List Addr) := KP531.wr W541 (Or.inr (by omega))
      have N541 := Fr.snoc X541 N526 (by omega)
      have F542 := ((V528.ext E531).other W541 (show @Ne Nat b528 b525 by omega))
      obtain ⟨cl543, Ar543, q543, S543, M543, H543, U543⟩ := id F542
      obtain ⟨T543, h543, X543, e543, W543, st543⟩ := stI X541 hx hZ0 e541 Ar543 (j := (0 : Int32)) (inb_of S543 ⟨(by decide), (by decide)⟩) (g := (mkF m 231 #[rv a1, iv 2, .val (.long 3), .second, rv b525, rv b527, rv b528, rv b531, iv 0, iv 0, iv 0, iv m0, iv r0, iv r0] [(.int 0), (.int 0), (.ref b528)])) rfl rfl (hb hby d11_231)
      have V543 : Arv Z h543 b528 k528 .int (3 : Int32) [(.int 0), (.int 0), (.int 0)] (.int 0) := (Arv.set Ar543 q543 S543 M543 H543 U543 rfl W543 0 rfl (Nat.le_of_ble_eq_true rfl))
      have z543 : h541.size ≤ h543.size := Nat.le_of_eq W543.size.symm
      have KP543 : Keep h0 h543 ([ks] : List Addr) := KP541.wr W543 (Or.inr (by omega))
      have N543 := Fr.snoc X543 N541 (by omega)
      refine Go.on (w := T543.setTop (mkF m 292 #[rv a1, iv 2, .val (.long 3), .second, rv b525, rv b527, rv b528, rv b531, iv 1, iv 0, iv 0, iv m0, iv r0, iv r0] [(.int r0), (.int 0), (.ref b527)])) (fun t k => XS.istore X538.here hx rfl (hb hby d11_194) rfl (l' := #[rv a1, iv 2, .val (.long 3), .second, rv b525, rv b527, rv b528, rv b531, iv 0, iv (-1), iv 0, iv m0, iv r0, .unset]) rfl (XS.iload X538.here hx rfl (hb hby d11_196) rfl (XS.istore X538.here hx rfl (hb hby d11_198) rfl (l' := #[rv a1, iv 2, .val (.long 3), .second, rv b525, rv b527, rv b528, rv b531, iv 0, iv (-1), iv 0, iv m0, iv r0, iv r0]) rfl (XS.iload X538.here hx rfl (hb hby d11_200) rfl (XS.ifYes X538.here hx rfl (pc0 := 202) (pc' := 215) rfl (hb hby d11_202) rfl ((if0 _ _).trans (tlt (by decide : (-1 : Int32) < (0 : Int32))).1) (by decide) (by decide) (XS.aload X538.here hx rfl (hb hby d11_215) rfl rfl (XS.iinc X538.here hx rfl (hb hby d11_217) rfl (l' := #[rv a1, iv 2, .val (.long 3), .second, rv b525, rv b527, rv b528, rv b531, iv 0, iv 0, iv 0, iv m0, iv r0, iv r0]) rfl (XS.iload X538.here hx rfl (hb hby d11_220) rfl (XS.iload X538.here hx rfl (hb hby d11_222) rfl (st541 _ (XS.aload X541.here hx rfl (hb hby d11_225) rfl rfl (XS.iload X541.here hx rfl (hb hby d11_227) rfl (XS.iload X541.here hx rfl (hb hby d11_229) rfl (st543 _ (XS.goto X543.here hx rfl (pc0 := 232) (pc' := 250) rfl (hb hby d11_232) (by decide) (by decide) (XS.iload X543.here hx rfl (hb hby d11_250) rfl (XS.sipush X543.here hx rfl (hb hby d11_252) (XS.icmpYes X543.here hx rfl (pc0 := 255) (pc' := 283) rfl (hb hby d11_255) rfl (tlt (own_r128 hr0)).1 (by decide) (by decide) (XS.aload X543.here hx rfl (hb hby d11_283) rfl rfl (XS.iload X543.here hx rfl (hb hby d11_285) rfl (XS.iinc X543.here hx rfl (hb hby d11_287) rfl (l' := #[rv a1, iv 2, .val (.long 3), .second, rv b525, rv b527, rv b528, rv b531, iv 1, iv 0, iv 0, iv m0, iv r0, iv r0]) rfl (XS.iload X543.here hx rfl (hb hby d11_290) rfl k)))))))))))))))))))))) ?_
      refine Go.on (w := T543.setTop (mkF m 293 #[rv a1, iv 2, .val (.long 3), .second, rv b525, rv b527, rv b528, rv b531, iv 1, iv 0, iv 0, iv m0, iv r0, iv r0] [(.int r0), (.int 0), (.ref b527)])) (fun t k => XS.i2b X543.here hx rfl (hb hby d11_292) rfl (by rw [(own_r8 hr0 : (r0.toInt8.toInt32) = r0)]; exact k)) ?_
      have F544 := ((((V527.ext E528).ext E531).other W541 (show @Ne Nat b527 b525 by omega)).other W543 (show @Ne Nat b527 b528 by omega))
      obtain ⟨cl545, Ar545, q545, S545, M545, H545, U545⟩ := id F544
      obtain ⟨T545, h545, X545, e545, W545, st545⟩ := stB X543 hx hZ0 e543 Ar545 (j := (0 : Int32)) (inb_of S545 ⟨(by decide), (by decide)⟩) (g := (mkF m 293 #[rv a1, iv 2, .val (.long 3), .second, rv b525, rv b527, rv b528, rv b531, iv 1, iv 0, iv 0, iv m0, iv r0, iv r0] [(.int r0), (.int 0), (.ref b527)])) rfl rfl (hb hby d11_293)
      have V545 : Arv Z h545 b527 k527 .byte (3 : Int32) [(.int r0), (.int 0), (.int 0)] (.int 0) := by rw [← (own_r8n hr0 : nar .byte r0 = r0)]; exact (Arv.set Ar545 q545 S545 M545 H545 U545 (fits_nar_byte _) W545 0 rfl (Nat.le_of_ble_eq_true rfl))
      have z545 : h543.size ≤ h545.size := Nat.le_of_eq W545.size.symm
      have KP545 : Keep h0 h545 ([ks] : List Addr) := KP543.wr W545 (Or.inr (by omega))
      have N545 := Fr.snoc X545 N543 (by omega)
      have F546 := (((V531.other W541 (show @Ne Nat b531 b525 by omega)).other W543 (show @Ne Nat b531 b528 by omega)).other W545 (show @Ne Nat b531 b527 by omega))
      obtain ⟨T547, h547, sl547, y547a, y547b, y547c, X547, e547, W547, V547, st547⟩ := own_st3 X545 hx hZ0 e545 F546 hr0 (g := (mkF m 300 #[rv a1, iv 2, .val (.long 3), .second, rv b525, rv b527, rv b528, rv b531, iv 1, iv 0, iv 0, iv m0, iv r0, iv r0] [(.int 0), (.int r0), (.ref b531)])) rfl rfl (hb hby d11_300)
      have z547 : h545.size ≤ h547.size := Nat.le_of_eq W547.size.symm
      have KP547 : Keep h0 h547 ([ks] : List Addr) := KP545.wr W547 (Or.inr (by omega))
      have N547 := Fr.snoc X547 N545 (by omega)
      have F548 := ((((F532.other W541 (Or.inl (show @Ne Nat a1 b525 by omega))).other W543 (Or.inl (show @Ne Nat a1 b528 by omega))).other W545 (Or.inl (show @Ne Nat a1 b527 by omega))).other W547 (Or.inl (show @Ne Nat a1 b531 by omega)))
      obtain ⟨T549, X549, e549, st549⟩ := getF X547 hx hZ0 hown0 (host := "") (Or.inl (w_21 hw)) Via.refl e547 F548 (g := (mkF m 167 #[rv a1, iv 2, .val (.long 3), .second, rv b525, rv b527, rv b528, rv b531, iv 1, iv 0, iv 1, iv m0, iv r0, iv r0] [(.ref a1), (.int 1)])) rfl rfl (hb hby d11_167)
      have F550 := ((((F534.other W541 (Or.inl (show @Ne Nat a1 b525 by omega))).other W543 (Or.inl (show @Ne Nat a1 b528 by omega))).other W545 (Or.inl (show @Ne Nat a1 b527 by omega))).other W547 (Or.inl (show @Ne Nat a1 b531 by omega)))
      obtain ⟨T551, X551, e551, st551⟩ := getF X549 hx hZ0 hown0 (host := "") (Or.inl (w_11 hw)) Via.refl e549 F550 (g := (mkF m 174 #[rv a1, iv 2, .val (.long 3), .second, rv b525, rv b527, rv b528, rv b531, iv 1, iv 0, iv 1, iv m0, iv r0, iv r0] [(.ref a1)])) rfl rfl (hb hby d11_174)
      have F552 := ((((F536.other W541 (show @Ne Nat ks b525 by omega)).other W543 (show @Ne Nat ks b528 by omega)).other W545 (show @Ne Nat ks b527 by omega)).other W547 (show @Ne Nat ks b531 by omega))
      obtain ⟨cl553, Ar553, q553, S553, M553, H553, U553⟩ := id F552
      have hin553 := ((inb_of S553 ⟨(by decide), (by decide)⟩) : ¬ ((1 : Int32) < 0 ∨ cl553.slots.size ≤ ((1 : Int32)).toNatClampNeg))
      refine Go.on (w := T551.setTop (mkF m 182 #[rv a1, iv 2, .val (.long 3), .second, rv b525, rv b527, rv b528, rv b531, iv 1, iv 0, iv 1, iv m0, iv r0, iv r0] [(.int 32), (.long s1_294)])) (fun t k => st545 _ (XS.aload X545.here hx rfl (hb hby d11_294) rfl rfl (XS.iload X545.here hx rfl (hb hby d11_296) rfl (XS.iload X545.here hx rfl (hb hby d11_298) rfl (st547 _ (XS.iinc X547.here hx rfl (hb hby d11_301) rfl (l' := #[rv a1, iv 2, .val (.long 3), .second, rv b525, rv b527, rv b528, rv b531, iv 1, iv 0, iv 1, iv m0, iv r0, iv r0]) rfl (XS.goto X547.here hx rfl (pc0 := 304) (pc' := 164) rfl (hb hby d11_304) (by decide) (by decide) (XS.iload X547.here hx rfl (hb hby d11_164) rfl (XS.aloadN X547.here hx rfl (hb hby d11_166) rfl rfl (st549 _ (XS.icmpNo X549.here hx rfl (hb hby d11_170) rfl (tlt (by decide : (1 : Int32) < (3 : Int32))).2.1 (XS.aloadN X549.here hx rfl (hb hby d11_173) rfl rfl (st551 _ (XS.iload X551.here hx rfl (hb hby d11_177) rfl (X551.laload hx (j := (1 : Int32)) (v := (.long s1_294)) (by rw [e551]; exact Ar553.1) (State.isArrayOf_alike hZ0.alike Ar553.2.1) Ar553.2.2 hin553 (H553.at hin553 rfl) (g := (mkF m 179 #[rv a1, iv 2, .val (.long 3), .second, rv b525, rv b527, rv b528, rv b531, iv 1, iv 0, iv 1, iv m0, iv r0, iv r0] [(.int 1), (.ref ks)])) rfl rfl (hb hby d11_179) _ (XS.bipush X551.here hx rfl (hb hby d11_180) k)))))))))))))))) ?_
      refine Go.on (w := T551.setTop (mkF m 183 #[rv a1, iv 2, .val (.long 3), .second, rv b525, rv b527, rv b528, rv b531, iv 1, iv 0, iv 1, iv m0, iv r0, iv r0] [(.long (m1.toInt64))])) (fun t k => XS.lushr X551.here hx rfl (hb hby d11_182) rfl (by rw [(hu1 : ((s1_294.toUInt64 >>> ((32 : Int32) &&& 0x3f).toInt64.toUInt64).toInt64) = (m1.toInt64))]; exact k)) ?_
      refine Go.on (w := T551.setTop (mkF m 184 #[rv a1, iv 2, .val (.long 3), .second, rv b525, rv b527, rv b528, rv b531, iv 1, iv 0, iv 1, iv m0, iv r0, iv r0] [(.int m1)])) (fun t k => XS.l2i X551.here hx rfl (hb hby d11_183) rfl (by rw [(hm1 : ((m1.toInt64).toInt32) = m1)]; exact k)) ?_
      obtain ⟨T554, X554, e554, st554⟩ := getF X551 hx hZ0 hown0 (host := "") (Or.inl (w_11 hw)) Via.refl e551 F550 (g := (mkF m 187 #[rv a1, iv 2, .val (.long 3), .second, rv b525, rv b527, rv b528, rv b531, iv 1, iv 0, iv 1, iv m1, iv r0, iv r0] [(.ref a1)])) rfl rfl (hb hby d11_187)
      obtain ⟨cl555, Ar555, q555, S555, M555, H555, U555⟩ := id F552
      have hin555 := ((inb_of S555 ⟨(by decide), (by decide)⟩) : ¬ ((1 : Int32) < 0 ∨ cl555.slots.size ≤ ((1 : Int32)).toNatClampNeg))
      refine Go.on (w := T554.setTop (mkF m 193 #[rv a1, iv 2, .val (.long 3), .second, rv b525, rv b527, rv b528, rv b531, iv 1, iv 0, iv 1, iv m1, iv r0, iv r0] [(.long s1_294)])) (fun t k => XS.istore X551.here hx rfl (hb hby d11_184) rfl (l' := #[rv a1, iv 2, .val (.long 3), .second, rv b525, rv b527, rv b528, rv b531, iv 1, iv 0, iv 1, iv m1, iv r0, iv r0]) rfl (XS.aloadN X551.here hx rfl (hb hby d11_186) rfl rfl (st554 _ (XS.iload X554.here hx rfl (hb hby d11_190) rfl (X554.laload hx (j := (1 : Int32)) (v := (.long s1_294)) (by rw [e554]; exact Ar555.1) (State.isArrayOf_alike hZ0.alike Ar555.2.1) Ar555.2.2 hin555 (H555.at hin555 rfl) (g := (mkF m 192 #[rv a1, iv 2, .val (.long 3), .second, rv b525, rv b527, rv b528, rv b531, iv 1, iv 0, iv 1, iv m1, iv r0, iv r0] [(.int 1), (.ref ks)])) rfl rfl (hb hby d11_192) _ k))))) ?_
      refine Go.on (w := T554.setTop (mkF m 194 #[rv a1, iv 2, .val (.long 3), .second, rv b525, rv b527, rv b528, rv b531, iv 1, iv 0, iv 1, iv m1, iv r0, iv r0] [(.int r1)])) (fun t k => XS.l2i X554.here hx rfl (hb hby d11_193) rfl (by rw [(hl1 : (s1_294.toInt32) = r1)]; exact k)) ?_
      have F556 := (((V541.other W543 (show @Ne Nat b525 b528 by omega)).other W545 (show @Ne Nat b525 b527 by omega)).other W547 (show @Ne Nat b525 b531 by omega))
      obtain ⟨cl557, Ar557, q557, S557, M557, H557, U557⟩ := id F556
      have hin557 := ((inb_of S557 ⟨(by decide), (by decide)⟩) : ¬ ((0 : Int32) < 0 ∨ cl557.slots.size ≤ ((0 : Int32)).toNatClampNeg))
      obtain ⟨cl558, Ar558, q558, S558, M558, H558, U558⟩ := id F556
      obtain ⟨T558, h558, X558, e558, W558, st558⟩ := stI X554 hx hZ0 e554 Ar558 (j := (1 : Int32)) (inb_of S558 ⟨(by decide), (by decide)⟩) (g := (mkF m 224 #[rv a1, iv 2, .val (.long 3), .second, rv b525, rv b527, rv b528, rv b531, iv 1, iv 1, iv 1, iv m1, iv r1, iv r1] [(.int m1), (.int 1), (.ref b525)])) rfl rfl (hb hby d11_224)
      have V558 : Arv Z h558 b525 k525 .int (2 : Int32) [(.int m0), (.int m1)] (.int 0) := (Arv.set Ar558 q558 S558 M558 H558 U558 rfl W558 1 rfl (Nat.le_of_ble_eq_true rfl))
      have z558 : h547.size ≤ h558.size := Nat.le_of_eq W558.size.symm
      have KP558 : Keep h0 h558 ([ks] : List Addr) := KP547.wr W558 (Or.inr (by omega))
      have N558 := Fr.snoc X558 N547 (by omega)
      have F559 := (((V543.other W545 (show @Ne Nat b528 b527 by omega)).other W547 (show @Ne Nat b528 b531 by omega)).other W558 (show @Ne Nat b528 b525 by omega))
      obtain ⟨cl560, Ar560, q560, S560, M560, H560, U560⟩ := id F559
      obtain ⟨T560, h560, X560, e560, W560, st560⟩ := stI X558 hx hZ0 e558 Ar560 (j := (1 : Int32)) (inb_of S560 ⟨(by decide), (by decide)⟩) (g := (mkF m 231 #[rv a1, iv 2, .val (.long 3), .second, rv b525, rv b527, rv b528, rv b531, iv 1, iv 1, iv 1, iv m1, iv r1, iv r1] [(.int 1), (.int 1), (.ref b528)])) rfl rfl (hb hby d11_231)
      have V560 : Arv Z h560 b528 k528 .int (3 : Int32) [(.int 0), (.int 1), (.int 0)] (.int 0) := (Arv.set Ar560 q560 S560 M560 H560 U560 rfl W560 1 rfl (Nat.le_of_ble_eq_true rfl))
      have z560 : h558.size ≤ h560.size := Nat.le_of_eq W560.size.symm
      have KP560 : Keep h0 h560 ([ks] : List Addr) := KP558.wr W560 (Or.inr (by omega))
      have N560 := Fr.snoc X560 N558 (by omega)
      refine Go.on (w := T560.setTop (mkF m 285 #[rv a1, iv 2, .val (.long 3), .second, rv b525, rv b527, rv b528, rv b531, iv 1, iv 1, iv 1, iv m1, iv r1, iv r1] [(.ref b527)])) (fun t k => XS.istore X554.here hx rfl (hb hby d11_194) rfl (l' := #[rv a1, iv 2, .val (.long 3), .second, rv b525, rv b527, rv b528, rv b531, iv 1, iv 0, iv 1, iv m1, iv r1, iv r0]) rfl (XS.iload X554.here hx rfl (hb hby d11_196) rfl (XS.istore X554.here hx rfl (hb hby d11_198) rfl (l' := #[rv a1, iv 2, .val (.long 3), .second, rv b525, rv b527, rv b528, rv b531, iv 1, iv 0, iv 1, iv m1, iv r1, iv r1]) rfl (XS.iload X554.here hx rfl (hb hby d11_200) rfl (XS.ifNo X554.here hx rfl (hb hby d11_202) rfl ((if0 _ _).trans (flt (by decide : ¬ ((0 : Int32) < (0 : Int32)))).1) (XS.aload X554.here hx rfl (hb hby d11_205) rfl rfl (XS.iload X554.here hx rfl (hb hby d11_207) rfl (X554.iaload hx (j := (0 : Int32)) (v := (.int m0)) (by rw [e554]; exact Ar557.1) (State.isArrayOf_alike hZ0.alike Ar557.2.1) Ar557.2.2 hin557 (H557.at hin557 rfl) (g := (mkF m 209 #[rv a1, iv 2, .val (.long 3), .second, rv b525, rv b527, rv b528, rv b531, iv 1, iv 0, iv 1, iv m1, iv r1, iv r1] [(.int 0), (.ref b525)])) rfl rfl (hb hby d11_209) _ (XS.iload X554.here hx rfl (hb hby d11_210) rfl (XS.icmpNo X554.here hx rfl (hb hby d11_212) rfl (feq hb1).1 (XS.aload X554.here hx rfl (hb hby d11_215) rfl rfl (XS.iinc X554.here hx rfl (hb hby d11_217) rfl (l' := #[rv a1, iv 2, .val (.long 3), .second, rv b525, rv b527, rv b528, rv b531, iv 1, iv 1, iv 1, iv m1, iv r1, iv r1]) rfl (XS.iload X554.here hx rfl (hb hby d11_220) rfl (XS.iload X554.here hx rfl (hb hby d11_222) rfl (st558 _ (XS.aload X558.here hx rfl (hb hby d11_225) rfl rfl (XS.iload X558.here hx rfl (hb hby d11_227) rfl (XS.iload X558.here hx rfl (hb hby d11_229) rfl (st560 _ (XS.goto X560.here hx rfl (pc0 := 232) (pc' := 250) rfl (hb hby d11_232) (by decide) (by decide) (XS.iload X560.here hx rfl (hb hby d11_250) rfl (XS.sipush X560.here hx rfl (hb hby d11_252) (XS.icmpYes X560.here hx rfl (pc0 := 255) (pc' := 283) rfl (hb hby d11_255) rfl (tlt (own_r128 hr1)).1 (by decide) (by decide) (XS.aload X560.here hx rfl (hb hby d11_283) rfl rfl k)))))))))))))))))))))))) ?_
      refine Go.on (w := T560.setTop (mkF m 287 #[rv a1, iv 2, .val (.long 3), .second, rv b525, rv b527, rv b528, rv b531, iv 1, iv 1, iv 1, iv m1, iv r1, iv r1] [(.int 1), (.ref b527)])) (fun t k => XS.iload X560.here hx rfl (hb hby d11_285) rfl k) ?_
      refine Go.on (w := T560.setTop (mkF m 292 #[rv a1, iv 2, .val (.long 3), .second, rv b525, rv b527, rv b528, rv b531, iv 2, iv 1, iv 1, iv m1, iv r1, iv r1] [(.int r1), (.int 1), (.ref b527)])) (fun t k => XS.iinc X560.here hx rfl (hb hby d11_287) rfl (l' := #[rv a1, iv 2, .val (.long 3), .second, rv b525, rv b527, rv b528, rv b531, iv 2, iv 1, iv 1, iv m1, iv r1, iv r1]) rfl (XS.iload X560.here hx rfl (hb hby d11_290) rfl k)) ?_
      refine Go.on (w := T560.setTop (mkF m 293 #[rv a1, iv 2, .val (.long 3), .second, rv b525, rv b527, rv b528, rv b531, iv 2, iv 1, iv 1, iv m1, iv r1, iv r1] [(.int r1), (.int 1), (.ref b527)])) (fun t k => XS.i2b X560.here hx rfl (hb hby d11_292) rfl (by rw [(own_r8 hr1 : (r1.toInt8.toInt32) = r1)]; exact k)) ?_
      have F561 := (((V545.other W547 (show @Ne Nat b527 b531 by omega)).other W558 (show @Ne Nat b527 b525 by omega)).other W560 (show @Ne Nat b527 b528 by omega))
      obtain ⟨cl562, Ar562, q562, S562, M562, H562, U562⟩ := id F561
      obtain ⟨T562, h562, X562, e562, W562, st562⟩ := stB X560 hx hZ0 e560 Ar562 (j := (1 : Int32)) (inb_of S562 ⟨(by decide), (by decide)⟩) (g := (mkF m 293 #[rv a1, iv 2, .val (.long 3), .second, rv b525, rv b527, rv b528, rv b531, iv 2, iv 1, iv 1, iv m1, iv r1, iv r1] [(.int r1), (.int 1), (.ref b527)])) rfl rfl (hb hby d11_293)
      have V562 : Arv Z h562 b527 k527 .byte (3 : Int32) [(.int r0), (.int r1), (.int 0)] (.int 0) := by rw [← (own_r8n hr1 : nar .byte r1 = r1)]; exact (Arv.set Ar562 q562 S562 M562 H562 U562 (fits_nar_byte _) W562 1 rfl (Nat.le_of_ble_eq_true rfl))
      have z562 : h560.size ≤ h562.size := Nat.le_of_eq W562.size.symm
      have KP562 : Keep h0 h562 ([ks] : List Addr) := KP560.wr W562 (Or.inr (by omega))
      have N562 := Fr.snoc X562 N560 (by omega)
      have F563 := (((V547.other W558 (show @Ne Nat b531 b525 by omega)).other W560 (show @Ne Nat b531 b528 by omega)).other W562 (show @Ne Nat b531 b527 by omega))
      obtain ⟨T564, h564, sl564, y564a, y564b, y564c, X564, e564, W564, V564, st564⟩ := own_st3 X562 hx hZ0 e562 F563 hr1 (g := (mkF m 300 #[rv a1, iv 2, .val (.long 3), .second, rv b525, rv b527, rv b528, rv b531, iv 2, iv 1, iv 1, iv m1, iv r1, iv r1] [(.int 1), (.int r1), (.ref b531)])) rfl rfl (hb hby d11_300)
      have z564 : h562.size ≤ h564.size := Nat.le_of_eq W564.size.symm
      have KP564 : Keep h0 h564 ([ks] : List Addr) := KP562.wr W564 (Or.inr (by omega))
      have N564 := Fr.snoc X564 N562 (by omega)
      have F565 := ((((F548.other W558 (Or.inl (show @Ne Nat a1 b525 by omega))).other W560 (Or.inl (show @Ne Nat a1 b528 by omega))).other W562 (Or.inl (show @Ne Nat a1 b527 by omega))).other W564 (Or.inl (show @Ne Nat a1 b531 by omega)))
      obtain ⟨T566, X566, e566, st566⟩ := getF X564 hx hZ0 hown0 (host := "") (Or.inl (w_21 hw)) Via.refl e564 F565 (g := (mkF m 167 #[rv a1, iv 2, .val (.long 3), .second, rv b525, rv b527, rv b528, rv b531, iv 2, iv 1, iv 2, iv m1, iv r1, iv r1] [(.ref a1), (.int 2)])) rfl rfl (hb hby d11_167)
      have F567 := ((((F550.other W558 (Or.inl (show @Ne Nat a1 b525 by omega))).other W560 (Or.inl (show @Ne Nat a1 b528 by omega))).other W562 (Or.inl (show @Ne Nat a1 b527 by omega))).other W564 (Or.inl (show @Ne Nat a1 b531 by omega)))
      obtain ⟨T568, X568, e568, st568⟩ := getF X566 hx hZ0 hown0 (host := "") (Or.inl (w_11 hw)) Via.refl e566 F567 (g := (mkF m 174 #[rv a1, iv 2, .val (.long 3), .second, rv b525, rv b527, rv b528, rv b531, iv 2, iv 1, iv 2, iv m1, iv r1, iv r1] [(.ref a1)])) rfl rfl (hb hby d11_174)
      have F569 := ((((F552.other W558 (show @Ne Nat ks b525 by omega)).other W560 (show @Ne Nat ks b528 by omega)).other W562 (show @Ne Nat ks b527 by omega)).other W564 (show @Ne Nat ks b531 by omega))
      obtain ⟨cl570, Ar570, q570, S570, M570, H570, U570⟩ := id F569
      have hin570 := ((inb_of S570 ⟨(by decide), (by decide)⟩) : ¬ ((2 : Int32) < 0 ∨ cl570.slots.size ≤ ((2 : Int32)).toNatClampNeg))
      refine Go.on (w := T568.setTop (mkF m 182 #[rv a1, iv 2, .val (.long 3), .second, rv b525, rv b527, rv b528, rv b531, iv 2, iv 1, iv 2, iv m1, iv r1, iv r1] [(.int 32), (.long s2_294)])) (fun t k => st562 _ (XS.aload X562.here hx rfl (hb hby d11_294) rfl rfl (XS.iload X562.here hx rfl (hb hby d11_296) rfl (XS.iload X562.here hx rfl (hb hby d11_298) rfl (st564 _ (XS.iinc X564.here hx rfl (hb hby d11_301) rfl (l' := #[rv a1, iv 2, .val (.long 3), .second, rv b525, rv b527, rv b528, rv b531, iv 2, iv 1, iv 2, iv m1, iv r1, iv r1]) rfl (XS.goto X564.here hx rfl (pc0 := 304) (pc' := 164) rfl (hb hby d11_304) (by decide) (by decide) (XS.iload X564.here hx rfl (hb hby d11_164) rfl (XS.aloadN X564.here hx rfl (hb hby d11_166) rfl rfl (st566 _ (XS.icmpNo X566.here hx rfl (hb hby d11_170) rfl (tlt (by decide : (2 : Int32) < (3 : Int32))).2.1 (XS.aloadN X566.here hx rfl (hb hby d11_173) rfl rfl (st568 _ (XS.iload X568.here hx rfl (hb hby d11_177) rfl (X568.laload hx (j := (2 : Int32)) (v := (.long s2_294)) (by rw [e568]; exact Ar570.1) (State.isArrayOf_alike hZ0.alike Ar570.2.1) Ar570.2.2 hin570 (H570.at hin570 rfl) (g := (mkF m 179 #[rv a1, iv 2, .val (.long 3), .second, rv b525, rv b527, rv b528, rv b531, iv 2, iv 1, iv 2, iv m1, iv r1, iv r1] [(.int 2), (.ref ks)])) rfl rfl (hb hby d11_179) _ (XS.bipush X568.here hx rfl (hb hby d11_180) k)))))))))))))))) ?_
      refine Go.on (w := T568.setTop (mkF m 183 #[rv a1, iv 2, .val (.long 3), .second, rv b525, rv b527, rv b528, rv b531, iv 2, iv 1, iv 2, iv m1, iv r1, iv r1] [(.long (m2.toInt64))])) (fun t k => XS.lushr X568.here hx rfl (hb hby d11_182) rfl (by rw [(hu2 : ((s2_294.toUInt64 >>> ((32 : Int32) &&& 0x3f).toInt64.toUInt64).toInt64) = (m2.toInt64))]; exact k)) ?_
      refine Go.on (w := T568.setTop (mkF m 184 #[rv a1, iv 2, .val (.long 3), .second, rv b525, rv b527, rv b528, rv b531, iv 2, iv 1, iv 2, iv m1, iv r1, iv r1] [(.int m2)])) (fun t k => XS.l2i X568.here hx rfl (hb hby d11_183) rfl (by rw [(hm2 : ((m2.toInt64).toInt32) = m2)]; exact k)) ?_
      obtain ⟨T571, X571, e571, st571⟩ := getF X568 hx hZ0 hown0 (host := "") (Or.inl (w_11 hw)) Via.refl e568 F567 (g := (mkF m 187 #[rv a1, iv 2, .val (.long 3), .second, rv b525, rv b527, rv b528, rv b531, iv 2, iv 1, iv 2, iv m2, iv r1, iv r1] [(.ref a1)])) rfl rfl (hb hby d11_187)
      obtain ⟨cl572, Ar572, q572, S572, M572, H572, U572⟩ := id F569
      have hin572 := ((inb_of S572 ⟨(by decide), (by decide)⟩) : ¬ ((2 : Int32) < 0 ∨ cl572.slots.size ≤ ((2 : Int32)).toNatClampNeg))
      refine Go.on (w := T571.setTop (mkF m 193 #[rv a1, iv 2, .val (.long 3), .second, rv b525, rv b527, rv b528, rv b531, iv 2, iv 1, iv 2, iv m2, iv r1, iv r1] [(.long s2_294)])) (fun t k => XS.istore X568.here hx rfl (hb hby d11_184) rfl (l' := #[rv a1, iv 2, .val (.long 3), .second, rv b525, rv b527, rv b528, rv b531, iv 2, iv 1, iv 2, iv m2, iv r1, iv r1]) rfl (XS.aloadN X568.here hx rfl (hb hby d11_186) rfl rfl (st571 _ (XS.iload X571.here hx rfl (hb hby d11_190) rfl (X571.laload hx (j := (2 : Int32)) (v := (.long s2_294)) (by rw [e571]; exact Ar572.1) (State.isArrayOf_alike hZ0.alike Ar572.2.1) Ar572.2.2 hin572 (H572.at hin572 rfl) (g := (mkF m 192 #[rv a1, iv 2, .val (.long 3), .second, rv b525, rv b527, rv b528, rv b531, iv 2, iv 1, iv 2, iv m2, iv r1, iv r1] [(.int 2), (.ref ks)])) rfl rfl (hb hby d11_192) _ k))))) ?_
      refine Go.on (w := T571.setTop (mkF m 194 #[rv a1, iv 2, .val (.long 3), .second, rv b525, rv b527, rv b528, rv b531, iv 2, iv 1, iv 2, iv m2, iv r1, iv r1] [(.int r2)])) (fun t k => XS.l2i X571.here hx rfl (hb hby d11_193) rfl (by rw [(hl2 : (s2_294.toInt32) = r2)]; exact k)) ?_
      have F573 := (((V558.other W560 (show @Ne Nat b525 b528 by omega)).other W562 (show @Ne Nat b525 b527 by omega)).other W564 (show @Ne Nat b525 b531 by omega))
      obtain ⟨cl574, Ar574, q574, S574, M574, H574, U574⟩ := id F573
      have hin574 := ((inb_of S574 ⟨(by decide), (by decide)⟩) : ¬ ((1 : Int32) < 0 ∨ cl574.slots.size ≤ ((1 : Int32)).toNatClampNeg))
      obtain ⟨T575, X575, e575, st575⟩ := getF X571 hx hZ0 hown0 (host := "") (Or.inl (w_11 hw)) Via.refl e571 F567 (g := (mkF m 238 #[rv a1, iv 2, .val (.long 3), .second, rv b525, rv b527, rv b528, rv b531, iv 2, iv 1, iv 2, iv m2, iv r2, iv r2] [(.ref a1), (.int r2)])) rfl rfl (hb hby d11_238)
      refine Go.on (w := T575.setTop (mkF m 244 #[rv a1, iv 2, .val (.long 3), .second, rv b525, rv b527, rv b528, rv b531, iv 2, iv 1, iv 2, iv m2, iv r2, iv r2] [(.int 1), (.int 2), (.ref ks), (.int r2)])) (fun t k => XS.istore X571.here hx rfl (hb hby d11_194) rfl (l' := #[rv a1, iv 2, .val (.long 3), .second, rv b525, rv b527, rv b528, rv b531, iv 2, iv 1, iv 2, iv m2, iv r2, iv r1]) rfl (XS.iload X571.here hx rfl (hb hby d11_196) rfl (XS.istore X571.here hx rfl (hb hby d11_198) rfl (l' := #[rv a1, iv 2, .val (.long 3), .second, rv b525, rv b527, rv b528, rv b531, iv 2, iv 1, iv 2, iv m2, iv r2, iv r2]) rfl (XS.iload X571.here hx rfl (hb hby d11_200) rfl (XS.ifNo X571.here hx rfl (hb hby d11_202) rfl ((if0 _ _).trans (flt (by decide : ¬ ((1 : Int32) < (0 : Int32)))).1) (XS.aload X571.here hx rfl (hb hby d11_205) rfl rfl (XS.iload X571.here hx rfl (hb hby d11_207) rfl (X571.iaload hx (j := (1 : Int32)) (v := (.int m1)) (by rw [e571]; exact Ar574.1) (State.isArrayOf_alike hZ0.alike Ar574.2.1) Ar574.2.2 hin574 (H574.at hin574 rfl) (g := (mkF m 209 #[rv a1, iv 2, .val (.long 3), .second, rv b525, rv b527, rv b528, rv b531, iv 2, iv 1, iv 2, iv m2, iv r2, iv r2] [(.int 1), (.ref b525)])) rfl rfl (hb hby d11_209) _ (XS.iload X571.here hx rfl (hb hby d11_210) rfl (XS.icmpYes X571.here hx rfl (pc0 := 212) (pc' := 235) rfl (hb hby d11_212) rfl (teq hb2).1 (by decide) (by decide) (XS.iload X571.here hx rfl (hb hby d11_235) rfl (XS.aloadN X571.here hx rfl (hb hby d11_237) rfl rfl (st575 _ (XS.iload X575.here hx rfl (hb hby d11_241) rfl (XS.iconst X575.here hx rfl (hb hby d11_243) k))))))))))))))) ?_
      refine Go.on (w := T575.setTop (mkF m 245 #[rv a1, iv 2, .val (.long 3), .second, rv b525, rv b527, rv b528, rv b531, iv 2, iv 1, iv 2, iv m2, iv r2, iv r2] [(.int 1), (.ref ks), (.int r2)])) (fun t k => XS.isub X575.here hx rfl (hb hby d11_244) rfl (by rw [(by decide : ((2 : Int32) - (1 : Int32)) = (1 : Int32))]; exact k)) ?_
      obtain ⟨cl576, Ar576, q576, S576, M576, H576, U576⟩ := id F569
      have hin576 := ((inb_of S576 ⟨(by decide), (by decide)⟩) : ¬ ((1 : Int32) < 0 ∨ cl576.slots.size ≤ ((1 : Int32)).toNatClampNeg))
      refine Go.on (w := T575.setTop (mkF m 246 #[rv a1, iv 2, .val (.long 3), .second, rv b525, rv b527, rv b528, rv b531, iv 2, iv 1, iv 2, iv m2, iv r2, iv r2] [(.long s1_294), (.int r2)])) (fun t k => X575.laload hx (j := (1 : Int32)) (v := (.long s1_294)) (by rw [e575]; exact Ar576.1) (State.isArrayOf_alike hZ0.alike Ar576.2.1) Ar576.2.2 hin576 (H576.at hin576 rfl) (g := (mkF m 245 #[rv a1, iv 2, .val (.long 3), .second, rv b525, rv b527, rv b528, rv b531, iv 2, iv 1, iv 2, iv m2, iv r2, iv r2] [(.int 1), (.ref ks), (.int r2)])) rfl rfl (hb hby d11_245) _ k) ?_
      refine Go.on (w := T575.setTop (mkF m 247 #[rv a1, iv 2, .val (.long 3), .second, rv b525, rv b527, rv b528, rv b531, iv 2, iv 1, iv 2, iv m2, iv r2, iv r2] [(.int r1), (.int r2)])) (fun t k => XS.l2i X575.here hx rfl (hb hby d11_246) rfl (by rw [(hl1 : (s1_294.toInt32) = r1)]; exact k)) ?_
      refine Go.on (w := T575.setTop (mkF m 292 #[rv a1, iv 2, .val (.long 3), .second, rv b525, rv b527, rv b528, rv b531, iv 3, iv 1, iv 2, iv m2, iv r2, iv (r2 - r1)] [(.int (r2 - r1)), (.int 2), (.ref b527)])) (fun t k => XS.isub X575.here hx rfl (hb hby d11_247) rfl (XS.istore X575.here hx rfl (hb hby d11_248) rfl (l' := #[rv a1, iv 2, .val (.long 3), .second, rv b525, rv b527, rv b528, rv b531, iv 2, iv 1, iv 2, iv m2, iv r2, iv (r2 - r1)]) rfl (XS.iload X575.here hx rfl (hb hby d11_250) rfl (XS.sipush X575.here hx rfl (hb hby d11_252) (XS.icmpYes X575.here hx rfl (pc0 := 255) (pc' := 283) rfl (hb hby d11_255) rfl (tlt (own_d128 hr2 hr1)).1 (by decide) (by decide) (XS.aload X575.here hx rfl (hb hby d11_283) rfl rfl (XS.iload X575.here hx rfl (hb hby d11_285) rfl (XS.iinc X575.here hx rfl (hb hby d11_287) rfl (l' := #[rv a1, iv 2, .val (.long 3), .second, rv b525, rv b527, rv b528, rv b531, iv 3, iv 1, iv 2, iv m2, iv r2, iv (r2 - r1)]) rfl (XS.iload X575.here hx rfl (hb hby d11_290) rfl k))))))))) ?_
      refine Go.on (w := T575.setTop (mkF m 293 #[rv a1, iv 2, .val (.long 3), .second, rv b525, rv b527, rv b528, rv b531, iv 3, iv 1, iv 2, iv m2, iv r2, iv (r2 - r1)] [(.int (r2 - r1)), (.int 2), (.ref b527)])) (fun t k => XS.i2b X575.here hx rfl (hb hby d11_292) rfl (by rw [(own_d8 hr2 hr1 : ((r2 - r1).toInt8.toInt32) = (r2 - r1))]; exact k)) ?_
      have F577 := (V562.other W564 (show @Ne Nat b527 b531 by omega))
      obtain ⟨cl578, Ar578, q578, S578, M578, H578, U578⟩ := id F577
      obtain ⟨T578, h578, X578, e578, W578, st578⟩ := stB X575 hx hZ0 e575 Ar578 (j := (2 : Int32)) (inb_of S578 ⟨(by decide), (by decide)⟩) (g := (mkF m 293 #[rv a1, iv 2, .val (.long 3), .second, rv b525, rv b527, rv b528, rv b531, iv 3, iv 1, iv 2, iv m2, iv r2, iv (r2 - r1)] [(.int (r2 - r1)), (.int 2), (.ref b527)])) rfl rfl (hb hby d11_293)
      have V578 : Arv Z h578 b527 k527 .byte (3 : Int32) [(.int r0), (.int r1), (.int (r2 - r1))] (.int 0) := by rw [← (own_d8n hr2 hr1 : nar .byte (r2 - r1) = (r2 - r1))]; exact (Arv.set Ar578 q578 S578 M578 H578 U578 (fits_nar_byte _) W578 2 rfl (Nat.le_of_ble_eq_true rfl))
      have z578 : h564.size ≤ h578.size := Nat.le_of_eq W578.size.symm
      have KP578 : Keep h0 h578 ([ks] : List Addr) := KP564.wr W578 (Or.inr (by omega))
      have N578 := Fr.snoc X578 N564 (by omega)
      have F579 := (V564.other W578 (show @Ne Nat b531 b527 by omega))
      obtain ⟨T580, h580, sl580, y580a, y580b, y580c, X580, e580, W580, V580, st580⟩ := own_st3 X578 hx hZ0 e578 F579 hr2 (g := (mkF m 300 #[rv a1, iv 2, .val (.long 3), .second, rv b525, rv b527, rv b528, rv b531, iv 3, iv 1, iv 2, iv m2, iv r2, iv (r2 - r1)] [(.int 1), (.int r2), (.ref b531)])) rfl rfl (hb hby d11_300)
      have z580 : h578.size ≤ h580.size := Nat.le_of_eq W580.size.symm
      have KP580 : Keep h0 h580 ([ks] : List Addr) := KP578.wr W580 (Or.inr (by omega))
      have N580 := Fr.snoc X580 N578 (by omega)
      have F581 := ((F565.other W578 (Or.inl (show @Ne Nat a1 b527 by omega))).other W580 (Or.inl (show @Ne Nat a1 b531 by omega)))
      obtain ⟨T582, X582, e582, st582⟩ := getF X580 hx hZ0 hown0 (host := "") (Or.inl (w_21 hw)) Via.refl e580 F581 (g := (mkF m 167 #[rv a1, iv 2, .val (.long 3), .second, rv b525, rv b527, rv b528, rv b531, iv 3, iv 1, iv 3, iv m2, iv r2, iv (r2 - r1)] [(.ref a1), (.int 3)])) rfl rfl (hb hby d11_167)
      have F583 := ((((V560.other W562 (show @Ne Nat b528 b527 by omega)).other W564 (show @Ne Nat b528 b531 by omega)).other W578 (show @Ne Nat b528 b527 by omega)).other W580 (show @Ne Nat b528 b531 by omega))
      obtain ⟨cl584, Ar584, q584, S584, M584, H584, U584⟩ := id F583
      obtain ⟨T584, h584, X584, e584, W584, st584⟩ := stI X582 hx hZ0 e582 Ar584 (j := (2 : Int32)) (inb_of S584 ⟨(by decide), (by decide)⟩) (g := (mkF m 312 #[rv a1, iv 2, .val (.long 3), .second, rv b525, rv b527, rv b528, rv b531, iv 3, iv 1, iv 3, iv m2, iv r2, iv (r2 - r1)] [(.int 3), (.int 2), (.ref b528)])) rfl rfl (hb hby d11_312)
      have V584 : Arv Z h584 b528 k528 .int (3 : Int32) [(.int 0), (.int 1), (.int 3)] (.int 0) := (Arv.set Ar584 q584 S584 M584 H584 U584 rfl W584 2 rfl (Nat.le_of_ble_eq_true rfl))
      have z584 : h580.size ≤ h584.size := Nat.le_of_eq W584.size.symm
      have KP584 : Keep h0 h584 ([ks] : List Addr) := KP580.wr W584 (Or.inr (by omega))
      have N584 := Fr.snoc X584 N580 (by omega)
      have F585 := (F581.other W584 (Or.inl (show @Ne Nat a1 b528 by omega)))
      obtain ⟨T586, X586, e586, st586⟩ := getF X584 hx hZ0 hown0 (host := "") (Or.inl (w_21 hw)) Via.refl e584 F585 (g := (mkF m 314 #[rv a1, iv 2, .val (.long 3), .second, rv b525, rv b527, rv b528, rv b531, iv 3, iv 1, iv 3, iv m2, iv r2, iv (r2 - r1)] [(.ref a1)])) rfl rfl (hb hby d11_314)
      refine Go.on (w := T586.setTop (mkF m 319 #[rv a1, iv 2, .val (.long 3), .second, rv b525, rv b527, rv b528, rv b531, iv 3, iv 1, iv 3, iv m2, iv r2, iv (r2 - r1)] [(.int 64), (.int 3)])) (fun t k => st578 _ (XS.aload X578.here hx rfl (hb hby d11_294) rfl rfl (XS.iload X578.here hx rfl (hb hby d11_296) rfl (XS.iload X578.here hx rfl (hb hby d11_298) rfl (st580 _ (XS.iinc X580.here hx rfl (hb hby d11_301) rfl (l' := #[rv a1, iv 2, .val (.long 3), .second, rv b525, rv b527, rv b528, rv b531, iv 3, iv 1, iv 3, iv m2, iv r2, iv (r2 - r1)]) rfl (XS.goto X580.here hx rfl (pc0 := 304) (pc' := 164) rfl (hb hby d11_304) (by decide) (by decide) (XS.iload X580.here hx rfl (hb hby d11_164) rfl (XS.aloadN X580.here hx rfl (hb hby d11_166) rfl rfl (st582 _ (XS.icmpYes X582.here hx rfl (pc0 := 170) (pc' := 307) rfl (hb hby d11_170) rfl (flt (by decide : ¬ ((3 : Int32) < (3 : Int32)))).2.1 (by decide) (by decide) (XS.aload X582.here hx rfl (hb hby d11_307) rfl rfl (XS.iloadN X582.here hx rfl (hb hby d11_309) rfl (XS.iload X582.here hx rfl (hb hby d11_310) rfl (st584 _ (XS.aloadN X584.here hx rfl (hb hby d11_313) rfl rfl (st586 _ (XS.bipush X586.here hx rfl (hb hby d11_317) k)))))))))))))))))) ?_
      refine Go.on (w := T586.setTop (mkF m 320 #[rv a1, iv 2, .val (.long 3), .second, rv b525, rv b527, rv b528, rv b531, iv 3, iv 1, iv 3, iv m2, iv r2, iv (r2 - r1)] [(.int 67)])) (fun t k => XS.iadd X586.here hx rfl (hb hby d11_319) rfl (by rw [(by decide : ((3 : Int32) + (64 : Int32)) = (67 : Int32))]; exact k)) ?_
      refine Go.on (w := T586.setTop (mkF m 321 #[rv a1, iv 2, .val (.long 3), .second, rv b525, rv b527, rv b528, rv b531, iv 3, iv 1, iv 3, iv m2, iv r2, iv (r2 - r1)] [(.int 1), (.int 67)])) (fun t k => XS.iconst X586.here hx rfl (hb hby d11_320) k) ?_
      refine Go.on (w := T586.setTop (mkF m 322 #[rv a1, iv 2, .val (.long 3), .second, rv b525, rv b527, rv b528, rv b531, iv 3, iv 1, iv 3, iv m2, iv r2, iv (r2 - r1)] [(.int 66)])) (fun t k => XS.isub X586.here hx rfl (hb hby d11_321) rfl (by rw [(by decide : ((67 : Int32) - (1 : Int32)) = (66 : Int32))]; exact k)) ?_
      refine Go.on (w := T586.setTop (mkF m 324 #[rv a1, iv 2, .val (.long 3), .second, rv b525, rv b527, rv b528, rv b531, iv 3, iv 1, iv 3, iv m2, iv r2, iv (r2 - r1)] [(.int 64), (.int 66)])) (fun t k => XS.bipush X586.here hx rfl (hb hby d11_322) k) ?_
      refine Go.on (w := T586.setTop (mkF m 325 #[rv a1, iv 2, .val (.long 3), .second, rv b525, rv b527, rv b528, rv b531, iv 3, iv 1, iv 3, iv m2, iv r2, iv (r2 - r1)] [(.int 1)])) (fun t k => XS.idiv X586.here hx rfl (hb hby d11_324) rfl (by decide) (by rw [(by decide : (66 : Int32) / (64 : Int32) = (1 : Int32))]; exact k)) ?_
      obtain ⟨T587, h587, k587, X587, e587, E587, A587, st587⟩ := newP (aty := .long) X586 hx hZ0 (w_10 hw) e586 (g := (mkF m 325 #[rv a1, iv 2, .val (.long 3), .second, rv b525, rv b527, rv b528, rv b531, iv 3, iv 1, iv 3, iv m2, iv r2, iv (r2 - r1)] [(.int 1)])) rfl (hb hby d11_325) rfl (by decide : ¬ ((1 : Int32) < (0 : Int32))) (cap := 1) (by decide) (by decide) (by decide) (by decide)
      obtain ⟨b587, g587⟩ : ∃ z, z = h584.size := ⟨_, rfl⟩
      rw [← g587] at A587 st587
      have V587 : Arv Z h587 b587 k587 .long (1 : Int32) [(.long 0)] (.long 0) := (Arv.new A587 (by decide : ¬ ((1 : Int32) < (0 : Int32)))).pad (pad_rep [] (.long 0) 1)
      have u587 : h587.size > b587 := V587.lt
      have z587 : h584.size ≤ h587.size := E587.1
      have KP587 : Keep h0 h587 ([ks] : List Addr) := KP584.ext E587
      have F588 := (((((((((((((((((F_breakCount.keep K294 (ninS ne_a1_ks nin0)).ext E525).ext E527).ext E528).ext E531).other W541 (Or.inl (show @Ne Nat a1 b525 by omega))).other W543 (Or.inl (show @Ne Nat a1 b528 by omega))).other W545 (Or.inl (show @Ne Nat a1 b527 by omega))).other W547 (Or.inl (show @Ne Nat a1 b531 by omega))).other W558 (Or.inl (show @Ne Nat a1 b525 by omega))).other W560 (Or.inl (show @Ne Nat a1 b528 by omega))).other W562 (Or.inl (show @Ne Nat a1 b527 by omega))).other W564 (Or.inl (show @Ne Nat a1 b531 by omega))).other W578 (Or.inl (show @Ne Nat a1 b527 by omega))).other W580 (Or.inl (show @Ne Nat a1 b531 by omega))).other W584 (Or.inl (show @Ne Nat a1 b528 by omega))).ext E587)
      obtain ⟨T589, X589, e589, st589⟩ := getF X587 hx hZ0 hown0 (host := "") (Or.inl (w_53 hw)) Via.refl e587 F588 (g := (mkF m 335 #[rv a1, iv 2, .val (.long 3), .second, rv b525, rv b527, rv b528, rv b531, iv 3, iv 1, rv b587, iv 0, iv r2, iv (r2 - r1)] [(.ref a1), (.int 0)])) rfl rfl (hb hby d11_335)
      obtain ⟨T590, h590, X590, e590, E590, A590, D590, -, st590⟩ := newO X589 hx hZ0 hown0 (w_55 hw) (w_56 hw) (w_57 hw) e589 (g := (mkF m 386 #[rv a1, iv 2, .val (.long 3), .second, rv b525, rv b527, rv b528, rv b531, iv 3, iv 1, rv b587, iv 0, iv r2, iv (r2 - r1)] [])) rfl (hb hby d11_386) (by decide) (by decide)
      obtain ⟨b590, g590⟩ : ∃ z, z = h587.size := ⟨_, rfl⟩
      rw [← g590] at A590 D590 st590
      have u590 : h590.size > b590 := A590.lt
      have z590 : h587.size ≤ h590.size := E590.1
      have KP590 : Keep h0 h590 ([ks] : List Addr) := KP587.ext E590
      have Fn590_65 : Fld Z h590 b590 "com/example/syntagma/syntagma/service/DocumentText" "vocabulary" "[I" .null := D590 (Or.inr (w_65 hw)) (ty := (.array .int)) (by decide)
      have Fn590_67 : Fld Z h590 b590 "com/example/syntagma/syntagma/service/DocumentText" "gaps" "[B" .null := D590 (Or.inr (w_67 hw)) (ty := (.array .byte)) (by decide)
      have Fn590_69 : Fld Z h590 b590 "com/example/syntagma/syntagma/service/DocumentText" "stretched" "Z" (.int 0) := D590 (Or.inr (w_69 hw)) (ty := .boolean) (by decide)
      have Fn590_71 : Fld Z h590 b590 "com/example/syntagma/syntagma/service/DocumentText" "breaks" "[J" .null := D590 (Or.inr (w_71 hw)) (ty := (.array .long)) (by decide)
      have Fn590_73 : Fld Z h590 b590 "com/example/syntagma/syntagma/service/DocumentText" "words" "I" (.int 0) := D590 (Or.inr (w_73 hw)) (ty := .int) (by decide)
      have Fn590_75 : Fld Z h590 b590 "com/example/syntagma/syntagma/service/DocumentText" "firstSentenceWords" "I" (.int 0) := D590 (Or.inr (w_75 hw)) (ty := .int) (by decide)
      have Fn590_82 : Fld Z h590 b590 "com/example/syntagma/syntagma/service/DocumentText" "narrowStarts" "[C" .null := D590 (Or.inr (w_82 hw)) (ty := (.array .char)) (by decide)
      have Fn590_84 : Fld Z h590 b590 "com/example/syntagma/syntagma/service/DocumentText" "wideStarts" "[I" .null := D590 (Or.inr (w_84 hw)) (ty := (.array .int)) (by decide)
      have Fn590_87 : Fld Z h590 b590 "com/example/syntagma/syntagma/service/DocumentText" "narrowPlaces" "[C" .null := D590 (Or.inr (w_87 hw)) (ty := (.array .char)) (by decide)
      have Fn590_89 : Fld Z h590 b590 "com/example/syntagma/syntagma/service/DocumentText" "widePlaces" "[I" .null := D590 (Or.inr (w_89 hw)) (ty := (.array .int)) (by decide)
      have F591 := ((((((((((((((((((F_sentences.keep K294 (ninS ne_a1_ks nin0)).ext E525).ext E527).ext E528).ext E531).other W541 (Or.inl (show @Ne Nat a1 b525 by omega))).other W543 (Or.inl (show @Ne Nat a1 b528 by omega))).other W545 (Or.inl (show @Ne Nat a1 b527 by omega))).other W547 (Or.inl (show @Ne Nat a1 b531 by omega))).other W558 (Or.inl (show @Ne Nat a1 b525 by omega))).other W560 (Or.inl (show @Ne Nat a1 b528 by omega))).other W562 (Or.inl (show @Ne Nat a1 b527 by omega))).other W564 (Or.inl (show @Ne Nat a1 b531 by omega))).other W578 (Or.inl (show @Ne Nat a1 b527 by omega))).other W580 (Or.inl (show @Ne Nat a1 b531 by omega))).other W584 (Or.inl (show @Ne Nat a1 b528 by omega))).ext E587).ext E590)
      obtain ⟨T592, X592, e592, st592⟩ := getF X590 hx hZ0 hown0 (host := "") (Or.inl (w_58 hw)) Via.refl e590 F591 (g := (mkF m 401 #[rv a1, iv 2, .val (.long 3), .second, rv b525, rv b527, rv b528, rv b531, iv 3, iv 1, rv b587, iv 0, iv r2, iv (r2 - r1)] [(.ref a1), (.ref b587), (.ref b531), (.ref b528), (.ref b527), (.ref b525), (.ref b590), (.ref b590)])) rfl rfl (hb hby d11_401)
      have F593 := ((F585.ext E587).ext E590)
      obtain ⟨T594, X594, e594, st594⟩ := getF X592 hx hZ0 hown0 (host := "") (Or.inl (w_21 hw)) Via.refl e592 F593 (g := (mkF m 409 #[rv a1, iv 2, .val (.long 3), .second, rv b525, rv b527, rv b528, rv b531, iv 3, iv 1, rv b587, iv 0, iv r2, iv (r2 - r1)] [(.ref a1), (.ref b587), (.ref b531), (.ref b528), (.ref b527), (.ref b525), (.ref b590), (.ref b590)])) rfl rfl (hb hby d11_409)
      have F596 := (((((F573.other W578 (show @Ne Nat b525 b527 by omega)).other W580 (show @Ne Nat b525 b531 by omega)).other W584 (show @Ne Nat b525 b528 by omega)).ext E587).ext E590)
      have F597 := ((((V578.other W580 (show @Ne Nat b527 b531 by omega)).other W584 (show @Ne Nat b527 b528 by omega)).ext E587).ext E590)
      have F598 := ((V584.ext E587).ext E590)
      have F599 := (((V580.other W584 (show @Ne Nat b531 b528 by omega)).ext E587).ext E590)
      obtain ⟨v595, _, ⟨T595, L595, k595, n595⟩, -, X595, ⟨Lc595, hQ595, l595, y595, z595⟩, st595⟩ := X594.specialBackNest hx (y := yM11) rfl hown0 (own_mvMN hZ0 (w_60 hw)) (mvT hZ0 (w_61 hw)) (mvT hZ0 (w_62 hw)) (by decide) (backOf (W := 1) (rmDT2 l Z a0 hw [] b590 b587 b525 k525 b527 k527 b528 k528 b531 k531 m0 m1 r0 r1 (r2 - r1) (0 : Int32) (1 : Int32) (3 : Int32) y580a y580b y580c h590 (by omega) (by omega) A590 Fn590_65 Fn590_67 Fn590_69 Fn590_71 Fn590_73 Fn590_75 Fn590_82 Fn590_84 Fn590_87 Fn590_89 (show @Ne Nat b525 b590 by omega) (show @Ne Nat b527 b590 by omega) (show @Ne Nat b528 b590 by omega) (show @Ne Nat b531 b590 by omega) F596 F597 F598 F599) hZ0 (w_62 hw) (w_57 hw) (by decide) (by decide)) (g := (mkF m 419 #[rv a1, iv 2, .val (.long 3), .second, rv b525, rv b527, rv b528, rv b531, iv 3, iv 1, rv b587, iv 0, iv r2, iv (r2 - r1)] [(.int 3), (.ref b587), (.ref b531), (.ref b528), (.ref b527), (.ref b525), (.ref b590), (.ref b590)])) rfl (by rw [hml]; rfl) (Steps.refl _) (a := b590) (argsL := [(.ref b525), (.ref b527), (.ref b528), (.ref b531), (.ref b587), (.int 3)]) (rest := [(.ref b590)]) (lenOf pd_7 rfl) rfl (by show 2 * 0 + _ ≤ _; exact Nat.le_of_eq rfl) (hb hby d11_419) (fun _ _ => ⟨rfl, e594, (by decide : 6 + 2 ≤ _), (by decide : 22 + 6 ≤ _)⟩)
      dsimp only [Pt.U, Pt.locs, Pt.cells, Pt.slots] at X595 l595 y595 z595 st595 hQ595
      subst l595 y595 z595
      obtain ⟨ns_595, kn_595, rfl, Nq595, K595, f595_0, f595_1, f595_2, f595_3, f595_4⟩ := hQ595
      have N595 := Fr.app N584 Nq595
      have eK595 : T595.heap = T595.heap := rfl
      have z595 : h590.size ≤ T595.heap.size := K595.1
      have KP595 : Keep h0 T595.heap ([ks] : List Addr) := KP590.trans K595 (allS (P := fun x => x ∈ ([ks] : List Addr) ∨ h0.size ≤ x) (Or.inr (by omega)) all0)
      have u595_4 : T595.heap.size > ns_595 := f595_4.lt
      have V600 : Arv Z T595.heap ns_595 kn_595 .char (3 : Int32) [(.int 0), (.int 1), (.int 3), (.int 0)] (.int 0) := by
        have q := f595_4
        simp only [own_nc0, own_nc1, own_nc2, own_nc3] at q
        exact q.pad (pad_rep [(.int 0), (.int 1), (.int 3)] (.int 0) 1)
      have F601 := (F597.keep K595 (ninS (show @Ne Nat b527 b590 by omega) nin0))
      refine Go.on (w := T595.setTop (mkF m 422 #[rv a1, iv 2, .val (.long 3), .second, rv b525, rv b527, rv b528, rv b531, iv 3, iv 1, rv b587, iv 0, iv r2, iv (r2 - r1)] [(.ref b590)])) (fun t k => st587 _ (XS.astore X587.here hx rfl (hb hby d11_327) rfl rfl (l' := #[rv a1, iv 2, .val (.long 3), .second, rv b525, rv b527, rv b528, rv b531, iv 3, iv 1, rv b587, iv m2, iv r2, iv (r2 - r1)]) rfl (XS.iconst X587.here hx rfl (hb hby d11_329) (XS.istore X587.here hx rfl (hb hby d11_330) rfl (l' := #[rv a1, iv 2, .val (.long 3), .second, rv b525, rv b527, rv b528, rv b531, iv 3, iv 1, rv b587, iv 0, iv r2, iv (r2 - r1)]) rfl (XS.iload X587.here hx rfl (hb hby d11_332) rfl (XS.aloadN X587.here hx rfl (hb hby d11_334) rfl rfl (st589 _ (XS.icmpYes X589.here hx rfl (pc0 := 338) (pc' := 386) rfl (hb hby d11_338) rfl (flt (by decide : ¬ ((0 : Int32) < (0 : Int32)))).2.1 (by decide) (by decide) (st590 _ (XS.dup X590.here hx rfl (hb hby d11_389) rfl rfl (XS.aload X590.here hx rfl (hb hby d11_390) rfl rfl (XS.aload X590.here hx rfl (hb hby d11_392) rfl rfl (XS.aload X590.here hx rfl (hb hby d11_394) rfl rfl (XS.aload X590.here hx rfl (hb hby d11_396) rfl rfl (XS.aload X590.here hx rfl (hb hby d11_398) rfl rfl (XS.aloadN X590.here hx rfl (hb hby d11_400) rfl rfl (st592 _ (XS.iconst X592.here hx rfl (hb hby d11_404) (XS.icmpNo X592.here hx rfl (hb hby d11_405) rfl (tlt (by decide : (0 : Int32) < (2 : Int32))).2.1 (XS.aloadN X592.here hx rfl (hb hby d11_408) rfl rfl (st594 _ (XS.goto X594.here hx rfl (pc0 := 412) (pc' := 419) rfl (hb hby d11_412) (by decide) (by decide) (st595.trans k))))))))))))))))))))))) ?_
      refine Go.finH X595 hlk (v := some (.ref b590)) (fun h => by rw [Bd.returns] at h; cases h) (fun fs hr => ?_) (endH (Q := Q_rmBuild Z a1 ks kk n0 n1 n2 h0) (by rw [eK595]; exact ⟨b590, b527, k527, ns_595, kn_595, (3 : Int32), (1 : Int32), (3 : Int32), (0 : Int32), r0, r1, (r2 - r1), rfl, N595, KP595, (by omega), (by omega), (by omega), f595_1, f595_2, f595_3, F601, V600, ⟨m0, r0, m1, r1, m2, r2, hpm, Or.inr (Or.inr (Or.inl ⟨hb1, hb2, rfl, rfl, rfl, rfl, rfl, rfl, rfl⟩))⟩⟩) (by decide) (by decide))
      exact retOut X595 hx Bd.returns rfl (Or.inr (Or.inr (Or.inr (Or.inr ⟨rfl, rfl, rfl⟩)))) (hb hby d11_422) hr
    ·
      have F602 := (Fw.keep K294 (ninS ne_a1_ks nin0))
      obtain ⟨T603, X603, e603, st603⟩ := getF X294 hx hZ0 hown0 (host := "") (Or.inl (w_21 hw)) Via.refl eK294 F602 (g := (mkF m 22 #[rv a1, iv 0, .val (.long 0), .second, iv 0, .unset, .unset, .unset, .unset, .unset, .unset, .unset, .unset, .unset] [(.ref a1), (.int 0)])) rfl rfl (hb hby d11_22)
      refine Go.on (w := T603.setTop (mkF m 77 #[rv a1, iv 0, .val (.long 0), .second, iv 0, iv 1, .unset, .unset, .unset, .unset, .unset, .unset, .unset, .unset] [(.int 1), (.int 0)])) (fun t k => XS.iconst X294.here hx rfl (hb hby d11_12) (XS.istoreN X294.here hx rfl (hb hby d11_13) rfl (l' := #[rv a1, iv 0, .unset, .unset, .unset, .unset, .unset, .unset, .unset, .unset, .unset, .unset, .unset, .unset]) rfl (XS.lconst X294.here hx rfl (hb hby d11_14) (XS.lstoreN X294.here hx rfl (hb hby d11_15) rfl (l' := #[rv a1, iv 0, .val (.long 0), .second, .unset, .unset, .unset, .unset, .unset, .unset, .unset, .unset, .unset, .unset]) rfl (XS.iconst X294.here hx rfl (hb hby d11_16) (XS.istore X294.here hx rfl (hb hby d11_17) rfl (l' := #[rv a1, iv 0, .val (.long 0), .second, iv 0, .unset, .unset, .unset, .unset, .unset, .unset, .unset, .unset, .unset]) rfl (XS.iload X294.here hx rfl (hb hby d11_19) rfl (XS.aloadN X294.here hx rfl (hb hby d11_21) rfl rfl (st603 _ (XS.icmpNo X603.here hx rfl (hb hby d11_25) rfl (tlt (by decide : (0 : Int32) < (3 : Int32))).2.1 (XS.iload X603.here hx rfl (hb hby d11_28) rfl (XS.ifYes X603.here hx rfl (pc0 := 30) (pc' := 59) rfl (hb hby d11_30) rfl ((if0 _ _).trans (teq (by decide : (0 : Int32) = (0 : Int32))).1) (by decide) (by decide) (XS.iconst X603.here hx rfl (hb hby d11_59) (XS.goto X603.here hx rfl (pc0 := 60) (pc' := 64) rfl (hb hby d11_60) (by decide) (by decide) (XS.istore X603.here hx rfl (hb hby d11_64) rfl (l' := #[rv a1, iv 0, .val (.long 0), .second, iv 0, iv 1, .unset, .unset, .unset, .unset, .unset, .unset, .unset, .unset]) rfl (XS.iloadN X603.here hx rfl (hb hby d11_66) rfl (XS.iload X603.here hx rfl (hb hby d11_67) rfl (XS.ifNo X603.here hx rfl (hb hby d11_69) rfl ((if0 _ _).trans (feq (by decide : ¬ ((1 : Int32) = (0 : Int32)))).1) (XS.iconst X603.here hx rfl (hb hby d11_72) (XS.goto X603.here hx rfl (pc0 := 73) (pc' := 77) rfl (hb hby d11_73) (by decide) (by decide) k)))))))))))))))))))) ?_
      refine Go.on (w := T603.setTop (mkF m 78 #[rv a1, iv 0, .val (.long 0), .second, iv 0, iv 1, .unset, .unset, .unset, .unset, .unset, .unset, .unset, .unset] [(.int 1)])) (fun t k => XS.iadd X603.here hx rfl (hb hby d11_77) rfl (by rw [(by decide : ((0 : Int32) + (1 : Int32)) = (1 : Int32))]; exact k)) ?_
      have F604 := (Fk.keep K294 (ninS ne_a1_ks nin0))
      obtain ⟨T605, X605, e605, st605⟩ := getF X603 hx hZ0 hown0 (host := "") (Or.inl (w_11 hw)) Via.refl e603 F604 (g := (mkF m 86 #[rv a1, iv 1, .val (.long 0), .second, iv 0, iv 1, .unset, .unset, .unset, .unset, .unset, .unset, .unset, .unset] [(.ref a1), (.long 0)])) rfl rfl (hb hby d11_86)
      obtain ⟨cl606, Ar606, q606, S606, M606, H606, U606⟩ := id f294_0
      have hin606 := ((inb_of S606 ⟨(by decide), (by decide)⟩) : ¬ ((0 : Int32) < 0 ∨ cl606.slots.size ≤ ((0 : Int32)).toNatClampNeg))
      refine Go.on (w := T605.setTop (mkF m 92 #[rv a1, iv 1, .val (.long 0), .second, iv 0, iv 1, .unset, .unset, .unset, .unset, .unset, .unset, .unset, .unset] [(.long s0_294), (.long 0)])) (fun t k => XS.istoreN X603.here hx rfl (hb hby d11_78) rfl (l' := #[rv a1, iv 1, .val (.long 0), .second, iv 0, iv 1, .unset, .unset, .unset, .unset, .unset, .unset, .unset, .unset]) rfl (XS.lloadN X603.here hx rfl (hb hby d11_79) rfl (XS.iload X603.here hx rfl (hb hby d11_80) rfl (XS.ifNo X603.here hx rfl (hb hby d11_82) rfl ((if0 _ _).trans (feq (by decide : ¬ ((1 : Int32) = (0 : Int32)))).1) (XS.aloadN X603.here hx rfl (hb hby d11_85) rfl rfl (st605 _ (XS.iload X605.here hx rfl (hb hby d11_89) rfl (X605.laload hx (j := (0 : Int32)) (v := (.long s0_294)) (by rw [e605]; exact Ar606.1) (State.isArrayOf_alike hZ0.alike Ar606.2.1) Ar606.2.2 hin606 (H606.at hin606 rfl) (g := (mkF m 91 #[rv a1, iv 1, .val (.long 0), .second, iv 0, iv 1, .unset, .unset, .unset, .unset, .unset, .unset, .unset, .unset] [(.int 0), (.ref ks), (.long 0)])) rfl rfl (hb hby d11_91) _ k)))))))) ?_
      refine Go.on (w := T605.setTop (mkF m 93 #[rv a1, iv 1, .val (.long 0), .second, iv 0, iv 1, .unset, .unset, .unset, .unset, .unset, .unset, .unset, .unset] [(.int r0), (.long 0)])) (fun t k => XS.l2i X605.here hx rfl (hb hby d11_92) rfl (by rw [(hl0 : (s0_294.toInt32) = r0)]; exact k)) ?_
      obtain ⟨v607, _, ⟨T607, L607, k607, n607⟩, -, X607, ⟨Lc607, hQ607, l607, y607, z607⟩, st607⟩ := Jvm.LawKit.callS X605 hx (y := yM9) hown0 (mvT hZ0 (w_45 hw)) (mvT hZ0 (w_46 hw)) (mvT hZ0 (w_3 hw)) (mvT hZ0 (w_47 hw)) (by decide) (backOf (W := 2) (rmByt l Z a0 hw [] r0 T294.heap (own_r7s hr0)) hZ0 (w_47 hw) (w_3 hw) (by decide) (by decide)) (g := (mkF m 115 #[rv a1, iv 1, .val (.long 0), .second, iv 0, iv 1, .unset, .unset, .unset, .unset, .unset, .unset, .unset, .unset] [(.int r0), (.long 0)])) rfl (by rw [hml]; rfl) (argsL := [(.int r0)]) (rest := [(.long 0)]) (lenOf pd_5 rfl) rfl (by show 2 * 0 + _ ≤ _; exact Nat.le_of_eq rfl) (hb hby d11_115) (fun _ _ => ⟨rfl, e605, (by decide : 0 + 0 ≤ _), (by decide : 0 + 0 ≤ _)⟩)
      dsimp only [Pt.U, Pt.locs, Pt.cells, Pt.slots] at X607 l607 y607 z607 st607 hQ607
      subst l607 y607 z607
      obtain ⟨rfl, Nq607, eh607⟩ := hQ607
      have N607 := Fr.app N294 Nq607
      refine Go.on (w := T607.setTop (mkF m 118 #[rv a1, iv 1, .val (.long 0), .second, iv 0, iv 1, .unset, .unset, .unset, .unset, .unset, .unset, .unset, .unset] [(.int 1), (.long 0)])) (fun t k => XS.goto X605.here hx rfl (pc0 := 93) (pc' := 115) rfl (hb hby d11_93) (by decide) (by decide) (st607 _ k)) ?_
      refine Go.on (w := T607.setTop (mkF m 119 #[rv a1, iv 1, .val (.long 0), .second, iv 0, iv 1, .unset, .unset, .unset, .unset, .unset, .unset, .unset, .unset] [(.long 1), (.long 0)])) (fun t k => XS.i2l X607.here hx rfl (hb hby d11_118) rfl (by rw [(by decide : ((1 : Int32).toInt64) = (1 : Int64))]; exact k)) ?_
      refine Go.on (w := T607.setTop (mkF m 120 #[rv a1, iv 1, .val (.long 0), .second, iv 0, iv 1, .unset, .unset, .unset, .unset, .unset, .unset, .unset, .unset] [(.long 1)])) (fun t k => XS.ladd X607.here hx rfl (hb hby d11_119) rfl (by rw [(by decide : ((0 : Int64) + (1 : Int64)) = (1 : Int64))]; exact k)) ?_
      obtain ⟨T608, X608, e608, st608⟩ := getF X607 hx hZ0 hown0 (host := "") (Or.inl (w_21 hw)) Via.refl eh607 F602 (g := (mkF m 22 #[rv a1, iv 1, .val (.long 1), .second, iv 1, iv 1, .unset, .unset, .unset, .unset, .unset, .unset, .unset, .unset] [(.ref a1), (.int 1)])) rfl rfl (hb hby d11_22)
      obtain ⟨T609, X609, e609, st609⟩ := getF X608 hx hZ0 hown0 (host := "") (Or.inl (w_11 hw)) Via.refl e608 F604 (g := (mkF m 34 #[rv a1, iv 1, .val (.long 1), .second, iv 1, iv 1, .unset, .unset, .unset, .unset, .unset, .unset, .unset, .unset] [(.ref a1)])) rfl rfl (hb hby d11_34)
      obtain ⟨cl610, Ar610, q610, S610, M610, H610, U610⟩ := id f294_0
      have hin610 := ((inb_of S610 ⟨(by decide), (by decide)⟩) : ¬ ((1 : Int32) < 0 ∨ cl610.slots.size ≤ ((1 : Int32)).toNatClampNeg))
      refine Go.on (w := T609.setTop (mkF m 42 #[rv a1, iv 1, .val (.long 1), .second, iv 1, iv 1, .unset, .unset, .unset, .unset, .unset, .unset, .unset, .unset] [(.int 32), (.long s1_294)])) (fun t k => XS.lstoreN X607.here hx rfl (hb hby d11_120) rfl (l' := #[rv a1, iv 1, .val (.long 1), .second, iv 0, iv 1, .unset, .unset, .unset, .unset, .unset, .unset, .unset, .unset]) rfl (XS.iinc X607.here hx rfl (hb hby d11_121) rfl (l' := #[rv a1, iv 1, .val (.long 1), .second, iv 1, iv 1, .unset, .unset, .unset, .unset, .unset, .unset, .unset, .unset]) rfl (XS.goto X607.here hx rfl (pc0 := 124) (pc' := 19) rfl (hb hby d11_124) (by decide) (by decide) (XS.iload X607.here hx rfl (hb hby d11_19) rfl (XS.aloadN X607.here hx rfl (hb hby d11_21) rfl rfl (st608 _ (XS.icmpNo X608.here hx rfl (hb hby d11_25) rfl (tlt (by decide : (1 : Int32) < (3 : Int32))).2.1 (XS.iload X608.here hx rfl (hb hby d11_28) rfl (XS.ifNo X608.here hx rfl (hb hby d11_30) rfl ((if0 _ _).trans (feq (by decide : ¬ ((1 : Int32) = (0 : Int32)))).1) (XS.aloadN X608.here hx rfl (hb hby d11_33) rfl rfl (st609 _ (XS.iload X609.here hx rfl (hb hby d11_37) rfl (X609.laload hx (j := (1 : Int32)) (v := (.long s1_294)) (by rw [e609]; exact Ar610.1) (State.isArrayOf_alike hZ0.alike Ar610.2.1) Ar610.2.2 hin610 (H610.at hin610 rfl) (g := (mkF m 39 #[rv a1, iv 1, .val (.long 1), .second, iv 1, iv 1, .unset, .unset, .unset, .unset, .unset, .unset, .unset, .unset] [(.int 1), (.ref ks)])) rfl rfl (hb hby d11_39) _ (XS.bipush X609.here hx rfl (hb hby d11_40) k)))))))))))))) ?_
      refine Go.on (w := T609.setTop (mkF m 43 #[rv a1, iv 1, .val (.long 1), .second, iv 1, iv 1, .unset, .unset, .unset, .unset, .unset, .unset, .unset, .unset] [(.long (m1.toInt64))])) (fun t k => XS.lushr X609.here hx rfl (hb hby d11_42) rfl (by rw [(hu1 : ((s1_294.toUInt64 >>> ((32 : Int32) &&& 0x3f).toInt64.toUInt64).toInt64) = (m1.toInt64))]; exact k)) ?_
      obtain ⟨T611, X611, e611, st611⟩ := getF X609 hx hZ0 hown0 (host := "") (Or.inl (w_11 hw)) Via.refl e609 F604 (g := (mkF m 44 #[rv a1, iv 1, .val (.long 1), .second, iv 1, iv 1, .unset, .unset, .unset, .unset, .unset, .unset, .unset, .unset] [(.ref a1), (.long (m1.toInt64))])) rfl rfl (hb hby d11_44)
      refine Go.on (w := T611.setTop (mkF m 50 #[rv a1, iv 1, .val (.long 1), .second, iv 1, iv 1, .unset, .unset, .unset, .unset, .unset, .unset, .unset, .unset] [(.int 1), (.int 1), (.ref ks), (.long (m1.toInt64))])) (fun t k => XS.aloadN X609.here hx rfl (hb hby d11_43) rfl rfl (st611 _ (XS.iload X611.here hx rfl (hb hby d11_47) rfl (XS.iconst X611.here hx rfl (hb hby d11_49) k)))) ?_
      refine Go.on (w := T611.setTop (mkF m 51 #[rv a1, iv 1, .val (.long 1), .second, iv 1, iv 1, .unset, .unset, .unset, .unset, .unset, .unset, .unset, .unset] [(.int 0), (.ref ks), (.long (m1.toInt64))])) (fun t k => XS.isub X611.here hx rfl (hb hby d11_50) rfl (by rw [(by decide : ((1 : Int32) - (1 : Int32)) = (0 : Int32))]; exact k)) ?_
      obtain ⟨cl612, Ar612, q612, S612, M612, H612, U612⟩ := id f294_0
      have hin612 := ((inb_of S612 ⟨(by decide), (by decide)⟩) : ¬ ((0 : Int32) < 0 ∨ cl612.slots.size ≤ ((0 : Int32)).toNatClampNeg))
      refine Go.on (w := T611.setTop (mkF m 54 #[rv a1, iv 1, .val (.long 1), .second, iv 1, iv 1, .unset, .unset, .unset, .unset, .unset, .unset, .unset, .unset] [(.int 32), (.long s0_294), (.long (m1.toInt64))])) (fun t k => X611.laload hx (j := (0 : Int32)) (v := (.long s0_294)) (by rw [e611]; exact Ar612.1) (State.isArrayOf_alike hZ0.alike Ar612.2.1) Ar612.2.2 hin612 (H612.at hin612 rfl) (g := (mkF m 51 #[rv a1, iv 1, .val (.long 1), .second, iv 1, iv 1, .unset, .unset, .unset, .unset, .unset, .unset, .unset, .unset] [(.int 0), (.ref ks), (.long (m1.toInt64))])) rfl rfl (hb hby d11_51) _ (XS.bipush X611.here hx rfl (hb hby d11_52) k)) ?_
      refine Go.on (w := T611.setTop (mkF m 55 #[rv a1, iv 1, .val (.long 1), .second, iv 1, iv 1, .unset, .unset, .unset, .unset, .unset, .unset, .unset, .unset] [(.long (m0.toInt64)), (.long (m1.toInt64))])) (fun t k => XS.lushr X611.here hx rfl (hb hby d11_54) rfl (by rw [(hu0 : ((s0_294.toUInt64 >>> ((32 : Int32) &&& 0x3f).toInt64.toUInt64).toInt64) = (m0.toInt64))]; exact k)) ?_
      refine Go.on (w := T611.setTop (mkF m 77 #[rv a1, iv 1, .val (.long 1), .second, iv 1, iv 1, .unset, .unset, .unset, .unset, .unset, .unset, .unset, .unset] [(.int 1), (.int 1)])) (fun t k => XS.lcmp X611.here hx rfl (hb hby d11_55) rfl (XS.ifNo X611.here hx rfl (hb hby d11_56) rfl ((if0 _ _).trans (feq (own_lcn hb1)).1) (XS.iconst X611.here hx rfl (hb hby d11_59) (XS.goto X611.here hx rfl (pc0 := 60) (pc' := 64) rfl (hb hby d11_60) (by decide) (by decide) (XS.istore X611.here hx rfl (hb hby d11_64) rfl (l' := #[rv a1, iv 1, .val (.long 1), .second, iv 1, iv 1, .unset, .unset, .unset, .unset, .unset, .unset, .unset, .unset]) rfl (XS.iloadN X611.here hx rfl (hb hby d11_66) rfl (XS.iload X611.here hx rfl (hb hby d11_67) rfl (XS.ifNo X611.here hx rfl (hb hby d11_69) rfl ((if0 _ _).trans (feq (by decide : ¬ ((1 : Int32) = (0 : Int32)))).1) (XS.iconst X611.here hx rfl (hb hby d11_72) (XS.goto X611.here hx rfl (pc0 := 73) (pc' := 77) rfl (hb hby d11_73) (by decide) (by decide) k)))))))))) ?_
      refine Go.on (w := T611.setTop (mkF m 78 #[rv a1, iv 1, .val (.long 1), .second, iv 1, iv 1, .unset, .unset, .unset, .unset, .unset, .unset, .unset, .unset] [(.int 2)])) (fun t k => XS.iadd X611.here hx rfl (hb hby d11_77) rfl (by rw [(by decide : ((1 : Int32) + (1 : Int32)) = (2 : Int32))]; exact k)) ?_
      obtain ⟨T613, X613, e613, st613⟩ := getF X611 hx hZ0 hown0 (host := "") (Or.inl (w_11 hw)) Via.refl e611 F604 (g := (mkF m 86 #[rv a1, iv 2, .val (.long 1), .second, iv 1, iv 1, .unset, .unset, .unset, .unset, .unset, .unset, .unset, .unset] [(.ref a1), (.long 1)])) rfl rfl (hb hby d11_86)
      obtain ⟨cl614, Ar614, q614, S614, M614, H614, U614⟩ := id f294_0
      have hin614 := ((inb_of S614 ⟨(by decide), (by decide)⟩) : ¬ ((1 : Int32) < 0 ∨ cl614.slots.size ≤ ((1 : Int32)).toNatClampNeg))
      refine Go.on (w := T613.setTop (mkF m 92 #[rv a1, iv 2, .val (.long 1), .second, iv 1, iv 1, .unset, .unset, .unset, .unset, .unset, .unset, .unset, .unset] [(.long s1_294), (.long 1)])) (fun t k => XS.istoreN X611.here hx rfl (hb hby d11_78) rfl (l' := #[rv a1, iv 2, .val (.long 1), .second, iv 1, iv 1, .unset, .unset, .unset, .unset, .unset, .unset, .unset, .unset]) rfl (XS.lloadN X611.here hx rfl (hb hby d11_79) rfl (XS.iload X611.here hx rfl (hb hby d11_80) rfl (XS.ifNo X611.here hx rfl (hb hby d11_82) rfl ((if0 _ _).trans (feq (by decide : ¬ ((1 : Int32) = (0 : Int32)))).1) (XS.aloadN X611.here hx rfl (hb hby d11_85) rfl rfl (st613 _ (XS.iload X613.here hx rfl (hb hby d11_89) rfl (X613.laload hx (j := (1 : Int32)) (v := (.long s1_294)) (by rw [e613]; exact Ar614.1) (State.isArrayOf_alike hZ0.alike Ar614.2.1) Ar614.2.2 hin614 (H614.at hin614 rfl) (g := (mkF m 91 #[rv a1, iv 2, .val (.long 1), .second, iv 1, iv 1, .unset, .unset, .unset, .unset, .unset, .unset, .unset, .unset] [(.int 1), (.ref ks), (.long 1)])) rfl rfl (hb hby d11_91) _ k)))))))) ?_
      refine Go.on (w := T613.setTop (mkF m 93 #[rv a1, iv 2, .val (.long 1), .second, iv 1, iv 1, .unset, .unset, .unset, .unset, .unset, .unset, .unset, .unset] [(.int r1), (.long 1)])) (fun t k => XS.l2i X613.here hx rfl (hb hby d11_92) rfl (by rw [(hl1 : (s1_294.toInt32) = r1)]; exact k)) ?_
      obtain ⟨v615, _, ⟨T615, L615, k615, n615⟩, -, X615, ⟨Lc615, hQ615, l615, y615, z615⟩, st615⟩ := Jvm.LawKit.callS X613 hx (y := yM9) hown0 (mvT hZ0 (w_45 hw)) (mvT hZ0 (w_46 hw)) (mvT hZ0 (w_3 hw)) (mvT hZ0 (w_47 hw)) (by decide) (backOf (W := 2) (rmByt l Z a0 hw [] r1 T294.heap (own_r7s hr1)) hZ0 (w_47 hw) (w_3 hw) (by decide) (by decide)) (g := (mkF m 115 #[rv a1, iv 2, .val (.long 1), .second, iv 1, iv 1, .unset, .unset, .unset, .unset, .unset, .unset, .unset, .unset] [(.int r1), (.long 1)])) rfl (by rw [hml]; rfl) (argsL := [(.int r1)]) (rest := [(.long 1)]) (lenOf pd_5 rfl) rfl (by show 2 * 0 + _ ≤ _; exact Nat.le_of_eq rfl) (hb hby d11_115) (fun _ _ => ⟨rfl, e613, (by decide : 0 + 0 ≤ _), (by decide : 0 + 0 ≤ _)⟩)
      dsimp only [Pt.U, Pt.locs, Pt.cells, Pt.slots] at X615 l615 y615 z615 st615 hQ615
      subst l615 y615 z615
      obtain ⟨rfl, Nq615, eh615⟩ := hQ615
      have N615 := Fr.app N607 Nq615
      refine Go.on (w := T615.setTop (mkF m 118 #[rv a1, iv 2, .val (.long 1), .second, iv 1, iv 1, .unset, .unset, .unset, .unset, .unset, .unset, .unset, .unset] [(.int 1), (.long 1)])) (fun t k => XS.goto X613.here hx rfl (pc0 := 93) (pc' := 115) rfl (hb hby d11_93) (by decide) (by decide) (st615 _ k)) ?_
      refine Go.on (w := T615.setTop (mkF m 119 #[rv a1, iv 2, .val (.long 1), .second, iv 1, iv 1, .unset, .unset, .unset, .unset, .unset, .unset, .unset, .unset] [(.long 1), (.long 1)])) (fun t k => XS.i2l X615.here hx rfl (hb hby d11_118) rfl (by rw [(by decide : ((1 : Int32).toInt64) = (1 : Int64))]; exact k)) ?_
      refine Go.on (w := T615.setTop (mkF m 120 #[rv a1, iv 2, .val (.long 1), .second, iv 1, iv 1, .unset, .unset, .unset, .unset, .unset, .unset, .unset, .unset] [(.long 2)])) (fun t k => XS.ladd X615.here hx rfl (hb hby d11_119) rfl (by rw [(by decide : ((1 : Int64) + (1 : Int64)) = (2 : Int64))]; exact k)) ?_
      obtain ⟨T616, X616, e616, st616⟩ := getF X615 hx hZ0 hown0 (host := "") (Or.inl (w_21 hw)) Via.refl eh615 F602 (g := (mkF m 22 #[rv a1, iv 2, .val (.long 2), .second, iv 2, iv 1, .unset, .unset, .unset, .unset, .unset, .unset, .unset, .unset] [(.ref a1), (.int 2)])) rfl rfl (hb hby d11_22)
      obtain ⟨T617, X617, e617, st617⟩ := getF X616 hx hZ0 hown0 (host := "") (Or.inl (w_11 hw)) Via.refl e616 F604 (g := (mkF m 34 #[rv a1, iv 2, .val (.long 2), .second, iv 2, iv 1, .unset, .unset, .unset, .unset, .unset, .unset, .unset, .unset] [(.ref a1)])) rfl rfl (hb hby d11_34)
      obtain ⟨cl618, Ar618, q618, S618, M618, H618, U618⟩ := id f294_0
      have hin618 := ((inb_of S618 ⟨(by decide), (by decide)⟩) : ¬ ((2 : Int32) < 0 ∨ cl618.slots.size ≤ ((2 : Int32)).toNatClampNeg))
      refine Go.on (w := T617.setTop (mkF m 42 #[rv a1, iv 2, .val (.long 2), .second, iv 2, iv 1, .unset, .unset, .unset, .unset, .unset, .unset, .unset, .unset] [(.int 32), (.long s2_294)])) (fun t k => XS.lstoreN X615.here hx rfl (hb hby d11_120) rfl (l' := #[rv a1, iv 2, .val (.long 2), .second, iv 1, iv 1, .unset, .unset, .unset, .unset, .unset, .unset, .unset, .unset]) rfl (XS.iinc X615.here hx rfl (hb hby d11_121) rfl (l' := #[rv a1, iv 2, .val (.long 2), .second, iv 2, iv 1, .unset, .unset, .unset, .unset, .unset, .unset, .unset, .unset]) rfl (XS.goto X615.here hx rfl (pc0 := 124) (pc' := 19) rfl (hb hby d11_124) (by decide) (by decide) (XS.iload X615.here hx rfl (hb hby d11_19) rfl (XS.aloadN X615.here hx rfl (hb hby d11_21) rfl rfl (st616 _ (XS.icmpNo X616.here hx rfl (hb hby d11_25) rfl (tlt (by decide : (2 : Int32) < (3 : Int32))).2.1 (XS.iload X616.here hx rfl (hb hby d11_28) rfl (XS.ifNo X616.here hx rfl (hb hby d11_30) rfl ((if0 _ _).trans (feq (by decide : ¬ ((2 : Int32) = (0 : Int32)))).1) (XS.aloadN X616.here hx rfl (hb hby d11_33) rfl rfl (st617 _ (XS.iload X617.here hx rfl (hb hby d11_37) rfl (X617.laload hx (j := (2 : Int32)) (v := (.long s2_294)) (by rw [e617]; exact Ar618.1) (State.isArrayOf_alike hZ0.alike Ar618.2.1) Ar618.2.2 hin618 (H618.at hin618 rfl) (g := (mkF m 39 #[rv a1, iv 2, .val (.long 2), .second, iv 2, iv 1, .unset, .unset, .unset, .unset, .unset, .unset, .unset, .unset] [(.int 2), (.ref ks)])) rfl rfl (hb hby d11_39) _ (XS.bipush X617.here hx rfl (hb hby d11_40) k)))))))))))))) ?_
      refine Go.on (w := T617.setTop (mkF m 43 #[rv a1, iv 2, .val (.long 2), .second, iv 2, iv 1, .unset, .unset, .unset, .unset, .unset, .unset, .unset, .unset] [(.long (m2.toInt64))])) (fun t k => XS.lushr X617.here hx rfl (hb hby d11_42) rfl (by rw [(hu2 : ((s2_294.toUInt64 >>> ((32 : Int32) &&& 0x3f).toInt64.toUInt64).toInt64) = (m2.toInt64))]; exact k)) ?_
      obtain ⟨T619, X619, e619, st619⟩ := getF X617 hx hZ0 hown0 (host := "") (Or.inl (w_11 hw)) Via.refl e617 F604 (g := (mkF m 44 #[rv a1, iv 2, .val (.long 2), .second, iv 2, iv 1, .unset, .unset, .unset, .unset, .unset, .unset, .unset, .unset] [(.ref a1), (.long (m2.toInt64))])) rfl rfl (hb hby d11_44)
      refine Go.on (w := T619.setTop (mkF m 50 #[rv a1, iv 2, .val (.long 2), .second, iv 2, iv 1, .unset, .unset, .unset, .unset, .unset, .unset, .unset, .unset] [(.int 1), (.int 2), (.ref ks), (.long (m2.toInt64))])) (fun t k => XS.aloadN X617.here hx rfl (hb hby d11_43) rfl rfl (st619 _ (XS.iload X619.here hx rfl (hb hby d11_47) rfl (XS.iconst X619.here hx rfl (hb hby d11_49) k)))) ?_
      refine Go.on (w := T619.setTop (mkF m 51 #[rv a1, iv 2, .val (.long 2), .second, iv 2, iv 1, .unset, .unset, .unset, .unset, .unset, .unset, .unset, .unset] [(.int 1), (.ref ks), (.long (m2.toInt64))])) (fun t k => XS.isub X619.here hx rfl (hb hby d11_50) rfl (by rw [(by decide : ((2 : Int32) - (1 : Int32)) = (1 : Int32))]; exact k)) ?_
      obtain ⟨cl620, Ar620, q620, S620, M620, H620, U620⟩ := id f294_0
      have hin620 := ((inb_of S620 ⟨(by decide), (by decide)⟩) : ¬ ((1 : Int32) < 0 ∨ cl620.slots.size ≤ ((1 : Int32)).toNatClampNeg))
      refine Go.on (w := T619.setTop (mkF m 54 #[rv a1, iv 2, .val (.long 2), .second, iv 2, iv 1, .unset, .unset, .unset, .unset, .unset, .unset, .unset, .unset] [(.int 32), (.long s1_294), (.long (m2.toInt64))])) (fun t k => X619.laload hx (j := (1 : Int32)) (v := (.long s1_294)) (by rw [e619]; exact Ar620.1) (State.isArrayOf_alike hZ0.alike Ar620.2.1) Ar620.2.2 hin620 (H620.at hin620 rfl) (g := (mkF m 51 #[rv a1, iv 2, .val (.long 2), .second, iv 2, iv 1, .unset, .unset, .unset, .unset, .unset, .unset, .unset, .unset] [(.int 1), (.ref ks), (.long (m2.toInt64))])) rfl rfl (hb hby d11_51) _ (XS.bipush X619.here hx rfl (hb hby d11_52) k)) ?_
      refine Go.on (w := T619.setTop (mkF m 55 #[rv a1, iv 2, .val (.long 2), .second, iv 2, iv 1, .unset, .unset, .unset, .unset, .unset, .unset, .unset, .unset] [(.long (m1.toInt64)), (.long (m2.toInt64))])) (fun t k => XS.lushr X619.here hx rfl (hb hby d11_54) rfl (by rw [(hu1 : ((s1_294.toUInt64 >>> ((32 : Int32) &&& 0x3f).toInt64.toUInt64).toInt64) = (m1.toInt64))]; exact k)) ?_
      refine Go.on (w := T619.setTop (mkF m 77 #[rv a1, iv 2, .val (.long 2), .second, iv 2, iv 1, .unset, .unset, .unset, .unset, .unset, .unset, .unset, .unset] [(.int 1), (.int 2)])) (fun t k => XS.lcmp X619.here hx rfl (hb hby d11_55) rfl (XS.ifNo X619.here hx rfl (hb hby d11_56) rfl ((if0 _ _).trans (feq (own_lcn hb2)).1) (XS.iconst X619.here hx rfl (hb hby d11_59) (XS.goto X619.here hx rfl (pc0 := 60) (pc' := 64) rfl (hb hby d11_60) (by decide) (by decide) (XS.istore X619.here hx rfl (hb hby d11_64) rfl (l' := #[rv a1, iv 2, .val (.long 2), .second, iv 2, iv 1, .unset, .unset, .unset, .unset, .unset, .unset, .unset, .unset]) rfl (XS.iloadN X619.here hx rfl (hb hby d11_66) rfl (XS.iload X619.here hx rfl (hb hby d11_67) rfl (XS.ifNo X619.here hx rfl (hb hby d11_69) rfl ((if0 _ _).trans (feq (by decide : ¬ ((1 : Int32) = (0 : Int32)))).1) (XS.iconst X619.here hx rfl (hb hby d11_72) (XS.goto X619.here hx rfl (pc0 := 73) (pc' := 77) rfl (hb hby d11_73) (by decide) (by decide) k)))))))))) ?_
      refine Go.on (w := T619.setTop (mkF m 78 #[rv a1, iv 2, .val (.long 2), .second, iv 2, iv 1, .unset, .unset, .unset, .unset, .unset, .unset, .unset, .unset] [(.int 3)])) (fun t k => XS.iadd X619.here hx rfl (hb hby d11_77) rfl (by rw [(by decide : ((2 : Int32) + (1 : Int32)) = (3 : Int32))]; exact k)) ?_
      obtain ⟨T621, X621, e621, st621⟩ := getF X619 hx hZ0 hown0 (host := "") (Or.inl (w_11 hw)) Via.refl e619 F604 (g := (mkF m 86 #[rv a1, iv 3, .val (.long 2), .second, iv 2, iv 1, .unset, .unset, .unset, .unset, .unset, .unset, .unset, .unset] [(.ref a1), (.long 2)])) rfl rfl (hb hby d11_86)
      obtain ⟨cl622, Ar622, q622, S622, M622, H622, U622⟩ := id f294_0
      have hin622 := ((inb_of S622 ⟨(by decide), (by decide)⟩) : ¬ ((2 : Int32) < 0 ∨ cl622.slots.size ≤ ((2 : Int32)).toNatClampNeg))
      refine Go.on (w := T621.setTop (mkF m 92 #[rv a1, iv 3, .val (.long 2), .second, iv 2, iv 1, .unset, .unset, .unset, .unset, .unset, .unset, .unset, .unset] [(.long s2_294), (.long 2)])) (fun t k => XS.istoreN X619.here hx rfl (hb hby d11_78) rfl (l' := #[rv a1, iv 3, .val (.long 2), .second, iv 2, iv 1, .unset, .unset, .unset, .unset, .unset, .unset, .unset, .unset]) rfl (XS.lloadN X619.here hx rfl (hb hby d11_79) rfl (XS.iload X619.here hx rfl (hb hby d11_80) rfl (XS.ifNo X619.here hx rfl (hb hby d11_82) rfl ((if0 _ _).trans (feq (by decide : ¬ ((1 : Int32) = (0 : Int32)))).1) (XS.aloadN X619.here hx rfl (hb hby d11_85) rfl rfl (st621 _ (XS.iload X621.here hx rfl (hb hby d11_89) rfl (X621.laload hx (j := (2 : Int32)) (v := (.long s2_294)) (by rw [e621]; exact Ar622.1) (State.isArrayOf_alike hZ0.alike Ar622.2.1) Ar622.2.2 hin622 (H622.at hin622 rfl) (g := (mkF m 91 #[rv a1, iv 3, .val (.long 2), .second, iv 2, iv 1, .unset, .unset, .unset, .unset, .unset, .unset, .unset, .unset] [(.int 2), (.ref ks), (.long 2)])) rfl rfl (hb hby d11_91) _ k)))))))) ?_
      refine Go.on (w := T621.setTop (mkF m 93 #[rv a1, iv 3, .val (.long 2), .second, iv 2, iv 1, .unset, .unset, .unset, .unset, .unset, .unset, .unset, .unset] [(.int r2), (.long 2)])) (fun t k => XS.l2i X621.here hx rfl (hb hby d11_92) rfl (by rw [(hl2 : (s2_294.toInt32) = r2)]; exact k)) ?_
      obtain ⟨v623, _, ⟨T623, L623, k623, n623⟩, -, X623, ⟨Lc623, hQ623, l623, y623, z623⟩, st623⟩ := Jvm.LawKit.callS X621 hx (y := yM9) hown0 (mvT hZ0 (w_45 hw)) (mvT hZ0 (w_46 hw)) (mvT hZ0 (w_3 hw)) (mvT hZ0 (w_47 hw)) (by decide) (backOf (W := 2) (rmByt l Z a0 hw [] r2 T294.heap (own_r7s hr2)) hZ0 (w_47 hw) (w_3 hw) (by decide) (by decide)) (g := (mkF m 115 #[rv a1, iv 3, .val (.long 2), .second, iv 2, iv 1, .unset, .unset, .unset, .unset, .unset, .unset, .unset, .unset] [(.int r2), (.long 2)])) rfl (by rw [hml]; rfl) (argsL := [(.int r2)]) (rest := [(.long 2)]) (lenOf pd_5 rfl) rfl (by show 2 * 0 + _ ≤ _; exact Nat.le_of_eq rfl) (hb hby d11_115) (fun _ _ => ⟨rfl, e621, (by decide : 0 + 0 ≤ _), (by decide : 0 + 0 ≤ _)⟩)
      dsimp only [Pt.U, Pt.locs, Pt.cells, Pt.slots] at X623 l623 y623 z623 st623 hQ623
      subst l623 y623 z623
      obtain ⟨rfl, Nq623, eh623⟩ := hQ623
      have N623 := Fr.app N615 Nq623
      refine Go.on (w := T623.setTop (mkF m 118 #[rv a1, iv 3, .val (.long 2), .second, iv 2, iv 1, .unset, .unset, .unset, .unset, .unset, .unset, .unset, .unset] [(.int 1), (.long 2)])) (fun t k => XS.goto X621.here hx rfl (pc0 := 93) (pc' := 115) rfl (hb hby d11_93) (by decide) (by decide) (st623 _ k)) ?_
      refine Go.on (w := T623.setTop (mkF m 119 #[rv a1, iv 3, .val (.long 2), .second, iv 2, iv 1, .unset, .unset, .unset, .unset, .unset, .unset, .unset, .unset] [(.long 1), (.long 2)])) (fun t k => XS.i2l X623.here hx rfl (hb hby d11_118) rfl (by rw [(by decide : ((1 : Int32).toInt64) = (1 : Int64))]; exact k)) ?_
      refine Go.on (w := T623.setTop (mkF m 120 #[rv a1, iv 3, .val (.long 2), .second, iv 2, iv 1, .unset, .unset, .unset, .unset, .unset, .unset, .unset, .unset] [(.long 3)])) (fun t k => XS.ladd X623.here hx rfl (hb hby d11_119) rfl (by rw [(by decide : ((2 : Int64) + (1 : Int64)) = (3 : Int64))]; exact k)) ?_
      obtain ⟨T624, X624, e624, st624⟩ := getF X623 hx hZ0 hown0 (host := "") (Or.inl (w_21 hw)) Via.refl eh623 F602 (g := (mkF m 22 #[rv a1, iv 3, .val (.long 3), .second, iv 3, iv 1, .unset, .unset, .unset, .unset, .unset, .unset, .unset, .unset] [(.ref a1), (.int 3)])) rfl rfl (hb hby d11_22)
      obtain ⟨T625, h625, k625, X625, e625, E625, A625, st625⟩ := newP (aty := .int) X624 hx hZ0 (w_13 hw) e624 (g := (mkF m 128 #[rv a1, iv 3, .val (.long 3), .second, iv 3, iv 1, .unset, .unset, .unset, .unset, .unset, .unset, .unset, .unset] [(.int 3)])) rfl (hb hby d11_128) rfl (by decide : ¬ ((3 : Int32) < (0 : Int32))) (cap := 3) (by decide) (by decide) (by decide) (by decide)
      obtain ⟨b625, g625⟩ : ∃ z, z = T294.heap.size := ⟨_, rfl⟩
      rw [← g625] at A625 st625
      have V625 : Arv Z h625 b625 k625 .int (3 : Int32) [(.int 0), (.int 0), (.int 0)] (.int 0) := (Arv.new A625 (by decide : ¬ ((3 : Int32) < (0 : Int32)))).pad (pad_rep [] (.int 0) 3)
      have u625 : h625.size > b625 := V625.lt
      have z625 : T294.heap.size ≤ h625.size := E625.1
      have KP625 : Keep h0 h625 ([ks] : List Addr) := KP294.ext E625
      obtain ⟨v626, _, ⟨T626, L626, k626, n626⟩, -, X626, ⟨Lc626, hQ626, l626, y626, z626⟩, st626⟩ := Jvm.LawKit.callS X625 hx (y := yM10) hown0 (mvT hZ0 (w_48 hw)) (mvT hZ0 (w_49 hw)) (mvT hZ0 (w_50 hw)) (mvT hZ0 (w_51 hw)) (by decide) (backOf (W := 0) (rmTie l Z a0 hw [] () h625 ) hZ0 (w_51 hw) (w_50 hw) (by decide) (by decide)) (g := (mkF m 133 #[rv a1, iv 3, .val (.long 3), .second, rv b625, iv 1, .unset, .unset, .unset, .unset, .unset, .unset, .unset, .unset] [(.long 3)])) rfl (by rw [hml]; rfl) (argsL := [(.long 3)]) (rest := []) (lenOf pd_6 rfl) rfl (by show 2 * 0 + _ ≤ _; exact Nat.le_of_eq rfl) (hb hby d11_133) (fun _ _ => ⟨rfl, e625, (by decide : 1 + 0 ≤ _), (by decide : 3 + 0 ≤ _)⟩)
      dsimp only [Pt.U, Pt.locs, Pt.cells, Pt.slots] at X626 l626 y626 z626 st626 hQ626
      subst l626 y626 z626
      obtain ⟨rfl, Nq626, eh626⟩ := hQ626
      have N626 := Fr.app N623 Nq626
      obtain ⟨T627, h627, k627, X627, e627, E627, A627, st627⟩ := newP (aty := .byte) X626 hx hZ0 (w_52 hw) eh626 (g := (mkF m 136 #[rv a1, iv 3, .val (.long 3), .second, rv b625, iv 1, .unset, .unset, .unset, .unset, .unset, .unset, .unset, .unset] [(.int 3)])) rfl (hb hby d11_136) rfl (by decide : ¬ ((3 : Int32) < (0 : Int32))) (cap := 3) (by decide) (by decide) (by decide) (by decide)
      obtain ⟨b627, g627⟩ : ∃ z, z = h625.size := ⟨_, rfl⟩
      rw [← g627] at A627 st627
      have V627 : Arv Z h627 b627 k627 .byte (3 : Int32) [(.int 0), (.int 0), (.int 0)] (.int 0) := (Arv.new A627 (by decide : ¬ ((3 : Int32) < (0 : Int32)))).pad (pad_rep [] (.int 0) 3)
      have u627 : h627.size > b627 := V627.lt
      have z627 : h625.size ≤ h627.size := E627.1
      have KP627 : Keep h0 h627 ([ks] : List Addr) := KP625.ext E627
      refine Go.on (w := T627.setTop (mkF m 142 #[rv a1, iv 3, .val (.long 3), .second, rv b625, rv b627, .unset, .unset, .unset, .unset, .unset, .unset, .unset, .unset] [(.int 1), (.int 3)])) (fun t k => XS.lstoreN X623.here hx rfl (hb hby d11_120) rfl (l' := #[rv a1, iv 3, .val (.long 3), .second, iv 2, iv 1, .unset, .unset, .unset, .unset, .unset, .unset, .unset, .unset]) rfl (XS.iinc X623.here hx rfl (hb hby d11_121) rfl (l' := #[rv a1, iv 3, .val (.long 3), .second, iv 3, iv 1, .unset, .unset, .unset, .unset, .unset, .unset, .unset, .unset]) rfl (XS.goto X623.here hx rfl (pc0 := 124) (pc' := 19) rfl (hb hby d11_124) (by decide) (by decide) (XS.iload X623.here hx rfl (hb hby d11_19) rfl (XS.aloadN X623.here hx rfl (hb hby d11_21) rfl rfl (st624 _ (XS.icmpYes X624.here hx rfl (pc0 := 25) (pc' := 127) rfl (hb hby d11_25) rfl (flt (by decide : ¬ ((3 : Int32) < (3 : Int32)))).2.1 (by decide) (by decide) (XS.iloadN X624.here hx rfl (hb hby d11_127) rfl (st625 _ (XS.astore X625.here hx rfl (hb hby d11_130) rfl rfl (l' := #[rv a1, iv 3, .val (.long 3), .second, rv b625, iv 1, .unset, .unset, .unset, .unset, .unset, .unset, .unset, .unset]) rfl (XS.lloadN X625.here hx rfl (hb hby d11_132) rfl (st626 _ (st627 _ (XS.astore X627.here hx rfl (hb hby d11_138) rfl rfl (l' := #[rv a1, iv 3, .val (.long 3), .second, rv b625, rv b627, .unset, .unset, .unset, .unset, .unset, .unset, .unset, .unset]) rfl (XS.iloadN X627.here hx rfl (hb hby d11_140) rfl (XS.iconst X627.here hx rfl (hb hby d11_141) k)))))))))))))))) ?_
      refine Go.on (w := T627.setTop (mkF m 143 #[rv a1, iv 3, .val (.long 3), .second, rv b625, rv b627, .unset, .unset, .unset, .unset, .unset, .unset, .unset, .unset] [(.int 4)])) (fun t k => XS.iadd X627.here hx rfl (hb hby d11_142) rfl (by rw [(by decide : ((3 : Int32) + (1 : Int32)) = (4 : Int32))]; exact k)) ?_
      obtain ⟨T628, h628, k628, X628, e628, E628, A628, st628⟩ := newP (aty := .int) X627 hx hZ0 (w_13 hw) e627 (g := (mkF m 143 #[rv a1, iv 3, .val (.long 3), .second, rv b625, rv b627, .unset, .unset, .unset, .unset, .unset, .unset, .unset, .unset] [(.int 4)])) rfl (hb hby d11_143) rfl (by decide : ¬ ((4 : Int32) < (0 : Int32))) (cap := 4) (by decide) (by decide) (by decide) (by decide)
      obtain ⟨b628, g628⟩ : ∃ z, z = h627.size := ⟨_, rfl⟩
      rw [← g628] at A628 st628
      have V628 : Arv Z h628 b628 k628 .int (4 : Int32) [(.int 0), (.int 0), (.int 0), (.int 0)] (.int 0) := (Arv.new A628 (by decide : ¬ ((4 : Int32) < (0 : Int32)))).pad (pad_rep [] (.int 0) 4)
      have u628 : h628.size > b628 := V628.lt
      have z628 : h627.size ≤ h628.size := E628.1
      have KP628 : Keep h0 h628 ([ks] : List Addr) := KP627.ext E628
      have F629 := (((F602.ext E625).ext E627).ext E628)
      obtain ⟨T630, X630, e630, st630⟩ := getF X628 hx hZ0 hown0 (host := "") (Or.inl (w_21 hw)) Via.refl e628 F629 (g := (mkF m 148 #[rv a1, iv 3, .val (.long 3), .second, rv b625, rv b627, rv b628, .unset, .unset, .unset, .unset, .unset, .unset, .unset] [(.ref a1)])) rfl rfl (hb hby d11_148)
      obtain ⟨T631, h631, k631, X631, e631, E631, A631, st631⟩ := newP (aty := .int) X630 hx hZ0 (w_13 hw) e630 (g := (mkF m 151 #[rv a1, iv 3, .val (.long 3), .second, rv b625, rv b627, rv b628, .unset, .unset, .unset, .unset, .unset, .unset, .unset] [(.int 3)])) rfl (hb hby d11_151) rfl (by decide : ¬ ((3 : Int32) < (0 : Int32))) (cap := 3) (by decide) (by decide) (by decide) (by decide)
      obtain ⟨b631, g631⟩ : ∃ z, z = h628.size := ⟨_, rfl⟩
      rw [← g631] at A631 st631
      have V631 : Arv Z h631 b631 k631 .int (3 : Int32) [(.int 0), (.int 0), (.int 0)] (.int 0) := (Arv.new A631 (by decide : ¬ ((3 : Int32) < (0 : Int32)))).pad (pad_rep [] (.int 0) 3)
      have u631 : h631.size > b631 := V631.lt
      have z631 : h628.size ≤ h631.size := E631.1
      have KP631 : Keep h0 h631 ([ks] : List Addr) := KP628.ext E631
      have F632 := (F629.ext E631)
      obtain ⟨T633, X633, e633, st633⟩ := getF X631 hx hZ0 hown0 (host := "") (Or.inl (w_21 hw)) Via.refl e631 F632 (g := (mkF m 167 #[rv a1, iv 3, .val (.long 3), .second, rv b625, rv b627, rv b628, rv b631, iv 0, iv (-1), iv 0, .unset, .unset, .unset] [(.ref a1), (.int 0)])) rfl rfl (hb hby d11_167)
      have F634 := ((((F604.ext E625).ext E627).ext E628).ext E631)
      obtain ⟨T635, X635, e635, st635⟩ := getF X633 hx hZ0 hown0 (host := "") (Or.inl (w_11 hw)) Via.refl e633 F634 (g := (mkF m 174 #[rv a1, iv 3, .val (.long 3), .second, rv b625, rv b627, rv b628, rv b631, iv 0, iv (-1), iv 0, .unset, .unset, .unset] [(.ref a1)])) rfl rfl (hb hby d11_174)
      have F636 := ((((f294_0.ext E625).ext E627).ext E628).ext E631)
      obtain ⟨cl637, Ar637, q637, S637, M637, H637, U637⟩ := id F636
      have hin637 := ((inb_of S637 ⟨(by decide), (by decide)⟩) : ¬ ((0 : Int32) < 0 ∨ cl637.slots.size ≤ ((0 : Int32)).toNatClampNeg))
      refine Go.on (w := T635.setTop (mkF m 182 #[rv a1, iv 3, .val (.long 3), .second, rv b625, rv b627, rv b628, rv b631, iv 0, iv (-1), iv 0, .unset, .unset, .unset] [(.int 32), (.long s0_294)])) (fun t k => st628 _ (XS.astore X628.here hx rfl (hb hby d11_145) rfl rfl (l' := #[rv a1, iv 3, .val (.long 3), .second, rv b625, rv b627, rv b628, .unset, .unset, .unset, .unset, .unset, .unset, .unset]) rfl (XS.aloadN X628.here hx rfl (hb hby d11_147) rfl rfl (st630 _ (st631 _ (XS.astore X631.here hx rfl (hb hby d11_153) rfl rfl (l' := #[rv a1, iv 3, .val (.long 3), .second, rv b625, rv b627, rv b628, rv b631, .unset, .unset, .unset, .unset, .unset, .unset]) rfl (XS.iconst X631.here hx rfl (hb hby d11_155) (XS.istore X631.here hx rfl (hb hby d11_156) rfl (l' := #[rv a1, iv 3, .val (.long 3), .second, rv b625, rv b627, rv b628, rv b631, iv 0, .unset, .unset, .unset, .unset, .unset]) rfl (XS.iconst X631.here hx rfl (hb hby d11_158) (XS.istore X631.here hx rfl (hb hby d11_159) rfl (l' := #[rv a1, iv 3, .val (.long 3), .second, rv b625, rv b627, rv b628, rv b631, iv 0, iv (-1), .unset, .unset, .unset, .unset]) rfl (XS.iconst X631.here hx rfl (hb hby d11_161) (XS.istore X631.here hx rfl (hb hby d11_162) rfl (l' := #[rv a1, iv 3, .val (.long 3), .second, rv b625, rv b627, rv b628, rv b631, iv 0, iv (-1), iv 0, .unset, .unset, .unset]) rfl (XS.iload X631.here hx rfl (hb hby d11_164) rfl (XS.aloadN X631.here hx rfl (hb hby d11_166) rfl rfl (st633 _ (XS.icmpNo X633.here hx rfl (hb hby d11_170) rfl (tlt (by decide : (0 : Int32) < (3 : Int32))).2.1 (XS.aloadN X633.here hx rfl (hb hby d11_173) rfl rfl (st635 _ (XS.iload X635.here hx rfl (hb hby d11_177) rfl (X635.laload hx (j := (0 : Int32)) (v := (.long s0_294)) (by rw [e635]; exact Ar637.1) (State.isArrayOf_alike hZ0.alike Ar637.2.1) Ar637.2.2 hin637 (H637.at hin637 rfl) (g := (mkF m 179 #[rv a1, iv 3, .val (.long 3), .second, rv b625, rv b627, rv b628, rv b631, iv 0, iv (-1), iv 0, .unset, .unset, .unset] [(.int 0), (.ref ks)])) rfl rfl (hb hby d11_179) _ (XS.bipush X635.here hx rfl (hb hby d11_180) k))))))))))))))))))))) ?_
      refine Go.on (w := T635.setTop (mkF m 183 #[rv a1, iv 3, .val (.long 3), .second, rv b625, rv b627, rv b628, rv b631, iv 0, iv (-1), iv 0, .unset, .unset, .unset] [(.long (m0.toInt64))])) (fun t k => XS.lushr X635.here hx rfl (hb hby d11_182) rfl (by rw [(hu0 : ((s0_294.toUInt64 >>> ((32 : Int32) &&& 0x3f).toInt64.toUInt64).toInt64) = (m0.toInt64))]; exact k)) ?_
      refine Go.on (w := T635.setTop (mkF m 184 #[rv a1, iv 3, .val (.long 3), .second, rv b625, rv b627, rv b628, rv b631, iv 0, iv (-1), iv 0, .unset, .unset, .unset] [(.int m0)])) (fun t k => XS.l2i X635.here hx rfl (hb hby d11_183) rfl (by rw [(hm0 : ((m0.toInt64).toInt32) = m0)]; exact k)) ?_
      obtain ⟨T638, X638, e638, st638⟩ := getF X635 hx hZ0 hown0 (host := "") (Or.inl (w_11 hw)) Via.refl e635 F634 (g := (mkF m 187 #[rv a1, iv 3, .val (.long 3), .second, rv b625, rv b627, rv b628, rv b631, iv 0, iv (-1), iv 0, iv m0, .unset, .unset] [(.ref a1)])) rfl rfl (hb hby d11_187)
      obtain ⟨cl639, Ar639, q639, S639, M639, H639, U639⟩ := id F636
      have hin639 := ((inb_of S639 ⟨(by decide), (by decide)⟩) : ¬ ((0 : Int32) < 0 ∨ cl639.slots.size ≤ ((0 : Int32)).toNatClampNeg))
      refine Go.on (w := T638.setTop (mkF m 193 #[rv a1, iv 3, .val (.long 3), .second, rv b625, rv b627, rv b628, rv b631, iv 0, iv (-1), iv 0, iv m0, .unset, .unset] [(.long s0_294)])) (fun t k => XS.istore X635.here hx rfl (hb hby d11_184) rfl (l' := #[rv a1, iv 3, .val (.long 3), .second, rv b625, rv b627, rv b628, rv b631, iv 0, iv (-1), iv 0, iv m0, .unset, .unset]) rfl (XS.aloadN X635.here hx rfl (hb hby d11_186) rfl rfl (st638 _ (XS.iload X638.here hx rfl (hb hby d11_190) rfl (X638.laload hx (j := (0 : Int32)) (v := (.long s0_294)) (by rw [e638]; exact Ar639.1) (State.isArrayOf_alike hZ0.alike Ar639.2.1) Ar639.2.2 hin639 (H639.at hin639 rfl) (g := (mkF m 192 #[rv a1, iv 3, .val (.long 3), .second, rv b625, rv b627, rv b628, rv b631, iv 0, iv (-1), iv 0, iv m0, .unset, .unset] [(.int 0), (.ref ks)])) rfl rfl (hb hby d11_192) _ k))))) ?_
      refine Go.on (w := T638.setTop (mkF m 194 #[rv a1, iv 3, .val (.long 3), .second, rv b625, rv b627, rv b628, rv b631, iv 0, iv (-1), iv 0, iv m0, .unset, .unset] [(.int r0)])) (fun t k => XS.l2i X638.here hx rfl (hb hby d11_193) rfl (by rw [(hl0 : (s0_294.toInt32) = r0)]; exact k)) ?_
      have F640 := (((V625.ext E627).ext E628).ext E631)
      obtain ⟨cl641, Ar641, q641, S641, M641, H641, U641⟩ := id F640
      obtain ⟨T641, h641, X641, e641, W641, st641⟩ := stI X638 hx hZ0 e638 Ar641 (j := (0 : Int32)) (inb_of S641 ⟨(by decide), (by decide)⟩) (g := (mkF m 224 #[rv a1, iv 3, .val (.long 3), .second, rv b625, rv b627, rv b628, rv b631, iv 0, iv 0, iv 0, iv m0, iv r0, iv r0] [(.int m0), (.int 0), (.ref b625)])) rfl rfl (hb hby d11_224)
      have V641 : Arv Z h641 b625 k625 .int (3 : Int32) [(.int m0), (.int 0), (.int 0)] (.int 0) := (Arv.set Ar641 q641 S641 M641 H641 U641 rfl W641 0 rfl (Nat.le_of_ble_eq_true rfl))
      have z641 : h631.size ≤ h641.size := Nat.le_of_eq W641.size.symm
      have KP641 : Keep h0 h641 ([ks] : List Addr) := KP631.wr W641 (Or.inr (by omega))
      have N641 := Fr.snoc X641 N626 (by omega)
      have F642 := ((V628.ext E631).other W641 (show @Ne Nat b628 b625 by omega))
      obtain ⟨cl643, Ar643, q643, S643, M643, H643, U643⟩ := id F642
      obtain ⟨T643, h643, X643, e643, W643, st643⟩ := stI X641 hx hZ0 e641 Ar643 (j := (0 : Int32)) (inb_of S643 ⟨(by decide), (by decide)⟩) (g := (mkF m 231 #[rv a1, iv 3, .val (.long 3), .second, rv b625, rv b627, rv b628, rv b631, iv 0, iv 0, iv 0, iv m0, iv r0, iv r0] [(.int 0), (.int 0), (.ref b628)])) rfl rfl (hb hby d11_231)
      have V643 : Arv Z h643 b628 k628 .int (4 : Int32) [(.int 0), (.int 0), (.int 0), (.int 0)] (.int 0) := (Arv.set Ar643 q643 S643 M643 H643 U643 rfl W643 0 rfl (Nat.le_of_ble_eq_true rfl))
      have z643 : h641.size ≤ h643.size := Nat.le_of_eq W643.size.symm
      have KP643 : Keep h0 h643 ([ks] : List Addr) := KP641.wr W643 (Or.inr (by omega))
      have N643 := Fr.snoc X643 N641 (by omega)
      refine Go.on (w := T643.setTop (mkF m 292 #[rv a1, iv 3, .val (.long 3), .second, rv b625, rv b627, rv b628, rv b631, iv 1, iv 0, iv 0, iv m0, iv r0, iv r0] [(.int r0), (.int 0), (.ref b627)])) (fun t k => XS.istore X638.here hx rfl (hb hby d11_194) rfl (l' := #[rv a1, iv 3, .val (.long 3), .second, rv b625, rv b627, rv b628, rv b631, iv 0, iv (-1), iv 0, iv m0, iv r0, .unset]) rfl (XS.iload X638.here hx rfl (hb hby d11_196) rfl (XS.istore X638.here hx rfl (hb hby d11_198) rfl (l' := #[rv a1, iv 3, .val (.long 3), .second, rv b625, rv b627, rv b628, rv b631, iv 0, iv (-1), iv 0, iv m0, iv r0, iv r0]) rfl (XS.iload X638.here hx rfl (hb hby d11_200) rfl (XS.ifYes X638.here hx rfl (pc0 := 202) (pc' := 215) rfl (hb hby d11_202) rfl ((if0 _ _).trans (tlt (by decide : (-1 : Int32) < (0 : Int32))).1) (by decide) (by decide) (XS.aload X638.here hx rfl (hb hby d11_215) rfl rfl (XS.iinc X638.here hx rfl (hb hby d11_217) rfl (l' := #[rv a1, iv 3, .val (.long 3), .second, rv b625, rv b627, rv b628, rv b631, iv 0, iv 0, iv 0, iv m0, iv r0, iv r0]) rfl (XS.iload X638.here hx rfl (hb hby d11_220) rfl (XS.iload X638.here hx rfl (hb hby d11_222) rfl (st641 _ (XS.aload X641.here hx rfl (hb hby d11_225) rfl rfl (XS.iload X641.here hx rfl (hb hby d11_227) rfl (XS.iload X641.here hx rfl (hb hby d11_229) rfl (st643 _ (XS.goto X643.here hx rfl (pc0 := 232) (pc' := 250) rfl (hb hby d11_232) (by decide) (by decide) (XS.iload X643.here hx rfl (hb hby d11_250) rfl (XS.sipush X643.here hx rfl (hb hby d11_252) (XS.icmpYes X643.here hx rfl (pc0 := 255) (pc' := 283) rfl (hb hby d11_255) rfl (tlt (own_r128 hr0)).1 (by decide) (by decide) (XS.aload X643.here hx rfl (hb hby d11_283) rfl rfl (XS.iload X643.here hx rfl (hb hby d11_285) rfl (XS.iinc X643.here hx rfl (hb hby d11_287) rfl (l' := #[rv a1, iv 3, .val (.long 3), .second, rv b625, rv b627, rv b628, rv b631, iv 1, iv 0, iv 0, iv m0, iv r0, iv r0]) rfl (XS.iload X643.here hx rfl (hb hby d11_290) rfl k)))))))))))))))))))))) ?_
      refine Go.on (w := T643.setTop (mkF m 293 #[rv a1, iv 3, .val (.long 3), .second, rv b625, rv b627, rv b628, rv b631, iv 1, iv 0, iv 0, iv m0, iv r0, iv r0] [(.int r0), (.int 0), (.ref b627)])) (fun t k => XS.i2b X643.here hx rfl (hb hby d11_292) rfl (by rw [(own_r8 hr0 : (r0.toInt8.toInt32) = r0)]; exact k)) ?_
      have F644 := ((((V627.ext E628).ext E631).other W641 (show @Ne Nat b627 b625 by omega)).other W643 (show @Ne Nat b627 b628 by omega))
      obtain ⟨cl645, Ar645, q645, S645, M645, H645, U645⟩ := id F644
      obtain ⟨T645, h645, X645, e645, W645, st645⟩ := stB X643 hx hZ0 e643 Ar645 (j := (0 : Int32)) (inb_of S645 ⟨(by decide), (by decide)⟩) (g := (mkF m 293 #[rv a1, iv 3, .val (.long 3), .second, rv b625, rv b627, rv b628, rv b631, iv 1, iv 0, iv 0, iv m0, iv r0, iv r0] [(.int r0), (.int 0), (.ref b627)])) rfl rfl (hb hby d11_293)
      have V645 : Arv Z h645 b627 k627 .byte (3 : Int32) [(.int r0), (.int 0), (.int 0)] (.int 0) := by rw [← (own_r8n hr0 : nar .byte r0 = r0)]; exact (Arv.set Ar645 q645 S645 M645 H645 U645 (fits_nar_byte _) W645 0 rfl (Nat.le_of_ble_eq_true rfl))
      have z645 : h643.size ≤ h645.size := Nat.le_of_eq W645.size.symm
      have KP645 : Keep h0 h645 ([ks] : List Addr) := KP643.wr W645 (Or.inr (by omega))
      have N645 := Fr.snoc X645 N643 (by omega)
      have F646 := (((V631.other W641 (show @Ne Nat b631 b625 by omega)).other W643 (show @Ne Nat b631 b628 by omega)).other W645 (show @Ne Nat b631 b627 by omega))
      obtain ⟨T647, h647, sl647, y647a, y647b, y647c, X647, e647, W647, V647, st647⟩ := own_st3 X645 hx hZ0 e645 F646 hr0 (g := (mkF m 300 #[rv a1, iv 3, .val (.long 3), .second, rv b625, rv b627, rv b628, rv b631, iv 1, iv 0, iv 0, iv m0, iv r0, iv r0] [(.int 0), (.int r0), (.ref b631)])) rfl rfl (hb hby d11_300)
      have z647 : h645.size ≤ h647.size := Nat.le_of_eq W647.size.symm
      have KP647 : Keep h0 h647 ([ks] : List Addr) := KP645.wr W647 (Or.inr (by omega))
      have N647 := Fr.snoc X647 N645 (by omega)
      have F648 := ((((F632.other W641 (Or.inl (show @Ne Nat a1 b625 by omega))).other W643 (Or.inl (show @Ne Nat a1 b628 by omega))).other W645 (Or.inl (show @Ne Nat a1 b627 by omega))).other W647 (Or.inl (show @Ne Nat a1 b631 by omega)))
      obtain ⟨T649, X649, e649, st649⟩ := getF X647 hx hZ0 hown0 (host := "") (Or.inl (w_21 hw)) Via.refl e647 F648 (g := (mkF m 167 #[rv a1, iv 3, .val (.long 3), .second, rv b625, rv b627, rv b628, rv b631, iv 1, iv 0, iv 1, iv m0, iv r0, iv r0] [(.ref a1), (.int 1)])) rfl rfl (hb hby d11_167)
      have F650 := ((((F634.other W641 (Or.inl (show @Ne Nat a1 b625 by omega))).other W643 (Or.inl (show @Ne Nat a1 b628 by omega))).other W645 (Or.inl (show @Ne Nat a1 b627 by omega))).other W647 (Or.inl (show @Ne Nat a1 b631 by omega)))
      obtain ⟨T651, X651, e651, st651⟩ := getF X649 hx hZ0 hown0 (host := "") (Or.inl (w_11 hw)) Via.refl e649 F650 (g := (mkF m 174 #[rv a1, iv 3, .val (.long 3), .second, rv b625, rv b627, rv b628, rv b631, iv 1, iv 0, iv 1, iv m0, iv r0, iv r0] [(.ref a1)])) rfl rfl (hb hby d11_174)
      have F652 := ((((F636.other W641 (show @Ne Nat ks b625 by omega)).other W643 (show @Ne Nat ks b628 by omega)).other W645 (show @Ne Nat ks b627 by omega)).other W647 (show @Ne Nat ks b631 by omega))
      obtain ⟨cl653, Ar653, q653, S653, M653, H653, U653⟩ := id F652
      have hin653 := ((inb_of S653 ⟨(by decide), (by decide)⟩) : ¬ ((1 : Int32) < 0 ∨ cl653.slots.size ≤ ((1 : Int32)).toNatClampNeg))
      refine Go.on (w := T651.setTop (mkF m 182 #[rv a1, iv 3, .val (.long 3), .second, rv b625, rv b627, rv b628, rv b631, iv 1, iv 0, iv 1, iv m0, iv r0, iv r0] [(.int 32), (.long s1_294)])) (fun t k => st645 _ (XS.aload X645.here hx rfl (hb hby d11_294) rfl rfl (XS.iload X645.here hx rfl (hb hby d11_296) rfl (XS.iload X645.here hx rfl (hb hby d11_298) rfl (st647 _ (XS.iinc X647.here hx rfl (hb hby d11_301) rfl (l' := #[rv a1, iv 3, .val (.long 3), .second, rv b625, rv b627, rv b628, rv b631, iv 1, iv 0, iv 1, iv m0, iv r0, iv r0]) rfl (XS.goto X647.here hx rfl (pc0 := 304) (pc' := 164) rfl (hb hby d11_304) (by decide) (by decide) (XS.iload X647.here hx rfl (hb hby d11_164) rfl (XS.aloadN X647.here hx rfl (hb hby d11_166) rfl rfl (st649 _ (XS.icmpNo X649.here hx rfl (hb hby d11_170) rfl (tlt (by decide : (1 : Int32) < (3 : Int32))).2.1 (XS.aloadN X649.here hx rfl (hb hby d11_173) rfl rfl (st651 _ (XS.iload X651.here hx rfl (hb hby d11_177) rfl (X651.laload hx (j := (1 : Int32)) (v := (.long s1_294)) (by rw [e651]; exact Ar653.1) (State.isArrayOf_alike hZ0.alike Ar653.2.1) Ar653.2.2 hin653 (H653.at hin653 rfl) (g := (mkF m 179 #[rv a1, iv 3, .val (.long 3), .second, rv b625, rv b627, rv b628, rv b631, iv 1, iv 0, iv 1, iv m0, iv r0, iv r0] [(.int 1), (.ref ks)])) rfl rfl (hb hby d11_179) _ (XS.bipush X651.here hx rfl (hb hby d11_180) k)))))))))))))))) ?_
      refine Go.on (w := T651.setTop (mkF m 183 #[rv a1, iv 3, .val (.long 3), .second, rv b625, rv b627, rv b628, rv b631, iv 1, iv 0, iv 1, iv m0, iv r0, iv r0] [(.long (m1.toInt64))])) (fun t k => XS.lushr X651.here hx rfl (hb hby d11_182) rfl (by rw [(hu1 : ((s1_294.toUInt64 >>> ((32 : Int32) &&& 0x3f).toInt64.toUInt64).toInt64) = (m1.toInt64))]; exact k)) ?_
      refine Go.on (w := T651.setTop (mkF m 184 #[rv a1, iv 3, .val (.long 3), .second, rv b625, rv b627, rv b628, rv b631, iv 1, iv 0, iv 1, iv m0, iv r0, iv r0] [(.int m1)])) (fun t k => XS.l2i X651.here hx rfl (hb hby d11_183) rfl (by rw [(hm1 : ((m1.toInt64).toInt32) = m1)]; exact k)) ?_
      obtain ⟨T654, X654, e654, st654⟩ := getF X651 hx hZ0 hown0 (host := "") (Or.inl (w_11 hw)) Via.refl e651 F650 (g := (mkF m 187 #[rv a1, iv 3, .val (.long 3), .second, rv b625, rv b627, rv b628, rv b631, iv 1, iv 0, iv 1, iv m1, iv r0, iv r0] [(.ref a1)])) rfl rfl (hb hby d11_187)
      obtain ⟨cl655, Ar655, q655, S655, M655, H655, U655⟩ := id F652
      have hin655 := ((inb_of S655 ⟨(by decide), (by decide)⟩) : ¬ ((1 : Int32) < 0 ∨ cl655.slots.size ≤ ((1 : Int32)).toNatClampNeg))
      refine Go.on (w := T654.setTop (mkF m 193 #[rv a1, iv 3, .val (.long 3), .second, rv b625, rv b627, rv b628, rv b631, iv 1, iv 0, iv 1, iv m1, iv r0, iv r0] [(.long s1_294)])) (fun t k => XS.istore X651.here hx rfl (hb hby d11_184) rfl (l' := #[rv a1, iv 3, .val (.long 3), .second, rv b625, rv b627, rv b628, rv b631, iv 1, iv 0, iv 1, iv m1, iv r0, iv r0]) rfl (XS.aloadN X651.here hx rfl (hb hby d11_186) rfl rfl (st654 _ (XS.iload X654.here hx rfl (hb hby d11_190) rfl (X654.laload hx (j := (1 : Int32)) (v := (.long s1_294)) (by rw [e654]; exact Ar655.1) (State.isArrayOf_alike hZ0.alike Ar655.2.1) Ar655.2.2 hin655 (H655.at hin655 rfl) (g := (mkF m 192 #[rv a1, iv 3, .val (.long 3), .second, rv b625, rv b627, rv b628, rv b631, iv 1, iv 0, iv 1, iv m1, iv r0, iv r0] [(.int 1), (.ref ks)])) rfl rfl (hb hby d11_192) _ k))))) ?_
      refine Go.on (w := T654.setTop (mkF m 194 #[rv a1, iv 3, .val (.long 3), .second, rv b625, rv b627, rv b628, rv b631, iv 1, iv 0, iv 1, iv m1, iv r0, iv r0] [(.int r1)])) (fun t k => XS.l2i X654.here hx rfl (hb hby d11_193) rfl (by rw [(hl1 : (s1_294.toInt32) = r1)]; exact k)) ?_
      have F656 := (((V641.other W643 (show @Ne Nat b625 b628 by omega)).other W645 (show @Ne Nat b625 b627 by omega)).other W647 (show @Ne Nat b625 b631 by omega))
      obtain ⟨cl657, Ar657, q657, S657, M657, H657, U657⟩ := id F656
      have hin657 := ((inb_of S657 ⟨(by decide), (by decide)⟩) : ¬ ((0 : Int32) < 0 ∨ cl657.slots.size ≤ ((0 : Int32)).toNatClampNeg))
      obtain ⟨cl658, Ar658, q658, S658, M658, H658, U658⟩ := id F656
      obtain ⟨T658, h658, X658, e658, W658, st658⟩ := stI X654 hx hZ0 e654 Ar658 (j := (1 : Int32)) (inb_of S658 ⟨(by decide), (by decide)⟩) (g := (mkF m 224 #[rv a1, iv 3, .val (.long 3), .second, rv b625, rv b627, rv b628, rv b631, iv 1, iv 1, iv 1, iv m1, iv r1, iv r1] [(.int m1), (.int 1), (.ref b625)])) rfl rfl (hb hby d11_224)
      have V658 : Arv Z h658 b625 k625 .int (3 : Int32) [(.int m0), (.int m1), (.int 0)] (.int 0) := (Arv.set Ar658 q658 S658 M658 H658 U658 rfl W658 1 rfl (Nat.le_of_ble_eq_true rfl))
      have z658 : h647.size ≤ h658.size := Nat.le_of_eq W658.size.symm
      have KP658 : Keep h0 h658 ([ks] : List Addr) := KP647.wr W658 (Or.inr (by omega))
      have N658 := Fr.snoc X658 N647 (by omega)
      have F659 := (((V643.other W645 (show @Ne Nat b628 b627 by omega)).other W647 (show @Ne Nat b628 b631 by omega)).other W658 (show @Ne Nat b628 b625 by omega))
      obtain ⟨cl660, Ar660, q660, S660, M660, H660, U660⟩ := id F659
      obtain ⟨T660, h660, X660, e660, W660, st660⟩ := stI X658 hx hZ0 e658 Ar660 (j := (1 : Int32)) (inb_of S660 ⟨(by decide), (by decide)⟩) (g := (mkF m 231 #[rv a1, iv 3, .val (.long 3), .second, rv b625, rv b627, rv b628, rv b631, iv 1, iv 1, iv 1, iv m1, iv r1, iv r1] [(.int 1), (.int 1), (.ref b628)])) rfl rfl (hb hby d11_231)
      have V660 : Arv Z h660 b628 k628 .int (4 : Int32) [(.int 0), (.int 1), (.int 0), (.int 0)] (.int 0) := (Arv.set Ar660 q660 S660 M660 H660 U660 rfl W660 1 rfl (Nat.le_of_ble_eq_true rfl))
      have z660 : h658.size ≤ h660.size := Nat.le_of_eq W660.size.symm
      have KP660 : Keep h0 h660 ([ks] : List Addr) := KP658.wr W660 (Or.inr (by omega))
      have N660 := Fr.snoc X660 N658 (by omega)
      refine Go.on (w := T660.setTop (mkF m 285 #[rv a1, iv 3, .val (.long 3), .second, rv b625, rv b627, rv b628, rv b631, iv 1, iv 1, iv 1, iv m1, iv r1, iv r1] [(.ref b627)])) (fun t k => XS.istore X654.here hx rfl (hb hby d11_194) rfl (l' := #[rv a1, iv 3, .val (.long 3), .second, rv b625, rv b627, rv b628, rv b631, iv 1, iv 0, iv 1, iv m1, iv r1, iv r0]) rfl (XS.iload X654.here hx rfl (hb hby d11_196) rfl (XS.istore X654.here hx rfl (hb hby d11_198) rfl (l' := #[rv a1, iv 3, .val (.long 3), .second, rv b625, rv b627, rv b628, rv b631, iv 1, iv 0, iv 1, iv m1, iv r1, iv r1]) rfl (XS.iload X654.here hx rfl (hb hby d11_200) rfl (XS.ifNo X654.here hx rfl (hb hby d11_202) rfl ((if0 _ _).trans (flt (by decide : ¬ ((0 : Int32) < (0 : Int32)))).1) (XS.aload X654.here hx rfl (hb hby d11_205) rfl rfl (XS.iload X654.here hx rfl (hb hby d11_207) rfl (X654.iaload hx (j := (0 : Int32)) (v := (.int m0)) (by rw [e654]; exact Ar657.1) (State.isArrayOf_alike hZ0.alike Ar657.2.1) Ar657.2.2 hin657 (H657.at hin657 rfl) (g := (mkF m 209 #[rv a1, iv 3, .val (.long 3), .second, rv b625, rv b627, rv b628, rv b631, iv 1, iv 0, iv 1, iv m1, iv r1, iv r1] [(.int 0), (.ref b625)])) rfl rfl (hb hby d11_209) _ (XS.iload X654.here hx rfl (hb hby d11_210) rfl (XS.icmpNo X654.here hx rfl (hb hby d11_212) rfl (feq hb1).1 (XS.aload X654.here hx rfl (hb hby d11_215) rfl rfl (XS.iinc X654.here hx rfl (hb hby d11_217) rfl (l' := #[rv a1, iv 3, .val (.long 3), .second, rv b625, rv b627, rv b628, rv b631, iv 1, iv 1, iv 1, iv m1, iv r1, iv r1]) rfl (XS.iload X654.here hx rfl (hb hby d11_220) rfl (XS.iload X654.here hx rfl (hb hby d11_222) rfl (st658 _ (XS.aload X658.here hx rfl (hb hby d11_225) rfl rfl (XS.iload X658.here hx rfl (hb hby d11_227) rfl (XS.iload X658.here hx rfl (hb hby d11_229) rfl (st660 _ (XS.goto X660.here hx rfl (pc0 := 232) (pc' := 250) rfl (hb hby d11_232) (by decide) (by decide) (XS.iload X660.here hx rfl (hb hby d11_250) rfl (XS.sipush X660.here hx rfl (hb hby d11_252) (XS.icmpYes X660.here hx rfl (pc0 := 255) (pc' := 283) rfl (hb hby d11_255) rfl (tlt (own_r128 hr1)).1 (by decide) (by decide) (XS.aload X660.here hx rfl (hb hby d11_283) rfl rfl k)))))))))))))))))))))))) ?_
      refine Go.on (w := T660.setTop (mkF m 287 #[rv a1, iv 3, .val (.long 3), .second, rv b625, rv b627, rv b628, rv b631, iv 1, iv 1, iv 1, iv m1, iv r1, iv r1] [(.int 1), (.ref b627)])) (fun t k => XS.iload X660.here hx rfl (hb hby d11_285) rfl k) ?_
      refine Go.on (w := T660.setTop (mkF m 292 #[rv a1, iv 3, .val (.long 3), .second, rv b625, rv b627, rv b628, rv b631, iv 2, iv 1, iv 1, iv m1, iv r1, iv r1] [(.int r1), (.int 1), (.ref b627)])) (fun t k => XS.iinc X660.here hx rfl (hb hby d11_287) rfl (l' := #[rv a1, iv 3, .val (.long 3), .second, rv b625, rv b627, rv b628, rv b631, iv 2, iv 1, iv 1, iv m1, iv r1, iv r1]) rfl (XS.iload X660.here hx rfl (hb hby d11_290) rfl k)) ?_
      refine Go.on (w := T660.setTop (mkF m 293 #[rv a1, iv 3, .val (.long 3), .second, rv b625, rv b627, rv b628, rv b631, iv 2, iv 1, iv 1, iv m1, iv r1, iv r1] [(.int r1), (.int 1), (.ref b627)])) (fun t k => XS.i2b X660.here hx rfl (hb hby d11_292) rfl (by rw [(own_r8 hr1 : (r1.toInt8.toInt32) = r1)]; exact k)) ?_
      have F661 := (((V645.other W647 (show @Ne Nat b627 b631 by omega)).other W658 (show @Ne Nat b627 b625 by omega)).other W660 (show @Ne Nat b627 b628 by omega))
      obtain ⟨cl662, Ar662, q662, S662, M662, H662, U662⟩ := id F661
      obtain ⟨T662, h662, X662, e662, W662, st662⟩ := stB X660 hx hZ0 e660 Ar662 (j := (1 : Int32)) (inb_of S662 ⟨(by decide), (by decide)⟩) (g := (mkF m 293 #[rv a1, iv 3, .val (.long 3), .second, rv b625, rv b627, rv b628, rv b631, iv 2, iv 1, iv 1, iv m1, iv r1, iv r1] [(.int r1), (.int 1), (.ref b627)])) rfl rfl (hb hby d11_293)
      have V662 : Arv Z h662 b627 k627 .byte (3 : Int32) [(.int r0), (.int r1), (.int 0)] (.int 0) := by rw [← (own_r8n hr1 : nar .byte r1 = r1)]; exact (Arv.set Ar662 q662 S662 M662 H662 U662 (fits_nar_byte _) W662 1 rfl (Nat.le_of_ble_eq_true rfl))
      have z662 : h660.size ≤ h662.size := Nat.le_of_eq W662.size.symm
      have KP662 : Keep h0 h662 ([ks] : List Addr) := KP660.wr W662 (Or.inr (by omega))
      have N662 := Fr.snoc X662 N660 (by omega)
      have F663 := (((V647.other W658 (show @Ne Nat b631 b625 by omega)).other W660 (show @Ne Nat b631 b628 by omega)).other W662 (show @Ne Nat b631 b627 by omega))
      obtain ⟨T664, h664, sl664, y664a, y664b, y664c, X664, e664, W664, V664, st664⟩ := own_st3 X662 hx hZ0 e662 F663 hr1 (g := (mkF m 300 #[rv a1, iv 3, .val (.long 3), .second, rv b625, rv b627, rv b628, rv b631, iv 2, iv 1, iv 1, iv m1, iv r1, iv r1] [(.int 1), (.int r1), (.ref b631)])) rfl rfl (hb hby d11_300)
      have z664 : h662.size ≤ h664.size := Nat.le_of_eq W664.size.symm
      have KP664 : Keep h0 h664 ([ks] : List Addr) := KP662.wr W664 (Or.inr (by omega))
      have N664 := Fr.snoc X664 N662 (by omega)
      have F665 := ((((F648.other W658 (Or.inl (show @Ne Nat a1 b625 by omega))).other W660 (Or.inl (show @Ne Nat a1 b628 by omega))).other W662 (Or.inl (show @Ne Nat a1 b627 by omega))).other W664 (Or.inl (show @Ne Nat a1 b631 by omega)))
      obtain ⟨T666, X666, e666, st666⟩ := getF X664 hx hZ0 hown0 (host := "") (Or.inl (w_21 hw)) Via.refl e664 F665 (g := (mkF m 167 #[rv a1, iv 3, .val (.long 3), .second, rv b625, rv b627, rv b628, rv b631, iv 2, iv 1, iv 2, iv m1, iv r1, iv r1] [(.ref a1), (.int 2)])) rfl rfl (hb hby d11_167)
      have F667 := ((((F650.other W658 (Or.inl (show @Ne Nat a1 b625 by omega))).other W660 (Or.inl (show @Ne Nat a1 b628 by omega))).other W662 (Or.inl (show @Ne Nat a1 b627 by omega))).other W664 (Or.inl (show @Ne Nat a1 b631 by omega)))
      obtain ⟨T668, X668, e668, st668⟩ := getF X666 hx hZ0 hown0 (host := "") (Or.inl (w_11 hw)) Via.refl e666 F667 (g := (mkF m 174 #[rv a1, iv 3, .val (.long 3), .second, rv b625, rv b627, rv b628, rv b631, iv 2, iv 1, iv 2, iv m1, iv r1, iv r1] [(.ref a1)])) rfl rfl (hb hby d11_174)
      have F669 := ((((F652.other W658 (show @Ne Nat ks b625 by omega)).other W660 (show @Ne Nat ks b628 by omega)).other W662 (show @Ne Nat ks b627 by omega)).other W664 (show @Ne Nat ks b631 by omega))
      obtain ⟨cl670, Ar670, q670, S670, M670, H670, U670⟩ := id F669
      have hin670 := ((inb_of S670 ⟨(by decide), (by decide)⟩) : ¬ ((2 : Int32) < 0 ∨ cl670.slots.size ≤ ((2 : Int32)).toNatClampNeg))
      refine Go.on (w := T668.setTop (mkF m 182 #[rv a1, iv 3, .val (.long 3), .second, rv b625, rv b627, rv b628, rv b631, iv 2, iv 1, iv 2, iv m1, iv r1, iv r1] [(.int 32), (.long s2_294)])) (fun t k => st662 _ (XS.aload X662.here hx rfl (hb hby d11_294) rfl rfl (XS.iload X662.here hx rfl (hb hby d11_296) rfl (XS.iload X662.here hx rfl (hb hby d11_298) rfl (st664 _ (XS.iinc X664.here hx rfl (hb hby d11_301) rfl (l' := #[rv a1, iv 3, .val (.long 3), .second, rv b625, rv b627, rv b628, rv b631, iv 2, iv 1, iv 2, iv m1, iv r1, iv r1]) rfl (XS.goto X664.here hx rfl (pc0 := 304) (pc' := 164) rfl (hb hby d11_304) (by decide) (by decide) (XS.iload X664.here hx rfl (hb hby d11_164) rfl (XS.aloadN X664.here hx rfl (hb hby d11_166) rfl rfl (st666 _ (XS.icmpNo X666.here hx rfl (hb hby d11_170) rfl (tlt (by decide : (2 : Int32) < (3 : Int32))).2.1 (XS.aloadN X666.here hx rfl (hb hby d11_173) rfl rfl (st668 _ (XS.iload X668.here hx rfl (hb hby d11_177) rfl (X668.laload hx (j := (2 : Int32)) (v := (.long s2_294)) (by rw [e668]; exact Ar670.1) (State.isArrayOf_alike hZ0.alike Ar670.2.1) Ar670.2.2 hin670 (H670.at hin670 rfl) (g := (mkF m 179 #[rv a1, iv 3, .val (.long 3), .second, rv b625, rv b627, rv b628, rv b631, iv 2, iv 1, iv 2, iv m1, iv r1, iv r1] [(.int 2), (.ref ks)])) rfl rfl (hb hby d11_179) _ (XS.bipush X668.here hx rfl (hb hby d11_180) k)))))))))))))))) ?_
      refine Go.on (w := T668.setTop (mkF m 183 #[rv a1, iv 3, .val (.long 3), .second, rv b625, rv b627, rv b628, rv b631, iv 2, iv 1, iv 2, iv m1, iv r1, iv r1] [(.long (m2.toInt64))])) (fun t k => XS.lushr X668.here hx rfl (hb hby d11_182) rfl (by rw [(hu2 : ((s2_294.toUInt64 >>> ((32 : Int32) &&& 0x3f).toInt64.toUInt64).toInt64) = (m2.toInt64))]; exact k)) ?_
      refine Go.on (w := T668.setTop (mkF m 184 #[rv a1, iv 3, .val (.long 3), .second, rv b625, rv b627, rv b628, rv b631, iv 2, iv 1, iv 2, iv m1, iv r1, iv r1] [(.int m2)])) (fun t k => XS.l2i X668.here hx rfl (hb hby d11_183) rfl (by rw [(hm2 : ((m2.toInt64).toInt32) = m2)]; exact k)) ?_
      obtain ⟨T671, X671, e671, st671⟩ := getF X668 hx hZ0 hown0 (host := "") (Or.inl (w_11 hw)) Via.refl e668 F667 (g := (mkF m 187 #[rv a1, iv 3, .val (.long 3), .second, rv b625, rv b627, rv b628, rv b631, iv 2, iv 1, iv 2, iv m2, iv r1, iv r1] [(.ref a1)])) rfl rfl (hb hby d11_187)
      obtain ⟨cl672, Ar672, q672, S672, M672, H672, U672⟩ := id F669
      have hin672 := ((inb_of S672 ⟨(by decide), (by decide)⟩) : ¬ ((2 : Int32) < 0 ∨ cl672.slots.size ≤ ((2 : Int32)).toNatClampNeg))
      refine Go.on (w := T671.setTop (mkF m 193 #[rv a1, iv 3, .val (.long 3), .second, rv b625, rv b627, rv b628, rv b631, iv 2, iv 1, iv 2, iv m2, iv r1, iv r1] [(.long s2_294)])) (fun t k => XS.istore X668.here hx rfl (hb hby d11_184) rfl (l' := #[rv a1, iv 3, .val (.long 3), .second, rv b625, rv b627, rv b628, rv b631, iv 2, iv 1, iv 2, iv m2, iv r1, iv r1]) rfl (XS.aloadN X668.here hx rfl (hb hby d11_186) rfl rfl (st671 _ (XS.iload X671.here hx rfl (hb hby d11_190) rfl (X671.laload hx (j := (2 : Int32)) (v := (.long s2_294)) (by rw [e671]; exact Ar672.1) (State.isArrayOf_alike hZ0.alike Ar672.2.1) Ar672.2.2 hin672 (H672.at hin672 rfl) (g := (mkF m 192 #[rv a1, iv 3, .val (.long 3), .second, rv b625, rv b627, rv b628, rv b631, iv 2, iv 1, iv 2, iv m2, iv r1, iv r1] [(.int 2), (.ref ks)])) rfl rfl (hb hby d11_192) _ k))))) ?_
      refine Go.on (w := T671.setTop (mkF m 194 #[rv a1, iv 3, .val (.long 3), .second, rv b625, rv b627, rv b628, rv b631, iv 2, iv 1, iv 2, iv m2, iv r1, iv r1] [(.int r2)])) (fun t k => XS.l2i X671.here hx rfl (hb hby d11_193) rfl (by rw [(hl2 : (s2_294.toInt32) = r2)]; exact k)) ?_
      have F673 := (((V658.other W660 (show @Ne Nat b625 b628 by omega)).other W662 (show @Ne Nat b625 b627 by omega)).other W664 (show @Ne Nat b625 b631 by omega))
      obtain ⟨cl674, Ar674, q674, S674, M674, H674, U674⟩ := id F673
      have hin674 := ((inb_of S674 ⟨(by decide), (by decide)⟩) : ¬ ((1 : Int32) < 0 ∨ cl674.slots.size ≤ ((1 : Int32)).toNatClampNeg))
      obtain ⟨cl675, Ar675, q675, S675, M675, H675, U675⟩ := id F673
      obtain ⟨T675, h675, X675, e675, W675, st675⟩ := stI X671 hx hZ0 e671 Ar675 (j := (2 : Int32)) (inb_of S675 ⟨(by decide), (by decide)⟩) (g := (mkF m 224 #[rv a1, iv 3, .val (.long 3), .second, rv b625, rv b627, rv b628, rv b631, iv 2, iv 2, iv 2, iv m2, iv r2, iv r2] [(.int m2), (.int 2), (.ref b625)])) rfl rfl (hb hby d11_224)
      have V675 : Arv Z h675 b625 k625 .int (3 : Int32) [(.int m0), (.int m1), (.int m2)] (.int 0) := (Arv.set Ar675 q675 S675 M675 H675 U675 rfl W675 2 rfl (Nat.le_of_ble_eq_true rfl))
      have z675 : h664.size ≤ h675.size := Nat.le_of_eq W675.size.symm
      have KP675 : Keep h0 h675 ([ks] : List Addr) := KP664.wr W675 (Or.inr (by omega))
      have N675 := Fr.snoc X675 N664 (by omega)
      have F676 := (((V660.other W662 (show @Ne Nat b628 b627 by omega)).other W664 (show @Ne Nat b628 b631 by omega)).other W675 (show @Ne Nat b628 b625 by omega))
      obtain ⟨cl677, Ar677, q677, S677, M677, H677, U677⟩ := id F676
      obtain ⟨T677, h677, X677, e677, W677, st677⟩ := stI X675 hx hZ0 e675 Ar677 (j := (2 : Int32)) (inb_of S677 ⟨(by decide), (by decide)⟩) (g := (mkF m 231 #[rv a1, iv 3, .val (.long 3), .second, rv b625, rv b627, rv b628, rv b631, iv 2, iv 2, iv 2, iv m2, iv r2, iv r2] [(.int 2), (.int 2), (.ref b628)])) rfl rfl (hb hby d11_231)
      have V677 : Arv Z h677 b628 k628 .int (4 : Int32) [(.int 0), (.int 1), (.int 2), (.int 0)] (.int 0) := (Arv.set Ar677 q677 S677 M677 H677 U677 rfl W677 2 rfl (Nat.le_of_ble_eq_true rfl))
      have z677 : h675.size ≤ h677.size := Nat.le_of_eq W677.size.symm
      have KP677 : Keep h0 h677 ([ks] : List Addr) := KP675.wr W677 (Or.inr (by omega))
      have N677 := Fr.snoc X677 N675 (by omega)
      refine Go.on (w := T677.setTop (mkF m 285 #[rv a1, iv 3, .val (.long 3), .second, rv b625, rv b627, rv b628, rv b631, iv 2, iv 2, iv 2, iv m2, iv r2, iv r2] [(.ref b627)])) (fun t k => XS.istore X671.here hx rfl (hb hby d11_194) rfl (l' := #[rv a1, iv 3, .val (.long 3), .second, rv b625, rv b627, rv b628, rv b631, iv 2, iv 1, iv 2, iv m2, iv r2, iv r1]) rfl (XS.iload X671.here hx rfl (hb hby d11_196) rfl (XS.istore X671.here hx rfl (hb hby d11_198) rfl (l' := #[rv a1, iv 3, .val (.long 3), .second, rv b625, rv b627, rv b628, rv b631, iv 2, iv 1, iv 2, iv m2, iv r2, iv r2]) rfl (XS.iload X671.here hx rfl (hb hby d11_200) rfl (XS.ifNo X671.here hx rfl (hb hby d11_202) rfl ((if0 _ _).trans (flt (by decide : ¬ ((1 : Int32) < (0 : Int32)))).1) (XS.aload X671.here hx rfl (hb hby d11_205) rfl rfl (XS.iload X671.here hx rfl (hb hby d11_207) rfl (X671.iaload hx (j := (1 : Int32)) (v := (.int m1)) (by rw [e671]; exact Ar674.1) (State.isArrayOf_alike hZ0.alike Ar674.2.1) Ar674.2.2 hin674 (H674.at hin674 rfl) (g := (mkF m 209 #[rv a1, iv 3, .val (.long 3), .second, rv b625, rv b627, rv b628, rv b631, iv 2, iv 1, iv 2, iv m2, iv r2, iv r2] [(.int 1), (.ref b625)])) rfl rfl (hb hby d11_209) _ (XS.iload X671.here hx rfl (hb hby d11_210) rfl (XS.icmpNo X671.here hx rfl (hb hby d11_212) rfl (feq hb2).1 (XS.aload X671.here hx rfl (hb hby d11_215) rfl rfl (XS.iinc X671.here hx rfl (hb hby d11_217) rfl (l' := #[rv a1, iv 3, .val (.long 3), .second, rv b625, rv b627, rv b628, rv b631, iv 2, iv 2, iv 2, iv m2, iv r2, iv r2]) rfl (XS.iload X671.here hx rfl (hb hby d11_220) rfl (XS.iload X671.here hx rfl (hb hby d11_222) rfl (st675 _ (XS.aload X675.here hx rfl (hb hby d11_225) rfl rfl (XS.iload X675.here hx rfl (hb hby d11_227) rfl (XS.iload X675.here hx rfl (hb hby d11_229) rfl (st677 _ (XS.goto X677.here hx rfl (pc0 := 232) (pc' := 250) rfl (hb hby d11_232) (by decide) (by decide) (XS.iload X677.here hx rfl (hb hby d11_250) rfl (XS.sipush X677.here hx rfl (hb hby d11_252) (XS.icmpYes X677.here hx rfl (pc0 := 255) (pc' := 283) rfl (hb hby d11_255) rfl (tlt (own_r128 hr2)).1 (by decide) (by decide) (XS.aload X677.here hx rfl (hb hby d11_283) rfl rfl k)))))))))))))))))))))))) ?_
      refine Go.on (w := T677.setTop (mkF m 287 #[rv a1, iv 3, .val (.long 3), .second, rv b625, rv b627, rv b628, rv b631, iv 2, iv 2, iv 2, iv m2, iv r2, iv r2] [(.int 2), (.ref b627)])) (fun t k => XS.iload X677.here hx rfl (hb hby d11_285) rfl k) ?_
      refine Go.on (w := T677.setTop (mkF m 292 #[rv a1, iv 3, .val (.long 3), .second, rv b625, rv b627, rv b628, rv b631, iv 3, iv 2, iv 2, iv m2, iv r2, iv r2] [(.int r2), (.int 2), (.ref b627)])) (fun t k => XS.iinc X677.here hx rfl (hb hby d11_287) rfl (l' := #[rv a1, iv 3, .val (.long 3), .second, rv b625, rv b627, rv b628, rv b631, iv 3, iv 2, iv 2, iv m2, iv r2, iv r2]) rfl (XS.iload X677.here hx rfl (hb hby d11_290) rfl k)) ?_
      refine Go.on (w := T677.setTop (mkF m 293 #[rv a1, iv 3, .val (.long 3), .second, rv b625, rv b627, rv b628, rv b631, iv 3, iv 2, iv 2, iv m2, iv r2, iv r2] [(.int r2), (.int 2), (.ref b627)])) (fun t k => XS.i2b X677.here hx rfl (hb hby d11_292) rfl (by rw [(own_r8 hr2 : (r2.toInt8.toInt32) = r2)]; exact k)) ?_
      have F678 := (((V662.other W664 (show @Ne Nat b627 b631 by omega)).other W675 (show @Ne Nat b627 b625 by omega)).other W677 (show @Ne Nat b627 b628 by omega))
      obtain ⟨cl679, Ar679, q679, S679, M679, H679, U679⟩ := id F678
      obtain ⟨T679, h679, X679, e679, W679, st679⟩ := stB X677 hx hZ0 e677 Ar679 (j := (2 : Int32)) (inb_of S679 ⟨(by decide), (by decide)⟩) (g := (mkF m 293 #[rv a1, iv 3, .val (.long 3), .second, rv b625, rv b627, rv b628, rv b631, iv 3, iv 2, iv 2, iv m2, iv r2, iv r2] [(.int r2), (.int 2), (.ref b627)])) rfl rfl (hb hby d11_293)
      have V679 : Arv Z h679 b627 k627 .byte (3 : Int32) [(.int r0), (.int r1), (.int r2)] (.int 0) := by rw [← (own_r8n hr2 : nar .byte r2 = r2)]; exact (Arv.set Ar679 q679 S679 M679 H679 U679 (fits_nar_byte _) W679 2 rfl (Nat.le_of_ble_eq_true rfl))
      have z679 : h677.size ≤ h679.size := Nat.le_of_eq W679.size.symm
      have KP679 : Keep h0 h679 ([ks] : List Addr) := KP677.wr W679 (Or.inr (by omega))
      have N679 := Fr.snoc X679 N677 (by omega)
      have F680 := (((V664.other W675 (show @Ne Nat b631 b625 by omega)).other W677 (show @Ne Nat b631 b628 by omega)).other W679 (show @Ne Nat b631 b627 by omega))
      obtain ⟨T681, h681, sl681, y681a, y681b, y681c, X681, e681, W681, V681, st681⟩ := own_st3 X679 hx hZ0 e679 F680 hr2 (g := (mkF m 300 #[rv a1, iv 3, .val (.long 3), .second, rv b625, rv b627, rv b628, rv b631, iv 3, iv 2, iv 2, iv m2, iv r2, iv r2] [(.int 2), (.int r2), (.ref b631)])) rfl rfl (hb hby d11_300)
      have z681 : h679.size ≤ h681.size := Nat.le_of_eq W681.size.symm
      have KP681 : Keep h0 h681 ([ks] : List Addr) := KP679.wr W681 (Or.inr (by omega))
      have N681 := Fr.snoc X681 N679 (by omega)
      have F682 := ((((F665.other W675 (Or.inl (show @Ne Nat a1 b625 by omega))).other W677 (Or.inl (show @Ne Nat a1 b628 by omega))).other W679 (Or.inl (show @Ne Nat a1 b627 by omega))).other W681 (Or.inl (show @Ne Nat a1 b631 by omega)))
      obtain ⟨T683, X683, e683, st683⟩ := getF X681 hx hZ0 hown0 (host := "") (Or.inl (w_21 hw)) Via.refl e681 F682 (g := (mkF m 167 #[rv a1, iv 3, .val (.long 3), .second, rv b625, rv b627, rv b628, rv b631, iv 3, iv 2, iv 3, iv m2, iv r2, iv r2] [(.ref a1), (.int 3)])) rfl rfl (hb hby d11_167)
      have F684 := ((V677.other W679 (show @Ne Nat b628 b627 by omega)).other W681 (show @Ne Nat b628 b631 by omega))
      obtain ⟨cl685, Ar685, q685, S685, M685, H685, U685⟩ := id F684
      obtain ⟨T685, h685, X685, e685, W685, st685⟩ := stI X683 hx hZ0 e683 Ar685 (j := (3 : Int32)) (inb_of S685 ⟨(by decide), (by decide)⟩) (g := (mkF m 312 #[rv a1, iv 3, .val (.long 3), .second, rv b625, rv b627, rv b628, rv b631, iv 3, iv 2, iv 3, iv m2, iv r2, iv r2] [(.int 3), (.int 3), (.ref b628)])) rfl rfl (hb hby d11_312)
      have V685 : Arv Z h685 b628 k628 .int (4 : Int32) [(.int 0), (.int 1), (.int 2), (.int 3)] (.int 0) := (Arv.set Ar685 q685 S685 M685 H685 U685 rfl W685 3 rfl (Nat.le_of_ble_eq_true rfl))
      have z685 : h681.size ≤ h685.size := Nat.le_of_eq W685.size.symm
      have KP685 : Keep h0 h685 ([ks] : List Addr) := KP681.wr W685 (Or.inr (by omega))
      have N685 := Fr.snoc X685 N681 (by omega)
      have F686 := (F682.other W685 (Or.inl (show @Ne Nat a1 b628 by omega)))
      obtain ⟨T687, X687, e687, st687⟩ := getF X685 hx hZ0 hown0 (host := "") (Or.inl (w_21 hw)) Via.refl e685 F686 (g := (mkF m 314 #[rv a1, iv 3, .val (.long 3), .second, rv b625, rv b627, rv b628, rv b631, iv 3, iv 2, iv 3, iv m2, iv r2, iv r2] [(.ref a1)])) rfl rfl (hb hby d11_314)
      refine Go.on (w := T687.setTop (mkF m 319 #[rv a1, iv 3, .val (.long 3), .second, rv b625, rv b627, rv b628, rv b631, iv 3, iv 2, iv 3, iv m2, iv r2, iv r2] [(.int 64), (.int 3)])) (fun t k => st679 _ (XS.aload X679.here hx rfl (hb hby d11_294) rfl rfl (XS.iload X679.here hx rfl (hb hby d11_296) rfl (XS.iload X679.here hx rfl (hb hby d11_298) rfl (st681 _ (XS.iinc X681.here hx rfl (hb hby d11_301) rfl (l' := #[rv a1, iv 3, .val (.long 3), .second, rv b625, rv b627, rv b628, rv b631, iv 3, iv 2, iv 3, iv m2, iv r2, iv r2]) rfl (XS.goto X681.here hx rfl (pc0 := 304) (pc' := 164) rfl (hb hby d11_304) (by decide) (by decide) (XS.iload X681.here hx rfl (hb hby d11_164) rfl (XS.aloadN X681.here hx rfl (hb hby d11_166) rfl rfl (st683 _ (XS.icmpYes X683.here hx rfl (pc0 := 170) (pc' := 307) rfl (hb hby d11_170) rfl (flt (by decide : ¬ ((3 : Int32) < (3 : Int32)))).2.1 (by decide) (by decide) (XS.aload X683.here hx rfl (hb hby d11_307) rfl rfl (XS.iloadN X683.here hx rfl (hb hby d11_309) rfl (XS.iload X683.here hx rfl (hb hby d11_310) rfl (st685 _ (XS.aloadN X685.here hx rfl (hb hby d11_313) rfl rfl (st687 _ (XS.bipush X687.here hx rfl (hb hby d11_317) k)))))))))))))))))) ?_
      refine Go.on (w := T687.setTop (mkF m 320 #[rv a1, iv 3, .val (.long 3), .second, rv b625, rv b627, rv b628, rv b631, iv 3, iv 2, iv 3, iv m2, iv r2, iv r2] [(.int 67)])) (fun t k => XS.iadd X687.here hx rfl (hb hby d11_319) rfl (by rw [(by decide : ((3 : Int32) + (64 : Int32)) = (67 : Int32))]; exact k)) ?_
      refine Go.on (w := T687.setTop (mkF m 321 #[rv a1, iv 3, .val (.long 3), .second, rv b625, rv b627, rv b628, rv b631, iv 3, iv 2, iv 3, iv m2, iv r2, iv r2] [(.int 1), (.int 67)])) (fun t k => XS.iconst X687.here hx rfl (hb hby d11_320) k) ?_
      refine Go.on (w := T687.setTop (mkF m 322 #[rv a1, iv 3, .val (.long 3), .second, rv b625, rv b627, rv b628, rv b631, iv 3, iv 2, iv 3, iv m2, iv r2, iv r2] [(.int 66)])) (fun t k => XS.isub X687.here hx rfl (hb hby d11_321) rfl (by rw [(by decide : ((67 : Int32) - (1 : Int32)) = (66 : Int32))]; exact k)) ?_
      refine Go.on (w := T687.setTop (mkF m 324 #[rv a1, iv 3, .val (.long 3), .second, rv b625, rv b627, rv b628, rv b631, iv 3, iv 2, iv 3, iv m2, iv r2, iv r2] [(.int 64), (.int 66)])) (fun t k => XS.bipush X687.here hx rfl (hb hby d11_322) k) ?_
      refine Go.on (w := T687.setTop (mkF m 325 #[rv a1, iv 3, .val (.long 3), .second, rv b625, rv b627, rv b628, rv b631, iv 3, iv 2, iv 3, iv m2, iv r2, iv r2] [(.int 1)])) (fun t k => XS.idiv X687.here hx rfl (hb hby d11_324) rfl (by decide) (by rw [(by decide : (66 : Int32) / (64 : Int32) = (1 : Int32))]; exact k)) ?_
      obtain ⟨T688, h688, k688, X688, e688, E688, A688, st688⟩ := newP (aty := .long) X687 hx hZ0 (w_10 hw) e687 (g := (mkF m 325 #[rv a1, iv 3, .val (.long 3), .second, rv b625, rv b627, rv b628, rv b631, iv 3, iv 2, iv 3, iv m2, iv r2, iv r2] [(.int 1)])) rfl (hb hby d11_325) rfl (by decide : ¬ ((1 : Int32) < (0 : Int32))) (cap := 1) (by decide) (by decide) (by decide) (by decide)
      obtain ⟨b688, g688⟩ : ∃ z, z = h685.size := ⟨_, rfl⟩
      rw [← g688] at A688 st688
      have V688 : Arv Z h688 b688 k688 .long (1 : Int32) [(.long 0)] (.long 0) := (Arv.new A688 (by decide : ¬ ((1 : Int32) < (0 : Int32)))).pad (pad_rep [] (.long 0) 1)
      have u688 : h688.size > b688 := V688.lt
      have z688 : h685.size ≤ h688.size := E688.1
      have KP688 : Keep h0 h688 ([ks] : List Addr) := KP685.ext E688
      have F689 := (((((((((((((((((((F_breakCount.keep K294 (ninS ne_a1_ks nin0)).ext E625).ext E627).ext E628).ext E631).other W641 (Or.inl (show @Ne Nat a1 b625 by omega))).other W643 (Or.inl (show @Ne Nat a1 b628 by omega))).other W645 (Or.inl (show @Ne Nat a1 b627 by omega))).other W647 (Or.inl (show @Ne Nat a1 b631 by omega))).other W658 (Or.inl (show @Ne Nat a1 b625 by omega))).other W660 (Or.inl (show @Ne Nat a1 b628 by omega))).other W662 (Or.inl (show @Ne Nat a1 b627 by omega))).other W664 (Or.inl (show @Ne Nat a1 b631 by omega))).other W675 (Or.inl (show @Ne Nat a1 b625 by omega))).other W677 (Or.inl (show @Ne Nat a1 b628 by omega))).other W679 (Or.inl (show @Ne Nat a1 b627 by omega))).other W681 (Or.inl (show @Ne Nat a1 b631 by omega))).other W685 (Or.inl (show @Ne Nat a1 b628 by omega))).ext E688)
      obtain ⟨T690, X690, e690, st690⟩ := getF X688 hx hZ0 hown0 (host := "") (Or.inl (w_53 hw)) Via.refl e688 F689 (g := (mkF m 335 #[rv a1, iv 3, .val (.long 3), .second, rv b625, rv b627, rv b628, rv b631, iv 3, iv 2, rv b688, iv 0, iv r2, iv r2] [(.ref a1), (.int 0)])) rfl rfl (hb hby d11_335)
      obtain ⟨T691, h691, X691, e691, E691, A691, D691, -, st691⟩ := newO X690 hx hZ0 hown0 (w_55 hw) (w_56 hw) (w_57 hw) e690 (g := (mkF m 386 #[rv a1, iv 3, .val (.long 3), .second, rv b625, rv b627, rv b628, rv b631, iv 3, iv 2, rv b688, iv 0, iv r2, iv r2] [])) rfl (hb hby d11_386) (by decide) (by decide)
      obtain ⟨b691, g691⟩ : ∃ z, z = h688.size := ⟨_, rfl⟩
      rw [← g691] at A691 D691 st691
      have u691 : h691.size > b691 := A691.lt
      have z691 : h688.size ≤ h691.size := E691.1
      have KP691 : Keep h0 h691 ([ks] : List Addr) := KP688.ext E691
      have Fn691_65 : Fld Z h691 b691 "com/example/syntagma/syntagma/service/DocumentText" "vocabulary" "[I" .null := D691 (Or.inr (w_65 hw)) (ty := (.array .int)) (by decide)
      have Fn691_67 : Fld Z h691 b691 "com/example/syntagma/syntagma/service/DocumentText" "gaps" "[B" .null := D691 (Or.inr (w_67 hw)) (ty := (.array .byte)) (by decide)
      have Fn691_69 : Fld Z h691 b691 "com/example/syntagma/syntagma/service/DocumentText" "stretched" "Z" (.int 0) := D691 (Or.inr (w_69 hw)) (ty := .boolean) (by decide)
      have Fn691_71 : Fld Z h691 b691 "com/example/syntagma/syntagma/service/DocumentText" "breaks" "[J" .null := D691 (Or.inr (w_71 hw)) (ty := (.array .long)) (by decide)
      have Fn691_73 : Fld Z h691 b691 "com/example/syntagma/syntagma/service/DocumentText" "words" "I" (.int 0) := D691 (Or.inr (w_73 hw)) (ty := .int) (by decide)
      have Fn691_75 : Fld Z h691 b691 "com/example/syntagma/syntagma/service/DocumentText" "firstSentenceWords" "I" (.int 0) := D691 (Or.inr (w_75 hw)) (ty := .int) (by decide)
      have Fn691_82 : Fld Z h691 b691 "com/example/syntagma/syntagma/service/DocumentText" "narrowStarts" "[C" .null := D691 (Or.inr (w_82 hw)) (ty := (.array .char)) (by decide)
      have Fn691_84 : Fld Z h691 b691 "com/example/syntagma/syntagma/service/DocumentText" "wideStarts" "[I" .null := D691 (Or.inr (w_84 hw)) (ty := (.array .int)) (by decide)
      have Fn691_87 : Fld Z h691 b691 "com/example/syntagma/syntagma/service/DocumentText" "narrowPlaces" "[C" .null := D691 (Or.inr (w_87 hw)) (ty := (.array .char)) (by decide)
      have Fn691_89 : Fld Z h691 b691 "com/example/syntagma/syntagma/service/DocumentText" "widePlaces" "[I" .null := D691 (Or.inr (w_89 hw)) (ty := (.array .int)) (by decide)
      have F692 := ((((((((((((((((((((F_sentences.keep K294 (ninS ne_a1_ks nin0)).ext E625).ext E627).ext E628).ext E631).other W641 (Or.inl (show @Ne Nat a1 b625 by omega))).other W643 (Or.inl (show @Ne Nat a1 b628 by omega))).other W645 (Or.inl (show @Ne Nat a1 b627 by omega))).other W647 (Or.inl (show @Ne Nat a1 b631 by omega))).other W658 (Or.inl (show @Ne Nat a1 b625 by omega))).other W660 (Or.inl (show @Ne Nat a1 b628 by omega))).other W662 (Or.inl (show @Ne Nat a1 b627 by omega))).other W664 (Or.inl (show @Ne Nat a1 b631 by omega))).other W675 (Or.inl (show @Ne Nat a1 b625 by omega))).other W677 (Or.inl (show @Ne Nat a1 b628 by omega))).other W679 (Or.inl (show @Ne Nat a1 b627 by omega))).other W681 (Or.inl (show @Ne Nat a1 b631 by omega))).other W685 (Or.inl (show @Ne Nat a1 b628 by omega))).ext E688).ext E691)
      obtain ⟨T693, X693, e693, st693⟩ := getF X691 hx hZ0 hown0 (host := "") (Or.inl (w_58 hw)) Via.refl e691 F692 (g := (mkF m 401 #[rv a1, iv 3, .val (.long 3), .second, rv b625, rv b627, rv b628, rv b631, iv 3, iv 2, rv b688, iv 0, iv r2, iv r2] [(.ref a1), (.ref b688), (.ref b631), (.ref b628), (.ref b627), (.ref b625), (.ref b691), (.ref b691)])) rfl rfl (hb hby d11_401)
      have F694 := ((F686.ext E688).ext E691)
      obtain ⟨T695, X695, e695, st695⟩ := getF X693 hx hZ0 hown0 (host := "") (Or.inl (w_21 hw)) Via.refl e693 F694 (g := (mkF m 409 #[rv a1, iv 3, .val (.long 3), .second, rv b625, rv b627, rv b628, rv b631, iv 3, iv 2, rv b688, iv 0, iv r2, iv r2] [(.ref a1), (.ref b688), (.ref b631), (.ref b628), (.ref b627), (.ref b625), (.ref b691), (.ref b691)])) rfl rfl (hb hby d11_409)
      have F697 := ((((((V675.other W677 (show @Ne Nat b625 b628 by omega)).other W679 (show @Ne Nat b625 b627 by omega)).other W681 (show @Ne Nat b625 b631 by omega)).other W685 (show @Ne Nat b625 b628 by omega)).ext E688).ext E691)
      have F698 := ((((V679.other W681 (show @Ne Nat b627 b631 by omega)).other W685 (show @Ne Nat b627 b628 by omega)).ext E688).ext E691)
      have F699 := ((V685.ext E688).ext E691)
      have F700 := (((V681.other W685 (show @Ne Nat b631 b628 by omega)).ext E688).ext E691)
      obtain ⟨v696, _, ⟨T696, L696, k696, n696⟩, -, X696, ⟨Lc696, hQ696, l696, y696, z696⟩, st696⟩ := X695.specialBackNest hx (y := yM11) rfl hown0 (own_mvMN hZ0 (w_60 hw)) (mvT hZ0 (w_61 hw)) (mvT hZ0 (w_62 hw)) (by decide) (backOf (W := 1) (rmDT3 l Z a0 hw [] b691 b688 b625 k625 b627 k627 b628 k628 b631 k631 m0 m1 m2 r0 r1 r2 (0 : Int32) (1 : Int32) (2 : Int32) (3 : Int32) y681a y681b y681c h691 (by omega) (by omega) A691 Fn691_65 Fn691_67 Fn691_69 Fn691_71 Fn691_73 Fn691_75 Fn691_82 Fn691_84 Fn691_87 Fn691_89 (show @Ne Nat b625 b691 by omega) (show @Ne Nat b627 b691 by omega) (show @Ne Nat b628 b691 by omega) (show @Ne Nat b631 b691 by omega) F697 F698 F699 F700) hZ0 (w_62 hw) (w_57 hw) (by decide) (by decide)) (g := (mkF m 419 #[rv a1, iv 3, .val (.long 3), .second, rv b625, rv b627, rv b628, rv b631, iv 3, iv 2, rv b688, iv 0, iv r2, iv r2] [(.int 3), (.ref b688), (.ref b631), (.ref b628), (.ref b627), (.ref b625), (.ref b691), (.ref b691)])) rfl (by rw [hml]; rfl) (Steps.refl _) (a := b691) (argsL := [(.ref b625), (.ref b627), (.ref b628), (.ref b631), (.ref b688), (.int 3)]) (rest := [(.ref b691)]) (lenOf pd_7 rfl) rfl (by show 2 * 0 + _ ≤ _; exact Nat.le_of_eq rfl) (hb hby d11_419) (fun _ _ => ⟨rfl, e695, (by decide : 6 + 2 ≤ _), (by decide : 24 + 7 ≤ _)⟩)
      dsimp only [Pt.U, Pt.locs, Pt.cells, Pt.slots] at X696 l696 y696 z696 st696 hQ696
      subst l696 y696 z696
      obtain ⟨ns_696, kn_696, rfl, Nq696, K696, f696_0, f696_1, f696_2, f696_3, f696_4⟩ := hQ696
      have N696 := Fr.app N685 Nq696
      have eK696 : T696.heap = T696.heap := rfl
      have z696 : h691.size ≤ T696.heap.size := K696.1
      have KP696 : Keep h0 T696.heap ([ks] : List Addr) := KP691.trans K696 (allS (P := fun x => x ∈ ([ks] : List Addr) ∨ h0.size ≤ x) (Or.inr (by omega)) all0)
      have u696_4 : T696.heap.size > ns_696 := f696_4.lt
      have V701 : Arv Z T696.heap ns_696 kn_696 .char (4 : Int32) [(.int 0), (.int 1), (.int 2), (.int 3)] (.int 0) := by
        have q := f696_4
        simp only [own_nc0, own_nc1, own_nc2, own_nc3] at q
        exact q
      have F702 := (F698.keep K696 (ninS (show @Ne Nat b627 b691 by omega) nin0))
      refine Go.on (w := T696.setTop (mkF m 422 #[rv a1, iv 3, .val (.long 3), .second, rv b625, rv b627, rv b628, rv b631, iv 3, iv 2, rv b688, iv 0, iv r2, iv r2] [(.ref b691)])) (fun t k => st688 _ (XS.astore X688.here hx rfl (hb hby d11_327) rfl rfl (l' := #[rv a1, iv 3, .val (.long 3), .second, rv b625, rv b627, rv b628, rv b631, iv 3, iv 2, rv b688, iv m2, iv r2, iv r2]) rfl (XS.iconst X688.here hx rfl (hb hby d11_329) (XS.istore X688.here hx rfl (hb hby d11_330) rfl (l' := #[rv a1, iv 3, .val (.long 3), .second, rv b625, rv b627, rv b628, rv b631, iv 3, iv 2, rv b688, iv 0, iv r2, iv r2]) rfl (XS.iload X688.here hx rfl (hb hby d11_332) rfl (XS.aloadN X688.here hx rfl (hb hby d11_334) rfl rfl (st690 _ (XS.icmpYes X690.here hx rfl (pc0 := 338) (pc' := 386) rfl (hb hby d11_338) rfl (flt (by decide : ¬ ((0 : Int32) < (0 : Int32)))).2.1 (by decide) (by decide) (st691 _ (XS.dup X691.here hx rfl (hb hby d11_389) rfl rfl (XS.aload X691.here hx rfl (hb hby d11_390) rfl rfl (XS.aload X691.here hx rfl (hb hby d11_392) rfl rfl (XS.aload X691.here hx rfl (hb hby d11_394) rfl rfl (XS.aload X691.here hx rfl (hb hby d11_396) rfl rfl (XS.aload X691.here hx rfl (hb hby d11_398) rfl rfl (XS.aloadN X691.here hx rfl (hb hby d11_400) rfl rfl (st693 _ (XS.iconst X693.here hx rfl (hb hby d11_404) (XS.icmpNo X693.here hx rfl (hb hby d11_405) rfl (tlt (by decide : (0 : Int32) < (2 : Int32))).2.1 (XS.aloadN X693.here hx rfl (hb hby d11_408) rfl rfl (st695 _ (XS.goto X695.here hx rfl (pc0 := 412) (pc' := 419) rfl (hb hby d11_412) (by decide) (by decide) (st696.trans k))))))))))))))))))))))) ?_
      refine Go.finH X696 hlk (v := some (.ref b691)) (fun h => by rw [Bd.returns] at h; cases h) (fun fs hr => ?_) (endH (Q := Q_rmBuild Z a1 ks kk n0 n1 n2 h0) (by rw [eK696]; exact ⟨b691, b627, k627, ns_696, kn_696, (4 : Int32), (1 : Int32), (2 : Int32), (3 : Int32), r0, r1, r2, rfl, N696, KP696, (by omega), (by omega), (by omega), f696_1, f696_2, f696_3, F702, V701, ⟨m0, r0, m1, r1, m2, r2, hpm, Or.inl ⟨hb1, hb2, rfl, rfl, rfl, rfl, rfl, rfl, rfl⟩⟩⟩) (by decide) (by decide))
      exact retOut X696 hx Bd.returns rfl (Or.inr (Or.inr (Or.inr (Or.inr ⟨rfl, rfl, rfl⟩)))) (hb hby d11_422) hr
def Q_rmPos (Z : State) (a1 : Addr) (h0 : Heap) (vv : Option Value) (h : Heap) (L : List Loc) : Prop := vv = none ∧ Fr Z.heap.size L ∧ h = h0
theorem ef_rmPos (m : MethodId) (x0 : Addr)   : entryFrame m #[(.ref x0)] 1 = mkF m 0 #[.val (.ref x0)] [] := by first | rfl | (simp [entryFrame, mkF, argsToLocals, Value.category]; done)
set_option maxRecDepth 65536 in
set_option maxHeartbeats 40000000 in
theorem rmPos (l : Launch) (Z : State) (a0 : Array Value) (hw : ∀ d ∈ tables_1, d.before a0 Z = true) (ws : List Jvm.Cond) (a1 : Addr) (h0 : Heap) :
    MetFree l yM13 (head1 (Jvm.Cond.code yM13 prog_211_method_1_code 1 none :: ws) ({ frames := 1, cells := 0, slots := 0, locals := 12 } : Room)) (fun a U => a = #[(.ref a1)] ∧ Z.Warmed39 U.vm ∧ U.heap = h0) (fun _ _ _ _ _ => True) (fun _ U o U' => ∃ v L, o = .returned v ∧ Q_rmPos Z a1 h0 v U'.heap L ∧ FrameEnd U o U' L ({ frames := 1, cells := 0, slots := 0, locals := 12 } : Room).cells ({ frames := 1, cells := 0, slots := 0, locals := 12 } : Room).slots) := by
  refine MetFree.of_bodySF (plainFor_of_name (by first | (simp [plainName, overriddenIn]; done) | decide +kernel)) hisR ?_
  intro p e s m args below meth c s₁ Bd hml0 hP hK
  obtain ⟨rfl, hZ0', hh⟩ := hP
  have hx := Bd.exec
  have hby := Bd.bytes
  have hml : c.maxLocals = 1 := hml0
  have hZ0 : Z.Warmed39 s.vm := hZ0'
  have hown0 : s.vm.findClass "com/example/syntagma/syntagma/service/DocumentText$Positions" = some m.cls := findClass_of_methodNamed Bd.named
  have hnm := (name_of_methodNamed Bd.named Bd.method).1
  have hlk : meth.locks = false := Bd.notSynchronized
  have X0 : Stand p l e ({ frames := 1, cells := 0, slots := 0, locals := 12 } : Room) s m #[(.ref a1)] below meth c s₁ [] 0 0 := Stand.of_body Bd
  have e0 : s₁.heap = h0 := by rw [← hh, Bd.state]; rfl
  have N0 := Fr.nil Z.heap.size
  have KP0 : Keep h0 h0 ([] : List Addr) := Keep.refl _ _
  show Go p e below (fun t o => ∃ v L, o = .returned v ∧ Q_rmPos Z a1 h0 v t.heap L ∧ FrameEnd s o t L ({ frames := 1, cells := 0, slots := 0, locals := 12 } : Room).cells ({ frames := 1, cells := 0, slots := 0, locals := 12 } : Room).slots) (s₁.setTop (entryFrame m #[(.ref a1)] 1))
  refine Go.on (w := s₁.setTop (mkF m 0 #[rv a1] [])) (fun t k => castTop (ef_rmPos m a1) k) ?_
  obtain ⟨T703, X703, e703, st703⟩ := initO X0 hx hZ0 hown0 (w_96 hw) (w_8 hw) (w_9 hw) e0 (g := (mkF m 1 #[rv a1] [(.ref a1)])) rfl (by rw [hml]; rfl) rfl (hb hby d12_1) (by decide) (W := 0) (by show 2 * 0 + _ ≤ _; exact Nat.le_of_eq rfl) (by decide)
  refine Go.on (w := T703.setTop (mkF m 4 #[rv a1] [])) (fun t k => XS.aloadN X0.here hx rfl (hb hby d12_0) rfl rfl (st703 _ k)) ?_
  refine Go.finH X703 hlk (v := none) (fun _ => rfl) (fun fs hr => ?_) (endH (Q := Q_rmPos Z a1 h0) (by rw [e703]; exact ⟨rfl, N0, rfl⟩) (by decide) (by decide))
  exact X703.returnOut hx Bd.returns (hb hby d12_4) hr
def Q_rmStart (Z : State) (a1 : Addr) (j : Int32) (ns : Addr) (kn : ClassId) (z : Int32) (t1 : Int32) (t2 : Int32) (t3 : Int32) (h0 : Heap) (vv : Option Value) (h : Heap) (L : List Loc) : Prop := vv = some (.int (own_a4 (0 : Int32) t1 t2 t3 j)) ∧ Fr Z.heap.size L ∧ h = h0
theorem ef_rmStart (m : MethodId) (x0 : Addr) (x1 : Int32)   : entryFrame m #[(.ref x0), (.int x1)] 2 = mkF m 0 #[.val (.ref x0), .val (.int x1)] [] := by first | rfl | (simp [entryFrame, mkF, argsToLocals, Value.category]; done)
set_option maxRecDepth 65536 in
set_option maxHeartbeats 40000000 in
theorem rmStart (l : Launch) (Z : State) (a0 : Array Value) (hw : ∀ d ∈ tables_1, d.before a0 Z = true) (ws : List Jvm.Cond) (a1 : Addr) (j : Int32) (ns : Addr) (kn : ClassId) (z : Int32) (t1 : Int32) (t2 : Int32) (t3 : Int32) (h0 : Heap) (Fn : Fld Z h0 a1 "com/example/syntagma/syntagma/service/DocumentText" "narrowStarts" "[C" (.ref ns)) (Vn : Arv Z h0 ns kn .char z [(.int 0), (.int t1), (.int t2), (.int t3)] (.int 0)) (hj : own_j4 j z) :
    MetFree l yM15 (head1 (Jvm.Cond.code yM15 prog_209_method_15_code 2 (some .int) :: ws) ({ frames := 0, cells := 0, slots := 0, locals := 0 } : Room)) (fun a U => a = #[(.ref a1), (.int j)] ∧ Z.Warmed39 U.vm ∧ U.heap = h0) (fun _ _ _ _ _ => True) (fun _ U o U' => ∃ v L, o = .returned v ∧ Q_rmStart Z a1 j ns kn z t1 t2 t3 h0 v U'.heap L ∧ FrameEnd U o U' L ({ frames := 0, cells := 0, slots := 0, locals := 0 } : Room).cells ({ frames := 0, cells := 0, slots := 0, locals := 0 } : Room).slots) := by
  refine MetFree.of_bodySF (plainFor_of_name (by first | (simp [plainName, overriddenIn]; done) | decide +kernel)) hisR ?_
  intro p e s m args below meth c s₁ Bd hml0 hP hK
  obtain ⟨rfl, hZ0', hh⟩ := hP
  have hx := Bd.exec
  have hby := Bd.bytes
  have hml : c.maxLocals = 2 := hml0
  have hZ0 : Z.Warmed39 s.vm := hZ0'
  have hown0 : s.vm.findClass "com/example/syntagma/syntagma/service/DocumentText" = some m.cls := findClass_of_methodNamed Bd.named
  have hnm := (name_of_methodNamed Bd.named Bd.method).1
  have hlk : meth.locks = false := Bd.notSynchronized
  have X0 : Stand p l e ({ frames := 0, cells := 0, slots := 0, locals := 0 } : Room) s m #[(.ref a1), (.int j)] below meth c s₁ [] 0 0 := Stand.of_body Bd
  have e0 : s₁.heap = h0 := by rw [← hh, Bd.state]; rfl
  have N0 := Fr.nil Z.heap.size
  have KP0 : Keep h0 h0 ([] : List Addr) := Keep.refl _ _
  show Go p e below (fun t o => ∃ v L, o = .returned v ∧ Q_rmStart Z a1 j ns kn z t1 t2 t3 h0 v t.heap L ∧ FrameEnd s o t L ({ frames := 0, cells := 0, slots := 0, locals := 0 } : Room).cells ({ frames := 0, cells := 0, slots := 0, locals := 0 } : Room).slots) (s₁.setTop (entryFrame m #[(.ref a1), (.int j)] 2))
  refine Go.on (w := s₁.setTop (mkF m 0 #[rv a1, iv j] [])) (fun t k => castTop (ef_rmStart m a1 j) k) ?_
  obtain ⟨T704, X704, e704, st704⟩ := getF X0 hx hZ0 hown0 (host := "") (Or.inl (w_81 hw)) Via.refl e0 Fn (g := (mkF m 1 #[rv a1, iv j] [(.ref a1)])) rfl rfl (hb hby d13_1)
  obtain ⟨T705, X705, e705, st705⟩ := getF X704 hx hZ0 hown0 (host := "") (Or.inl (w_81 hw)) Via.refl e704 Fn (g := (mkF m 8 #[rv a1, iv j] [(.ref a1)])) rfl rfl (hb hby d13_8)
  obtain ⟨cl706, Ar706, q706, S706, M706, H706, U706⟩ := id Vn
  have hin706 := ((inb_of S706 (own_j4in hj)) : ¬ (j < 0 ∨ cl706.slots.size ≤ (j).toNatClampNeg))
  refine Go.on (w := T705.setTop (mkF m 22 #[rv a1, iv j] [(.int (own_a4 (0 : Int32) t1 t2 t3 j))])) (fun t k => XS.aloadN X0.here hx rfl (hb hby d13_0) rfl rfl (st704 _ (XS.ifnullNo X704.here hx rfl (hb hby d13_4) rfl (XS.aloadN X704.here hx rfl (hb hby d13_7) rfl rfl (st705 _ (XS.iloadN X705.here hx rfl (hb hby d13_11) rfl (X705.caload hx (j := j) (v := (.int (own_a4 (0 : Int32) t1 t2 t3 j))) (by rw [e705]; exact Ar706.1) (State.isArrayOf_alike hZ0.alike Ar706.2.1) Ar706.2.2 hin706 (H706.at hin706 (own_a4at hj)) (g := (mkF m 12 #[rv a1, iv j] [(.int j), (.ref ns)])) rfl rfl (hb hby d13_12) _ (XS.goto X705.here hx rfl (pc0 := 13) (pc' := 22) rfl (hb hby d13_13) (by decide) (by decide) k)))))))) ?_
  refine Go.finH X705 hlk (v := some (.int (own_a4 (0 : Int32) t1 t2 t3 j))) (fun h => by rw [Bd.returns] at h; cases h) (fun fs hr => ?_) (endH (Q := Q_rmStart Z a1 j ns kn z t1 t2 t3 h0) (by rw [e705]; exact ⟨rfl, N0, rfl⟩) (by decide) (by decide))
  exact retOut X705 hx Bd.returns rfl (Or.inl ⟨rfl, Or.inl rfl, _, rfl⟩) (hb hby d13_22) hr
def Q_rmOf (Z : State) (a1 : Addr) (a2 : Addr) (j : Int32) (ns : Addr) (kn : ClassId) (z : Int32) (t1 : Int32) (t2 : Int32) (t3 : Int32) (h0 : Heap) (vv : Option Value) (h : Heap) (L : List Loc) : Prop := vv = none ∧ Fr Z.heap.size L ∧ Keep h0 h [a1] ∧ Exa Z h a1 "com/example/syntagma/syntagma/service/DocumentText$Positions" ∧ Fld Z h a1 "com/example/syntagma/syntagma/service/DocumentText$Positions" "text" "Lcom/example/syntagma/syntagma/service/DocumentText;" (.ref a2) ∧ Fld Z h a1 "com/example/syntagma/syntagma/service/DocumentText$Positions" "next" "I" (.int (own_a4 (0 : Int32) t1 t2 t3 j)) ∧ Fld Z h a1 "com/example/syntagma/syntagma/service/DocumentText$Positions" "end" "I" (.int (own_a4 (0 : Int32) t1 t2 t3 (j + (1 : Int32)))) ∧ Fld Z h a1 "com/example/syntagma/syntagma/service/DocumentText$Positions" "position" "I" (.int (-1))
theorem ef_rmOf (m : MethodId) (x0 : Addr) (x1 : Addr) (x2 : Int32)   : entryFrame m #[(.ref x0), (.ref x1), (.int x2)] 3 = mkF m 0 #[.val (.ref x0), .val (.ref x1), .val (.int x2)] [] := by first | rfl | (simp [entryFrame, mkF, argsToLocals, Value.category]; done)
set_option maxRecDepth 65536 in
set_option maxHeartbeats 40000000 in
theorem rmOf (l : Launch) (Z : State) (a0 : Array Value) (hw : ∀ d ∈ tables_1, d.before a0 Z = true) (ws : List Jvm.Cond) (a1 : Addr) (a2 : Addr) (j : Int32) (ns : Addr) (kn : ClassId) (z : Int32) (t1 : Int32) (t2 : Int32) (t3 : Int32) (h0 : Heap) (Z0 : Z.heap.size ≤ h0.size) (lo_a1 : Z.heap.size ≤ a1) (ne_a2_a1 : a2 ≠ a1) (ne_ns_a1 : ns ≠ a1) (E_a1 : Exa Z h0 a1 "com/example/syntagma/syntagma/service/DocumentText$Positions") (E_a2 : Exa Z h0 a2 "com/example/syntagma/syntagma/service/DocumentText") (F_text : Fld Z h0 a1 "com/example/syntagma/syntagma/service/DocumentText$Positions" "text" "Lcom/example/syntagma/syntagma/service/DocumentText;" .null) (F_next : Fld Z h0 a1 "com/example/syntagma/syntagma/service/DocumentText$Positions" "next" "I" (.int 0)) (F_end : Fld Z h0 a1 "com/example/syntagma/syntagma/service/DocumentText$Positions" "end" "I" (.int 0)) (F_position : Fld Z h0 a1 "com/example/syntagma/syntagma/service/DocumentText$Positions" "position" "I" (.int 0)) (Fn : Fld Z h0 a2 "com/example/syntagma/syntagma/service/DocumentText" "narrowStarts" "[C" (.ref ns)) (Vn : Arv Z h0 ns kn .char z [(.int 0), (.int t1), (.int t2), (.int t3)] (.int 0)) (hj1 : own_j4 j z) (hj2 : own_j4 (j + (1 : Int32)) z) :
    MetFree l yM14 (head1 (Jvm.Cond.code yM14 prog_211_method_2_code 3 none :: ws) ({ frames := 1, cells := 0, slots := 0, locals := 14 } : Room)) (fun a U => a = #[(.ref a1), (.ref a2), (.int j)] ∧ Z.Warmed39 U.vm ∧ U.heap = h0) (fun _ _ _ _ _ => True) (fun _ U o U' => ∃ v L, o = .returned v ∧ Q_rmOf Z a1 a2 j ns kn z t1 t2 t3 h0 v U'.heap L ∧ FrameEnd U o U' L ({ frames := 1, cells := 0, slots := 0, locals := 14 } : Room).cells ({ frames := 1, cells := 0, slots := 0, locals := 14 } : Room).slots) := by
  refine MetFree.of_bodySF (plainFor_of_name (by first | (simp [plainName, overriddenIn]; done) | decide +kernel)) hisR ?_
  intro p e s m args below meth c s₁ Bd hml0 hP hK
  obtain ⟨rfl, hZ0', hh⟩ := hP
  have hx := Bd.exec
  have hby := Bd.bytes
  have hml : c.maxLocals = 3 := hml0
  have hZ0 : Z.Warmed39 s.vm := hZ0'
  have hown0 : s.vm.findClass "com/example/syntagma/syntagma/service/DocumentText$Positions" = some m.cls := findClass_of_methodNamed Bd.named
  have hnm := (name_of_methodNamed Bd.named Bd.method).1
  have hlk : meth.locks = false := Bd.notSynchronized
  have X0 : Stand p l e ({ frames := 1, cells := 0, slots := 0, locals := 14 } : Room) s m #[(.ref a1), (.ref a2), (.int j)] below meth c s₁ [] 0 0 := Stand.of_body Bd
  have e0 : s₁.heap = h0 := by rw [← hh, Bd.state]; rfl
  have N0 := Fr.nil Z.heap.size
  have KP0 : Keep h0 h0 ([a1] : List Addr) := Keep.refl _ _
  show Go p e below (fun t o => ∃ v L, o = .returned v ∧ Q_rmOf Z a1 a2 j ns kn z t1 t2 t3 h0 v t.heap L ∧ FrameEnd s o t L ({ frames := 1, cells := 0, slots := 0, locals := 14 } : Room).cells ({ frames := 1, cells := 0, slots := 0, locals := 14 } : Room).slots) (s₁.setTop (entryFrame m #[(.ref a1), (.ref a2), (.int j)] 3))
  refine Go.on (w := s₁.setTop (mkF m 0 #[rv a1, rv a2, iv j] [])) (fun t k => castTop (ef_rmOf m a1 a2 j) k) ?_
  have u_a1 : h0.size > a1 := E_a1.lt
  have u_a2 : h0.size > a2 := E_a2.lt
  have u_ns : h0.size > ns := Vn.lt
  obtain ⟨T707, h707, X707, e707, W707, st707⟩ := putF X0 hx hZ0 hown0 (host := "") (Or.inl (w_102 hw)) Via.refl e0 F_text E_a1 (Or.inl (w_103 hw)) (w_91 hw) (ty := (.object "com/example/syntagma/syntagma/service/DocumentText")) (by decide) rfl rfl (g := (mkF m 2 #[rv a1, rv a2, iv j] [(.ref a2), (.ref a1)])) rfl rfl (hb hby d14_2)
  have z707 : h0.size ≤ h707.size := Nat.le_of_eq W707.size.symm
  have KP707 : Keep h0 h707 ([a1] : List Addr) := KP0.wr W707 (Or.inl (List.mem_of_getElem? (i := 0) rfl))
  have N707 := Fr.snoc X707 N0 (by omega)
  have Fw707 := F_text.same W707
  have F709 := (Fn.other W707 (Or.inl ne_a2_a1))
  have F710 := (Vn.other W707 ne_ns_a1)
  have F711 := (E_a2.wr W707)
  obtain ⟨cq708, q708, q708'⟩ := F711.cell
  obtain ⟨v708, _, ⟨T708, L708, k708, n708⟩, -, X708, ⟨Lc708, hQ708, l708, y708, z708⟩, st708⟩ := own_privNest X707 hx (y := yM15) hown0 (own_mvMN hZ0 (w_104 hw)) (mvT hZ0 (w_105 hw)) (mvT hZ0 (w_56 hw)) (Cond.privateMethod_at (mvP hZ0 (w_106 hw) (args := #[]))) (mvT hZ0 (w_107 hw)) (by decide) (backOf (W := 1) (rmStart l Z a0 hw [] a2 j ns kn z t1 t2 t3 h707 F709 F710 hj1) hZ0 (w_107 hw) (w_57 hw) (by decide) (by decide)) (g := (mkF m 8 #[rv a1, rv a2, iv j] [(.int j), (.ref a2), (.ref a1)])) rfl (by rw [hml]; rfl) (Steps.refl _) (a := a2) (by rw [e707]; exact q708) q708' (argsL := [(.int j)]) (rest := [(.ref a1)]) (lenOf pd_5 rfl) rfl (by show 2 * 0 + _ ≤ _; exact Nat.le_of_eq rfl) (hb hby d14_8) (fun _ _ => ⟨rfl, e707, (by decide : 0 + 0 ≤ _), (by decide : 0 + 0 ≤ _)⟩)
  dsimp only [Pt.U, Pt.locs, Pt.cells, Pt.slots] at X708 l708 y708 z708 st708 hQ708
  subst l708 y708 z708
  obtain ⟨rfl, Nq708, eh708⟩ := hQ708
  have N708 := Fr.app N707 Nq708
  have F712 := (E_a1.wr W707)
  have F713 := (F_next.other W707 (Or.inr (slot_ne (Or.inl (w_109 hw)) (Or.inl (w_103 hw)) (by decide) (t := .int) (t' := (.object "com/example/syntagma/syntagma/service/DocumentText")) (by decide) (by decide))))
  obtain ⟨T714, h714, X714, e714, W714, st714⟩ := putF X708 hx hZ0 hown0 (host := "") (Or.inl (w_108 hw)) Via.refl eh708 F713 F712 (Or.inl (w_109 hw)) (w_91 hw) (ty := .int) (by decide) rfl rfl (g := (mkF m 11 #[rv a1, rv a2, iv j] [(.int (own_a4 (0 : Int32) t1 t2 t3 j)), (.ref a1)])) rfl rfl (hb hby d14_11)
  have z714 : h707.size ≤ h714.size := Nat.le_of_eq W714.size.symm
  have KP714 : Keep h0 h714 ([a1] : List Addr) := KP707.wr W714 (Or.inl (List.mem_of_getElem? (i := 0) rfl))
  have N714 := Fr.snoc X714 N708 (by omega)
  have Fw714 := F713.same W714
  have F716 := (F709.other W714 (Or.inl ne_a2_a1))
  have F717 := (F710.other W714 ne_ns_a1)
  have F718 := (F711.wr W714)
  obtain ⟨cq715, q715, q715'⟩ := F718.cell
  obtain ⟨v715, _, ⟨T715, L715, k715, n715⟩, -, X715, ⟨Lc715, hQ715, l715, y715, z715⟩, st715⟩ := own_privNest X714 hx (y := yM15) hown0 (own_mvMN hZ0 (w_104 hw)) (mvT hZ0 (w_105 hw)) (mvT hZ0 (w_56 hw)) (Cond.privateMethod_at (mvP hZ0 (w_106 hw) (args := #[]))) (mvT hZ0 (w_107 hw)) (by decide) (backOf (W := 1) (rmStart l Z a0 hw [] a2 (j + (1 : Int32)) ns kn z t1 t2 t3 h714 F716 F717 hj2) hZ0 (w_107 hw) (w_57 hw) (by decide) (by decide)) (g := (mkF m 19 #[rv a1, rv a2, iv j] [(.int (j + (1 : Int32))), (.ref a2), (.ref a1)])) rfl (by rw [hml]; rfl) (Steps.refl _) (a := a2) (by rw [e714]; exact q715) q715' (argsL := [(.int (j + (1 : Int32)))]) (rest := [(.ref a1)]) (lenOf pd_5 rfl) rfl (by show 2 * 0 + _ ≤ _; exact Nat.le_of_eq rfl) (hb hby d14_19) (fun _ _ => ⟨rfl, e714, (by decide : 0 + 0 ≤ _), (by decide : 0 + 0 ≤ _)⟩)
  dsimp only [Pt.U, Pt.locs, Pt.cells, Pt.slots] at X715 l715 y715 z715 st715 hQ715
  subst l715 y715 z715
  obtain ⟨rfl, Nq715, eh715⟩ := hQ715
  have N715 := Fr.app N714 Nq715
  have F719 := (F712.wr W714)
  have F720 := ((F_end.other W707 (Or.inr (slot_ne (Or.inl (w_111 hw)) (Or.inl (w_103 hw)) (by decide) (t := .int) (t' := (.object "com/example/syntagma/syntagma/service/DocumentText")) (by decide) (by decide)))).other W714 (Or.inr (slot_ne (Or.inl (w_111 hw)) (Or.inl (w_109 hw)) (by decide) (t := .int) (t' := .int) (by decide) (by decide))))
  obtain ⟨T721, h721, X721, e721, W721, st721⟩ := putF X715 hx hZ0 hown0 (host := "") (Or.inl (w_110 hw)) Via.refl eh715 F720 F719 (Or.inl (w_111 hw)) (w_91 hw) (ty := .int) (by decide) rfl rfl (g := (mkF m 22 #[rv a1, rv a2, iv j] [(.int (own_a4 (0 : Int32) t1 t2 t3 (j + (1 : Int32)))), (.ref a1)])) rfl rfl (hb hby d14_22)
  have z721 : h714.size ≤ h721.size := Nat.le_of_eq W721.size.symm
  have KP721 : Keep h0 h721 ([a1] : List Addr) := KP714.wr W721 (Or.inl (List.mem_of_getElem? (i := 0) rfl))
  have N721 := Fr.snoc X721 N715 (by omega)
  have Fw721 := F720.same W721
  have F722 := (F719.wr W721)
  have F723 := (((F_position.other W707 (Or.inr (slot_ne (Or.inl (w_113 hw)) (Or.inl (w_103 hw)) (by decide) (t := .int) (t' := (.object "com/example/syntagma/syntagma/service/DocumentText")) (by decide) (by decide)))).other W714 (Or.inr (slot_ne (Or.inl (w_113 hw)) (Or.inl (w_109 hw)) (by decide) (t := .int) (t' := .int) (by decide) (by decide)))).other W721 (Or.inr (slot_ne (Or.inl (w_113 hw)) (Or.inl (w_111 hw)) (by decide) (t := .int) (t' := .int) (by decide) (by decide))))
  obtain ⟨T724, h724, X724, e724, W724, st724⟩ := putF X721 hx hZ0 hown0 (host := "") (Or.inl (w_112 hw)) Via.refl e721 F723 F722 (Or.inl (w_113 hw)) (w_91 hw) (ty := .int) (by decide) rfl rfl (g := (mkF m 27 #[rv a1, rv a2, iv j] [(.int (-1)), (.ref a1)])) rfl rfl (hb hby d14_27)
  have z724 : h721.size ≤ h724.size := Nat.le_of_eq W724.size.symm
  have KP724 : Keep h0 h724 ([a1] : List Addr) := KP721.wr W724 (Or.inl (List.mem_of_getElem? (i := 0) rfl))
  have N724 := Fr.snoc X724 N721 (by omega)
  have Fw724 := F723.same W724
  have F725 := (F722.wr W724)
  have F726 := (((Fw707.other W714 (Or.inr (slot_ne (Or.inl (w_103 hw)) (Or.inl (w_109 hw)) (by decide) (t := (.object "com/example/syntagma/syntagma/service/DocumentText")) (t' := .int) (by decide) (by decide)))).other W721 (Or.inr (slot_ne (Or.inl (w_103 hw)) (Or.inl (w_111 hw)) (by decide) (t := (.object "com/example/syntagma/syntagma/service/DocumentText")) (t' := .int) (by decide) (by decide)))).other W724 (Or.inr (slot_ne (Or.inl (w_103 hw)) (Or.inl (w_113 hw)) (by decide) (t := (.object "com/example/syntagma/syntagma/service/DocumentText")) (t' := .int) (by decide) (by decide))))
  have F727 := ((Fw714.other W721 (Or.inr (slot_ne (Or.inl (w_109 hw)) (Or.inl (w_111 hw)) (by decide) (t := .int) (t' := .int) (by decide) (by decide)))).other W724 (Or.inr (slot_ne (Or.inl (w_109 hw)) (Or.inl (w_113 hw)) (by decide) (t := .int) (t' := .int) (by decide) (by decide))))
  have F728 := (Fw721.other W724 (Or.inr (slot_ne (Or.inl (w_111 hw)) (Or.inl (w_113 hw)) (by decide) (t := .int) (t' := .int) (by decide) (by decide))))
  refine Go.on (w := T724.setTop (mkF m 30 #[rv a1, rv a2, iv j] [])) (fun t k => XS.aloadN X0.here hx rfl (hb hby d14_0) rfl rfl (XS.aloadN X0.here hx rfl (hb hby d14_1) rfl rfl (st707 _ (XS.aloadN X707.here hx rfl (hb hby d14_5) rfl rfl (XS.aloadN X707.here hx rfl (hb hby d14_6) rfl rfl (XS.iloadN X707.here hx rfl (hb hby d14_7) rfl (st708.trans (st714 _ (XS.aloadN X714.here hx rfl (hb hby d14_14) rfl rfl (XS.aloadN X714.here hx rfl (hb hby d14_15) rfl rfl (XS.iloadN X714.here hx rfl (hb hby d14_16) rfl (XS.iconst X714.here hx rfl (hb hby d14_17) (XS.iadd X714.here hx rfl (hb hby d14_18) rfl (st715.trans (st721 _ (XS.aloadN X721.here hx rfl (hb hby d14_25) rfl rfl (XS.iconst X721.here hx rfl (hb hby d14_26) (st724 _ k)))))))))))))))))) ?_
  refine Go.finH X724 hlk (v := none) (fun _ => rfl) (fun fs hr => ?_) (endH (Q := Q_rmOf Z a1 a2 j ns kn z t1 t2 t3 h0) (by rw [e724]; exact ⟨rfl, N724, KP724, F725, F726, F727, F728, Fw724⟩) (by decide) (by decide))
  exact X724.returnOut hx Bd.returns (hb hby d14_30) hr
def Q_rmNext (Z : State) (a1 : Addr) (a2 : Addr) (nx : Int32) (en : Int32) (ps : Int32) (ag : Addr) (kg : ClassId) (g0 : Int32) (g1 : Int32) (g2 : Int32) (h0 : Heap) (vv : Option Value) (h : Heap) (L : List Loc) : Prop := ∃ (v : Int32) (nx' : Int32) (ps' : Int32), vv = some (.int v) ∧ Fr Z.heap.size L ∧ Keep h0 h [a1] ∧ Exa Z h a1 "com/example/syntagma/syntagma/service/DocumentText$Positions" ∧ Fld Z h a1 "com/example/syntagma/syntagma/service/DocumentText$Positions" "text" "Lcom/example/syntagma/syntagma/service/DocumentText;" (.ref a2) ∧ Fld Z h a1 "com/example/syntagma/syntagma/service/DocumentText$Positions" "next" "I" (.int nx') ∧ Fld Z h a1 "com/example/syntagma/syntagma/service/DocumentText$Positions" "end" "I" (.int en) ∧ Fld Z h a1 "com/example/syntagma/syntagma/service/DocumentText$Positions" "position" "I" (.int ps') ∧ (own_next nx en ps g0 g1 g2 v nx' ps')
theorem ef_rmNext (m : MethodId) (x0 : Addr)   : entryFrame m #[(.ref x0)] 5 = mkF m 0 #[.val (.ref x0), .unset, .unset, .unset, .unset] [] := by first | rfl | (simp [entryFrame, mkF, argsToLocals, Value.category]; done)
set_option maxRecDepth 65536 in
set_option maxHeartbeats 40000000 in
theorem rmNext (l : Launch) (Z : State) (a0 : Array Value) (hw : ∀ d ∈ tables_1, d.before a0 Z = true) (ws : List Jvm.Cond) (a1 : Addr) (a2 : Addr) (nx : Int32) (en : Int32) (ps : Int32) (ag : Addr) (kg : ClassId) (g0 : Int32) (g1 : Int32) (g2 : Int32) (h0 : Heap) (Z0 : Z.heap.size ≤ h0.size) (lo_a1 : Z.heap.size ≤ a1) (ne_a2_a1 : a2 ≠ a1) (ne_ag_a1 : ag ≠ a1) (E_a1 : Exa Z h0 a1 "com/example/syntagma/syntagma/service/DocumentText$Positions") (E_a2 : Exa Z h0 a2 "com/example/syntagma/syntagma/service/DocumentText") (F_text : Fld Z h0 a1 "com/example/syntagma/syntagma/service/DocumentText$Positions" "text" "Lcom/example/syntagma/syntagma/service/DocumentText;" (.ref a2)) (F_next : Fld Z h0 a1 "com/example/syntagma/syntagma/service/DocumentText$Positions" "next" "I" (.int nx)) (F_end : Fld Z h0 a1 "com/example/syntagma/syntagma/service/DocumentText$Positions" "end" "I" (.int en)) (F_pos : Fld Z h0 a1 "com/example/syntagma/syntagma/service/DocumentText$Positions" "position" "I" (.int ps)) (Fg : Fld Z h0 a2 "com/example/syntagma/syntagma/service/DocumentText" "gaps" "[B" (.ref ag)) (Vg : Arv Z h0 ag kg .byte (3 : Int32) [(.int g0), (.int g1), (.int g2)] (.int 0)) (hle : own_le nx en) (hg3 : own_r3 g0 ∧ own_r3 g1 ∧ own_r3 g2) :
    MetFree l yM16 (head1 (Jvm.Cond.code yM16 prog_211_method_3_code 5 (some .boolean) :: ws) ({ frames := 0, cells := 0, slots := 0, locals := 0 } : Room)) (fun a U => a = #[(.ref a1)] ∧ Z.Warmed39 U.vm ∧ U.heap = h0) (fun _ _ _ _ _ => True) (fun _ U o U' => ∃ v L, o = .returned v ∧ Q_rmNext Z a1 a2 nx en ps ag kg g0 g1 g2 h0 v U'.heap L ∧ FrameEnd U o U' L ({ frames := 0, cells := 0, slots := 0, locals := 0 } : Room).cells ({ frames := 0, cells := 0, slots := 0, locals := 0 } : Room).slots) := by
  refine MetFree.of_bodySF (plainFor_of_name (by first | (simp [plainName, overriddenIn]; done) | decide +kernel)) hisR ?_
  intro p e s m args below meth c s₁ Bd hml0 hP hK
  obtain ⟨rfl, hZ0', hh⟩ := hP
  have hx := Bd.exec
  have hby := Bd.bytes
  have hml : c.maxLocals = 5 := hml0
  have hZ0 : Z.Warmed39 s.vm := hZ0'
  have hown0 : s.vm.findClass "com/example/syntagma/syntagma/service/DocumentText$Positions" = some m.cls := findClass_of_methodNamed Bd.named
  have hnm := (name_of_methodNamed Bd.named Bd.method).1
  have hlk : meth.locks = false := Bd.notSynchronized
  have X0 : Stand p l e ({ frames := 0, cells := 0, slots := 0, locals := 0 } : Room) s m #[(.ref a1)] below meth c s₁ [] 0 0 := Stand.of_body Bd
  have e0 : s₁.heap = h0 := by rw [← hh, Bd.state]; rfl
  have N0 := Fr.nil Z.heap.size
  have KP0 : Keep h0 h0 ([a1] : List Addr) := Keep.refl _ _
  show Go p e below (fun t o => ∃ v L, o = .returned v ∧ Q_rmNext Z a1 a2 nx en ps ag kg g0 g1 g2 h0 v t.heap L ∧ FrameEnd s o t L ({ frames := 0, cells := 0, slots := 0, locals := 0 } : Room).cells ({ frames := 0, cells := 0, slots := 0, locals := 0 } : Room).slots) (s₁.setTop (entryFrame m #[(.ref a1)] 5))
  refine Go.on (w := s₁.setTop (mkF m 0 #[rv a1, .unset, .unset, .unset, .unset] [])) (fun t k => castTop (ef_rmNext m a1) k) ?_
  have u_a1 : h0.size > a1 := E_a1.lt
  have u_a2 : h0.size > a2 := E_a2.lt
  have u_ag : h0.size > ag := Vg.lt
  obtain ⟨T729, X729, e729, st729⟩ := getF X0 hx hZ0 hown0 (host := "") (Or.inl (w_108 hw)) Via.refl e0 F_next (g := (mkF m 1 #[rv a1, .unset, .unset, .unset, .unset] [(.ref a1)])) rfl rfl (hb hby d15_1)
  obtain ⟨T730, X730, e730, st730⟩ := getF X729 hx hZ0 hown0 (host := "") (Or.inl (w_110 hw)) Via.refl e729 F_end (g := (mkF m 5 #[rv a1, .unset, .unset, .unset, .unset] [(.ref a1), (.int nx)])) rfl rfl (hb hby d15_5)
  refine Go.on (w := T730.setTop (mkF m 8 #[rv a1, .unset, .unset, .unset, .unset] [(.int en), (.int nx)])) (fun t k => XS.aloadN X0.here hx rfl (hb hby d15_0) rfl rfl (st729 _ (XS.aloadN X729.here hx rfl (hb hby d15_4) rfl rfl (st730 _ k)))) ?_
  by_cases hc731 : nx = en
  ·
    refine Go.on (w := T730.setTop (mkF m 12 #[rv a1, .unset, .unset, .unset, .unset] [(.int 0)])) (fun t k => XS.icmpNo X730.here hx rfl (hb hby d15_8) rfl (teq hc731).2 (XS.iconst X730.here hx rfl (hb hby d15_11) k)) ?_
    refine Go.finH X730 hlk (v := some (.int 0)) (fun h => by rw [Bd.returns] at h; cases h) (fun fs hr => ?_) (endH (Q := Q_rmNext Z a1 a2 nx en ps ag kg g0 g1 g2 h0) (by rw [e730]; exact ⟨(0 : Int32), nx, ps, rfl, N0, KP0, E_a1, F_text, F_next, F_end, F_pos, Or.inl ⟨hc731, rfl, rfl, rfl⟩⟩) (by decide) (by decide))
    exact retN X730 hx (t := .boolean) Bd.returns (by simp) (hb hby d15_12) hr
  ·
    have hn3 : own_r3 nx := own_leIn hle hc731
    have hg7 : own_r3 (own_a3 g0 g1 g2 nx) := own_a3r hg3
    obtain ⟨T732, X732, e732, st732⟩ := getF X730 hx hZ0 hown0 (host := "") (Or.inl (w_102 hw)) Via.refl e730 F_text (g := (mkF m 14 #[rv a1, .unset, .unset, .unset, .unset] [(.ref a1)])) rfl rfl (hb hby d15_14)
    obtain ⟨T733, X733, e733, st733⟩ := getF X732 hx hZ0 hown0 (Or.inr (w_119 hw)) Via.refl e732 Fg (g := (mkF m 17 #[rv a1, .unset, .unset, .unset, .unset] [(.ref a2)])) rfl rfl (hb hby d15_17)
    obtain ⟨T734, X734, e734, st734⟩ := getF X733 hx hZ0 hown0 (host := "") (Or.inl (w_108 hw)) Via.refl e733 F_next (g := (mkF m 24 #[rv a1, rv ag, .unset, .unset, .unset] [(.ref a1), (.ref a1), (.ref ag)])) rfl rfl (hb hby d15_24)
    obtain ⟨T735, h735, X735, e735, W735, st735⟩ := putF X734 hx hZ0 hown0 (host := "") (Or.inl (w_108 hw)) Via.refl e734 F_next E_a1 (Or.inl (w_109 hw)) (w_91 hw) (ty := .int) (by decide) rfl rfl (g := (mkF m 30 #[rv a1, rv ag, .unset, .unset, .unset] [(.int (nx + (1 : Int32))), (.ref a1), (.int nx), (.ref ag)])) rfl rfl (hb hby d15_30)
    have z735 : h0.size ≤ h735.size := Nat.le_of_eq W735.size.symm
    have KP735 : Keep h0 h735 ([a1] : List Addr) := KP0.wr W735 (Or.inl (List.mem_of_getElem? (i := 0) rfl))
    have N735 := Fr.snoc X735 N0 (by omega)
    have Fw735 := F_next.same W735
    have F736 := (Vg.other W735 ne_ag_a1)
    obtain ⟨cl737, Ar737, q737, S737, M737, H737, U737⟩ := id F736
    have hin737 := ((inb_of S737 (own_n3in hn3)) : ¬ (nx < 0 ∨ cl737.slots.size ≤ (nx).toNatClampNeg))
    refine Go.on (w := T735.setTop (mkF m 38 #[rv a1, rv ag, iv (own_a3 g0 g1 g2 nx), .unset, .unset] [(.int 127), (.int (own_a3 g0 g1 g2 nx))])) (fun t k => XS.icmpYes X730.here hx rfl (pc0 := 8) (pc' := 13) rfl (hb hby d15_8) rfl (feq hc731).2 (by decide) (by decide) (XS.aloadN X730.here hx rfl (hb hby d15_13) rfl rfl (st732 _ (st733 _ (XS.astoreN X733.here hx rfl (hb hby d15_20) rfl rfl (l' := #[rv a1, rv ag, .unset, .unset, .unset]) rfl (XS.aloadN X733.here hx rfl (hb hby d15_21) rfl rfl (XS.aloadN X733.here hx rfl (hb hby d15_22) rfl rfl (XS.dup X733.here hx rfl (hb hby d15_23) rfl rfl (st734 _ (XS.dupX1 X734.here hx rfl (hb hby d15_27) rfl rfl rfl (XS.iconst X734.here hx rfl (hb hby d15_28) (XS.iadd X734.here hx rfl (hb hby d15_29) rfl (st735 _ (X735.baloadBytes hx (j := nx) (v := (.int (own_a3 g0 g1 g2 nx))) (by rw [e735]; exact Ar737.1) (State.isArrayOf_alike hZ0.alike Ar737.2.1) Ar737.2.2 hin737 (H737.at hin737 (own_a3at hn3)) (g := (mkF m 33 #[rv a1, rv ag, .unset, .unset, .unset] [(.int nx), (.ref ag)])) rfl rfl (hb hby d15_33) _ (XS.istoreN X735.here hx rfl (hb hby d15_34) rfl (l' := #[rv a1, rv ag, iv (own_a3 g0 g1 g2 nx), .unset, .unset]) rfl (XS.iloadN X735.here hx rfl (hb hby d15_35) rfl (XS.bipush X735.here hx rfl (hb hby d15_36) k))))))))))))))))) ?_
    refine Go.on (w := T735.setTop (mkF m 39 #[rv a1, rv ag, iv (own_a3 g0 g1 g2 nx), .unset, .unset] [(.int (own_a3 g0 g1 g2 nx))])) (fun t k => XS.iand X735.here hx rfl (hb hby d15_38) rfl (by rw [(own_r127 hg7 : ((own_a3 g0 g1 g2 nx) &&& (127 : Int32)) = (own_a3 g0 g1 g2 nx))]; exact k)) ?_
    have F738 := (F_pos.other W735 (Or.inr (slot_ne (Or.inl (w_113 hw)) (Or.inl (w_109 hw)) (by decide) (t := .int) (t' := .int) (by decide) (by decide))))
    obtain ⟨T739, X739, e739, st739⟩ := getF X735 hx hZ0 hown0 (host := "") (Or.inl (w_112 hw)) Via.refl e735 F738 (g := (mkF m 80 #[rv a1, rv ag, iv (own_a3 g0 g1 g2 nx), iv (own_a3 g0 g1 g2 nx), iv 7] [(.ref a1), (.ref a1)])) rfl rfl (hb hby d15_80)
    refine Go.on (w := T739.setTop (mkF m 83 #[rv a1, rv ag, iv (own_a3 g0 g1 g2 nx), iv (own_a3 g0 g1 g2 nx), iv 7] [(.int ps), (.ref a1)])) (fun t k => XS.istoreN X735.here hx rfl (hb hby d15_39) rfl (l' := #[rv a1, rv ag, iv (own_a3 g0 g1 g2 nx), iv (own_a3 g0 g1 g2 nx), .unset]) rfl (XS.bipush X735.here hx rfl (hb hby d15_40) (XS.istore X735.here hx rfl (hb hby d15_42) rfl (l' := #[rv a1, rv ag, iv (own_a3 g0 g1 g2 nx), iv (own_a3 g0 g1 g2 nx), iv 7]) rfl (XS.iloadN X735.here hx rfl (hb hby d15_44) rfl (XS.ifYes X735.here hx rfl (pc0 := 45) (pc' := 78) rfl (hb hby d15_45) rfl ((if0 _ _).trans (flt (own_r0 hg7)).2.1) (by decide) (by decide) (XS.aloadN X735.here hx rfl (hb hby d15_78) rfl rfl (XS.aloadN X735.here hx rfl (hb hby d15_79) rfl rfl (st739 _ k)))))))) ?_
    by_cases hc740 : ps < (0 : Int32)
    ·
      have F741 := (E_a1.wr W735)
      obtain ⟨T742, h742, X742, e742, W742, st742⟩ := putF X739 hx hZ0 hown0 (host := "") (Or.inl (w_112 hw)) Via.refl e739 F738 F741 (Or.inl (w_113 hw)) (w_91 hw) (ty := .int) (by decide) rfl rfl (g := (mkF m 96 #[rv a1, rv ag, iv (own_a3 g0 g1 g2 nx), iv (own_a3 g0 g1 g2 nx), iv 7] [(.int (own_a3 g0 g1 g2 nx)), (.ref a1)])) rfl rfl (hb hby d15_96)
      have z742 : h735.size ≤ h742.size := Nat.le_of_eq W742.size.symm
      have KP742 : Keep h0 h742 ([a1] : List Addr) := KP735.wr W742 (Or.inl (List.mem_of_getElem? (i := 0) rfl))
      have N742 := Fr.snoc X742 N735 (by omega)
      have Fw742 := F738.same W742
      have F743 := (F741.wr W742)
      have F744 := ((F_text.other W735 (Or.inr (slot_ne (Or.inl (w_103 hw)) (Or.inl (w_109 hw)) (by decide) (t := (.object "com/example/syntagma/syntagma/service/DocumentText")) (t' := .int) (by decide) (by decide)))).other W742 (Or.inr (slot_ne (Or.inl (w_103 hw)) (Or.inl (w_113 hw)) (by decide) (t := (.object "com/example/syntagma/syntagma/service/DocumentText")) (t' := .int) (by decide) (by decide))))
      have F745 := (Fw735.other W742 (Or.inr (slot_ne (Or.inl (w_109 hw)) (Or.inl (w_113 hw)) (by decide) (t := .int) (t' := .int) (by decide) (by decide))))
      have F746 := ((F_end.other W735 (Or.inr (slot_ne (Or.inl (w_111 hw)) (Or.inl (w_109 hw)) (by decide) (t := .int) (t' := .int) (by decide) (by decide)))).other W742 (Or.inr (slot_ne (Or.inl (w_111 hw)) (Or.inl (w_113 hw)) (by decide) (t := .int) (t' := .int) (by decide) (by decide))))
      refine Go.on (w := T742.setTop (mkF m 100 #[rv a1, rv ag, iv (own_a3 g0 g1 g2 nx), iv (own_a3 g0 g1 g2 nx), iv 7] [(.int 1)])) (fun t k => XS.ifNo X739.here hx rfl (hb hby d15_83) rfl ((if0 _ _).trans (tlt hc740).2.1) (XS.iloadN X739.here hx rfl (hb hby d15_86) rfl (XS.goto X739.here hx rfl (pc0 := 87) (pc' := 96) rfl (hb hby d15_87) (by decide) (by decide) (st742 _ (XS.iconst X742.here hx rfl (hb hby d15_99) k))))) ?_
      refine Go.finH X742 hlk (v := some (.int 1)) (fun h => by rw [Bd.returns] at h; cases h) (fun fs hr => ?_) (endH (Q := Q_rmNext Z a1 a2 nx en ps ag kg g0 g1 g2 h0) (by rw [e742]; exact ⟨(1 : Int32), (nx + (1 : Int32)), (own_a3 g0 g1 g2 nx), rfl, N742, KP742, F743, F744, F745, F746, Fw742, Or.inr ⟨hc731, rfl, rfl, Or.inl ⟨hc740, rfl⟩⟩⟩) (by decide) (by decide))
      exact retN X742 hx (t := .boolean) Bd.returns (by simp) (hb hby d15_100) hr
    ·
      obtain ⟨T747, X747, e747, st747⟩ := getF X739 hx hZ0 hown0 (host := "") (Or.inl (w_112 hw)) Via.refl e739 F738 (g := (mkF m 91 #[rv a1, rv ag, iv (own_a3 g0 g1 g2 nx), iv (own_a3 g0 g1 g2 nx), iv 7] [(.ref a1), (.ref a1)])) rfl rfl (hb hby d15_91)
      have F748 := (E_a1.wr W735)
      obtain ⟨T749, h749, X749, e749, W749, st749⟩ := putF X747 hx hZ0 hown0 (host := "") (Or.inl (w_112 hw)) Via.refl e747 F738 F748 (Or.inl (w_113 hw)) (w_91 hw) (ty := .int) (by decide) rfl rfl (g := (mkF m 96 #[rv a1, rv ag, iv (own_a3 g0 g1 g2 nx), iv (own_a3 g0 g1 g2 nx), iv 7] [(.int (ps + (own_a3 g0 g1 g2 nx))), (.ref a1)])) rfl rfl (hb hby d15_96)
      have z749 : h735.size ≤ h749.size := Nat.le_of_eq W749.size.symm
      have KP749 : Keep h0 h749 ([a1] : List Addr) := KP735.wr W749 (Or.inl (List.mem_of_getElem? (i := 0) rfl))
      have N749 := Fr.snoc X749 N735 (by omega)
      have Fw749 := F738.same W749
      have F750 := (F748.wr W749)
      have F751 := ((F_text.other W735 (Or.inr (slot_ne (Or.inl (w_103 hw)) (Or.inl (w_109 hw)) (by decide) (t := (.object "com/example/syntagma/syntagma/service/DocumentText")) (t' := .int) (by decide) (by decide)))).other W749 (Or.inr (slot_ne (Or.inl (w_103 hw)) (Or.inl (w_113 hw)) (by decide) (t := (.object "com/example/syntagma/syntagma/service/DocumentText")) (t' := .int) (by decide) (by decide))))
      have F752 := (Fw735.other W749 (Or.inr (slot_ne (Or.inl (w_109 hw)) (Or.inl (w_113 hw)) (by decide) (t := .int) (t' := .int) (by decide) (by decide))))
      have F753 := ((F_end.other W735 (Or.inr (slot_ne (Or.inl (w_111 hw)) (Or.inl (w_109 hw)) (by decide) (t := .int) (t' := .int) (by decide) (by decide)))).other W749 (Or.inr (slot_ne (Or.inl (w_111 hw)) (Or.inl (w_113 hw)) (by decide) (t := .int) (t' := .int) (by decide) (by decide))))
      refine Go.on (w := T749.setTop (mkF m 100 #[rv a1, rv ag, iv (own_a3 g0 g1 g2 nx), iv (own_a3 g0 g1 g2 nx), iv 7] [(.int 1)])) (fun t k => XS.ifYes X739.here hx rfl (pc0 := 83) (pc' := 90) rfl (hb hby d15_83) rfl ((if0 _ _).trans (flt hc740).2.1) (by decide) (by decide) (XS.aloadN X739.here hx rfl (hb hby d15_90) rfl rfl (st747 _ (XS.iloadN X747.here hx rfl (hb hby d15_94) rfl (XS.iadd X747.here hx rfl (hb hby d15_95) rfl (st749 _ (XS.iconst X749.here hx rfl (hb hby d15_99) k))))))) ?_
      refine Go.finH X749 hlk (v := some (.int 1)) (fun h => by rw [Bd.returns] at h; cases h) (fun fs hr => ?_) (endH (Q := Q_rmNext Z a1 a2 nx en ps ag kg g0 g1 g2 h0) (by rw [e749]; exact ⟨(1 : Int32), (nx + (1 : Int32)), (ps + (own_a3 g0 g1 g2 nx)), rfl, N749, KP749, F750, F751, F752, F753, Fw749, Or.inr ⟨hc731, rfl, rfl, Or.inr ⟨hc740, rfl⟩⟩⟩) (by decide) (by decide))
      exact retN X749 hx (t := .boolean) Bd.returns (by simp) (hb hby d15_100) hr
def Q_rmPsn (Z : State) (a1 : Addr) (ps : Int32) (h0 : Heap) (vv : Option Value) (h : Heap) (L : List Loc) : Prop := vv = some (.int ps) ∧ Fr Z.heap.size L ∧ h = h0
theorem ef_rmPsn (m : MethodId) (x0 : Addr)   : entryFrame m #[(.ref x0)] 1 = mkF m 0 #[.val (.ref x0)] [] := by first | rfl | (simp [entryFrame, mkF, argsToLocals, Value.category]; done)
set_option maxRecDepth 65536 in
set_option maxHeartbeats 40000000 in
theorem rmPsn (l : Launch) (Z : State) (a0 : Array Value) (hw : ∀ d ∈ tables_1, d.before a0 Z = true) (ws : List Jvm.Cond) (a1 : Addr) (ps : Int32) (h0 : Heap) (Fp : Fld Z h0 a1 "com/example/syntagma/syntagma/service/DocumentText$Positions" "position" "I" (.int ps)) :
    MetFree l yM17 (head1 (Jvm.Cond.code yM17 prog_211_method_4_code 1 (some .int) :: ws) ({ frames := 0, cells := 0, slots := 0, locals := 0 } : Room)) (fun a U => a = #[(.ref a1)] ∧ Z.Warmed39 U.vm ∧ U.heap = h0) (fun _ _ _ _ _ => True) (fun _ U o U' => ∃ v L, o = .returned v ∧ Q_rmPsn Z a1 ps h0 v U'.heap L ∧ FrameEnd U o U' L ({ frames := 0, cells := 0, slots := 0, locals := 0 } : Room).cells ({ frames := 0, cells := 0, slots := 0, locals := 0 } : Room).slots) := by
  refine MetFree.of_bodySF (plainFor_of_name (by first | (simp [plainName, overriddenIn]; done) | decide +kernel)) hisR ?_
  intro p e s m args below meth c s₁ Bd hml0 hP hK
  obtain ⟨rfl, hZ0', hh⟩ := hP
  have hx := Bd.exec
  have hby := Bd.bytes
  have hml : c.maxLocals = 1 := hml0
  have hZ0 : Z.Warmed39 s.vm := hZ0'
  have hown0 : s.vm.findClass "com/example/syntagma/syntagma/service/DocumentText$Positions" = some m.cls := findClass_of_methodNamed Bd.named
  have hnm := (name_of_methodNamed Bd.named Bd.method).1
  have hlk : meth.locks = false := Bd.notSynchronized
  have X0 : Stand p l e ({ frames := 0, cells := 0, slots := 0, locals := 0 } : Room) s m #[(.ref a1)] below meth c s₁ [] 0 0 := Stand.of_body Bd
  have e0 : s₁.heap = h0 := by rw [← hh, Bd.state]; rfl
  have N0 := Fr.nil Z.heap.size
  have KP0 : Keep h0 h0 ([] : List Addr) := Keep.refl _ _
  show Go p e below (fun t o => ∃ v L, o = .returned v ∧ Q_rmPsn Z a1 ps h0 v t.heap L ∧ FrameEnd s o t L ({ frames := 0, cells := 0, slots := 0, locals := 0 } : Room).cells ({ frames := 0, cells := 0, slots := 0, locals := 0 } : Room).slots) (s₁.setTop (entryFrame m #[(.ref a1)] 1))
  refine Go.on (w := s₁.setTop (mkF m 0 #[rv a1] [])) (fun t k => castTop (ef_rmPsn m a1) k) ?_
  obtain ⟨T754, X754, e754, st754⟩ := getF X0 hx hZ0 hown0 (host := "") (Or.inl (w_112 hw)) Via.refl e0 Fp (g := (mkF m 1 #[rv a1] [(.ref a1)])) rfl rfl (hb hby d16_1)
  refine Go.on (w := T754.setTop (mkF m 4 #[rv a1] [(.int ps)])) (fun t k => XS.aloadN X0.here hx rfl (hb hby d16_0) rfl rfl (st754 _ k)) ?_
  refine Go.finH X754 hlk (v := some (.int ps)) (fun h => by rw [Bd.returns] at h; cases h) (fun fs hr => ?_) (endH (Q := Q_rmPsn Z a1 ps h0) (by rw [e754]; exact ⟨rfl, N0, rfl⟩) (by decide) (by decide))
  exact retOut X754 hx Bd.returns rfl (Or.inl ⟨rfl, Or.inl rfl, _, rfl⟩) (hb hby d16_4) hr
def Q_rm0 (Z : State) (p0 : Int32) (p1 : Int32) (p2 : Int32) (p3 : Int32) (h0 : Heap) (vv : Option Value) (h : Heap) (L : List Loc) : Prop := vv = some (.int 1) ∧ Fr Z.heap.size L ∧ Keep h0 h []
theorem ef_rm0 (m : MethodId) (x0 : Int32) (x1 : Int32) (x2 : Int32) (x3 : Int32)   : entryFrame m #[(.int x0), (.int x1), (.int x2), (.int x3)] maxLocals = mkF m 0 #[.val (.int x0), .val (.int x1), .val (.int x2), .val (.int x3), .unset, .unset, .unset, .unset, .unset, .unset, .unset, .unset, .unset, .unset, .unset, .unset, .unset, .unset, .unset, .unset, .unset, .unset, .unset, .unset, .unset, .unset, .unset] [] := by first | (simp [entryFrame, mkF, argsToLocals, Value.category, maxLocals]; done) | rfl
set_option maxRecDepth 65536 in
set_option maxHeartbeats 40000000 in
theorem rm0 (l : Launch) (Z : State) (a0 : Array Value) (hw : ∀ d ∈ tables_1, d.before a0 Z = true) (ws : List Jvm.Cond) (p0 : Int32) (p1 : Int32) (p2 : Int32) (p3 : Int32) (h0 : Heap) (Z0 : Z.heap.size ≤ h0.size) :
    MetFree l x (head1 (Jvm.Cond.code x code maxLocals ret :: ws) room_1) (fun a U => a = #[(.int p0), (.int p1), (.int p2), (.int p3)] ∧ Z.Warmed39 U.vm ∧ U.heap = h0) (fun _ _ _ _ _ => True) (fun _ U o U' => ∃ v L, o = .returned v ∧ Q_rm0 Z p0 p1 p2 p3 h0 v U'.heap L ∧ FrameEnd U o U' L room_1.cells room_1.slots) := by
  refine MetFree.of_bodySF (plainFor_of_name (by first | (simp [plainName, overriddenIn]; done) | decide +kernel)) hisR ?_
  intro p e s m args below meth c s₁ Bd hml0 hP hK
  obtain ⟨rfl, hZ0', hh⟩ := hP
  have hx := Bd.exec
  have hby := Bd.bytes
  have hml : c.maxLocals = 27 := hml0
  have hZ0 : Z.Warmed39 s.vm := hZ0'
  have hown0 : s.vm.findClass "com/example/syntagma/syntagma/service/PositionsNextPinLaw" = some m.cls := findClass_of_methodNamed Bd.named
  have hnm := (name_of_methodNamed Bd.named Bd.method).1
  have hlk : meth.locks = false := Bd.notSynchronized
  have X0 : Stand p l e room_1 s m #[(.int p0), (.int p1), (.int p2), (.int p3)] below meth c s₁ [] 0 0 := Stand.of_body Bd
  have e0 : s₁.heap = h0 := by rw [← hh, Bd.state]; rfl
  have N0 := Fr.nil Z.heap.size
  have KP0 : Keep h0 h0 ([] : List Addr) := Keep.refl _ _
  show Go p e below (fun t o => ∃ v L, o = .returned v ∧ Q_rm0 Z p0 p1 p2 p3 h0 v t.heap L ∧ FrameEnd s o t L room_1.cells room_1.slots) (s₁.setTop (entryFrame m #[(.int p0), (.int p1), (.int p2), (.int p3)] maxLocals))
  refine Go.on (w := s₁.setTop (mkF m 0 #[iv p0, iv p1, iv p2, iv p3, .unset, .unset, .unset, .unset, .unset, .unset, .unset, .unset, .unset, .unset, .unset, .unset, .unset, .unset, .unset, .unset, .unset, .unset, .unset, .unset, .unset, .unset, .unset] [])) (fun t k => castTop (ef_rm0 m p0 p1 p2 p3) k) ?_
  obtain ⟨n0, en0, zn0⟩ := own_nneg p0
  obtain ⟨n1x, en1x, zn1x⟩ := own_nneg p1
  obtain ⟨n2x, en2x, zn2x⟩ := own_nneg p2
  refine Go.on (w := s₁.setTop (mkF m 3 #[iv p0, iv p1, iv p2, iv p3, .unset, .unset, .unset, .unset, .unset, .unset, .unset, .unset, .unset, .unset, .unset, .unset, .unset, .unset, .unset, .unset, .unset, .unset, .unset, .unset, .unset, .unset, .unset] [(.int 2147483647), (.int p0)])) (fun t k => XS.iloadN X0.here hx rfl (hb hby at_0) rfl (X0.ldcInt hx hown0 (mvT hZ0 (w_0 hw)) (g := (mkF m 1 #[iv p0, iv p1, iv p2, iv p3, .unset, .unset, .unset, .unset, .unset, .unset, .unset, .unset, .unset, .unset, .unset, .unset, .unset, .unset, .unset, .unset, .unset, .unset, .unset, .unset, .unset, .unset, .unset] [(.int p0)])) rfl (hb hby at_1) _ k)) ?_
  refine Go.on (w := s₁.setTop (mkF m 4 #[iv p0, iv p1, iv p2, iv p3, .unset, .unset, .unset, .unset, .unset, .unset, .unset, .unset, .unset, .unset, .unset, .unset, .unset, .unset, .unset, .unset, .unset, .unset, .unset, .unset, .unset, .unset, .unset] [(.int n0)])) (fun t k => XS.iand X0.here hx rfl (hb hby at_3) rfl (by rw [(en0 : (p0 &&& (2147483647 : Int32)) = n0)]; exact k)) ?_
  refine Go.on (w := s₁.setTop (mkF m 9 #[iv p0, iv p1, iv p2, iv p3, iv n0, .unset, .unset, .unset, .unset, .unset, .unset, .unset, .unset, .unset, .unset, .unset, .unset, .unset, .unset, .unset, .unset, .unset, .unset, .unset, .unset, .unset, .unset] [(.int (p3 &&& (1 : Int32)))])) (fun t k => XS.istore X0.here hx rfl (hb hby at_4) rfl (l' := #[iv p0, iv p1, iv p2, iv p3, iv n0, .unset, .unset, .unset, .unset, .unset, .unset, .unset, .unset, .unset, .unset, .unset, .unset, .unset, .unset, .unset, .unset, .unset, .unset, .unset, .unset, .unset, .unset]) rfl (XS.iloadN X0.here hx rfl (hb hby at_6) rfl (XS.iconst X0.here hx rfl (hb hby at_7) (XS.iand X0.here hx rfl (hb hby at_8) rfl k)))) ?_
  obtain ⟨n1, hr_n1⟩ : ∃ z : Int32, (if (p3 &&& (1 : Int32)) = (0 : Int32) then n1x else n0) = z := ⟨_, rfl⟩
  have R755 : ∀ t, Steps p.tables e below (s₁.setTop (mkF m 21 #[iv p0, iv p1, iv p2, iv p3, iv n0, .unset, .unset, .unset, .unset, .unset, .unset, .unset, .unset, .unset, .unset, .unset, .unset, .unset, .unset, .unset, .unset, .unset, .unset, .unset, .unset, .unset, .unset] [(.int n1)])) t → Steps p.tables e below (s₁.setTop (mkF m 9 #[iv p0, iv p1, iv p2, iv p3, iv n0, .unset, .unset, .unset, .unset, .unset, .unset, .unset, .unset, .unset, .unset, .unset, .unset, .unset, .unset, .unset, .unset, .unset, .unset, .unset, .unset, .unset, .unset] [(.int (p3 &&& (1 : Int32)))])) t := by
    intro t k
    subst hr_n1
    by_cases hc756 : (p3 &&& (1 : Int32)) = (0 : Int32)
    ·
      simp only [if_pos hc756] at k
      refine XS.ifYes X0.here hx rfl (pc0 := 9) (pc' := 17) rfl (hb hby at_9) rfl ((if0 _ _).trans (teq hc756).1) (by decide) (by decide) (?_ : Steps p.tables e below (s₁.setTop (mkF m 17 #[iv p0, iv p1, iv p2, iv p3, iv n0, .unset, .unset, .unset, .unset, .unset, .unset, .unset, .unset, .unset, .unset, .unset, .unset, .unset, .unset, .unset, .unset, .unset, .unset, .unset, .unset, .unset, .unset] [])) t)
      refine XS.iloadN X0.here hx rfl (hb hby at_17) rfl (?_ : Steps p.tables e below (s₁.setTop (mkF m 18 #[iv p0, iv p1, iv p2, iv p3, iv n0, .unset, .unset, .unset, .unset, .unset, .unset, .unset, .unset, .unset, .unset, .unset, .unset, .unset, .unset, .unset, .unset, .unset, .unset, .unset, .unset, .unset, .unset] [(.int p1)])) t)
      refine X0.ldcInt hx hown0 (mvT hZ0 (w_0 hw)) (g := (mkF m 18 #[iv p0, iv p1, iv p2, iv p3, iv n0, .unset, .unset, .unset, .unset, .unset, .unset, .unset, .unset, .unset, .unset, .unset, .unset, .unset, .unset, .unset, .unset, .unset, .unset, .unset, .unset, .unset, .unset] [(.int p1)])) rfl (hb hby at_18) _ (?_ : Steps p.tables e below (s₁.setTop (mkF m 20 #[iv p0, iv p1, iv p2, iv p3, iv n0, .unset, .unset, .unset, .unset, .unset, .unset, .unset, .unset, .unset, .unset, .unset, .unset, .unset, .unset, .unset, .unset, .unset, .unset, .unset, .unset, .unset, .unset] [(.int 2147483647), (.int p1)])) t)
      refine XS.iand X0.here hx rfl (hb hby at_20) rfl ?_
      rw [(en1x : (p1 &&& (2147483647 : Int32)) = n1x)]
      show Steps p.tables e below (s₁.setTop (mkF m 21 #[iv p0, iv p1, iv p2, iv p3, iv n0, .unset, .unset, .unset, .unset, .unset, .unset, .unset, .unset, .unset, .unset, .unset, .unset, .unset, .unset, .unset, .unset, .unset, .unset, .unset, .unset, .unset, .unset] [(.int n1x)])) t
      exact k
    ·
      simp only [if_neg hc756] at k
      refine XS.ifNo X0.here hx rfl (hb hby at_9) rfl ((if0 _ _).trans (feq hc756).1) (?_ : Steps p.tables e below (s₁.setTop (mkF m 12 #[iv p0, iv p1, iv p2, iv p3, iv n0, .unset, .unset, .unset, .unset, .unset, .unset, .unset, .unset, .unset, .unset, .unset, .unset, .unset, .unset, .unset, .unset, .unset, .unset, .unset, .unset, .unset, .unset] [])) t)
      refine XS.iload X0.here hx rfl (hb hby at_12) rfl (?_ : Steps p.tables e below (s₁.setTop (mkF m 14 #[iv p0, iv p1, iv p2, iv p3, iv n0, .unset, .unset, .unset, .unset, .unset, .unset, .unset, .unset, .unset, .unset, .unset, .unset, .unset, .unset, .unset, .unset, .unset, .unset, .unset, .unset, .unset, .unset] [(.int n0)])) t)
      refine XS.goto X0.here hx rfl (pc0 := 14) (pc' := 21) rfl (hb hby at_14) (by decide) (by decide) (?_ : Steps p.tables e below (s₁.setTop (mkF m 21 #[iv p0, iv p1, iv p2, iv p3, iv n0, .unset, .unset, .unset, .unset, .unset, .unset, .unset, .unset, .unset, .unset, .unset, .unset, .unset, .unset, .unset, .unset, .unset, .unset, .unset, .unset, .unset, .unset] [(.int n0)])) t)
      exact k
  refine Go.on R755 ?_
  have zn1 : ¬ n1 < 0 := by rw [← hr_n1]; split <;> assumption
  refine Go.on (w := s₁.setTop (mkF m 26 #[iv p0, iv p1, iv p2, iv p3, iv n0, iv n1, .unset, .unset, .unset, .unset, .unset, .unset, .unset, .unset, .unset, .unset, .unset, .unset, .unset, .unset, .unset, .unset, .unset, .unset, .unset, .unset, .unset] [(.int (p3 &&& (2 : Int32)))])) (fun t k => XS.istore X0.here hx rfl (hb hby at_21) rfl (l' := #[iv p0, iv p1, iv p2, iv p3, iv n0, iv n1, .unset, .unset, .unset, .unset, .unset, .unset, .unset, .unset, .unset, .unset, .unset, .unset, .unset, .unset, .unset, .unset, .unset, .unset, .unset, .unset, .unset]) rfl (XS.iloadN X0.here hx rfl (hb hby at_23) rfl (XS.iconst X0.here hx rfl (hb hby at_24) (XS.iand X0.here hx rfl (hb hby at_25) rfl k)))) ?_
  obtain ⟨n2, hr_n2⟩ : ∃ z : Int32, (if (p3 &&& (2 : Int32)) = (0 : Int32) then (if (p3 &&& (4 : Int32)) = (0 : Int32) then n2x else n1) else n0) = z := ⟨_, rfl⟩
  have R757 : ∀ t, Steps p.tables e below (s₁.setTop (mkF m 49 #[iv p0, iv p1, iv p2, iv p3, iv n0, iv n1, .unset, .unset, .unset, .unset, .unset, .unset, .unset, .unset, .unset, .unset, .unset, .unset, .unset, .unset, .unset, .unset, .unset, .unset, .unset, .unset, .unset] [(.int n2)])) t → Steps p.tables e below (s₁.setTop (mkF m 26 #[iv p0, iv p1, iv p2, iv p3, iv n0, iv n1, .unset, .unset, .unset, .unset, .unset, .unset, .unset, .unset, .unset, .unset, .unset, .unset, .unset, .unset, .unset, .unset, .unset, .unset, .unset, .unset, .unset] [(.int (p3 &&& (2 : Int32)))])) t := by
    intro t k
    subst hr_n2
    by_cases hc758 : (p3 &&& (2 : Int32)) = (0 : Int32)
    ·
      simp only [if_pos hc758] at k
      refine XS.ifYes X0.here hx rfl (pc0 := 26) (pc' := 34) rfl (hb hby at_26) rfl ((if0 _ _).trans (teq hc758).1) (by decide) (by decide) (?_ : Steps p.tables e below (s₁.setTop (mkF m 34 #[iv p0, iv p1, iv p2, iv p3, iv n0, iv n1, .unset, .unset, .unset, .unset, .unset, .unset, .unset, .unset, .unset, .unset, .unset, .unset, .unset, .unset, .unset, .unset, .unset, .unset, .unset, .unset, .unset] [])) t)
      refine XS.iloadN X0.here hx rfl (hb hby at_34) rfl (?_ : Steps p.tables e below (s₁.setTop (mkF m 35 #[iv p0, iv p1, iv p2, iv p3, iv n0, iv n1, .unset, .unset, .unset, .unset, .unset, .unset, .unset, .unset, .unset, .unset, .unset, .unset, .unset, .unset, .unset, .unset, .unset, .unset, .unset, .unset, .unset] [(.int p3)])) t)
      refine XS.iconst X0.here hx rfl (hb hby at_35) (?_ : Steps p.tables e below (s₁.setTop (mkF m 36 #[iv p0, iv p1, iv p2, iv p3, iv n0, iv n1, .unset, .unset, .unset, .unset, .unset, .unset, .unset, .unset, .unset, .unset, .unset, .unset, .unset, .unset, .unset, .unset, .unset, .unset, .unset, .unset, .unset] [(.int 4), (.int p3)])) t)
      refine XS.iand X0.here hx rfl (hb hby at_36) rfl (?_ : Steps p.tables e below (s₁.setTop (mkF m 37 #[iv p0, iv p1, iv p2, iv p3, iv n0, iv n1, .unset, .unset, .unset, .unset, .unset, .unset, .unset, .unset, .unset, .unset, .unset, .unset, .unset, .unset, .unset, .unset, .unset, .unset, .unset, .unset, .unset] [(.int (p3 &&& (4 : Int32)))])) t)
      by_cases hc759 : (p3 &&& (4 : Int32)) = (0 : Int32)
      ·
        simp only [if_pos hc759] at k
        refine XS.ifYes X0.here hx rfl (pc0 := 37) (pc' := 45) rfl (hb hby at_37) rfl ((if0 _ _).trans (teq hc759).1) (by decide) (by decide) (?_ : Steps p.tables e below (s₁.setTop (mkF m 45 #[iv p0, iv p1, iv p2, iv p3, iv n0, iv n1, .unset, .unset, .unset, .unset, .unset, .unset, .unset, .unset, .unset, .unset, .unset, .unset, .unset, .unset, .unset, .unset, .unset, .unset, .unset, .unset, .unset] [])) t)
        refine XS.iloadN X0.here hx rfl (hb hby at_45) rfl (?_ : Steps p.tables e below (s₁.setTop (mkF m 46 #[iv p0, iv p1, iv p2, iv p3, iv n0, iv n1, .unset, .unset, .unset, .unset, .unset, .unset, .unset, .unset, .unset, .unset, .unset, .unset, .unset, .unset, .unset, .unset, .unset, .unset, .unset, .unset, .unset] [(.int p2)])) t)
        refine X0.ldcInt hx hown0 (mvT hZ0 (w_0 hw)) (g := (mkF m 46 #[iv p0, iv p1, iv p2, iv p3, iv n0, iv n1, .unset, .unset, .unset, .unset, .unset, .unset, .unset, .unset, .unset, .unset, .unset, .unset, .unset, .unset, .unset, .unset, .unset, .unset, .unset, .unset, .unset] [(.int p2)])) rfl (hb hby at_46) _ (?_ : Steps p.tables e below (s₁.setTop (mkF m 48 #[iv p0, iv p1, iv p2, iv p3, iv n0, iv n1, .unset, .unset, .unset, .unset, .unset, .unset, .unset, .unset, .unset, .unset, .unset, .unset, .unset, .unset, .unset, .unset, .unset, .unset, .unset, .unset, .unset] [(.int 2147483647), (.int p2)])) t)
        refine XS.iand X0.here hx rfl (hb hby at_48) rfl ?_
        rw [(en2x : (p2 &&& (2147483647 : Int32)) = n2x)]
        show Steps p.tables e below (s₁.setTop (mkF m 49 #[iv p0, iv p1, iv p2, iv p3, iv n0, iv n1, .unset, .unset, .unset, .unset, .unset, .unset, .unset, .unset, .unset, .unset, .unset, .unset, .unset, .unset, .unset, .unset, .unset, .unset, .unset, .unset, .unset] [(.int n2x)])) t
        exact k
      ·
        simp only [if_neg hc759] at k
        refine XS.ifNo X0.here hx rfl (hb hby at_37) rfl ((if0 _ _).trans (feq hc759).1) (?_ : Steps p.tables e below (s₁.setTop (mkF m 40 #[iv p0, iv p1, iv p2, iv p3, iv n0, iv n1, .unset, .unset, .unset, .unset, .unset, .unset, .unset, .unset, .unset, .unset, .unset, .unset, .unset, .unset, .unset, .unset, .unset, .unset, .unset, .unset, .unset] [])) t)
        refine XS.iload X0.here hx rfl (hb hby at_40) rfl (?_ : Steps p.tables e below (s₁.setTop (mkF m 42 #[iv p0, iv p1, iv p2, iv p3, iv n0, iv n1, .unset, .unset, .unset, .unset, .unset, .unset, .unset, .unset, .unset, .unset, .unset, .unset, .unset, .unset, .unset, .unset, .unset, .unset, .unset, .unset, .unset] [(.int n1)])) t)
        refine XS.goto X0.here hx rfl (pc0 := 42) (pc' := 49) rfl (hb hby at_42) (by decide) (by decide) (?_ : Steps p.tables e below (s₁.setTop (mkF m 49 #[iv p0, iv p1, iv p2, iv p3, iv n0, iv n1, .unset, .unset, .unset, .unset, .unset, .unset, .unset, .unset, .unset, .unset, .unset, .unset, .unset, .unset, .unset, .unset, .unset, .unset, .unset, .unset, .unset] [(.int n1)])) t)
        exact k
    ·
      simp only [if_neg hc758] at k
      refine XS.ifNo X0.here hx rfl (hb hby at_26) rfl ((if0 _ _).trans (feq hc758).1) (?_ : Steps p.tables e below (s₁.setTop (mkF m 29 #[iv p0, iv p1, iv p2, iv p3, iv n0, iv n1, .unset, .unset, .unset, .unset, .unset, .unset, .unset, .unset, .unset, .unset, .unset, .unset, .unset, .unset, .unset, .unset, .unset, .unset, .unset, .unset, .unset] [])) t)
      refine XS.iload X0.here hx rfl (hb hby at_29) rfl (?_ : Steps p.tables e below (s₁.setTop (mkF m 31 #[iv p0, iv p1, iv p2, iv p3, iv n0, iv n1, .unset, .unset, .unset, .unset, .unset, .unset, .unset, .unset, .unset, .unset, .unset, .unset, .unset, .unset, .unset, .unset, .unset, .unset, .unset, .unset, .unset] [(.int n0)])) t)
      refine XS.goto X0.here hx rfl (pc0 := 31) (pc' := 49) rfl (hb hby at_31) (by decide) (by decide) (?_ : Steps p.tables e below (s₁.setTop (mkF m 49 #[iv p0, iv p1, iv p2, iv p3, iv n0, iv n1, .unset, .unset, .unset, .unset, .unset, .unset, .unset, .unset, .unset, .unset, .unset, .unset, .unset, .unset, .unset, .unset, .unset, .unset, .unset, .unset, .unset] [(.int n0)])) t)
      exact k
  refine Go.on R757 ?_
  have zn2 : ¬ n2 < 0 := by rw [← hr_n2]; split <;> (try split) <;> assumption
  refine Go.on (w := s₁.setTop (mkF m 60 #[iv p0, iv p1, iv p2, iv p3, iv n0, iv n1, iv n2, iv (((p3.toUInt32 >>> ((3 : Int32) &&& 31).toUInt32).toInt32) &&& 3), .unset, .unset, .unset, .unset, .unset, .unset, .unset, .unset, .unset, .unset, .unset, .unset, .unset, .unset, .unset, .unset, .unset, .unset, .unset] [(.int (((p3.toUInt32 >>> ((3 : Int32) &&& 31).toUInt32).toInt32) &&& (3 : Int32)))])) (fun t k => XS.istore X0.here hx rfl (hb hby at_49) rfl (l' := #[iv p0, iv p1, iv p2, iv p3, iv n0, iv n1, iv n2, .unset, .unset, .unset, .unset, .unset, .unset, .unset, .unset, .unset, .unset, .unset, .unset, .unset, .unset, .unset, .unset, .unset, .unset, .unset, .unset]) rfl (XS.iloadN X0.here hx rfl (hb hby at_51) rfl (XS.iconst X0.here hx rfl (hb hby at_52) (XS.iushr X0.here hx rfl (hb hby at_53) rfl (XS.iconst X0.here hx rfl (hb hby at_54) (XS.iand X0.here hx rfl (hb hby at_55) rfl (XS.istore X0.here hx rfl (hb hby at_56) rfl (l' := #[iv p0, iv p1, iv p2, iv p3, iv n0, iv n1, iv n2, iv (((p3.toUInt32 >>> ((3 : Int32) &&& 31).toUInt32).toInt32) &&& 3), .unset, .unset, .unset, .unset, .unset, .unset, .unset, .unset, .unset, .unset, .unset, .unset, .unset, .unset, .unset, .unset, .unset, .unset, .unset]) rfl (XS.iload X0.here hx rfl (hb hby at_58) rfl k)))))))) ?_
  obtain ⟨tg, hr_tg⟩ : ∃ z : Int32, (if (((p3.toUInt32 >>> ((3 : Int32) &&& 31).toUInt32).toInt32) &&& (3 : Int32)) = (0 : Int32) then n0 else (if (((p3.toUInt32 >>> ((3 : Int32) &&& 31).toUInt32).toInt32) &&& (3 : Int32)) = (1 : Int32) then n1 else n2)) = z := ⟨_, rfl⟩
  have R760 : ∀ t, Steps p.tables e below (s₁.setTop (mkF m 81 #[iv p0, iv p1, iv p2, iv p3, iv n0, iv n1, iv n2, iv (((p3.toUInt32 >>> ((3 : Int32) &&& 31).toUInt32).toInt32) &&& 3), .unset, .unset, .unset, .unset, .unset, .unset, .unset, .unset, .unset, .unset, .unset, .unset, .unset, .unset, .unset, .unset, .unset, .unset, .unset] [(.int tg)])) t → Steps p.tables e below (s₁.setTop (mkF m 60 #[iv p0, iv p1, iv p2, iv p3, iv n0, iv n1, iv n2, iv (((p3.toUInt32 >>> ((3 : Int32) &&& 31).toUInt32).toInt32) &&& 3), .unset, .unset, .unset, .unset, .unset, .unset, .unset, .unset, .unset, .unset, .unset, .unset, .unset, .unset, .unset, .unset, .unset, .unset, .unset] [(.int (((p3.toUInt32 >>> ((3 : Int32) &&& 31).toUInt32).toInt32) &&& (3 : Int32)))])) t := by
    intro t k
    subst hr_tg
    by_cases hc761 : (((p3.toUInt32 >>> ((3 : Int32) &&& 31).toUInt32).toInt32) &&& (3 : Int32)) = (0 : Int32)
    ·
      simp only [if_pos hc761] at k
      refine XS.ifNo X0.here hx rfl (hb hby at_60) rfl ((if0 _ _).trans (teq hc761).2) (?_ : Steps p.tables e below (s₁.setTop (mkF m 63 #[iv p0, iv p1, iv p2, iv p3, iv n0, iv n1, iv n2, iv (((p3.toUInt32 >>> ((3 : Int32) &&& 31).toUInt32).toInt32) &&& 3), .unset, .unset, .unset, .unset, .unset, .unset, .unset, .unset, .unset, .unset, .unset, .unset, .unset, .unset, .unset, .unset, .unset, .unset, .unset] [])) t)
      refine XS.iload X0.here hx rfl (hb hby at_63) rfl (?_ : Steps p.tables e below (s₁.setTop (mkF m 65 #[iv p0, iv p1, iv p2, iv p3, iv n0, iv n1, iv n2, iv (((p3.toUInt32 >>> ((3 : Int32) &&& 31).toUInt32).toInt32) &&& 3), .unset, .unset, .unset, .unset, .unset, .unset, .unset, .unset, .unset, .unset, .unset, .unset, .unset, .unset, .unset, .unset, .unset, .unset, .unset] [(.int n0)])) t)
      refine XS.goto X0.here hx rfl (pc0 := 65) (pc' := 81) rfl (hb hby at_65) (by decide) (by decide) (?_ : Steps p.tables e below (s₁.setTop (mkF m 81 #[iv p0, iv p1, iv p2, iv p3, iv n0, iv n1, iv n2, iv (((p3.toUInt32 >>> ((3 : Int32) &&& 31).toUInt32).toInt32) &&& 3), .unset, .unset, .unset, .unset, .unset, .unset, .unset, .unset, .unset, .unset, .unset, .unset, .unset, .unset, .unset, .unset, .unset, .unset, .unset] [(.int n0)])) t)
      exact k
    ·
      simp only [if_neg hc761] at k
      refine XS.ifYes X0.here hx rfl (pc0 := 60) (pc' := 68) rfl (hb hby at_60) rfl ((if0 _ _).trans (feq hc761).2) (by decide) (by decide) (?_ : Steps p.tables e below (s₁.setTop (mkF m 68 #[iv p0, iv p1, iv p2, iv p3, iv n0, iv n1, iv n2, iv (((p3.toUInt32 >>> ((3 : Int32) &&& 31).toUInt32).toInt32) &&& 3), .unset, .unset, .unset, .unset, .unset, .unset, .unset, .unset, .unset, .unset, .unset, .unset, .unset, .unset, .unset, .unset, .unset, .unset, .unset] [])) t)
      refine XS.iload X0.here hx rfl (hb hby at_68) rfl (?_ : Steps p.tables e below (s₁.setTop (mkF m 70 #[iv p0, iv p1, iv p2, iv p3, iv n0, iv n1, iv n2, iv (((p3.toUInt32 >>> ((3 : Int32) &&& 31).toUInt32).toInt32) &&& 3), .unset, .unset, .unset, .unset, .unset, .unset, .unset, .unset, .unset, .unset, .unset, .unset, .unset, .unset, .unset, .unset, .unset, .unset, .unset] [(.int (((p3.toUInt32 >>> ((3 : Int32) &&& 31).toUInt32).toInt32) &&& (3 : Int32)))])) t)
      refine XS.iconst X0.here hx rfl (hb hby at_70) (?_ : Steps p.tables e below (s₁.setTop (mkF m 71 #[iv p0, iv p1, iv p2, iv p3, iv n0, iv n1, iv n2, iv (((p3.toUInt32 >>> ((3 : Int32) &&& 31).toUInt32).toInt32) &&& 3), .unset, .unset, .unset, .unset, .unset, .unset, .unset, .unset, .unset, .unset, .unset, .unset, .unset, .unset, .unset, .unset, .unset, .unset, .unset] [(.int 1), (.int (((p3.toUInt32 >>> ((3 : Int32) &&& 31).toUInt32).toInt32) &&& (3 : Int32)))])) t)
      by_cases hc762 : (((p3.toUInt32 >>> ((3 : Int32) &&& 31).toUInt32).toInt32) &&& (3 : Int32)) = (1 : Int32)
      ·
        simp only [if_pos hc762] at k
        refine XS.icmpNo X0.here hx rfl (hb hby at_71) rfl (teq hc762).2 (?_ : Steps p.tables e below (s₁.setTop (mkF m 74 #[iv p0, iv p1, iv p2, iv p3, iv n0, iv n1, iv n2, iv (((p3.toUInt32 >>> ((3 : Int32) &&& 31).toUInt32).toInt32) &&& 3), .unset, .unset, .unset, .unset, .unset, .unset, .unset, .unset, .unset, .unset, .unset, .unset, .unset, .unset, .unset, .unset, .unset, .unset, .unset] [])) t)
        refine XS.iload X0.here hx rfl (hb hby at_74) rfl (?_ : Steps p.tables e below (s₁.setTop (mkF m 76 #[iv p0, iv p1, iv p2, iv p3, iv n0, iv n1, iv n2, iv (((p3.toUInt32 >>> ((3 : Int32) &&& 31).toUInt32).toInt32) &&& 3), .unset, .unset, .unset, .unset, .unset, .unset, .unset, .unset, .unset, .unset, .unset, .unset, .unset, .unset, .unset, .unset, .unset, .unset, .unset] [(.int n1)])) t)
        refine XS.goto X0.here hx rfl (pc0 := 76) (pc' := 81) rfl (hb hby at_76) (by decide) (by decide) (?_ : Steps p.tables e below (s₁.setTop (mkF m 81 #[iv p0, iv p1, iv p2, iv p3, iv n0, iv n1, iv n2, iv (((p3.toUInt32 >>> ((3 : Int32) &&& 31).toUInt32).toInt32) &&& 3), .unset, .unset, .unset, .unset, .unset, .unset, .unset, .unset, .unset, .unset, .unset, .unset, .unset, .unset, .unset, .unset, .unset, .unset, .unset] [(.int n1)])) t)
        exact k
      ·
        simp only [if_neg hc762] at k
        refine XS.icmpYes X0.here hx rfl (pc0 := 71) (pc' := 79) rfl (hb hby at_71) rfl (feq hc762).2 (by decide) (by decide) (?_ : Steps p.tables e below (s₁.setTop (mkF m 79 #[iv p0, iv p1, iv p2, iv p3, iv n0, iv n1, iv n2, iv (((p3.toUInt32 >>> ((3 : Int32) &&& 31).toUInt32).toInt32) &&& 3), .unset, .unset, .unset, .unset, .unset, .unset, .unset, .unset, .unset, .unset, .unset, .unset, .unset, .unset, .unset, .unset, .unset, .unset, .unset] [])) t)
        refine XS.iload X0.here hx rfl (hb hby at_79) rfl (?_ : Steps p.tables e below (s₁.setTop (mkF m 81 #[iv p0, iv p1, iv p2, iv p3, iv n0, iv n1, iv n2, iv (((p3.toUInt32 >>> ((3 : Int32) &&& 31).toUInt32).toInt32) &&& 3), .unset, .unset, .unset, .unset, .unset, .unset, .unset, .unset, .unset, .unset, .unset, .unset, .unset, .unset, .unset, .unset, .unset, .unset, .unset] [(.int n2)])) t)
        exact k
  refine Go.on R760 ?_
  have ht : tg = n0 ∨ tg = n1 ∨ tg = n2 := own_t hr_tg
  refine Go.on (w := s₁.setTop (mkF m 87 #[iv p0, iv p1, iv p2, iv p3, iv n0, iv n1, iv n2, iv (((p3.toUInt32 >>> ((3 : Int32) &&& 31).toUInt32).toInt32) &&& 3), iv tg, .unset, .unset, .unset, .unset, .unset, .unset, .unset, .unset, .unset, .unset, .unset, .unset, .unset, .unset, .unset, .unset, .unset, .unset] [(.int tg), (.int n0)])) (fun t k => XS.istore X0.here hx rfl (hb hby at_81) rfl (l' := #[iv p0, iv p1, iv p2, iv p3, iv n0, iv n1, iv n2, iv (((p3.toUInt32 >>> ((3 : Int32) &&& 31).toUInt32).toInt32) &&& 3), iv tg, .unset, .unset, .unset, .unset, .unset, .unset, .unset, .unset, .unset, .unset, .unset, .unset, .unset, .unset, .unset, .unset, .unset, .unset]) rfl (XS.iload X0.here hx rfl (hb hby at_83) rfl (XS.iload X0.here hx rfl (hb hby at_85) rfl k))) ?_
  obtain ⟨b0, hr_b0⟩ : ∃ z : Int32, (if n0 = tg then (1 : Int32) else (0 : Int32)) = z := ⟨_, rfl⟩
  have R763 : ∀ t, Steps p.tables e below (s₁.setTop (mkF m 95 #[iv p0, iv p1, iv p2, iv p3, iv n0, iv n1, iv n2, iv (((p3.toUInt32 >>> ((3 : Int32) &&& 31).toUInt32).toInt32) &&& 3), iv tg, .unset, .unset, .unset, .unset, .unset, .unset, .unset, .unset, .unset, .unset, .unset, .unset, .unset, .unset, .unset, .unset, .unset, .unset] [(.int b0)])) t → Steps p.tables e below (s₁.setTop (mkF m 87 #[iv p0, iv p1, iv p2, iv p3, iv n0, iv n1, iv n2, iv (((p3.toUInt32 >>> ((3 : Int32) &&& 31).toUInt32).toInt32) &&& 3), iv tg, .unset, .unset, .unset, .unset, .unset, .unset, .unset, .unset, .unset, .unset, .unset, .unset, .unset, .unset, .unset, .unset, .unset, .unset] [(.int tg), (.int n0)])) t := by
    intro t k
    subst hr_b0
    by_cases hc764 : n0 = tg
    ·
      simp only [if_pos hc764] at k
      refine XS.icmpNo X0.here hx rfl (hb hby at_87) rfl (teq hc764).2 (?_ : Steps p.tables e below (s₁.setTop (mkF m 90 #[iv p0, iv p1, iv p2, iv p3, iv n0, iv n1, iv n2, iv (((p3.toUInt32 >>> ((3 : Int32) &&& 31).toUInt32).toInt32) &&& 3), iv tg, .unset, .unset, .unset, .unset, .unset, .unset, .unset, .unset, .unset, .unset, .unset, .unset, .unset, .unset, .unset, .unset, .unset, .unset] [])) t)
      refine XS.iconst X0.here hx rfl (hb hby at_90) (?_ : Steps p.tables e below (s₁.setTop (mkF m 91 #[iv p0, iv p1, iv p2, iv p3, iv n0, iv n1, iv n2, iv (((p3.toUInt32 >>> ((3 : Int32) &&& 31).toUInt32).toInt32) &&& 3), iv tg, .unset, .unset, .unset, .unset, .unset, .unset, .unset, .unset, .unset, .unset, .unset, .unset, .unset, .unset, .unset, .unset, .unset, .unset] [(.int 1)])) t)
      refine XS.goto X0.here hx rfl (pc0 := 91) (pc' := 95) rfl (hb hby at_91) (by decide) (by decide) (?_ : Steps p.tables e below (s₁.setTop (mkF m 95 #[iv p0, iv p1, iv p2, iv p3, iv n0, iv n1, iv n2, iv (((p3.toUInt32 >>> ((3 : Int32) &&& 31).toUInt32).toInt32) &&& 3), iv tg, .unset, .unset, .unset, .unset, .unset, .unset, .unset, .unset, .unset, .unset, .unset, .unset, .unset, .unset, .unset, .unset, .unset, .unset] [(.int 1)])) t)
      exact k
    ·
      simp only [if_neg hc764] at k
      refine XS.icmpYes X0.here hx rfl (pc0 := 87) (pc' := 94) rfl (hb hby at_87) rfl (feq hc764).2 (by decide) (by decide) (?_ : Steps p.tables e below (s₁.setTop (mkF m 94 #[iv p0, iv p1, iv p2, iv p3, iv n0, iv n1, iv n2, iv (((p3.toUInt32 >>> ((3 : Int32) &&& 31).toUInt32).toInt32) &&& 3), iv tg, .unset, .unset, .unset, .unset, .unset, .unset, .unset, .unset, .unset, .unset, .unset, .unset, .unset, .unset, .unset, .unset, .unset, .unset] [])) t)
      refine XS.iconst X0.here hx rfl (hb hby at_94) (?_ : Steps p.tables e below (s₁.setTop (mkF m 95 #[iv p0, iv p1, iv p2, iv p3, iv n0, iv n1, iv n2, iv (((p3.toUInt32 >>> ((3 : Int32) &&& 31).toUInt32).toInt32) &&& 3), iv tg, .unset, .unset, .unset, .unset, .unset, .unset, .unset, .unset, .unset, .unset, .unset, .unset, .unset, .unset, .unset, .unset, .unset, .unset] [(.int 0)])) t)
      exact k
  refine Go.on R763 ?_
  refine Go.on (w := s₁.setTop (mkF m 101 #[iv p0, iv p1, iv p2, iv p3, iv n0, iv n1, iv n2, iv (((p3.toUInt32 >>> ((3 : Int32) &&& 31).toUInt32).toInt32) &&& 3), iv tg, iv b0, .unset, .unset, .unset, .unset, .unset, .unset, .unset, .unset, .unset, .unset, .unset, .unset, .unset, .unset, .unset, .unset, .unset] [(.int tg), (.int n1)])) (fun t k => XS.istore X0.here hx rfl (hb hby at_95) rfl (l' := #[iv p0, iv p1, iv p2, iv p3, iv n0, iv n1, iv n2, iv (((p3.toUInt32 >>> ((3 : Int32) &&& 31).toUInt32).toInt32) &&& 3), iv tg, iv b0, .unset, .unset, .unset, .unset, .unset, .unset, .unset, .unset, .unset, .unset, .unset, .unset, .unset, .unset, .unset, .unset, .unset]) rfl (XS.iload X0.here hx rfl (hb hby at_97) rfl (XS.iload X0.here hx rfl (hb hby at_99) rfl k))) ?_
  obtain ⟨b1, hr_b1⟩ : ∃ z : Int32, (if n1 = tg then (1 : Int32) else (0 : Int32)) = z := ⟨_, rfl⟩
  have R765 : ∀ t, Steps p.tables e below (s₁.setTop (mkF m 109 #[iv p0, iv p1, iv p2, iv p3, iv n0, iv n1, iv n2, iv (((p3.toUInt32 >>> ((3 : Int32) &&& 31).toUInt32).toInt32) &&& 3), iv tg, iv b0, .unset, .unset, .unset, .unset, .unset, .unset, .unset, .unset, .unset, .unset, .unset, .unset, .unset, .unset, .unset, .unset, .unset] [(.int b1)])) t → Steps p.tables e below (s₁.setTop (mkF m 101 #[iv p0, iv p1, iv p2, iv p3, iv n0, iv n1, iv n2, iv (((p3.toUInt32 >>> ((3 : Int32) &&& 31).toUInt32).toInt32) &&& 3), iv tg, iv b0, .unset, .unset, .unset, .unset, .unset, .unset, .unset, .unset, .unset, .unset, .unset, .unset, .unset, .unset, .unset, .unset, .unset] [(.int tg), (.int n1)])) t := by
    intro t k
    subst hr_b1
    by_cases hc766 : n1 = tg
    ·
      simp only [if_pos hc766] at k
      refine XS.icmpNo X0.here hx rfl (hb hby at_101) rfl (teq hc766).2 (?_ : Steps p.tables e below (s₁.setTop (mkF m 104 #[iv p0, iv p1, iv p2, iv p3, iv n0, iv n1, iv n2, iv (((p3.toUInt32 >>> ((3 : Int32) &&& 31).toUInt32).toInt32) &&& 3), iv tg, iv b0, .unset, .unset, .unset, .unset, .unset, .unset, .unset, .unset, .unset, .unset, .unset, .unset, .unset, .unset, .unset, .unset, .unset] [])) t)
      refine XS.iconst X0.here hx rfl (hb hby at_104) (?_ : Steps p.tables e below (s₁.setTop (mkF m 105 #[iv p0, iv p1, iv p2, iv p3, iv n0, iv n1, iv n2, iv (((p3.toUInt32 >>> ((3 : Int32) &&& 31).toUInt32).toInt32) &&& 3), iv tg, iv b0, .unset, .unset, .unset, .unset, .unset, .unset, .unset, .unset, .unset, .unset, .unset, .unset, .unset, .unset, .unset, .unset, .unset] [(.int 1)])) t)
      refine XS.goto X0.here hx rfl (pc0 := 105) (pc' := 109) rfl (hb hby at_105) (by decide) (by decide) (?_ : Steps p.tables e below (s₁.setTop (mkF m 109 #[iv p0, iv p1, iv p2, iv p3, iv n0, iv n1, iv n2, iv (((p3.toUInt32 >>> ((3 : Int32) &&& 31).toUInt32).toInt32) &&& 3), iv tg, iv b0, .unset, .unset, .unset, .unset, .unset, .unset, .unset, .unset, .unset, .unset, .unset, .unset, .unset, .unset, .unset, .unset, .unset] [(.int 1)])) t)
      exact k
    ·
      simp only [if_neg hc766] at k
      refine XS.icmpYes X0.here hx rfl (pc0 := 101) (pc' := 108) rfl (hb hby at_101) rfl (feq hc766).2 (by decide) (by decide) (?_ : Steps p.tables e below (s₁.setTop (mkF m 108 #[iv p0, iv p1, iv p2, iv p3, iv n0, iv n1, iv n2, iv (((p3.toUInt32 >>> ((3 : Int32) &&& 31).toUInt32).toInt32) &&& 3), iv tg, iv b0, .unset, .unset, .unset, .unset, .unset, .unset, .unset, .unset, .unset, .unset, .unset, .unset, .unset, .unset, .unset, .unset, .unset] [])) t)
      refine XS.iconst X0.here hx rfl (hb hby at_108) (?_ : Steps p.tables e below (s₁.setTop (mkF m 109 #[iv p0, iv p1, iv p2, iv p3, iv n0, iv n1, iv n2, iv (((p3.toUInt32 >>> ((3 : Int32) &&& 31).toUInt32).toInt32) &&& 3), iv tg, iv b0, .unset, .unset, .unset, .unset, .unset, .unset, .unset, .unset, .unset, .unset, .unset, .unset, .unset, .unset, .unset, .unset, .unset] [(.int 0)])) t)
      exact k
  refine Go.on R765 ?_
  refine Go.on (w := s₁.setTop (mkF m 115 #[iv p0, iv p1, iv p2, iv p3, iv n0, iv n1, iv n2, iv (((p3.toUInt32 >>> ((3 : Int32) &&& 31).toUInt32).toInt32) &&& 3), iv tg, iv b0, iv b1, .unset, .unset, .unset, .unset, .unset, .unset, .unset, .unset, .unset, .unset, .unset, .unset, .unset, .unset, .unset, .unset] [(.int tg), (.int n2)])) (fun t k => XS.istore X0.here hx rfl (hb hby at_109) rfl (l' := #[iv p0, iv p1, iv p2, iv p3, iv n0, iv n1, iv n2, iv (((p3.toUInt32 >>> ((3 : Int32) &&& 31).toUInt32).toInt32) &&& 3), iv tg, iv b0, iv b1, .unset, .unset, .unset, .unset, .unset, .unset, .unset, .unset, .unset, .unset, .unset, .unset, .unset, .unset, .unset, .unset]) rfl (XS.iload X0.here hx rfl (hb hby at_111) rfl (XS.iload X0.here hx rfl (hb hby at_113) rfl k))) ?_
  obtain ⟨b2, hr_b2⟩ : ∃ z : Int32, (if n2 = tg then (1 : Int32) else (0 : Int32)) = z := ⟨_, rfl⟩
  have R767 : ∀ t, Steps p.tables e below (s₁.setTop (mkF m 123 #[iv p0, iv p1, iv p2, iv p3, iv n0, iv n1, iv n2, iv (((p3.toUInt32 >>> ((3 : Int32) &&& 31).toUInt32).toInt32) &&& 3), iv tg, iv b0, iv b1, .unset, .unset, .unset, .unset, .unset, .unset, .unset, .unset, .unset, .unset, .unset, .unset, .unset, .unset, .unset, .unset] [(.int b2)])) t → Steps p.tables e below (s₁.setTop (mkF m 115 #[iv p0, iv p1, iv p2, iv p3, iv n0, iv n1, iv n2, iv (((p3.toUInt32 >>> ((3 : Int32) &&& 31).toUInt32).toInt32) &&& 3), iv tg, iv b0, iv b1, .unset, .unset, .unset, .unset, .unset, .unset, .unset, .unset, .unset, .unset, .unset, .unset, .unset, .unset, .unset, .unset] [(.int tg), (.int n2)])) t := by
    intro t k
    subst hr_b2
    by_cases hc768 : n2 = tg
    ·
      simp only [if_pos hc768] at k
      refine XS.icmpNo X0.here hx rfl (hb hby at_115) rfl (teq hc768).2 (?_ : Steps p.tables e below (s₁.setTop (mkF m 118 #[iv p0, iv p1, iv p2, iv p3, iv n0, iv n1, iv n2, iv (((p3.toUInt32 >>> ((3 : Int32) &&& 31).toUInt32).toInt32) &&& 3), iv tg, iv b0, iv b1, .unset, .unset, .unset, .unset, .unset, .unset, .unset, .unset, .unset, .unset, .unset, .unset, .unset, .unset, .unset, .unset] [])) t)
      refine XS.iconst X0.here hx rfl (hb hby at_118) (?_ : Steps p.tables e below (s₁.setTop (mkF m 119 #[iv p0, iv p1, iv p2, iv p3, iv n0, iv n1, iv n2, iv (((p3.toUInt32 >>> ((3 : Int32) &&& 31).toUInt32).toInt32) &&& 3), iv tg, iv b0, iv b1, .unset, .unset, .unset, .unset, .unset, .unset, .unset, .unset, .unset, .unset, .unset, .unset, .unset, .unset, .unset, .unset] [(.int 1)])) t)
      refine XS.goto X0.here hx rfl (pc0 := 119) (pc' := 123) rfl (hb hby at_119) (by decide) (by decide) (?_ : Steps p.tables e below (s₁.setTop (mkF m 123 #[iv p0, iv p1, iv p2, iv p3, iv n0, iv n1, iv n2, iv (((p3.toUInt32 >>> ((3 : Int32) &&& 31).toUInt32).toInt32) &&& 3), iv tg, iv b0, iv b1, .unset, .unset, .unset, .unset, .unset, .unset, .unset, .unset, .unset, .unset, .unset, .unset, .unset, .unset, .unset, .unset] [(.int 1)])) t)
      exact k
    ·
      simp only [if_neg hc768] at k
      refine XS.icmpYes X0.here hx rfl (pc0 := 115) (pc' := 122) rfl (hb hby at_115) rfl (feq hc768).2 (by decide) (by decide) (?_ : Steps p.tables e below (s₁.setTop (mkF m 122 #[iv p0, iv p1, iv p2, iv p3, iv n0, iv n1, iv n2, iv (((p3.toUInt32 >>> ((3 : Int32) &&& 31).toUInt32).toInt32) &&& 3), iv tg, iv b0, iv b1, .unset, .unset, .unset, .unset, .unset, .unset, .unset, .unset, .unset, .unset, .unset, .unset, .unset, .unset, .unset, .unset] [])) t)
      refine XS.iconst X0.here hx rfl (hb hby at_122) (?_ : Steps p.tables e below (s₁.setTop (mkF m 123 #[iv p0, iv p1, iv p2, iv p3, iv n0, iv n1, iv n2, iv (((p3.toUInt32 >>> ((3 : Int32) &&& 31).toUInt32).toInt32) &&& 3), iv tg, iv b0, iv b1, .unset, .unset, .unset, .unset, .unset, .unset, .unset, .unset, .unset, .unset, .unset, .unset, .unset, .unset, .unset, .unset] [(.int 0)])) t)
      exact k
  refine Go.on R767 ?_
  refine Go.on (w := s₁.setTop (mkF m 127 #[iv p0, iv p1, iv p2, iv p3, iv n0, iv n1, iv n2, iv (((p3.toUInt32 >>> ((3 : Int32) &&& 31).toUInt32).toInt32) &&& 3), iv tg, iv b0, iv b1, iv b2, .unset, .unset, .unset, .unset, .unset, .unset, .unset, .unset, .unset, .unset, .unset, .unset, .unset, .unset, .unset] [(.int b0)])) (fun t k => XS.istore X0.here hx rfl (hb hby at_123) rfl (l' := #[iv p0, iv p1, iv p2, iv p3, iv n0, iv n1, iv n2, iv (((p3.toUInt32 >>> ((3 : Int32) &&& 31).toUInt32).toInt32) &&& 3), iv tg, iv b0, iv b1, iv b2, .unset, .unset, .unset, .unset, .unset, .unset, .unset, .unset, .unset, .unset, .unset, .unset, .unset, .unset, .unset]) rfl (XS.iload X0.here hx rfl (hb hby at_125) rfl k)) ?_
  obtain ⟨w0, hr_w0⟩ : ∃ z : Int32, (if b0 = (0 : Int32) then (0 : Int32) else (1 : Int32)) = z := ⟨_, rfl⟩
  have R769 : ∀ t, Steps p.tables e below (s₁.setTop (mkF m 135 #[iv p0, iv p1, iv p2, iv p3, iv n0, iv n1, iv n2, iv (((p3.toUInt32 >>> ((3 : Int32) &&& 31).toUInt32).toInt32) &&& 3), iv tg, iv b0, iv b1, iv b2, .unset, .unset, .unset, .unset, .unset, .unset, .unset, .unset, .unset, .unset, .unset, .unset, .unset, .unset, .unset] [(.int w0)])) t → Steps p.tables e below (s₁.setTop (mkF m 127 #[iv p0, iv p1, iv p2, iv p3, iv n0, iv n1, iv n2, iv (((p3.toUInt32 >>> ((3 : Int32) &&& 31).toUInt32).toInt32) &&& 3), iv tg, iv b0, iv b1, iv b2, .unset, .unset, .unset, .unset, .unset, .unset, .unset, .unset, .unset, .unset, .unset, .unset, .unset, .unset, .unset] [(.int b0)])) t := by
    intro t k
    subst hr_w0
    by_cases hc770 : b0 = (0 : Int32)
    ·
      simp only [if_pos hc770] at k
      refine XS.ifYes X0.here hx rfl (pc0 := 127) (pc' := 134) rfl (hb hby at_127) rfl ((if0 _ _).trans (teq hc770).1) (by decide) (by decide) (?_ : Steps p.tables e below (s₁.setTop (mkF m 134 #[iv p0, iv p1, iv p2, iv p3, iv n0, iv n1, iv n2, iv (((p3.toUInt32 >>> ((3 : Int32) &&& 31).toUInt32).toInt32) &&& 3), iv tg, iv b0, iv b1, iv b2, .unset, .unset, .unset, .unset, .unset, .unset, .unset, .unset, .unset, .unset, .unset, .unset, .unset, .unset, .unset] [])) t)
      refine XS.iconst X0.here hx rfl (hb hby at_134) (?_ : Steps p.tables e below (s₁.setTop (mkF m 135 #[iv p0, iv p1, iv p2, iv p3, iv n0, iv n1, iv n2, iv (((p3.toUInt32 >>> ((3 : Int32) &&& 31).toUInt32).toInt32) &&& 3), iv tg, iv b0, iv b1, iv b2, .unset, .unset, .unset, .unset, .unset, .unset, .unset, .unset, .unset, .unset, .unset, .unset, .unset, .unset, .unset] [(.int 0)])) t)
      exact k
    ·
      simp only [if_neg hc770] at k
      refine XS.ifNo X0.here hx rfl (hb hby at_127) rfl ((if0 _ _).trans (feq hc770).1) (?_ : Steps p.tables e below (s₁.setTop (mkF m 130 #[iv p0, iv p1, iv p2, iv p3, iv n0, iv n1, iv n2, iv (((p3.toUInt32 >>> ((3 : Int32) &&& 31).toUInt32).toInt32) &&& 3), iv tg, iv b0, iv b1, iv b2, .unset, .unset, .unset, .unset, .unset, .unset, .unset, .unset, .unset, .unset, .unset, .unset, .unset, .unset, .unset] [])) t)
      refine XS.iconst X0.here hx rfl (hb hby at_130) (?_ : Steps p.tables e below (s₁.setTop (mkF m 131 #[iv p0, iv p1, iv p2, iv p3, iv n0, iv n1, iv n2, iv (((p3.toUInt32 >>> ((3 : Int32) &&& 31).toUInt32).toInt32) &&& 3), iv tg, iv b0, iv b1, iv b2, .unset, .unset, .unset, .unset, .unset, .unset, .unset, .unset, .unset, .unset, .unset, .unset, .unset, .unset, .unset] [(.int 1)])) t)
      refine XS.goto X0.here hx rfl (pc0 := 131) (pc' := 135) rfl (hb hby at_131) (by decide) (by decide) (?_ : Steps p.tables e below (s₁.setTop (mkF m 135 #[iv p0, iv p1, iv p2, iv p3, iv n0, iv n1, iv n2, iv (((p3.toUInt32 >>> ((3 : Int32) &&& 31).toUInt32).toInt32) &&& 3), iv tg, iv b0, iv b1, iv b2, .unset, .unset, .unset, .unset, .unset, .unset, .unset, .unset, .unset, .unset, .unset, .unset, .unset, .unset, .unset] [(.int 1)])) t)
      exact k
  refine Go.on R769 ?_
  refine Go.on (w := s₁.setTop (mkF m 137 #[iv p0, iv p1, iv p2, iv p3, iv n0, iv n1, iv n2, iv (((p3.toUInt32 >>> ((3 : Int32) &&& 31).toUInt32).toInt32) &&& 3), iv tg, iv b0, iv b1, iv b2, .unset, .unset, .unset, .unset, .unset, .unset, .unset, .unset, .unset, .unset, .unset, .unset, .unset, .unset, .unset] [(.int b1), (.int w0)])) (fun t k => XS.iload X0.here hx rfl (hb hby at_135) rfl k) ?_
  obtain ⟨w1, hr_w1⟩ : ∃ z : Int32, (if b1 = (0 : Int32) then (0 : Int32) else (1 : Int32)) = z := ⟨_, rfl⟩
  have R771 : ∀ t, Steps p.tables e below (s₁.setTop (mkF m 145 #[iv p0, iv p1, iv p2, iv p3, iv n0, iv n1, iv n2, iv (((p3.toUInt32 >>> ((3 : Int32) &&& 31).toUInt32).toInt32) &&& 3), iv tg, iv b0, iv b1, iv b2, .unset, .unset, .unset, .unset, .unset, .unset, .unset, .unset, .unset, .unset, .unset, .unset, .unset, .unset, .unset] [(.int w1), (.int w0)])) t → Steps p.tables e below (s₁.setTop (mkF m 137 #[iv p0, iv p1, iv p2, iv p3, iv n0, iv n1, iv n2, iv (((p3.toUInt32 >>> ((3 : Int32) &&& 31).toUInt32).toInt32) &&& 3), iv tg, iv b0, iv b1, iv b2, .unset, .unset, .unset, .unset, .unset, .unset, .unset, .unset, .unset, .unset, .unset, .unset, .unset, .unset, .unset] [(.int b1), (.int w0)])) t := by
    intro t k
    subst hr_w1
    by_cases hc772 : b1 = (0 : Int32)
    ·
      simp only [if_pos hc772] at k
      refine XS.ifYes X0.here hx rfl (pc0 := 137) (pc' := 144) rfl (hb hby at_137) rfl ((if0 _ _).trans (teq hc772).1) (by decide) (by decide) (?_ : Steps p.tables e below (s₁.setTop (mkF m 144 #[iv p0, iv p1, iv p2, iv p3, iv n0, iv n1, iv n2, iv (((p3.toUInt32 >>> ((3 : Int32) &&& 31).toUInt32).toInt32) &&& 3), iv tg, iv b0, iv b1, iv b2, .unset, .unset, .unset, .unset, .unset, .unset, .unset, .unset, .unset, .unset, .unset, .unset, .unset, .unset, .unset] [(.int w0)])) t)
      refine XS.iconst X0.here hx rfl (hb hby at_144) (?_ : Steps p.tables e below (s₁.setTop (mkF m 145 #[iv p0, iv p1, iv p2, iv p3, iv n0, iv n1, iv n2, iv (((p3.toUInt32 >>> ((3 : Int32) &&& 31).toUInt32).toInt32) &&& 3), iv tg, iv b0, iv b1, iv b2, .unset, .unset, .unset, .unset, .unset, .unset, .unset, .unset, .unset, .unset, .unset, .unset, .unset, .unset, .unset] [(.int 0), (.int w0)])) t)
      exact k
    ·
      simp only [if_neg hc772] at k
      refine XS.ifNo X0.here hx rfl (hb hby at_137) rfl ((if0 _ _).trans (feq hc772).1) (?_ : Steps p.tables e below (s₁.setTop (mkF m 140 #[iv p0, iv p1, iv p2, iv p3, iv n0, iv n1, iv n2, iv (((p3.toUInt32 >>> ((3 : Int32) &&& 31).toUInt32).toInt32) &&& 3), iv tg, iv b0, iv b1, iv b2, .unset, .unset, .unset, .unset, .unset, .unset, .unset, .unset, .unset, .unset, .unset, .unset, .unset, .unset, .unset] [(.int w0)])) t)
      refine XS.iconst X0.here hx rfl (hb hby at_140) (?_ : Steps p.tables e below (s₁.setTop (mkF m 141 #[iv p0, iv p1, iv p2, iv p3, iv n0, iv n1, iv n2, iv (((p3.toUInt32 >>> ((3 : Int32) &&& 31).toUInt32).toInt32) &&& 3), iv tg, iv b0, iv b1, iv b2, .unset, .unset, .unset, .unset, .unset, .unset, .unset, .unset, .unset, .unset, .unset, .unset, .unset, .unset, .unset] [(.int 1), (.int w0)])) t)
      refine XS.goto X0.here hx rfl (pc0 := 141) (pc' := 145) rfl (hb hby at_141) (by decide) (by decide) (?_ : Steps p.tables e below (s₁.setTop (mkF m 145 #[iv p0, iv p1, iv p2, iv p3, iv n0, iv n1, iv n2, iv (((p3.toUInt32 >>> ((3 : Int32) &&& 31).toUInt32).toInt32) &&& 3), iv tg, iv b0, iv b1, iv b2, .unset, .unset, .unset, .unset, .unset, .unset, .unset, .unset, .unset, .unset, .unset, .unset, .unset, .unset, .unset] [(.int 1), (.int w0)])) t)
      exact k
  refine Go.on R771 ?_
  obtain ⟨ca, hr_ca⟩ : ∃ z : Int32, (w0 + w1) = z := ⟨_, rfl⟩
  refine Go.on (w := s₁.setTop (mkF m 146 #[iv p0, iv p1, iv p2, iv p3, iv n0, iv n1, iv n2, iv (((p3.toUInt32 >>> ((3 : Int32) &&& 31).toUInt32).toInt32) &&& 3), iv tg, iv b0, iv b1, iv b2, .unset, .unset, .unset, .unset, .unset, .unset, .unset, .unset, .unset, .unset, .unset, .unset, .unset, .unset, .unset] [(.int ca)])) (fun t k => XS.iadd X0.here hx rfl (hb hby at_145) rfl (by rw [hr_ca]; exact k)) ?_
  refine Go.on (w := s₁.setTop (mkF m 148 #[iv p0, iv p1, iv p2, iv p3, iv n0, iv n1, iv n2, iv (((p3.toUInt32 >>> ((3 : Int32) &&& 31).toUInt32).toInt32) &&& 3), iv tg, iv b0, iv b1, iv b2, .unset, .unset, .unset, .unset, .unset, .unset, .unset, .unset, .unset, .unset, .unset, .unset, .unset, .unset, .unset] [(.int b2), (.int ca)])) (fun t k => XS.iload X0.here hx rfl (hb hby at_146) rfl k) ?_
  obtain ⟨w2, hr_w2⟩ : ∃ z : Int32, (if b2 = (0 : Int32) then (0 : Int32) else (1 : Int32)) = z := ⟨_, rfl⟩
  have R773 : ∀ t, Steps p.tables e below (s₁.setTop (mkF m 156 #[iv p0, iv p1, iv p2, iv p3, iv n0, iv n1, iv n2, iv (((p3.toUInt32 >>> ((3 : Int32) &&& 31).toUInt32).toInt32) &&& 3), iv tg, iv b0, iv b1, iv b2, .unset, .unset, .unset, .unset, .unset, .unset, .unset, .unset, .unset, .unset, .unset, .unset, .unset, .unset, .unset] [(.int w2), (.int ca)])) t → Steps p.tables e below (s₁.setTop (mkF m 148 #[iv p0, iv p1, iv p2, iv p3, iv n0, iv n1, iv n2, iv (((p3.toUInt32 >>> ((3 : Int32) &&& 31).toUInt32).toInt32) &&& 3), iv tg, iv b0, iv b1, iv b2, .unset, .unset, .unset, .unset, .unset, .unset, .unset, .unset, .unset, .unset, .unset, .unset, .unset, .unset, .unset] [(.int b2), (.int ca)])) t := by
    intro t k
    subst hr_w2
    by_cases hc774 : b2 = (0 : Int32)
    ·
      simp only [if_pos hc774] at k
      refine XS.ifYes X0.here hx rfl (pc0 := 148) (pc' := 155) rfl (hb hby at_148) rfl ((if0 _ _).trans (teq hc774).1) (by decide) (by decide) (?_ : Steps p.tables e below (s₁.setTop (mkF m 155 #[iv p0, iv p1, iv p2, iv p3, iv n0, iv n1, iv n2, iv (((p3.toUInt32 >>> ((3 : Int32) &&& 31).toUInt32).toInt32) &&& 3), iv tg, iv b0, iv b1, iv b2, .unset, .unset, .unset, .unset, .unset, .unset, .unset, .unset, .unset, .unset, .unset, .unset, .unset, .unset, .unset] [(.int ca)])) t)
      refine XS.iconst X0.here hx rfl (hb hby at_155) (?_ : Steps p.tables e below (s₁.setTop (mkF m 156 #[iv p0, iv p1, iv p2, iv p3, iv n0, iv n1, iv n2, iv (((p3.toUInt32 >>> ((3 : Int32) &&& 31).toUInt32).toInt32) &&& 3), iv tg, iv b0, iv b1, iv b2, .unset, .unset, .unset, .unset, .unset, .unset, .unset, .unset, .unset, .unset, .unset, .unset, .unset, .unset, .unset] [(.int 0), (.int ca)])) t)
      exact k
    ·
      simp only [if_neg hc774] at k
      refine XS.ifNo X0.here hx rfl (hb hby at_148) rfl ((if0 _ _).trans (feq hc774).1) (?_ : Steps p.tables e below (s₁.setTop (mkF m 151 #[iv p0, iv p1, iv p2, iv p3, iv n0, iv n1, iv n2, iv (((p3.toUInt32 >>> ((3 : Int32) &&& 31).toUInt32).toInt32) &&& 3), iv tg, iv b0, iv b1, iv b2, .unset, .unset, .unset, .unset, .unset, .unset, .unset, .unset, .unset, .unset, .unset, .unset, .unset, .unset, .unset] [(.int ca)])) t)
      refine XS.iconst X0.here hx rfl (hb hby at_151) (?_ : Steps p.tables e below (s₁.setTop (mkF m 152 #[iv p0, iv p1, iv p2, iv p3, iv n0, iv n1, iv n2, iv (((p3.toUInt32 >>> ((3 : Int32) &&& 31).toUInt32).toInt32) &&& 3), iv tg, iv b0, iv b1, iv b2, .unset, .unset, .unset, .unset, .unset, .unset, .unset, .unset, .unset, .unset, .unset, .unset, .unset, .unset, .unset] [(.int 1), (.int ca)])) t)
      refine XS.goto X0.here hx rfl (pc0 := 152) (pc' := 156) rfl (hb hby at_152) (by decide) (by decide) (?_ : Steps p.tables e below (s₁.setTop (mkF m 156 #[iv p0, iv p1, iv p2, iv p3, iv n0, iv n1, iv n2, iv (((p3.toUInt32 >>> ((3 : Int32) &&& 31).toUInt32).toInt32) &&& 3), iv tg, iv b0, iv b1, iv b2, .unset, .unset, .unset, .unset, .unset, .unset, .unset, .unset, .unset, .unset, .unset, .unset, .unset, .unset, .unset] [(.int 1), (.int ca)])) t)
      exact k
  refine Go.on R773 ?_
  obtain ⟨cnt, hr_cnt⟩ : ∃ z : Int32, (ca + w2) = z := ⟨_, rfl⟩
  refine Go.on (w := s₁.setTop (mkF m 157 #[iv p0, iv p1, iv p2, iv p3, iv n0, iv n1, iv n2, iv (((p3.toUInt32 >>> ((3 : Int32) &&& 31).toUInt32).toInt32) &&& 3), iv tg, iv b0, iv b1, iv b2, .unset, .unset, .unset, .unset, .unset, .unset, .unset, .unset, .unset, .unset, .unset, .unset, .unset, .unset, .unset] [(.int cnt)])) (fun t k => XS.iadd X0.here hx rfl (hb hby at_156) rfl (by rw [hr_cnt]; exact k)) ?_
  refine Go.on (w := s₁.setTop (mkF m 163 #[iv p0, iv p1, iv p2, iv p3, iv n0, iv n1, iv n2, iv (((p3.toUInt32 >>> ((3 : Int32) &&& 31).toUInt32).toInt32) &&& 3), iv tg, iv b0, iv b1, iv b2, iv cnt, .unset, .unset, .unset, .unset, .unset, .unset, .unset, .unset, .unset, .unset, .unset, .unset, .unset, .unset] [(.int tg), (.int n0)])) (fun t k => XS.istore X0.here hx rfl (hb hby at_157) rfl (l' := #[iv p0, iv p1, iv p2, iv p3, iv n0, iv n1, iv n2, iv (((p3.toUInt32 >>> ((3 : Int32) &&& 31).toUInt32).toInt32) &&& 3), iv tg, iv b0, iv b1, iv b2, iv cnt, .unset, .unset, .unset, .unset, .unset, .unset, .unset, .unset, .unset, .unset, .unset, .unset, .unset, .unset]) rfl (XS.iload X0.here hx rfl (hb hby at_159) rfl (XS.iload X0.here hx rfl (hb hby at_161) rfl k))) ?_
  obtain ⟨l0, hr_l0⟩ : ∃ z : Int32, (if n0 < tg then (1 : Int32) else (0 : Int32)) = z := ⟨_, rfl⟩
  have R775 : ∀ t, Steps p.tables e below (s₁.setTop (mkF m 171 #[iv p0, iv p1, iv p2, iv p3, iv n0, iv n1, iv n2, iv (((p3.toUInt32 >>> ((3 : Int32) &&& 31).toUInt32).toInt32) &&& 3), iv tg, iv b0, iv b1, iv b2, iv cnt, .unset, .unset, .unset, .unset, .unset, .unset, .unset, .unset, .unset, .unset, .unset, .unset, .unset, .unset] [(.int l0)])) t → Steps p.tables e below (s₁.setTop (mkF m 163 #[iv p0, iv p1, iv p2, iv p3, iv n0, iv n1, iv n2, iv (((p3.toUInt32 >>> ((3 : Int32) &&& 31).toUInt32).toInt32) &&& 3), iv tg, iv b0, iv b1, iv b2, iv cnt, .unset, .unset, .unset, .unset, .unset, .unset, .unset, .unset, .unset, .unset, .unset, .unset, .unset, .unset] [(.int tg), (.int n0)])) t := by
    intro t k
    subst hr_l0
    by_cases hc776 : n0 < tg
    ·
      simp only [if_pos hc776] at k
      refine XS.icmpNo X0.here hx rfl (hb hby at_163) rfl (tlt hc776).2.1 (?_ : Steps p.tables e below (s₁.setTop (mkF m 166 #[iv p0, iv p1, iv p2, iv p3, iv n0, iv n1, iv n2, iv (((p3.toUInt32 >>> ((3 : Int32) &&& 31).toUInt32).toInt32) &&& 3), iv tg, iv b0, iv b1, iv b2, iv cnt, .unset, .unset, .unset, .unset, .unset, .unset, .unset, .unset, .unset, .unset, .unset, .unset, .unset, .unset] [])) t)
      refine XS.iconst X0.here hx rfl (hb hby at_166) (?_ : Steps p.tables e below (s₁.setTop (mkF m 167 #[iv p0, iv p1, iv p2, iv p3, iv n0, iv n1, iv n2, iv (((p3.toUInt32 >>> ((3 : Int32) &&& 31).toUInt32).toInt32) &&& 3), iv tg, iv b0, iv b1, iv b2, iv cnt, .unset, .unset, .unset, .unset, .unset, .unset, .unset, .unset, .unset, .unset, .unset, .unset, .unset, .unset] [(.int 1)])) t)
      refine XS.goto X0.here hx rfl (pc0 := 167) (pc' := 171) rfl (hb hby at_167) (by decide) (by decide) (?_ : Steps p.tables e below (s₁.setTop (mkF m 171 #[iv p0, iv p1, iv p2, iv p3, iv n0, iv n1, iv n2, iv (((p3.toUInt32 >>> ((3 : Int32) &&& 31).toUInt32).toInt32) &&& 3), iv tg, iv b0, iv b1, iv b2, iv cnt, .unset, .unset, .unset, .unset, .unset, .unset, .unset, .unset, .unset, .unset, .unset, .unset, .unset, .unset] [(.int 1)])) t)
      exact k
    ·
      simp only [if_neg hc776] at k
      refine XS.icmpYes X0.here hx rfl (pc0 := 163) (pc' := 170) rfl (hb hby at_163) rfl (flt hc776).2.1 (by decide) (by decide) (?_ : Steps p.tables e below (s₁.setTop (mkF m 170 #[iv p0, iv p1, iv p2, iv p3, iv n0, iv n1, iv n2, iv (((p3.toUInt32 >>> ((3 : Int32) &&& 31).toUInt32).toInt32) &&& 3), iv tg, iv b0, iv b1, iv b2, iv cnt, .unset, .unset, .unset, .unset, .unset, .unset, .unset, .unset, .unset, .unset, .unset, .unset, .unset, .unset] [])) t)
      refine XS.iconst X0.here hx rfl (hb hby at_170) (?_ : Steps p.tables e below (s₁.setTop (mkF m 171 #[iv p0, iv p1, iv p2, iv p3, iv n0, iv n1, iv n2, iv (((p3.toUInt32 >>> ((3 : Int32) &&& 31).toUInt32).toInt32) &&& 3), iv tg, iv b0, iv b1, iv b2, iv cnt, .unset, .unset, .unset, .unset, .unset, .unset, .unset, .unset, .unset, .unset, .unset, .unset, .unset, .unset] [(.int 0)])) t)
      exact k
  refine Go.on R775 ?_
  refine Go.on (w := s₁.setTop (mkF m 175 #[iv p0, iv p1, iv p2, iv p3, iv n0, iv n1, iv n2, iv (((p3.toUInt32 >>> ((3 : Int32) &&& 31).toUInt32).toInt32) &&& 3), iv tg, iv b0, iv b1, iv b2, iv cnt, .unset, .unset, .unset, .unset, .unset, .unset, .unset, .unset, .unset, .unset, .unset, .unset, .unset, .unset] [(.int tg), (.int n1), (.int l0)])) (fun t k => XS.iload X0.here hx rfl (hb hby at_171) rfl (XS.iload X0.here hx rfl (hb hby at_173) rfl k)) ?_
  obtain ⟨l1, hr_l1⟩ : ∃ z : Int32, (if n1 < tg then (if n1 = n0 then (0 : Int32) else (1 : Int32)) else (0 : Int32)) = z := ⟨_, rfl⟩
  have R777 : ∀ t, Steps p.tables e below (s₁.setTop (mkF m 190 #[iv p0, iv p1, iv p2, iv p3, iv n0, iv n1, iv n2, iv (((p3.toUInt32 >>> ((3 : Int32) &&& 31).toUInt32).toInt32) &&& 3), iv tg, iv b0, iv b1, iv b2, iv cnt, .unset, .unset, .unset, .unset, .unset, .unset, .unset, .unset, .unset, .unset, .unset, .unset, .unset, .unset] [(.int l1), (.int l0)])) t → Steps p.tables e below (s₁.setTop (mkF m 175 #[iv p0, iv p1, iv p2, iv p3, iv n0, iv n1, iv n2, iv (((p3.toUInt32 >>> ((3 : Int32) &&& 31).toUInt32).toInt32) &&& 3), iv tg, iv b0, iv b1, iv b2, iv cnt, .unset, .unset, .unset, .unset, .unset, .unset, .unset, .unset, .unset, .unset, .unset, .unset, .unset, .unset] [(.int tg), (.int n1), (.int l0)])) t := by
    intro t k
    subst hr_l1
    by_cases hc778 : n1 < tg
    ·
      simp only [if_pos hc778] at k
      refine XS.icmpNo X0.here hx rfl (hb hby at_175) rfl (tlt hc778).2.1 (?_ : Steps p.tables e below (s₁.setTop (mkF m 178 #[iv p0, iv p1, iv p2, iv p3, iv n0, iv n1, iv n2, iv (((p3.toUInt32 >>> ((3 : Int32) &&& 31).toUInt32).toInt32) &&& 3), iv tg, iv b0, iv b1, iv b2, iv cnt, .unset, .unset, .unset, .unset, .unset, .unset, .unset, .unset, .unset, .unset, .unset, .unset, .unset, .unset] [(.int l0)])) t)
      refine XS.iload X0.here hx rfl (hb hby at_178) rfl (?_ : Steps p.tables e below (s₁.setTop (mkF m 180 #[iv p0, iv p1, iv p2, iv p3, iv n0, iv n1, iv n2, iv (((p3.toUInt32 >>> ((3 : Int32) &&& 31).toUInt32).toInt32) &&& 3), iv tg, iv b0, iv b1, iv b2, iv cnt, .unset, .unset, .unset, .unset, .unset, .unset, .unset, .unset, .unset, .unset, .unset, .unset, .unset, .unset] [(.int n1), (.int l0)])) t)
      refine XS.iload X0.here hx rfl (hb hby at_180) rfl (?_ : Steps p.tables e below (s₁.setTop (mkF m 182 #[iv p0, iv p1, iv p2, iv p3, iv n0, iv n1, iv n2, iv (((p3.toUInt32 >>> ((3 : Int32) &&& 31).toUInt32).toInt32) &&& 3), iv tg, iv b0, iv b1, iv b2, iv cnt, .unset, .unset, .unset, .unset, .unset, .unset, .unset, .unset, .unset, .unset, .unset, .unset, .unset, .unset] [(.int n0), (.int n1), (.int l0)])) t)
      by_cases hc779 : n1 = n0
      ·
        simp only [if_pos hc779] at k
        refine XS.icmpYes X0.here hx rfl (pc0 := 182) (pc' := 189) rfl (hb hby at_182) rfl (teq hc779).1 (by decide) (by decide) (?_ : Steps p.tables e below (s₁.setTop (mkF m 189 #[iv p0, iv p1, iv p2, iv p3, iv n0, iv n1, iv n2, iv (((p3.toUInt32 >>> ((3 : Int32) &&& 31).toUInt32).toInt32) &&& 3), iv tg, iv b0, iv b1, iv b2, iv cnt, .unset, .unset, .unset, .unset, .unset, .unset, .unset, .unset, .unset, .unset, .unset, .unset, .unset, .unset] [(.int l0)])) t)
        refine XS.iconst X0.here hx rfl (hb hby at_189) (?_ : Steps p.tables e below (s₁.setTop (mkF m 190 #[iv p0, iv p1, iv p2, iv p3, iv n0, iv n1, iv n2, iv (((p3.toUInt32 >>> ((3 : Int32) &&& 31).toUInt32).toInt32) &&& 3), iv tg, iv b0, iv b1, iv b2, iv cnt, .unset, .unset, .unset, .unset, .unset, .unset, .unset, .unset, .unset, .unset, .unset, .unset, .unset, .unset] [(.int 0), (.int l0)])) t)
        exact k
      ·
        simp only [if_neg hc779] at k
        refine XS.icmpNo X0.here hx rfl (hb hby at_182) rfl (feq hc779).1 (?_ : Steps p.tables e below (s₁.setTop (mkF m 185 #[iv p0, iv p1, iv p2, iv p3, iv n0, iv n1, iv n2, iv (((p3.toUInt32 >>> ((3 : Int32) &&& 31).toUInt32).toInt32) &&& 3), iv tg, iv b0, iv b1, iv b2, iv cnt, .unset, .unset, .unset, .unset, .unset, .unset, .unset, .unset, .unset, .unset, .unset, .unset, .unset, .unset] [(.int l0)])) t)
        refine XS.iconst X0.here hx rfl (hb hby at_185) (?_ : Steps p.tables e below (s₁.setTop (mkF m 186 #[iv p0, iv p1, iv p2, iv p3, iv n0, iv n1, iv n2, iv (((p3.toUInt32 >>> ((3 : Int32) &&& 31).toUInt32).toInt32) &&& 3), iv tg, iv b0, iv b1, iv b2, iv cnt, .unset, .unset, .unset, .unset, .unset, .unset, .unset, .unset, .unset, .unset, .unset, .unset, .unset, .unset] [(.int 1), (.int l0)])) t)
        refine XS.goto X0.here hx rfl (pc0 := 186) (pc' := 190) rfl (hb hby at_186) (by decide) (by decide) (?_ : Steps p.tables e below (s₁.setTop (mkF m 190 #[iv p0, iv p1, iv p2, iv p3, iv n0, iv n1, iv n2, iv (((p3.toUInt32 >>> ((3 : Int32) &&& 31).toUInt32).toInt32) &&& 3), iv tg, iv b0, iv b1, iv b2, iv cnt, .unset, .unset, .unset, .unset, .unset, .unset, .unset, .unset, .unset, .unset, .unset, .unset, .unset, .unset] [(.int 1), (.int l0)])) t)
        exact k
    ·
      simp only [if_neg hc778] at k
      refine XS.icmpYes X0.here hx rfl (pc0 := 175) (pc' := 189) rfl (hb hby at_175) rfl (flt hc778).2.1 (by decide) (by decide) (?_ : Steps p.tables e below (s₁.setTop (mkF m 189 #[iv p0, iv p1, iv p2, iv p3, iv n0, iv n1, iv n2, iv (((p3.toUInt32 >>> ((3 : Int32) &&& 31).toUInt32).toInt32) &&& 3), iv tg, iv b0, iv b1, iv b2, iv cnt, .unset, .unset, .unset, .unset, .unset, .unset, .unset, .unset, .unset, .unset, .unset, .unset, .unset, .unset] [(.int l0)])) t)
      refine XS.iconst X0.here hx rfl (hb hby at_189) (?_ : Steps p.tables e below (s₁.setTop (mkF m 190 #[iv p0, iv p1, iv p2, iv p3, iv n0, iv n1, iv n2, iv (((p3.toUInt32 >>> ((3 : Int32) &&& 31).toUInt32).toInt32) &&& 3), iv tg, iv b0, iv b1, iv b2, iv cnt, .unset, .unset, .unset, .unset, .unset, .unset, .unset, .unset, .unset, .unset, .unset, .unset, .unset, .unset] [(.int 0), (.int l0)])) t)
      exact k
  refine Go.on R777 ?_
  obtain ⟨la, hr_la⟩ : ∃ z : Int32, (l0 + l1) = z := ⟨_, rfl⟩
  refine Go.on (w := s₁.setTop (mkF m 191 #[iv p0, iv p1, iv p2, iv p3, iv n0, iv n1, iv n2, iv (((p3.toUInt32 >>> ((3 : Int32) &&& 31).toUInt32).toInt32) &&& 3), iv tg, iv b0, iv b1, iv b2, iv cnt, .unset, .unset, .unset, .unset, .unset, .unset, .unset, .unset, .unset, .unset, .unset, .unset, .unset, .unset] [(.int la)])) (fun t k => XS.iadd X0.here hx rfl (hb hby at_190) rfl (by rw [hr_la]; exact k)) ?_
  refine Go.on (w := s₁.setTop (mkF m 195 #[iv p0, iv p1, iv p2, iv p3, iv n0, iv n1, iv n2, iv (((p3.toUInt32 >>> ((3 : Int32) &&& 31).toUInt32).toInt32) &&& 3), iv tg, iv b0, iv b1, iv b2, iv cnt, .unset, .unset, .unset, .unset, .unset, .unset, .unset, .unset, .unset, .unset, .unset, .unset, .unset, .unset] [(.int tg), (.int n2), (.int la)])) (fun t k => XS.iload X0.here hx rfl (hb hby at_191) rfl (XS.iload X0.here hx rfl (hb hby at_193) rfl k)) ?_
  obtain ⟨l2, hr_l2⟩ : ∃ z : Int32, (if n2 < tg then (if n2 = n0 then (0 : Int32) else (if n2 = n1 then (0 : Int32) else (1 : Int32))) else (0 : Int32)) = z := ⟨_, rfl⟩
  have R780 : ∀ t, Steps p.tables e below (s₁.setTop (mkF m 217 #[iv p0, iv p1, iv p2, iv p3, iv n0, iv n1, iv n2, iv (((p3.toUInt32 >>> ((3 : Int32) &&& 31).toUInt32).toInt32) &&& 3), iv tg, iv b0, iv b1, iv b2, iv cnt, .unset, .unset, .unset, .unset, .unset, .unset, .unset, .unset, .unset, .unset, .unset, .unset, .unset, .unset] [(.int l2), (.int la)])) t → Steps p.tables e below (s₁.setTop (mkF m 195 #[iv p0, iv p1, iv p2, iv p3, iv n0, iv n1, iv n2, iv (((p3.toUInt32 >>> ((3 : Int32) &&& 31).toUInt32).toInt32) &&& 3), iv tg, iv b0, iv b1, iv b2, iv cnt, .unset, .unset, .unset, .unset, .unset, .unset, .unset, .unset, .unset, .unset, .unset, .unset, .unset, .unset] [(.int tg), (.int n2), (.int la)])) t := by
    intro t k
    subst hr_l2
    by_cases hc781 : n2 < tg
    ·
      simp only [if_pos hc781] at k
      refine XS.icmpNo X0.here hx rfl (hb hby at_195) rfl (tlt hc781).2.1 (?_ : Steps p.tables e below (s₁.setTop (mkF m 198 #[iv p0, iv p1, iv p2, iv p3, iv n0, iv n1, iv n2, iv (((p3.toUInt32 >>> ((3 : Int32) &&& 31).toUInt32).toInt32) &&& 3), iv tg, iv b0, iv b1, iv b2, iv cnt, .unset, .unset, .unset, .unset, .unset, .unset, .unset, .unset, .unset, .unset, .unset, .unset, .unset, .unset] [(.int la)])) t)
      refine XS.iload X0.here hx rfl (hb hby at_198) rfl (?_ : Steps p.tables e below (s₁.setTop (mkF m 200 #[iv p0, iv p1, iv p2, iv p3, iv n0, iv n1, iv n2, iv (((p3.toUInt32 >>> ((3 : Int32) &&& 31).toUInt32).toInt32) &&& 3), iv tg, iv b0, iv b1, iv b2, iv cnt, .unset, .unset, .unset, .unset, .unset, .unset, .unset, .unset, .unset, .unset, .unset, .unset, .unset, .unset] [(.int n2), (.int la)])) t)
      refine XS.iload X0.here hx rfl (hb hby at_200) rfl (?_ : Steps p.tables e below (s₁.setTop (mkF m 202 #[iv p0, iv p1, iv p2, iv p3, iv n0, iv n1, iv n2, iv (((p3.toUInt32 >>> ((3 : Int32) &&& 31).toUInt32).toInt32) &&& 3), iv tg, iv b0, iv b1, iv b2, iv cnt, .unset, .unset, .unset, .unset, .unset, .unset, .unset, .unset, .unset, .unset, .unset, .unset, .unset, .unset] [(.int n0), (.int n2), (.int la)])) t)
      by_cases hc782 : n2 = n0
      ·
        simp only [if_pos hc782] at k
        refine XS.icmpYes X0.here hx rfl (pc0 := 202) (pc' := 216) rfl (hb hby at_202) rfl (teq hc782).1 (by decide) (by decide) (?_ : Steps p.tables e below (s₁.setTop (mkF m 216 #[iv p0, iv p1, iv p2, iv p3, iv n0, iv n1, iv n2, iv (((p3.toUInt32 >>> ((3 : Int32) &&& 31).toUInt32).toInt32) &&& 3), iv tg, iv b0, iv b1, iv b2, iv cnt, .unset, .unset, .unset, .unset, .unset, .unset, .unset, .unset, .unset, .unset, .unset, .unset, .unset, .unset] [(.int la)])) t)
        refine XS.iconst X0.here hx rfl (hb hby at_216) (?_ : Steps p.tables e below (s₁.setTop (mkF m 217 #[iv p0, iv p1, iv p2, iv p3, iv n0, iv n1, iv n2, iv (((p3.toUInt32 >>> ((3 : Int32) &&& 31).toUInt32).toInt32) &&& 3), iv tg, iv b0, iv b1, iv b2, iv cnt, .unset, .unset, .unset, .unset, .unset, .unset, .unset, .unset, .unset, .unset, .unset, .unset, .unset, .unset] [(.int 0), (.int la)])) t)
        exact k
      ·
        simp only [if_neg hc782] at k
        refine XS.icmpNo X0.here hx rfl (hb hby at_202) rfl (feq hc782).1 (?_ : Steps p.tables e below (s₁.setTop (mkF m 205 #[iv p0, iv p1, iv p2, iv p3, iv n0, iv n1, iv n2, iv (((p3.toUInt32 >>> ((3 : Int32) &&& 31).toUInt32).toInt32) &&& 3), iv tg, iv b0, iv b1, iv b2, iv cnt, .unset, .unset, .unset, .unset, .unset, .unset, .unset, .unset, .unset, .unset, .unset, .unset, .unset, .unset] [(.int la)])) t)
        refine XS.iload X0.here hx rfl (hb hby at_205) rfl (?_ : Steps p.tables e below (s₁.setTop (mkF m 207 #[iv p0, iv p1, iv p2, iv p3, iv n0, iv n1, iv n2, iv (((p3.toUInt32 >>> ((3 : Int32) &&& 31).toUInt32).toInt32) &&& 3), iv tg, iv b0, iv b1, iv b2, iv cnt, .unset, .unset, .unset, .unset, .unset, .unset, .unset, .unset, .unset, .unset, .unset, .unset, .unset, .unset] [(.int n2), (.int la)])) t)
        refine XS.iload X0.here hx rfl (hb hby at_207) rfl (?_ : Steps p.tables e below (s₁.setTop (mkF m 209 #[iv p0, iv p1, iv p2, iv p3, iv n0, iv n1, iv n2, iv (((p3.toUInt32 >>> ((3 : Int32) &&& 31).toUInt32).toInt32) &&& 3), iv tg, iv b0, iv b1, iv b2, iv cnt, .unset, .unset, .unset, .unset, .unset, .unset, .unset, .unset, .unset, .unset, .unset, .unset, .unset, .unset] [(.int n1), (.int n2), (.int la)])) t)
        by_cases hc783 : n2 = n1
        ·
          simp only [if_pos hc783] at k
          refine XS.icmpYes X0.here hx rfl (pc0 := 209) (pc' := 216) rfl (hb hby at_209) rfl (teq hc783).1 (by decide) (by decide) (?_ : Steps p.tables e below (s₁.setTop (mkF m 216 #[iv p0, iv p1, iv p2, iv p3, iv n0, iv n1, iv n2, iv (((p3.toUInt32 >>> ((3 : Int32) &&& 31).toUInt32).toInt32) &&& 3), iv tg, iv b0, iv b1, iv b2, iv cnt, .unset, .unset, .unset, .unset, .unset, .unset, .unset, .unset, .unset, .unset, .unset, .unset, .unset, .unset] [(.int la)])) t)
          refine XS.iconst X0.here hx rfl (hb hby at_216) (?_ : Steps p.tables e below (s₁.setTop (mkF m 217 #[iv p0, iv p1, iv p2, iv p3, iv n0, iv n1, iv n2, iv (((p3.toUInt32 >>> ((3 : Int32) &&& 31).toUInt32).toInt32) &&& 3), iv tg, iv b0, iv b1, iv b2, iv cnt, .unset, .unset, .unset, .unset, .unset, .unset, .unset, .unset, .unset, .unset, .unset, .unset, .unset, .unset] [(.int 0), (.int la)])) t)
          exact k
        ·
          simp only [if_neg hc783] at k
          refine XS.icmpNo X0.here hx rfl (hb hby at_209) rfl (feq hc783).1 (?_ : Steps p.tables e below (s₁.setTop (mkF m 212 #[iv p0, iv p1, iv p2, iv p3, iv n0, iv n1, iv n2, iv (((p3.toUInt32 >>> ((3 : Int32) &&& 31).toUInt32).toInt32) &&& 3), iv tg, iv b0, iv b1, iv b2, iv cnt, .unset, .unset, .unset, .unset, .unset, .unset, .unset, .unset, .unset, .unset, .unset, .unset, .unset, .unset] [(.int la)])) t)
          refine XS.iconst X0.here hx rfl (hb hby at_212) (?_ : Steps p.tables e below (s₁.setTop (mkF m 213 #[iv p0, iv p1, iv p2, iv p3, iv n0, iv n1, iv n2, iv (((p3.toUInt32 >>> ((3 : Int32) &&& 31).toUInt32).toInt32) &&& 3), iv tg, iv b0, iv b1, iv b2, iv cnt, .unset, .unset, .unset, .unset, .unset, .unset, .unset, .unset, .unset, .unset, .unset, .unset, .unset, .unset] [(.int 1), (.int la)])) t)
          refine XS.goto X0.here hx rfl (pc0 := 213) (pc' := 217) rfl (hb hby at_213) (by decide) (by decide) (?_ : Steps p.tables e below (s₁.setTop (mkF m 217 #[iv p0, iv p1, iv p2, iv p3, iv n0, iv n1, iv n2, iv (((p3.toUInt32 >>> ((3 : Int32) &&& 31).toUInt32).toInt32) &&& 3), iv tg, iv b0, iv b1, iv b2, iv cnt, .unset, .unset, .unset, .unset, .unset, .unset, .unset, .unset, .unset, .unset, .unset, .unset, .unset, .unset] [(.int 1), (.int la)])) t)
          exact k
    ·
      simp only [if_neg hc781] at k
      refine XS.icmpYes X0.here hx rfl (pc0 := 195) (pc' := 216) rfl (hb hby at_195) rfl (flt hc781).2.1 (by decide) (by decide) (?_ : Steps p.tables e below (s₁.setTop (mkF m 216 #[iv p0, iv p1, iv p2, iv p3, iv n0, iv n1, iv n2, iv (((p3.toUInt32 >>> ((3 : Int32) &&& 31).toUInt32).toInt32) &&& 3), iv tg, iv b0, iv b1, iv b2, iv cnt, .unset, .unset, .unset, .unset, .unset, .unset, .unset, .unset, .unset, .unset, .unset, .unset, .unset, .unset] [(.int la)])) t)
      refine XS.iconst X0.here hx rfl (hb hby at_216) (?_ : Steps p.tables e below (s₁.setTop (mkF m 217 #[iv p0, iv p1, iv p2, iv p3, iv n0, iv n1, iv n2, iv (((p3.toUInt32 >>> ((3 : Int32) &&& 31).toUInt32).toInt32) &&& 3), iv tg, iv b0, iv b1, iv b2, iv cnt, .unset, .unset, .unset, .unset, .unset, .unset, .unset, .unset, .unset, .unset, .unset, .unset, .unset, .unset] [(.int 0), (.int la)])) t)
      exact k
  refine Go.on R780 ?_
  obtain ⟨pl, hr_pl⟩ : ∃ z : Int32, (la + l2) = z := ⟨_, rfl⟩
  refine Go.on (w := s₁.setTop (mkF m 218 #[iv p0, iv p1, iv p2, iv p3, iv n0, iv n1, iv n2, iv (((p3.toUInt32 >>> ((3 : Int32) &&& 31).toUInt32).toInt32) &&& 3), iv tg, iv b0, iv b1, iv b2, iv cnt, .unset, .unset, .unset, .unset, .unset, .unset, .unset, .unset, .unset, .unset, .unset, .unset, .unset, .unset] [(.int pl)])) (fun t k => XS.iadd X0.here hx rfl (hb hby at_217) rfl (by rw [hr_pl]; exact k)) ?_
  refine Go.on (w := s₁.setTop (mkF m 222 #[iv p0, iv p1, iv p2, iv p3, iv n0, iv n1, iv n2, iv (((p3.toUInt32 >>> ((3 : Int32) &&& 31).toUInt32).toInt32) &&& 3), iv tg, iv b0, iv b1, iv b2, iv cnt, iv pl, .unset, .unset, .unset, .unset, .unset, .unset, .unset, .unset, .unset, .unset, .unset, .unset, .unset] [(.int b0)])) (fun t k => XS.istore X0.here hx rfl (hb hby at_218) rfl (l' := #[iv p0, iv p1, iv p2, iv p3, iv n0, iv n1, iv n2, iv (((p3.toUInt32 >>> ((3 : Int32) &&& 31).toUInt32).toInt32) &&& 3), iv tg, iv b0, iv b1, iv b2, iv cnt, iv pl, .unset, .unset, .unset, .unset, .unset, .unset, .unset, .unset, .unset, .unset, .unset, .unset, .unset]) rfl (XS.iload X0.here hx rfl (hb hby at_220) rfl k)) ?_
  obtain ⟨e1, hr_e1⟩ : ∃ z : Int32, (if b0 = (0 : Int32) then (if b1 = (0 : Int32) then (2 : Int32) else (1 : Int32)) else (0 : Int32)) = z := ⟨_, rfl⟩
  have R784 : ∀ t, Steps p.tables e below (s₁.setTop (mkF m 239 #[iv p0, iv p1, iv p2, iv p3, iv n0, iv n1, iv n2, iv (((p3.toUInt32 >>> ((3 : Int32) &&& 31).toUInt32).toInt32) &&& 3), iv tg, iv b0, iv b1, iv b2, iv cnt, iv pl, .unset, .unset, .unset, .unset, .unset, .unset, .unset, .unset, .unset, .unset, .unset, .unset, .unset] [(.int e1)])) t → Steps p.tables e below (s₁.setTop (mkF m 222 #[iv p0, iv p1, iv p2, iv p3, iv n0, iv n1, iv n2, iv (((p3.toUInt32 >>> ((3 : Int32) &&& 31).toUInt32).toInt32) &&& 3), iv tg, iv b0, iv b1, iv b2, iv cnt, iv pl, .unset, .unset, .unset, .unset, .unset, .unset, .unset, .unset, .unset, .unset, .unset, .unset, .unset] [(.int b0)])) t := by
    intro t k
    subst hr_e1
    by_cases hc785 : b0 = (0 : Int32)
    ·
      simp only [if_pos hc785] at k
      refine XS.ifYes X0.here hx rfl (pc0 := 222) (pc' := 229) rfl (hb hby at_222) rfl ((if0 _ _).trans (teq hc785).1) (by decide) (by decide) (?_ : Steps p.tables e below (s₁.setTop (mkF m 229 #[iv p0, iv p1, iv p2, iv p3, iv n0, iv n1, iv n2, iv (((p3.toUInt32 >>> ((3 : Int32) &&& 31).toUInt32).toInt32) &&& 3), iv tg, iv b0, iv b1, iv b2, iv cnt, iv pl, .unset, .unset, .unset, .unset, .unset, .unset, .unset, .unset, .unset, .unset, .unset, .unset, .unset] [])) t)
      refine XS.iload X0.here hx rfl (hb hby at_229) rfl (?_ : Steps p.tables e below (s₁.setTop (mkF m 231 #[iv p0, iv p1, iv p2, iv p3, iv n0, iv n1, iv n2, iv (((p3.toUInt32 >>> ((3 : Int32) &&& 31).toUInt32).toInt32) &&& 3), iv tg, iv b0, iv b1, iv b2, iv cnt, iv pl, .unset, .unset, .unset, .unset, .unset, .unset, .unset, .unset, .unset, .unset, .unset, .unset, .unset] [(.int b1)])) t)
      by_cases hc786 : b1 = (0 : Int32)
      ·
        simp only [if_pos hc786] at k
        refine XS.ifYes X0.here hx rfl (pc0 := 231) (pc' := 238) rfl (hb hby at_231) rfl ((if0 _ _).trans (teq hc786).1) (by decide) (by decide) (?_ : Steps p.tables e below (s₁.setTop (mkF m 238 #[iv p0, iv p1, iv p2, iv p3, iv n0, iv n1, iv n2, iv (((p3.toUInt32 >>> ((3 : Int32) &&& 31).toUInt32).toInt32) &&& 3), iv tg, iv b0, iv b1, iv b2, iv cnt, iv pl, .unset, .unset, .unset, .unset, .unset, .unset, .unset, .unset, .unset, .unset, .unset, .unset, .unset] [])) t)
        refine XS.iconst X0.here hx rfl (hb hby at_238) (?_ : Steps p.tables e below (s₁.setTop (mkF m 239 #[iv p0, iv p1, iv p2, iv p3, iv n0, iv n1, iv n2, iv (((p3.toUInt32 >>> ((3 : Int32) &&& 31).toUInt32).toInt32) &&& 3), iv tg, iv b0, iv b1, iv b2, iv cnt, iv pl, .unset, .unset, .unset, .unset, .unset, .unset, .unset, .unset, .unset, .unset, .unset, .unset, .unset] [(.int 2)])) t)
        exact k
      ·
        simp only [if_neg hc786] at k
        refine XS.ifNo X0.here hx rfl (hb hby at_231) rfl ((if0 _ _).trans (feq hc786).1) (?_ : Steps p.tables e below (s₁.setTop (mkF m 234 #[iv p0, iv p1, iv p2, iv p3, iv n0, iv n1, iv n2, iv (((p3.toUInt32 >>> ((3 : Int32) &&& 31).toUInt32).toInt32) &&& 3), iv tg, iv b0, iv b1, iv b2, iv cnt, iv pl, .unset, .unset, .unset, .unset, .unset, .unset, .unset, .unset, .unset, .unset, .unset, .unset, .unset] [])) t)
        refine XS.iconst X0.here hx rfl (hb hby at_234) (?_ : Steps p.tables e below (s₁.setTop (mkF m 235 #[iv p0, iv p1, iv p2, iv p3, iv n0, iv n1, iv n2, iv (((p3.toUInt32 >>> ((3 : Int32) &&& 31).toUInt32).toInt32) &&& 3), iv tg, iv b0, iv b1, iv b2, iv cnt, iv pl, .unset, .unset, .unset, .unset, .unset, .unset, .unset, .unset, .unset, .unset, .unset, .unset, .unset] [(.int 1)])) t)
        refine XS.goto X0.here hx rfl (pc0 := 235) (pc' := 239) rfl (hb hby at_235) (by decide) (by decide) (?_ : Steps p.tables e below (s₁.setTop (mkF m 239 #[iv p0, iv p1, iv p2, iv p3, iv n0, iv n1, iv n2, iv (((p3.toUInt32 >>> ((3 : Int32) &&& 31).toUInt32).toInt32) &&& 3), iv tg, iv b0, iv b1, iv b2, iv cnt, iv pl, .unset, .unset, .unset, .unset, .unset, .unset, .unset, .unset, .unset, .unset, .unset, .unset, .unset] [(.int 1)])) t)
        exact k
    ·
      simp only [if_neg hc785] at k
      refine XS.ifNo X0.here hx rfl (hb hby at_222) rfl ((if0 _ _).trans (feq hc785).1) (?_ : Steps p.tables e below (s₁.setTop (mkF m 225 #[iv p0, iv p1, iv p2, iv p3, iv n0, iv n1, iv n2, iv (((p3.toUInt32 >>> ((3 : Int32) &&& 31).toUInt32).toInt32) &&& 3), iv tg, iv b0, iv b1, iv b2, iv cnt, iv pl, .unset, .unset, .unset, .unset, .unset, .unset, .unset, .unset, .unset, .unset, .unset, .unset, .unset] [])) t)
      refine XS.iconst X0.here hx rfl (hb hby at_225) (?_ : Steps p.tables e below (s₁.setTop (mkF m 226 #[iv p0, iv p1, iv p2, iv p3, iv n0, iv n1, iv n2, iv (((p3.toUInt32 >>> ((3 : Int32) &&& 31).toUInt32).toInt32) &&& 3), iv tg, iv b0, iv b1, iv b2, iv cnt, iv pl, .unset, .unset, .unset, .unset, .unset, .unset, .unset, .unset, .unset, .unset, .unset, .unset, .unset] [(.int 0)])) t)
      refine XS.goto X0.here hx rfl (pc0 := 226) (pc' := 239) rfl (hb hby at_226) (by decide) (by decide) (?_ : Steps p.tables e below (s₁.setTop (mkF m 239 #[iv p0, iv p1, iv p2, iv p3, iv n0, iv n1, iv n2, iv (((p3.toUInt32 >>> ((3 : Int32) &&& 31).toUInt32).toInt32) &&& 3), iv tg, iv b0, iv b1, iv b2, iv cnt, iv pl, .unset, .unset, .unset, .unset, .unset, .unset, .unset, .unset, .unset, .unset, .unset, .unset, .unset] [(.int 0)])) t)
      exact k
  refine Go.on R784 ?_
  refine Go.on (w := s₁.setTop (mkF m 243 #[iv p0, iv p1, iv p2, iv p3, iv n0, iv n1, iv n2, iv (((p3.toUInt32 >>> ((3 : Int32) &&& 31).toUInt32).toInt32) &&& 3), iv tg, iv b0, iv b1, iv b2, iv cnt, iv pl, iv e1, .unset, .unset, .unset, .unset, .unset, .unset, .unset, .unset, .unset, .unset, .unset, .unset] [(.int b0)])) (fun t k => XS.istore X0.here hx rfl (hb hby at_239) rfl (l' := #[iv p0, iv p1, iv p2, iv p3, iv n0, iv n1, iv n2, iv (((p3.toUInt32 >>> ((3 : Int32) &&& 31).toUInt32).toInt32) &&& 3), iv tg, iv b0, iv b1, iv b2, iv cnt, iv pl, iv e1, .unset, .unset, .unset, .unset, .unset, .unset, .unset, .unset, .unset, .unset, .unset, .unset]) rfl (XS.iload X0.here hx rfl (hb hby at_241) rfl k)) ?_
  obtain ⟨e2, hr_e2⟩ : ∃ z : Int32, (if b0 = (0 : Int32) then (2 : Int32) else (if b1 = (0 : Int32) then (2 : Int32) else (1 : Int32))) = z := ⟨_, rfl⟩
  have R787 : ∀ t, Steps p.tables e below (s₁.setTop (mkF m 260 #[iv p0, iv p1, iv p2, iv p3, iv n0, iv n1, iv n2, iv (((p3.toUInt32 >>> ((3 : Int32) &&& 31).toUInt32).toInt32) &&& 3), iv tg, iv b0, iv b1, iv b2, iv cnt, iv pl, iv e1, .unset, .unset, .unset, .unset, .unset, .unset, .unset, .unset, .unset, .unset, .unset, .unset] [(.int e2)])) t → Steps p.tables e below (s₁.setTop (mkF m 243 #[iv p0, iv p1, iv p2, iv p3, iv n0, iv n1, iv n2, iv (((p3.toUInt32 >>> ((3 : Int32) &&& 31).toUInt32).toInt32) &&& 3), iv tg, iv b0, iv b1, iv b2, iv cnt, iv pl, iv e1, .unset, .unset, .unset, .unset, .unset, .unset, .unset, .unset, .unset, .unset, .unset, .unset] [(.int b0)])) t := by
    intro t k
    subst hr_e2
    by_cases hc788 : b0 = (0 : Int32)
    ·
      simp only [if_pos hc788] at k
      refine XS.ifYes X0.here hx rfl (pc0 := 243) (pc' := 259) rfl (hb hby at_243) rfl ((if0 _ _).trans (teq hc788).1) (by decide) (by decide) (?_ : Steps p.tables e below (s₁.setTop (mkF m 259 #[iv p0, iv p1, iv p2, iv p3, iv n0, iv n1, iv n2, iv (((p3.toUInt32 >>> ((3 : Int32) &&& 31).toUInt32).toInt32) &&& 3), iv tg, iv b0, iv b1, iv b2, iv cnt, iv pl, iv e1, .unset, .unset, .unset, .unset, .unset, .unset, .unset, .unset, .unset, .unset, .unset, .unset] [])) t)
      refine XS.iconst X0.here hx rfl (hb hby at_259) (?_ : Steps p.tables e below (s₁.setTop (mkF m 260 #[iv p0, iv p1, iv p2, iv p3, iv n0, iv n1, iv n2, iv (((p3.toUInt32 >>> ((3 : Int32) &&& 31).toUInt32).toInt32) &&& 3), iv tg, iv b0, iv b1, iv b2, iv cnt, iv pl, iv e1, .unset, .unset, .unset, .unset, .unset, .unset, .unset, .unset, .unset, .unset, .unset, .unset] [(.int 2)])) t)
      exact k
    ·
      simp only [if_neg hc788] at k
      refine XS.ifNo X0.here hx rfl (hb hby at_243) rfl ((if0 _ _).trans (feq hc788).1) (?_ : Steps p.tables e below (s₁.setTop (mkF m 246 #[iv p0, iv p1, iv p2, iv p3, iv n0, iv n1, iv n2, iv (((p3.toUInt32 >>> ((3 : Int32) &&& 31).toUInt32).toInt32) &&& 3), iv tg, iv b0, iv b1, iv b2, iv cnt, iv pl, iv e1, .unset, .unset, .unset, .unset, .unset, .unset, .unset, .unset, .unset, .unset, .unset, .unset] [])) t)
      refine XS.iload X0.here hx rfl (hb hby at_246) rfl (?_ : Steps p.tables e below (s₁.setTop (mkF m 248 #[iv p0, iv p1, iv p2, iv p3, iv n0, iv n1, iv n2, iv (((p3.toUInt32 >>> ((3 : Int32) &&& 31).toUInt32).toInt32) &&& 3), iv tg, iv b0, iv b1, iv b2, iv cnt, iv pl, iv e1, .unset, .unset, .unset, .unset, .unset, .unset, .unset, .unset, .unset, .unset, .unset, .unset] [(.int b1)])) t)
      by_cases hc789 : b1 = (0 : Int32)
      ·
        simp only [if_pos hc789] at k
        refine XS.ifYes X0.here hx rfl (pc0 := 248) (pc' := 255) rfl (hb hby at_248) rfl ((if0 _ _).trans (teq hc789).1) (by decide) (by decide) (?_ : Steps p.tables e below (s₁.setTop (mkF m 255 #[iv p0, iv p1, iv p2, iv p3, iv n0, iv n1, iv n2, iv (((p3.toUInt32 >>> ((3 : Int32) &&& 31).toUInt32).toInt32) &&& 3), iv tg, iv b0, iv b1, iv b2, iv cnt, iv pl, iv e1, .unset, .unset, .unset, .unset, .unset, .unset, .unset, .unset, .unset, .unset, .unset, .unset] [])) t)
        refine XS.iconst X0.here hx rfl (hb hby at_255) (?_ : Steps p.tables e below (s₁.setTop (mkF m 256 #[iv p0, iv p1, iv p2, iv p3, iv n0, iv n1, iv n2, iv (((p3.toUInt32 >>> ((3 : Int32) &&& 31).toUInt32).toInt32) &&& 3), iv tg, iv b0, iv b1, iv b2, iv cnt, iv pl, iv e1, .unset, .unset, .unset, .unset, .unset, .unset, .unset, .unset, .unset, .unset, .unset, .unset] [(.int 2)])) t)
        refine XS.goto X0.here hx rfl (pc0 := 256) (pc' := 260) rfl (hb hby at_256) (by decide) (by decide) (?_ : Steps p.tables e below (s₁.setTop (mkF m 260 #[iv p0, iv p1, iv p2, iv p3, iv n0, iv n1, iv n2, iv (((p3.toUInt32 >>> ((3 : Int32) &&& 31).toUInt32).toInt32) &&& 3), iv tg, iv b0, iv b1, iv b2, iv cnt, iv pl, iv e1, .unset, .unset, .unset, .unset, .unset, .unset, .unset, .unset, .unset, .unset, .unset, .unset] [(.int 2)])) t)
        exact k
      ·
        simp only [if_neg hc789] at k
        refine XS.ifNo X0.here hx rfl (hb hby at_248) rfl ((if0 _ _).trans (feq hc789).1) (?_ : Steps p.tables e below (s₁.setTop (mkF m 251 #[iv p0, iv p1, iv p2, iv p3, iv n0, iv n1, iv n2, iv (((p3.toUInt32 >>> ((3 : Int32) &&& 31).toUInt32).toInt32) &&& 3), iv tg, iv b0, iv b1, iv b2, iv cnt, iv pl, iv e1, .unset, .unset, .unset, .unset, .unset, .unset, .unset, .unset, .unset, .unset, .unset, .unset] [])) t)
        refine XS.iconst X0.here hx rfl (hb hby at_251) (?_ : Steps p.tables e below (s₁.setTop (mkF m 252 #[iv p0, iv p1, iv p2, iv p3, iv n0, iv n1, iv n2, iv (((p3.toUInt32 >>> ((3 : Int32) &&& 31).toUInt32).toInt32) &&& 3), iv tg, iv b0, iv b1, iv b2, iv cnt, iv pl, iv e1, .unset, .unset, .unset, .unset, .unset, .unset, .unset, .unset, .unset, .unset, .unset, .unset] [(.int 1)])) t)
        refine XS.goto X0.here hx rfl (pc0 := 252) (pc' := 260) rfl (hb hby at_252) (by decide) (by decide) (?_ : Steps p.tables e below (s₁.setTop (mkF m 260 #[iv p0, iv p1, iv p2, iv p3, iv n0, iv n1, iv n2, iv (((p3.toUInt32 >>> ((3 : Int32) &&& 31).toUInt32).toInt32) &&& 3), iv tg, iv b0, iv b1, iv b2, iv cnt, iv pl, iv e1, .unset, .unset, .unset, .unset, .unset, .unset, .unset, .unset, .unset, .unset, .unset, .unset] [(.int 1)])) t)
        exact k
  refine Go.on R787 ?_
  obtain ⟨T790, h790, X790, e790, E790, A790, D790, -, st790⟩ := newO X0 hx hZ0 hown0 (w_1 hw) (w_2 hw) (w_3 hw) e0 (g := (mkF m 262 #[iv p0, iv p1, iv p2, iv p3, iv n0, iv n1, iv n2, iv (((p3.toUInt32 >>> ((3 : Int32) &&& 31).toUInt32).toInt32) &&& 3), iv tg, iv b0, iv b1, iv b2, iv cnt, iv pl, iv e1, iv e2, .unset, .unset, .unset, .unset, .unset, .unset, .unset, .unset, .unset, .unset, .unset] [])) rfl (hb hby at_262) (by decide) (by decide)
  obtain ⟨b790, g790⟩ : ∃ z, z = h0.size := ⟨_, rfl⟩
  rw [← g790] at A790 D790 st790
  have u790 : h790.size > b790 := A790.lt
  have z790 : h0.size ≤ h790.size := E790.1
  have KP790 : Keep h0 h790 ([] : List Addr) := KP0.ext E790
  have Fn790_12 : Fld Z h790 b790 "com/example/syntagma/syntagma/service/DocumentText$Builder" "keys" "[J" .null := D790 (Or.inl (w_12 hw)) (ty := (.array .long)) (by decide)
  have Fn790_15 : Fld Z h790 b790 "com/example/syntagma/syntagma/service/DocumentText$Builder" "breakPositions" "[I" .null := D790 (Or.inl (w_15 hw)) (ty := (.array .int)) (by decide)
  have Fn790_22 : Fld Z h790 b790 "com/example/syntagma/syntagma/service/DocumentText$Builder" "words" "I" (.int 0) := D790 (Or.inl (w_22 hw)) (ty := .int) (by decide)
  have Fn790_54 : Fld Z h790 b790 "com/example/syntagma/syntagma/service/DocumentText$Builder" "breakCount" "I" (.int 0) := D790 (Or.inl (w_54 hw)) (ty := .int) (by decide)
  have Fn790_59 : Fld Z h790 b790 "com/example/syntagma/syntagma/service/DocumentText$Builder" "sentences" "I" (.int 0) := D790 (Or.inl (w_59 hw)) (ty := .int) (by decide)
  have Fn790_126 : Fld Z h790 b790 "com/example/syntagma/syntagma/service/DocumentText$Builder" "firstSentenceWords" "I" (.int 0) := D790 (Or.inl (w_126 hw)) (ty := .int) (by decide)
  obtain ⟨v791, _, ⟨T791, L791, k791, n791⟩, -, X791, ⟨Lc791, hQ791, l791, y791, z791⟩, st791⟩ := X790.specialBack hx (y := yM0) rfl hown0 (mvT hZ0 (w_4 hw)) (mvT hZ0 (w_5 hw)) (mvT hZ0 (w_6 hw)) (by decide) (backOf (W := 1) (rmB l Z a0 hw [] b790 h790 (by omega) (by omega) A790 Fn790_12 Fn790_15 Fn790_22 Fn790_54 Fn790_59) hZ0 (w_6 hw) (w_3 hw) (by decide) (by decide)) (g := (mkF m 266 #[iv p0, iv p1, iv p2, iv p3, iv n0, iv n1, iv n2, iv (((p3.toUInt32 >>> ((3 : Int32) &&& 31).toUInt32).toInt32) &&& 3), iv tg, iv b0, iv b1, iv b2, iv cnt, iv pl, iv e1, iv e2, .unset, .unset, .unset, .unset, .unset, .unset, .unset, .unset, .unset, .unset, .unset] [(.ref b790), (.ref b790)])) rfl (by rw [hml]; rfl) (Steps.refl _) (a := b790) (argsL := []) (rest := [(.ref b790)]) (lenOf pd_8 rfl) rfl (by show 2 * 0 + _ ≤ _; exact Nat.le_of_eq rfl) (hb hby at_266) (fun _ _ => ⟨rfl, e790, (by decide : 1 + 2 ≤ _), (by decide : 6 + 272 ≤ _)⟩)
  dsimp only [Pt.U, Pt.locs, Pt.cells, Pt.slots] at X791 l791 y791 z791 st791 hQ791
  subst l791 y791 z791
  obtain ⟨ks_791, kk_791, rfl, Nq791, K791, f791_0, f791_1, f791_2, f791_3, f791_4, f791_5, f791_6⟩ := hQ791
  have N791 := Fr.app N0 Nq791
  have eK791 : T791.heap = T791.heap := rfl
  have z791 : h790.size ≤ T791.heap.size := K791.1
  have KP791 : Keep h0 T791.heap ([] : List Addr) := KP790.trans K791 (allS (P := fun x => x ∈ ([] : List Addr) ∨ h0.size ≤ x) (Or.inr (by omega)) all0)
  have u791_6 : T791.heap.size > ks_791 := f791_6.lt
  obtain ⟨cq792, kq792, q792a, q792b, q792c⟩ := isOf hZ0 eK791 f791_1
  obtain ⟨v792, _, ⟨T792, L792, k792, n792⟩, -, X792, ⟨Lc792, hQ792, l792, y792, z792⟩, st792⟩ := X791.virtualBack hx (y := yM2) (z := yM2) hown0 (mvT hZ0 (w_16 hw)) (mvT hZ0 (w_17 hw)) (notFace_of_selects (args := #[]) (mvT hZ0 (w_19 hw))) (mvT hZ0 (w_19 hw)) (mvT hZ0 (w_18 hw)) (by decide) (backOf (W := 0) (rmAdd0 l Z a0 hw [] b790 n0 ks_791 kk_791 T791.heap (by omega) (by omega) (by omega) (show @Ne Nat b790 ks_791 by omega) f791_1 f791_2 f791_3 f791_4 f791_5 f791_6) hZ0 (w_20 hw) (w_3 hw) (by decide) (by decide)) q792a q792c (g := (mkF m 275 #[iv p0, iv p1, iv p2, iv p3, iv n0, iv n1, iv n2, iv (((p3.toUInt32 >>> ((3 : Int32) &&& 31).toUInt32).toInt32) &&& 3), iv tg, iv b0, iv b1, iv b2, iv cnt, iv pl, iv e1, iv e2, rv b790, .unset, .unset, .unset, .unset, .unset, .unset, .unset, .unset, .unset, .unset] [(.int n0), (.ref b790)])) rfl (by rw [hml]; rfl) (Steps.refl _) (argsL := [(.int n0)]) (rest := []) (lenOf pd_9 rfl) rfl (by show 2 * 0 + _ ≤ _; exact Nat.le_of_eq rfl) (hb hby at_275) (fun _ _ => ⟨rfl, eK791, (by decide : 3 + 0 ≤ _), (by decide : 278 + 0 ≤ _)⟩)
  dsimp only [Pt.U, Pt.locs, Pt.cells, Pt.slots] at X792 l792 y792 z792 st792 hQ792
  subst l792 y792 z792
  obtain ⟨rfl, Nq792, K792, f792_0, f792_1, f792_2, f792_3, f792_4, f792_5⟩ := hQ792
  have N792 := Fr.app N791 Nq792
  have eK792 : T792.heap = T792.heap := rfl
  have z792 : T791.heap.size ≤ T792.heap.size := K792.1
  have KP792 : Keep h0 T792.heap ([] : List Addr) := KP791.trans K792 (allS (P := fun x => x ∈ ([] : List Addr) ∨ h0.size ≤ x) (Or.inr (by omega)) (allS (P := fun x => x ∈ ([] : List Addr) ∨ h0.size ≤ x) (Or.inr (by omega)) all0))
  obtain ⟨cq793, kq793, q793a, q793b, q793c⟩ := isOf hZ0 eK792 f792_0
  obtain ⟨v793, _, ⟨T793, L793, k793, n793⟩, -, X793, ⟨Lc793, hQ793, l793, y793, z793⟩, st793⟩ := X792.virtualBack hx (y := yM2) (z := yM2) hown0 (mvT hZ0 (w_16 hw)) (mvT hZ0 (w_17 hw)) (notFace_of_selects (args := #[]) (mvT hZ0 (w_19 hw))) (mvT hZ0 (w_19 hw)) (mvT hZ0 (w_18 hw)) (by decide) (backOf (W := 0) (rmAdd1 l Z a0 hw [] b790 n1 ks_791 kk_791 (own_key n0 (0 : Int64)) T792.heap (by omega) (by omega) (by omega) (show @Ne Nat b790 ks_791 by omega) f792_0 f792_1 f792_2 f792_3 f792_4 f792_5) hZ0 (w_20 hw) (w_3 hw) (by decide) (by decide)) q793a q793c (g := (mkF m 282 #[iv p0, iv p1, iv p2, iv p3, iv n0, iv n1, iv n2, iv (((p3.toUInt32 >>> ((3 : Int32) &&& 31).toUInt32).toInt32) &&& 3), iv tg, iv b0, iv b1, iv b2, iv cnt, iv pl, iv e1, iv e2, rv b790, .unset, .unset, .unset, .unset, .unset, .unset, .unset, .unset, .unset, .unset] [(.int n1), (.ref b790)])) rfl (by rw [hml]; rfl) (Steps.refl _) (argsL := [(.int n1)]) (rest := []) (lenOf pd_9 rfl) rfl (by show 2 * 0 + _ ≤ _; exact Nat.le_of_eq rfl) (hb hby at_282) (fun _ _ => ⟨rfl, eK792, (by decide : 3 + 0 ≤ _), (by decide : 278 + 0 ≤ _)⟩)
  dsimp only [Pt.U, Pt.locs, Pt.cells, Pt.slots] at X793 l793 y793 z793 st793 hQ793
  subst l793 y793 z793
  obtain ⟨rfl, Nq793, K793, f793_0, f793_1, f793_2, f793_3, f793_4, f793_5⟩ := hQ793
  have N793 := Fr.app N792 Nq793
  have eK793 : T793.heap = T793.heap := rfl
  have z793 : T792.heap.size ≤ T793.heap.size := K793.1
  have KP793 : Keep h0 T793.heap ([] : List Addr) := KP792.trans K793 (allS (P := fun x => x ∈ ([] : List Addr) ∨ h0.size ≤ x) (Or.inr (by omega)) (allS (P := fun x => x ∈ ([] : List Addr) ∨ h0.size ≤ x) (Or.inr (by omega)) all0))
  obtain ⟨cq794, kq794, q794a, q794b, q794c⟩ := isOf hZ0 eK793 f793_0
  obtain ⟨v794, _, ⟨T794, L794, k794, n794⟩, -, X794, ⟨Lc794, hQ794, l794, y794, z794⟩, st794⟩ := X793.virtualBack hx (y := yM2) (z := yM2) hown0 (mvT hZ0 (w_16 hw)) (mvT hZ0 (w_17 hw)) (notFace_of_selects (args := #[]) (mvT hZ0 (w_19 hw))) (mvT hZ0 (w_19 hw)) (mvT hZ0 (w_18 hw)) (by decide) (backOf (W := 0) (rmAdd2 l Z a0 hw [] b790 n2 ks_791 kk_791 (own_key n0 (0 : Int64)) (own_key n1 (1 : Int64)) T793.heap (by omega) (by omega) (by omega) (show @Ne Nat b790 ks_791 by omega) f793_0 f793_1 f793_2 f793_3 f793_4 f793_5) hZ0 (w_20 hw) (w_3 hw) (by decide) (by decide)) q794a q794c (g := (mkF m 289 #[iv p0, iv p1, iv p2, iv p3, iv n0, iv n1, iv n2, iv (((p3.toUInt32 >>> ((3 : Int32) &&& 31).toUInt32).toInt32) &&& 3), iv tg, iv b0, iv b1, iv b2, iv cnt, iv pl, iv e1, iv e2, rv b790, .unset, .unset, .unset, .unset, .unset, .unset, .unset, .unset, .unset, .unset] [(.int n2), (.ref b790)])) rfl (by rw [hml]; rfl) (Steps.refl _) (argsL := [(.int n2)]) (rest := []) (lenOf pd_9 rfl) rfl (by show 2 * 0 + _ ≤ _; exact Nat.le_of_eq rfl) (hb hby at_289) (fun _ _ => ⟨rfl, eK793, (by decide : 3 + 0 ≤ _), (by decide : 278 + 0 ≤ _)⟩)
  dsimp only [Pt.U, Pt.locs, Pt.cells, Pt.slots] at X794 l794 y794 z794 st794 hQ794
  subst l794 y794 z794
  obtain ⟨rfl, Nq794, K794, f794_0, f794_1, f794_2, f794_3, f794_4, f794_5⟩ := hQ794
  have N794 := Fr.app N793 Nq794
  have eK794 : T794.heap = T794.heap := rfl
  have z794 : T793.heap.size ≤ T794.heap.size := K794.1
  have KP794 : Keep h0 T794.heap ([] : List Addr) := KP793.trans K794 (allS (P := fun x => x ∈ ([] : List Addr) ∨ h0.size ≤ x) (Or.inr (by omega)) (allS (P := fun x => x ∈ ([] : List Addr) ∨ h0.size ≤ x) (Or.inr (by omega)) all0))
  obtain ⟨cq795, kq795, q795a, q795b, q795c⟩ := isOf hZ0 eK794 f794_0
  obtain ⟨v795, _, ⟨T795, L795, k795, n795⟩, -, X795, ⟨Lc795, hQ795, l795, y795, z795⟩, st795⟩ := X794.virtualBack hx (y := yM3) (z := yM3) hown0 (mvT hZ0 (w_23 hw)) (mvT hZ0 (w_24 hw)) (notFace_of_selects (args := #[]) (mvT hZ0 (w_26 hw))) (mvT hZ0 (w_26 hw)) (mvT hZ0 (w_25 hw)) (by decide) (backOf (W := 0) (rmBuild l Z a0 hw [] b790 ks_791 kk_791 n0 n1 n2 T794.heap (by omega) (by omega) (by omega) (show @Ne Nat b790 ks_791 by omega) f794_0 f794_1 f794_2 f794_3 f794_4 f794_5 zn0 zn1 zn2) hZ0 (w_27 hw) (w_3 hw) (by decide) (by decide)) q795a q795c (g := (mkF m 294 #[iv p0, iv p1, iv p2, iv p3, iv n0, iv n1, iv n2, iv (((p3.toUInt32 >>> ((3 : Int32) &&& 31).toUInt32).toInt32) &&& 3), iv tg, iv b0, iv b1, iv b2, iv cnt, iv pl, iv e1, iv e2, rv b790, .unset, .unset, .unset, .unset, .unset, .unset, .unset, .unset, .unset, .unset] [(.ref b790)])) rfl (by rw [hml]; rfl) (Steps.refl _) (argsL := []) (rest := []) (lenOf pd_10 rfl) rfl (by show 2 * 0 + _ ≤ _; exact Nat.le_of_eq rfl) (hb hby at_294) (fun _ _ => ⟨rfl, eK794, (by decide : 3 + 8 ≤ _), (by decide : 278 + 31 ≤ _)⟩)
  dsimp only [Pt.U, Pt.locs, Pt.cells, Pt.slots] at X795 l795 y795 z795 st795 hQ795
  subst l795 y795 z795
  obtain ⟨r_795, ag_795, kg_795, ns_795, kn_795, z_795, t1_795, t2_795, t3_795, g0_795, g1_795, g2_795, rfl, Nq795, K795, f795_0, f795_1, f795_2, f795_3, f795_4, f795_5, f795_6, f795_7, f795_8⟩ := hQ795
  have N795 := Fr.app N794 Nq795
  have eK795 : T795.heap = T795.heap := rfl
  have z795 : T794.heap.size ≤ T795.heap.size := K795.1
  have KP795 : Keep h0 T795.heap ([] : List Addr) := KP794.trans K795 (allS (P := fun x => x ∈ ([] : List Addr) ∨ h0.size ≤ x) (Or.inr (by omega)) all0)
  have u795_3 : T795.heap.size > r_795 := f795_3.lt
  have u795_6 : T795.heap.size > ag_795 := f795_6.lt
  have u795_7 : T795.heap.size > ns_795 := f795_7.lt
  have hg3 := own_bldG f795_8
  obtain ⟨T796, h796, X796, e796, E796, A796, D796, -, st796⟩ := newO X795 hx hZ0 hown0 (w_90 hw) (w_91 hw) (w_92 hw) eK795 (g := (mkF m 299 #[iv p0, iv p1, iv p2, iv p3, iv n0, iv n1, iv n2, iv (((p3.toUInt32 >>> ((3 : Int32) &&& 31).toUInt32).toInt32) &&& 3), iv tg, iv b0, iv b1, iv b2, iv cnt, iv pl, iv e1, iv e2, rv b790, rv r_795, .unset, .unset, .unset, .unset, .unset, .unset, .unset, .unset, .unset] [])) rfl (hb hby at_299) (by decide) (by decide)
  obtain ⟨b796, g796⟩ : ∃ z, z = T795.heap.size := ⟨_, rfl⟩
  rw [← g796] at A796 D796 st796
  have u796 : h796.size > b796 := A796.lt
  have z796 : T795.heap.size ≤ h796.size := E796.1
  have KP796 : Keep h0 h796 ([] : List Addr) := KP795.ext E796
  have Fn796_103 : Fld Z h796 b796 "com/example/syntagma/syntagma/service/DocumentText$Positions" "text" "Lcom/example/syntagma/syntagma/service/DocumentText;" .null := D796 (Or.inl (w_103 hw)) (ty := (.object "com/example/syntagma/syntagma/service/DocumentText")) (by decide)
  have Fn796_109 : Fld Z h796 b796 "com/example/syntagma/syntagma/service/DocumentText$Positions" "next" "I" (.int 0) := D796 (Or.inl (w_109 hw)) (ty := .int) (by decide)
  have Fn796_111 : Fld Z h796 b796 "com/example/syntagma/syntagma/service/DocumentText$Positions" "end" "I" (.int 0) := D796 (Or.inl (w_111 hw)) (ty := .int) (by decide)
  have Fn796_113 : Fld Z h796 b796 "com/example/syntagma/syntagma/service/DocumentText$Positions" "position" "I" (.int 0) := D796 (Or.inl (w_113 hw)) (ty := .int) (by decide)
  obtain ⟨v797, _, ⟨T797, L797, k797, n797⟩, -, X797, ⟨Lc797, hQ797, l797, y797, z797⟩, st797⟩ := X796.specialBack hx (y := yM13) rfl hown0 (mvT hZ0 (w_93 hw)) (mvT hZ0 (w_94 hw)) (mvT hZ0 (w_95 hw)) (by decide) (backOf (W := 1) (rmPos l Z a0 hw [] b796 h796 ) hZ0 (w_95 hw) (w_92 hw) (by decide) (by decide)) (g := (mkF m 303 #[iv p0, iv p1, iv p2, iv p3, iv n0, iv n1, iv n2, iv (((p3.toUInt32 >>> ((3 : Int32) &&& 31).toUInt32).toInt32) &&& 3), iv tg, iv b0, iv b1, iv b2, iv cnt, iv pl, iv e1, iv e2, rv b790, rv r_795, .unset, .unset, .unset, .unset, .unset, .unset, .unset, .unset, .unset] [(.ref b796), (.ref b796)])) rfl (by rw [hml]; rfl) (Steps.refl _) (a := b796) (argsL := []) (rest := [(.ref b796)]) (lenOf pd_8 rfl) rfl (by show 2 * 0 + _ ≤ _; exact Nat.le_of_eq rfl) (hb hby at_303) (fun _ _ => ⟨rfl, e796, (by decide : 12 + 0 ≤ _), (by decide : 313 + 0 ≤ _)⟩)
  dsimp only [Pt.U, Pt.locs, Pt.cells, Pt.slots] at X797 l797 y797 z797 st797 hQ797
  subst l797 y797 z797
  obtain ⟨rfl, Nq797, eh797⟩ := hQ797
  have N797 := Fr.app N795 Nq797
  obtain ⟨hj1, hj2, hlea⟩ := own_bldP f795_8 ht hr_l0 hr_l1 hr_l2 hr_la hr_pl
  have F799 := (f795_3.ext E796)
  have F800 := (f795_5.ext E796)
  have F801 := (f795_7.ext E796)
  obtain ⟨cq798, kq798, q798a, q798b, q798c⟩ := isOf hZ0 eh797 A796
  obtain ⟨v798, _, ⟨T798, L798, k798, n798⟩, -, X798, ⟨Lc798, hQ798, l798, y798, z798⟩, st798⟩ := X797.virtualBack hx (y := yM14) (z := yM14) hown0 (mvT hZ0 (w_97 hw)) (mvT hZ0 (w_98 hw)) (notFace_of_selects (args := #[]) (mvT hZ0 (w_100 hw))) (mvT hZ0 (w_100 hw)) (mvT hZ0 (w_99 hw)) (by decide) (backOf (W := 0) (rmOf l Z a0 hw [] b796 r_795 pl ns_795 kn_795 z_795 t1_795 t2_795 t3_795 h796 (by omega) (by omega) (show @Ne Nat r_795 b796 by omega) (show @Ne Nat ns_795 b796 by omega) A796 F799 Fn796_103 Fn796_109 Fn796_111 Fn796_113 F800 F801 hj1 hj2) hZ0 (w_101 hw) (w_92 hw) (by decide) (by decide)) q798a q798c (g := (mkF m 314 #[iv p0, iv p1, iv p2, iv p3, iv n0, iv n1, iv n2, iv (((p3.toUInt32 >>> ((3 : Int32) &&& 31).toUInt32).toInt32) &&& 3), iv tg, iv b0, iv b1, iv b2, iv cnt, iv pl, iv e1, iv e2, rv b790, rv r_795, rv b796, .unset, .unset, .unset, .unset, .unset, .unset, .unset, .unset] [(.int pl), (.ref r_795), (.ref b796)])) rfl (by rw [hml]; rfl) (Steps.refl _) (argsL := [(.ref r_795), (.int pl)]) (rest := []) (lenOf pd_11 rfl) rfl (by show 2 * 0 + _ ≤ _; exact Nat.le_of_eq rfl) (hb hby at_314) (fun _ _ => ⟨rfl, eh797, (by decide : 12 + 0 ≤ _), (by decide : 313 + 0 ≤ _)⟩)
  dsimp only [Pt.U, Pt.locs, Pt.cells, Pt.slots] at X798 l798 y798 z798 st798 hQ798
  subst l798 y798 z798
  obtain ⟨rfl, Nq798, K798, f798_0, f798_1, f798_2, f798_3, f798_4⟩ := hQ798
  have N798 := Fr.app N797 Nq798
  have eK798 : T798.heap = T798.heap := rfl
  have z798 : h796.size ≤ T798.heap.size := K798.1
  have KP798 : Keep h0 T798.heap ([] : List Addr) := KP796.trans K798 (allS (P := fun x => x ∈ ([] : List Addr) ∨ h0.size ≤ x) (Or.inr (by omega)) all0)
  refine Go.on (w := T797.setTop (mkF m 314 #[iv p0, iv p1, iv p2, iv p3, iv n0, iv n1, iv n2, iv (((p3.toUInt32 >>> ((3 : Int32) &&& 31).toUInt32).toInt32) &&& 3), iv tg, iv b0, iv b1, iv b2, iv cnt, iv pl, iv e1, iv e2, rv b790, rv r_795, rv b796, .unset, .unset, .unset, .unset, .unset, .unset, .unset, .unset] [(.int pl), (.ref r_795), (.ref b796)])) (fun t k => XS.istore X0.here hx rfl (hb hby at_260) rfl (l' := #[iv p0, iv p1, iv p2, iv p3, iv n0, iv n1, iv n2, iv (((p3.toUInt32 >>> ((3 : Int32) &&& 31).toUInt32).toInt32) &&& 3), iv tg, iv b0, iv b1, iv b2, iv cnt, iv pl, iv e1, iv e2, .unset, .unset, .unset, .unset, .unset, .unset, .unset, .unset, .unset, .unset, .unset]) rfl (st790 _ (XS.dup X790.here hx rfl (hb hby at_265) rfl rfl (st791.trans (XS.astore X791.here hx rfl (hb hby at_269) rfl rfl (l' := #[iv p0, iv p1, iv p2, iv p3, iv n0, iv n1, iv n2, iv (((p3.toUInt32 >>> ((3 : Int32) &&& 31).toUInt32).toInt32) &&& 3), iv tg, iv b0, iv b1, iv b2, iv cnt, iv pl, iv e1, iv e2, rv b790, .unset, .unset, .unset, .unset, .unset, .unset, .unset, .unset, .unset, .unset]) rfl (XS.aload X791.here hx rfl (hb hby at_271) rfl rfl (XS.iload X791.here hx rfl (hb hby at_273) rfl (st792.trans (XS.aload X792.here hx rfl (hb hby at_278) rfl rfl (XS.iload X792.here hx rfl (hb hby at_280) rfl (st793.trans (XS.aload X793.here hx rfl (hb hby at_285) rfl rfl (XS.iload X793.here hx rfl (hb hby at_287) rfl (st794.trans (XS.aload X794.here hx rfl (hb hby at_292) rfl rfl (st795.trans (XS.astore X795.here hx rfl (hb hby at_297) rfl rfl (l' := #[iv p0, iv p1, iv p2, iv p3, iv n0, iv n1, iv n2, iv (((p3.toUInt32 >>> ((3 : Int32) &&& 31).toUInt32).toInt32) &&& 3), iv tg, iv b0, iv b1, iv b2, iv cnt, iv pl, iv e1, iv e2, rv b790, rv r_795, .unset, .unset, .unset, .unset, .unset, .unset, .unset, .unset, .unset]) rfl (st796 _ (XS.dup X796.here hx rfl (hb hby at_302) rfl rfl (st797.trans (XS.astore X797.here hx rfl (hb hby at_306) rfl rfl (l' := #[iv p0, iv p1, iv p2, iv p3, iv n0, iv n1, iv n2, iv (((p3.toUInt32 >>> ((3 : Int32) &&& 31).toUInt32).toInt32) &&& 3), iv tg, iv b0, iv b1, iv b2, iv cnt, iv pl, iv e1, iv e2, rv b790, rv r_795, rv b796, .unset, .unset, .unset, .unset, .unset, .unset, .unset, .unset]) rfl (XS.aload X797.here hx rfl (hb hby at_308) rfl rfl (XS.aload X797.here hx rfl (hb hby at_310) rfl rfl (XS.iload X797.here hx rfl (hb hby at_312) rfl k)))))))))))))))))))))))) ?_
  refine Go.on (w := T798.setTop (mkF m 317 #[iv p0, iv p1, iv p2, iv p3, iv n0, iv n1, iv n2, iv (((p3.toUInt32 >>> ((3 : Int32) &&& 31).toUInt32).toInt32) &&& 3), iv tg, iv b0, iv b1, iv b2, iv cnt, iv pl, iv e1, iv e2, rv b790, rv r_795, rv b796, .unset, .unset, .unset, .unset, .unset, .unset, .unset, .unset] [])) (fun t k => st798.trans k) ?_
  have F803 := (F799.keep K798)
  have F804 := ((f795_4.ext E796).keep K798 (ninS (show @Ne Nat r_795 b796 by omega) nin0))
  have F805 := ((f795_6.ext E796).keep K798 (ninS (show @Ne Nat ag_795 b796 by omega) nin0))
  obtain ⟨cq802, kq802, q802a, q802b, q802c⟩ := isOf hZ0 eK798 f798_0
  obtain ⟨v802, _, ⟨T802, L802, k802, n802⟩, -, X802, ⟨Lc802, hQ802, l802, y802, z802⟩, st802⟩ := X798.virtualBack hx (y := yM16) (z := yM16) hown0 (mvT hZ0 (w_114 hw)) (mvT hZ0 (w_115 hw)) (notFace_of_selects (args := #[]) (mvT hZ0 (w_117 hw))) (mvT hZ0 (w_117 hw)) (mvT hZ0 (w_116 hw)) (by decide) (backOf (W := 0) (rmNext l Z a0 hw [] b796 r_795 (own_a4 (0 : Int32) t1_795 t2_795 t3_795 pl) (own_a4 (0 : Int32) t1_795 t2_795 t3_795 (pl + (1 : Int32))) (-1 : Int32) ag_795 kg_795 g0_795 g1_795 g2_795 T798.heap (by omega) (by omega) (show @Ne Nat r_795 b796 by omega) (show @Ne Nat ag_795 b796 by omega) f798_0 F803 f798_1 f798_2 f798_3 f798_4 F804 F805 hlea hg3) hZ0 (w_118 hw) (w_92 hw) (by decide) (by decide)) q802a q802c (g := (mkF m 319 #[iv p0, iv p1, iv p2, iv p3, iv n0, iv n1, iv n2, iv (((p3.toUInt32 >>> ((3 : Int32) &&& 31).toUInt32).toInt32) &&& 3), iv tg, iv b0, iv b1, iv b2, iv cnt, iv pl, iv e1, iv e2, rv b790, rv r_795, rv b796, .unset, .unset, .unset, .unset, .unset, .unset, .unset, .unset] [(.ref b796)])) rfl (by rw [hml]; rfl) (Steps.refl _) (argsL := []) (rest := []) (lenOf pd_12 rfl) rfl (by show 2 * 0 + _ ≤ _; exact Nat.le_of_eq rfl) (hb hby at_319) (fun _ _ => ⟨rfl, eK798, (by decide : 12 + 0 ≤ _), (by decide : 313 + 0 ≤ _)⟩)
  dsimp only [Pt.U, Pt.locs, Pt.cells, Pt.slots] at X802 l802 y802 z802 st802 hQ802
  subst l802 y802 z802
  obtain ⟨v_802, nx'_802, ps'_802, rfl, Nq802, K802, f802_0, f802_1, f802_2, f802_3, f802_4, f802_5⟩ := hQ802
  have N802 := Fr.app N798 Nq802
  have eK802 : T802.heap = T802.heap := rfl
  have z802 : T798.heap.size ≤ T802.heap.size := K802.1
  have KP802 : Keep h0 T802.heap ([] : List Addr) := KP798.trans K802 (allS (P := fun x => x ∈ ([] : List Addr) ∨ h0.size ≤ x) (Or.inr (by omega)) all0)
  obtain ⟨cq806, kq806, q806a, q806b, q806c⟩ := isOf hZ0 eK802 f802_0
  obtain ⟨v806, _, ⟨T806, L806, k806, n806⟩, -, X806, ⟨Lc806, hQ806, l806, y806, z806⟩, st806⟩ := X802.virtualBack hx (y := yM17) (z := yM17) hown0 (mvT hZ0 (w_120 hw)) (mvT hZ0 (w_121 hw)) (notFace_of_selects (args := #[]) (mvT hZ0 (w_123 hw))) (mvT hZ0 (w_123 hw)) (mvT hZ0 (w_122 hw)) (by decide) (backOf (W := 0) (rmPsn l Z a0 hw [] b796 ps'_802 T802.heap f802_4) hZ0 (w_124 hw) (w_92 hw) (by decide) (by decide)) q806a q806c (g := (mkF m 326 #[iv p0, iv p1, iv p2, iv p3, iv n0, iv n1, iv n2, iv (((p3.toUInt32 >>> ((3 : Int32) &&& 31).toUInt32).toInt32) &&& 3), iv tg, iv b0, iv b1, iv b2, iv cnt, iv pl, iv e1, iv e2, rv b790, rv r_795, rv b796, iv v_802, .unset, .unset, .unset, .unset, .unset, .unset, .unset] [(.ref b796)])) rfl (by rw [hml]; rfl) (Steps.refl _) (argsL := []) (rest := []) (lenOf pd_13 rfl) rfl (by show 2 * 0 + _ ≤ _; exact Nat.le_of_eq rfl) (hb hby at_326) (fun _ _ => ⟨rfl, eK802, (by decide : 12 + 0 ≤ _), (by decide : 313 + 0 ≤ _)⟩)
  dsimp only [Pt.U, Pt.locs, Pt.cells, Pt.slots] at X806 l806 y806 z806 st806 hQ806
  subst l806 y806 z806
  obtain ⟨rfl, Nq806, eh806⟩ := hQ806
  have N806 := Fr.app N802 Nq806
  have F808 := (F803.keep K802)
  have F809 := (F804.keep K802 (ninS (show @Ne Nat r_795 b796 by omega) nin0))
  have F810 := (F805.keep K802 (ninS (show @Ne Nat ag_795 b796 by omega) nin0))
  obtain ⟨cq807, kq807, q807a, q807b, q807c⟩ := isOf hZ0 eh806 f802_0
  obtain ⟨v807, _, ⟨T807, L807, k807, n807⟩, -, X807, ⟨Lc807, hQ807, l807, y807, z807⟩, st807⟩ := X806.virtualBack hx (y := yM16) (z := yM16) hown0 (mvT hZ0 (w_114 hw)) (mvT hZ0 (w_115 hw)) (notFace_of_selects (args := #[]) (mvT hZ0 (w_117 hw))) (mvT hZ0 (w_117 hw)) (mvT hZ0 (w_116 hw)) (by decide) (backOf (W := 0) (rmNext l Z a0 hw [] b796 r_795 nx'_802 (own_a4 (0 : Int32) t1_795 t2_795 t3_795 (pl + (1 : Int32))) ps'_802 ag_795 kg_795 g0_795 g1_795 g2_795 T802.heap (by omega) (by omega) (show @Ne Nat r_795 b796 by omega) (show @Ne Nat ag_795 b796 by omega) f802_0 F808 f802_1 f802_2 f802_3 f802_4 F809 F810 (own_leN hlea f802_5) hg3) hZ0 (w_118 hw) (w_92 hw) (by decide) (by decide)) q807a q807c (g := (mkF m 333 #[iv p0, iv p1, iv p2, iv p3, iv n0, iv n1, iv n2, iv (((p3.toUInt32 >>> ((3 : Int32) &&& 31).toUInt32).toInt32) &&& 3), iv tg, iv b0, iv b1, iv b2, iv cnt, iv pl, iv e1, iv e2, rv b790, rv r_795, rv b796, iv v_802, iv ps'_802, .unset, .unset, .unset, .unset, .unset, .unset] [(.ref b796)])) rfl (by rw [hml]; rfl) (Steps.refl _) (argsL := []) (rest := []) (lenOf pd_12 rfl) rfl (by show 2 * 0 + _ ≤ _; exact Nat.le_of_eq rfl) (hb hby at_333) (fun _ _ => ⟨rfl, eh806, (by decide : 12 + 0 ≤ _), (by decide : 313 + 0 ≤ _)⟩)
  dsimp only [Pt.U, Pt.locs, Pt.cells, Pt.slots] at X807 l807 y807 z807 st807 hQ807
  subst l807 y807 z807
  obtain ⟨v_807, nx'_807, ps'_807, rfl, Nq807, K807, f807_0, f807_1, f807_2, f807_3, f807_4, f807_5⟩ := hQ807
  have N807 := Fr.app N806 Nq807
  have eK807 : T807.heap = T807.heap := rfl
  have z807 : T802.heap.size ≤ T807.heap.size := K807.1
  have KP807 : Keep h0 T807.heap ([] : List Addr) := KP802.trans K807 (allS (P := fun x => x ∈ ([] : List Addr) ∨ h0.size ≤ x) (Or.inr (by omega)) all0)
  obtain ⟨cq811, kq811, q811a, q811b, q811c⟩ := isOf hZ0 eK807 f807_0
  obtain ⟨v811, _, ⟨T811, L811, k811, n811⟩, -, X811, ⟨Lc811, hQ811, l811, y811, z811⟩, st811⟩ := X807.virtualBack hx (y := yM17) (z := yM17) hown0 (mvT hZ0 (w_120 hw)) (mvT hZ0 (w_121 hw)) (notFace_of_selects (args := #[]) (mvT hZ0 (w_123 hw))) (mvT hZ0 (w_123 hw)) (mvT hZ0 (w_122 hw)) (by decide) (backOf (W := 0) (rmPsn l Z a0 hw [] b796 ps'_807 T807.heap f807_4) hZ0 (w_124 hw) (w_92 hw) (by decide) (by decide)) q811a q811c (g := (mkF m 340 #[iv p0, iv p1, iv p2, iv p3, iv n0, iv n1, iv n2, iv (((p3.toUInt32 >>> ((3 : Int32) &&& 31).toUInt32).toInt32) &&& 3), iv tg, iv b0, iv b1, iv b2, iv cnt, iv pl, iv e1, iv e2, rv b790, rv r_795, rv b796, iv v_802, iv ps'_802, iv v_807, .unset, .unset, .unset, .unset, .unset] [(.ref b796)])) rfl (by rw [hml]; rfl) (Steps.refl _) (argsL := []) (rest := []) (lenOf pd_13 rfl) rfl (by show 2 * 0 + _ ≤ _; exact Nat.le_of_eq rfl) (hb hby at_340) (fun _ _ => ⟨rfl, eK807, (by decide : 12 + 0 ≤ _), (by decide : 313 + 0 ≤ _)⟩)
  dsimp only [Pt.U, Pt.locs, Pt.cells, Pt.slots] at X811 l811 y811 z811 st811 hQ811
  subst l811 y811 z811
  obtain ⟨rfl, Nq811, eh811⟩ := hQ811
  have N811 := Fr.app N807 Nq811
  have F813 := (F808.keep K807)
  have F814 := (F809.keep K807 (ninS (show @Ne Nat r_795 b796 by omega) nin0))
  have F815 := (F810.keep K807 (ninS (show @Ne Nat ag_795 b796 by omega) nin0))
  obtain ⟨cq812, kq812, q812a, q812b, q812c⟩ := isOf hZ0 eh811 f807_0
  obtain ⟨v812, _, ⟨T812, L812, k812, n812⟩, -, X812, ⟨Lc812, hQ812, l812, y812, z812⟩, st812⟩ := X811.virtualBack hx (y := yM16) (z := yM16) hown0 (mvT hZ0 (w_114 hw)) (mvT hZ0 (w_115 hw)) (notFace_of_selects (args := #[]) (mvT hZ0 (w_117 hw))) (mvT hZ0 (w_117 hw)) (mvT hZ0 (w_116 hw)) (by decide) (backOf (W := 0) (rmNext l Z a0 hw [] b796 r_795 nx'_807 (own_a4 (0 : Int32) t1_795 t2_795 t3_795 (pl + (1 : Int32))) ps'_807 ag_795 kg_795 g0_795 g1_795 g2_795 T807.heap (by omega) (by omega) (show @Ne Nat r_795 b796 by omega) (show @Ne Nat ag_795 b796 by omega) f807_0 F813 f807_1 f807_2 f807_3 f807_4 F814 F815 (own_leN (own_leN hlea f802_5) f807_5) hg3) hZ0 (w_118 hw) (w_92 hw) (by decide) (by decide)) q812a q812c (g := (mkF m 347 #[iv p0, iv p1, iv p2, iv p3, iv n0, iv n1, iv n2, iv (((p3.toUInt32 >>> ((3 : Int32) &&& 31).toUInt32).toInt32) &&& 3), iv tg, iv b0, iv b1, iv b2, iv cnt, iv pl, iv e1, iv e2, rv b790, rv r_795, rv b796, iv v_802, iv ps'_802, iv v_807, iv ps'_807, .unset, .unset, .unset, .unset] [(.ref b796)])) rfl (by rw [hml]; rfl) (Steps.refl _) (argsL := []) (rest := []) (lenOf pd_12 rfl) rfl (by show 2 * 0 + _ ≤ _; exact Nat.le_of_eq rfl) (hb hby at_347) (fun _ _ => ⟨rfl, eh811, (by decide : 12 + 0 ≤ _), (by decide : 313 + 0 ≤ _)⟩)
  dsimp only [Pt.U, Pt.locs, Pt.cells, Pt.slots] at X812 l812 y812 z812 st812 hQ812
  subst l812 y812 z812
  obtain ⟨v_812, nx'_812, ps'_812, rfl, Nq812, K812, f812_0, f812_1, f812_2, f812_3, f812_4, f812_5⟩ := hQ812
  have N812 := Fr.app N811 Nq812
  have eK812 : T812.heap = T812.heap := rfl
  have z812 : T807.heap.size ≤ T812.heap.size := K812.1
  have KP812 : Keep h0 T812.heap ([] : List Addr) := KP807.trans K812 (allS (P := fun x => x ∈ ([] : List Addr) ∨ h0.size ≤ x) (Or.inr (by omega)) all0)
  obtain ⟨cq816, kq816, q816a, q816b, q816c⟩ := isOf hZ0 eK812 f812_0
  obtain ⟨v816, _, ⟨T816, L816, k816, n816⟩, -, X816, ⟨Lc816, hQ816, l816, y816, z816⟩, st816⟩ := X812.virtualBack hx (y := yM17) (z := yM17) hown0 (mvT hZ0 (w_120 hw)) (mvT hZ0 (w_121 hw)) (notFace_of_selects (args := #[]) (mvT hZ0 (w_123 hw))) (mvT hZ0 (w_123 hw)) (mvT hZ0 (w_122 hw)) (by decide) (backOf (W := 0) (rmPsn l Z a0 hw [] b796 ps'_812 T812.heap f812_4) hZ0 (w_124 hw) (w_92 hw) (by decide) (by decide)) q816a q816c (g := (mkF m 354 #[iv p0, iv p1, iv p2, iv p3, iv n0, iv n1, iv n2, iv (((p3.toUInt32 >>> ((3 : Int32) &&& 31).toUInt32).toInt32) &&& 3), iv tg, iv b0, iv b1, iv b2, iv cnt, iv pl, iv e1, iv e2, rv b790, rv r_795, rv b796, iv v_802, iv ps'_802, iv v_807, iv ps'_807, iv v_812, .unset, .unset, .unset] [(.ref b796)])) rfl (by rw [hml]; rfl) (Steps.refl _) (argsL := []) (rest := []) (lenOf pd_13 rfl) rfl (by show 2 * 0 + _ ≤ _; exact Nat.le_of_eq rfl) (hb hby at_354) (fun _ _ => ⟨rfl, eK812, (by decide : 12 + 0 ≤ _), (by decide : 313 + 0 ≤ _)⟩)
  dsimp only [Pt.U, Pt.locs, Pt.cells, Pt.slots] at X816 l816 y816 z816 st816 hQ816
  subst l816 y816 z816
  obtain ⟨rfl, Nq816, eh816⟩ := hQ816
  have N816 := Fr.app N812 Nq816
  have F818 := (F813.keep K812)
  have F819 := (F814.keep K812 (ninS (show @Ne Nat r_795 b796 by omega) nin0))
  have F820 := (F815.keep K812 (ninS (show @Ne Nat ag_795 b796 by omega) nin0))
  obtain ⟨cq817, kq817, q817a, q817b, q817c⟩ := isOf hZ0 eh816 f812_0
  obtain ⟨v817, _, ⟨T817, L817, k817, n817⟩, -, X817, ⟨Lc817, hQ817, l817, y817, z817⟩, st817⟩ := X816.virtualBack hx (y := yM16) (z := yM16) hown0 (mvT hZ0 (w_114 hw)) (mvT hZ0 (w_115 hw)) (notFace_of_selects (args := #[]) (mvT hZ0 (w_117 hw))) (mvT hZ0 (w_117 hw)) (mvT hZ0 (w_116 hw)) (by decide) (backOf (W := 0) (rmNext l Z a0 hw [] b796 r_795 nx'_812 (own_a4 (0 : Int32) t1_795 t2_795 t3_795 (pl + (1 : Int32))) ps'_812 ag_795 kg_795 g0_795 g1_795 g2_795 T812.heap (by omega) (by omega) (show @Ne Nat r_795 b796 by omega) (show @Ne Nat ag_795 b796 by omega) f812_0 F818 f812_1 f812_2 f812_3 f812_4 F819 F820 (own_leN (own_leN (own_leN hlea f802_5) f807_5) f812_5) hg3) hZ0 (w_118 hw) (w_92 hw) (by decide) (by decide)) q817a q817c (g := (mkF m 361 #[iv p0, iv p1, iv p2, iv p3, iv n0, iv n1, iv n2, iv (((p3.toUInt32 >>> ((3 : Int32) &&& 31).toUInt32).toInt32) &&& 3), iv tg, iv b0, iv b1, iv b2, iv cnt, iv pl, iv e1, iv e2, rv b790, rv r_795, rv b796, iv v_802, iv ps'_802, iv v_807, iv ps'_807, iv v_812, iv ps'_812, .unset, .unset] [(.ref b796)])) rfl (by rw [hml]; rfl) (Steps.refl _) (argsL := []) (rest := []) (lenOf pd_12 rfl) rfl (by show 2 * 0 + _ ≤ _; exact Nat.le_of_eq rfl) (hb hby at_361) (fun _ _ => ⟨rfl, eh816, (by decide : 12 + 0 ≤ _), (by decide : 313 + 0 ≤ _)⟩)
  dsimp only [Pt.U, Pt.locs, Pt.cells, Pt.slots] at X817 l817 y817 z817 st817 hQ817
  subst l817 y817 z817
  obtain ⟨v_817, nx'_817, ps'_817, rfl, Nq817, K817, f817_0, f817_1, f817_2, f817_3, f817_4, f817_5⟩ := hQ817
  have N817 := Fr.app N816 Nq817
  have eK817 : T817.heap = T817.heap := rfl
  have z817 : T812.heap.size ≤ T817.heap.size := K817.1
  have KP817 : Keep h0 T817.heap ([] : List Addr) := KP812.trans K817 (allS (P := fun x => x ∈ ([] : List Addr) ∨ h0.size ≤ x) (Or.inr (by omega)) all0)
  obtain ⟨hR1, hP1, hA, hB, hC, hD⟩ := own_final ht hr_b0 hr_b1 hr_b2 hr_w0 hr_w1 hr_w2 hr_ca hr_cnt hr_l0 hr_l1 hr_l2 hr_la hr_pl hr_e1 hr_e2 f795_8 f802_5 f807_5 f812_5 f817_5
  refine Go.on (w := T817.setTop (mkF m 366 #[iv p0, iv p1, iv p2, iv p3, iv n0, iv n1, iv n2, iv (((p3.toUInt32 >>> ((3 : Int32) &&& 31).toUInt32).toInt32) &&& 3), iv tg, iv b0, iv b1, iv b2, iv cnt, iv pl, iv e1, iv e2, rv b790, rv r_795, rv b796, iv v_802, iv ps'_802, iv v_807, iv ps'_807, iv v_812, iv ps'_812, iv v_817, .unset] [])) (fun t k => XS.aload X798.here hx rfl (hb hby at_317) rfl rfl (st802.trans (XS.istore X802.here hx rfl (hb hby at_322) rfl (l' := #[iv p0, iv p1, iv p2, iv p3, iv n0, iv n1, iv n2, iv (((p3.toUInt32 >>> ((3 : Int32) &&& 31).toUInt32).toInt32) &&& 3), iv tg, iv b0, iv b1, iv b2, iv cnt, iv pl, iv e1, iv e2, rv b790, rv r_795, rv b796, iv v_802, .unset, .unset, .unset, .unset, .unset, .unset, .unset]) rfl (XS.aload X802.here hx rfl (hb hby at_324) rfl rfl (st806.trans (XS.istore X806.here hx rfl (hb hby at_329) rfl (l' := #[iv p0, iv p1, iv p2, iv p3, iv n0, iv n1, iv n2, iv (((p3.toUInt32 >>> ((3 : Int32) &&& 31).toUInt32).toInt32) &&& 3), iv tg, iv b0, iv b1, iv b2, iv cnt, iv pl, iv e1, iv e2, rv b790, rv r_795, rv b796, iv v_802, iv ps'_802, .unset, .unset, .unset, .unset, .unset, .unset]) rfl (XS.aload X806.here hx rfl (hb hby at_331) rfl rfl (st807.trans (XS.istore X807.here hx rfl (hb hby at_336) rfl (l' := #[iv p0, iv p1, iv p2, iv p3, iv n0, iv n1, iv n2, iv (((p3.toUInt32 >>> ((3 : Int32) &&& 31).toUInt32).toInt32) &&& 3), iv tg, iv b0, iv b1, iv b2, iv cnt, iv pl, iv e1, iv e2, rv b790, rv r_795, rv b796, iv v_802, iv ps'_802, iv v_807, .unset, .unset, .unset, .unset, .unset]) rfl (XS.aload X807.here hx rfl (hb hby at_338) rfl rfl (st811.trans (XS.istore X811.here hx rfl (hb hby at_343) rfl (l' := #[iv p0, iv p1, iv p2, iv p3, iv n0, iv n1, iv n2, iv (((p3.toUInt32 >>> ((3 : Int32) &&& 31).toUInt32).toInt32) &&& 3), iv tg, iv b0, iv b1, iv b2, iv cnt, iv pl, iv e1, iv e2, rv b790, rv r_795, rv b796, iv v_802, iv ps'_802, iv v_807, iv ps'_807, .unset, .unset, .unset, .unset]) rfl (XS.aload X811.here hx rfl (hb hby at_345) rfl rfl (st812.trans (XS.istore X812.here hx rfl (hb hby at_350) rfl (l' := #[iv p0, iv p1, iv p2, iv p3, iv n0, iv n1, iv n2, iv (((p3.toUInt32 >>> ((3 : Int32) &&& 31).toUInt32).toInt32) &&& 3), iv tg, iv b0, iv b1, iv b2, iv cnt, iv pl, iv e1, iv e2, rv b790, rv r_795, rv b796, iv v_802, iv ps'_802, iv v_807, iv ps'_807, iv v_812, .unset, .unset, .unset]) rfl (XS.aload X812.here hx rfl (hb hby at_352) rfl rfl (st816.trans (XS.istore X816.here hx rfl (hb hby at_357) rfl (l' := #[iv p0, iv p1, iv p2, iv p3, iv n0, iv n1, iv n2, iv (((p3.toUInt32 >>> ((3 : Int32) &&& 31).toUInt32).toInt32) &&& 3), iv tg, iv b0, iv b1, iv b2, iv cnt, iv pl, iv e1, iv e2, rv b790, rv r_795, rv b796, iv v_802, iv ps'_802, iv v_807, iv ps'_807, iv v_812, iv ps'_812, .unset, .unset]) rfl (XS.aload X816.here hx rfl (hb hby at_359) rfl rfl (st817.trans (XS.istore X817.here hx rfl (hb hby at_364) rfl (l' := #[iv p0, iv p1, iv p2, iv p3, iv n0, iv n1, iv n2, iv (((p3.toUInt32 >>> ((3 : Int32) &&& 31).toUInt32).toInt32) &&& 3), iv tg, iv b0, iv b1, iv b2, iv cnt, iv pl, iv e1, iv e2, rv b790, rv r_795, rv b796, iv v_802, iv ps'_802, iv v_807, iv ps'_807, iv v_812, iv ps'_812, iv v_817, .unset]) rfl k))))))))))))))))))))) ?_
  by_cases hcA : cnt < (2 : Int32)
  ·
    obtain ⟨q2, q3, q4⟩ := hA hcA
    refine Go.on (w := T817.setTop (mkF m 431 #[iv p0, iv p1, iv p2, iv p3, iv n0, iv n1, iv n2, iv (((p3.toUInt32 >>> ((3 : Int32) &&& 31).toUInt32).toInt32) &&& 3), iv tg, iv b0, iv b1, iv b2, iv cnt, iv pl, iv e1, iv e2, rv b790, rv r_795, rv b796, iv v_802, iv ps'_802, iv v_807, iv ps'_807, iv v_812, iv ps'_812, iv v_817, iv 1] [])) (fun t k => XS.iload X817.here hx rfl (hb hby at_366) rfl (XS.ifNo X817.here hx rfl (hb hby at_368) rfl ((if0 _ _).trans (feq hR1).1) (XS.iload X817.here hx rfl (hb hby at_371) rfl (XS.iload X817.here hx rfl (hb hby at_373) rfl (XS.icmpNo X817.here hx rfl (hb hby at_375) rfl (teq hP1).2 (XS.iconst X817.here hx rfl (hb hby at_378) (XS.goto X817.here hx rfl (pc0 := 379) (pc' := 383) rfl (hb hby at_379) (by decide) (by decide) (XS.istore X817.here hx rfl (hb hby at_383) rfl (l' := #[iv p0, iv p1, iv p2, iv p3, iv n0, iv n1, iv n2, iv (((p3.toUInt32 >>> ((3 : Int32) &&& 31).toUInt32).toInt32) &&& 3), iv tg, iv b0, iv b1, iv b2, iv cnt, iv pl, iv e1, iv e2, rv b790, rv r_795, rv b796, iv v_802, iv ps'_802, iv v_807, iv ps'_807, iv v_812, iv ps'_812, iv v_817, iv 1]) rfl (XS.iload X817.here hx rfl (hb hby at_385) rfl (XS.ifNo X817.here hx rfl (hb hby at_387) rfl ((if0 _ _).trans (feq (by decide : ¬ ((1 : Int32) = (0 : Int32)))).1) (XS.iload X817.here hx rfl (hb hby at_390) rfl (XS.iload X817.here hx rfl (hb hby at_392) rfl (XS.iconst X817.here hx rfl (hb hby at_394) (XS.icmpYes X817.here hx rfl (pc0 := 395) (pc' := 402) rfl (hb hby at_395) rfl (tlt hcA).1 (by decide) (by decide) (XS.iconst X817.here hx rfl (hb hby at_402) (XS.icmpNo X817.here hx rfl (hb hby at_403) rfl (teq q2).2 (XS.iload X817.here hx rfl (hb hby at_406) rfl (XS.iconst X817.here hx rfl (hb hby at_408) (XS.icmpYes X817.here hx rfl (pc0 := 409) (pc' := 419) rfl (hb hby at_409) rfl (tlt hcA).1 (by decide) (by decide) (XS.iconst X817.here hx rfl (hb hby at_419) (XS.goto X817.here hx rfl (pc0 := 420) (pc' := 424) rfl (hb hby at_420) (by decide) (by decide) (XS.istore X817.here hx rfl (hb hby at_424) rfl (l' := #[iv p0, iv p1, iv p2, iv p3, iv n0, iv n1, iv n2, iv (((p3.toUInt32 >>> ((3 : Int32) &&& 31).toUInt32).toInt32) &&& 3), iv tg, iv b0, iv b1, iv b2, iv cnt, iv pl, iv e1, iv e2, rv b790, rv r_795, rv b796, iv v_802, iv ps'_802, iv v_807, iv ps'_807, iv v_812, iv ps'_812, iv v_817, iv 1]) rfl (XS.iload X817.here hx rfl (hb hby at_426) rfl (XS.ifNo X817.here hx rfl (hb hby at_428) rfl ((if0 _ _).trans (feq (by decide : ¬ ((1 : Int32) = (0 : Int32)))).1) k)))))))))))))))))))))))) ?_
    refine Go.on (w := T817.setTop (mkF m 433 #[iv p0, iv p1, iv p2, iv p3, iv n0, iv n1, iv n2, iv (((p3.toUInt32 >>> ((3 : Int32) &&& 31).toUInt32).toInt32) &&& 3), iv tg, iv b0, iv b1, iv b2, iv cnt, iv pl, iv e1, iv e2, rv b790, rv r_795, rv b796, iv v_802, iv ps'_802, iv v_807, iv ps'_807, iv v_812, iv ps'_812, iv v_817, iv 1] [(.int v_812)])) (fun t k => XS.iload X817.here hx rfl (hb hby at_431) rfl k) ?_
    refine Go.on (w := T817.setTop (mkF m 485 #[iv p0, iv p1, iv p2, iv p3, iv n0, iv n1, iv n2, iv (((p3.toUInt32 >>> ((3 : Int32) &&& 31).toUInt32).toInt32) &&& 3), iv tg, iv b0, iv b1, iv b2, iv cnt, iv pl, iv e1, iv e2, rv b790, rv r_795, rv b796, iv v_802, iv ps'_802, iv v_807, iv ps'_807, iv v_812, iv ps'_812, iv v_817, iv 1] [(.int 1)])) (fun t k => XS.iload X817.here hx rfl (hb hby at_433) rfl (XS.iconst X817.here hx rfl (hb hby at_435) (XS.icmpYes X817.here hx rfl (pc0 := 436) (pc' := 443) rfl (hb hby at_436) rfl (tlt (own_23 hcA)).1 (by decide) (by decide) (XS.iconst X817.here hx rfl (hb hby at_443) (XS.icmpNo X817.here hx rfl (hb hby at_444) rfl (teq q3).2 (XS.iload X817.here hx rfl (hb hby at_447) rfl (XS.iconst X817.here hx rfl (hb hby at_449) (XS.icmpYes X817.here hx rfl (pc0 := 450) (pc' := 459) rfl (hb hby at_450) rfl (tlt (own_23 hcA)).1 (by decide) (by decide) (XS.iconst X817.here hx rfl (hb hby at_459) (XS.goto X817.here hx rfl (pc0 := 460) (pc' := 464) rfl (hb hby at_460) (by decide) (by decide) (XS.istore X817.here hx rfl (hb hby at_464) rfl (l' := #[iv p0, iv p1, iv p2, iv p3, iv n0, iv n1, iv n2, iv (((p3.toUInt32 >>> ((3 : Int32) &&& 31).toUInt32).toInt32) &&& 3), iv tg, iv b0, iv b1, iv b2, iv cnt, iv pl, iv e1, iv e2, rv b790, rv r_795, rv b796, iv v_802, iv ps'_802, iv v_807, iv ps'_807, iv v_812, iv ps'_812, iv v_817, iv 1]) rfl (XS.iload X817.here hx rfl (hb hby at_466) rfl (XS.ifNo X817.here hx rfl (hb hby at_468) rfl ((if0 _ _).trans (feq (by decide : ¬ ((1 : Int32) = (0 : Int32)))).1) (XS.iload X817.here hx rfl (hb hby at_471) rfl (XS.ifNo X817.here hx rfl (hb hby at_473) rfl ((if0 _ _).trans (teq q4).2) (XS.iconst X817.here hx rfl (hb hby at_476) (XS.goto X817.here hx rfl (pc0 := 477) (pc' := 481) rfl (hb hby at_477) (by decide) (by decide) (XS.istore X817.here hx rfl (hb hby at_481) rfl (l' := #[iv p0, iv p1, iv p2, iv p3, iv n0, iv n1, iv n2, iv (((p3.toUInt32 >>> ((3 : Int32) &&& 31).toUInt32).toInt32) &&& 3), iv tg, iv b0, iv b1, iv b2, iv cnt, iv pl, iv e1, iv e2, rv b790, rv r_795, rv b796, iv v_802, iv ps'_802, iv v_807, iv ps'_807, iv v_812, iv ps'_812, iv v_817, iv 1]) rfl (XS.iload X817.here hx rfl (hb hby at_483) rfl k))))))))))))))))))) ?_
    refine Go.finH X817 hlk (v := some (.int 1)) (fun h => by rw [Bd.returns] at h; cases h) (fun fs hr => ?_) (endH (Q := Q_rm0 Z p0 p1 p2 p3 h0) (by rw [eK817]; exact ⟨rfl, N817, KP817⟩) (by decide) (by decide))
    exact retN X817 hx (t := .boolean) Bd.returns (by simp) (hb hby at_485) hr
  ·
    by_cases hcB : cnt < (3 : Int32)
    ·
      obtain ⟨q2, q2'⟩ := hB hcA
      obtain ⟨q3, q4⟩ := hC hcA hcB
      refine Go.on (w := T817.setTop (mkF m 420 #[iv p0, iv p1, iv p2, iv p3, iv n0, iv n1, iv n2, iv (((p3.toUInt32 >>> ((3 : Int32) &&& 31).toUInt32).toInt32) &&& 3), iv tg, iv b0, iv b1, iv b2, iv cnt, iv pl, iv e1, iv e2, rv b790, rv r_795, rv b796, iv v_802, iv ps'_802, iv v_807, iv ps'_807, iv v_812, iv ps'_812, iv v_817, iv 1] [(.int 1)])) (fun t k => XS.iload X817.here hx rfl (hb hby at_366) rfl (XS.ifNo X817.here hx rfl (hb hby at_368) rfl ((if0 _ _).trans (feq hR1).1) (XS.iload X817.here hx rfl (hb hby at_371) rfl (XS.iload X817.here hx rfl (hb hby at_373) rfl (XS.icmpNo X817.here hx rfl (hb hby at_375) rfl (teq hP1).2 (XS.iconst X817.here hx rfl (hb hby at_378) (XS.goto X817.here hx rfl (pc0 := 379) (pc' := 383) rfl (hb hby at_379) (by decide) (by decide) (XS.istore X817.here hx rfl (hb hby at_383) rfl (l' := #[iv p0, iv p1, iv p2, iv p3, iv n0, iv n1, iv n2, iv (((p3.toUInt32 >>> ((3 : Int32) &&& 31).toUInt32).toInt32) &&& 3), iv tg, iv b0, iv b1, iv b2, iv cnt, iv pl, iv e1, iv e2, rv b790, rv r_795, rv b796, iv v_802, iv ps'_802, iv v_807, iv ps'_807, iv v_812, iv ps'_812, iv v_817, iv 1]) rfl (XS.iload X817.here hx rfl (hb hby at_385) rfl (XS.ifNo X817.here hx rfl (hb hby at_387) rfl ((if0 _ _).trans (feq (by decide : ¬ ((1 : Int32) = (0 : Int32)))).1) (XS.iload X817.here hx rfl (hb hby at_390) rfl (XS.iload X817.here hx rfl (hb hby at_392) rfl (XS.iconst X817.here hx rfl (hb hby at_394) (XS.icmpNo X817.here hx rfl (hb hby at_395) rfl (flt hcA).1 (XS.iconst X817.here hx rfl (hb hby at_398) (XS.goto X817.here hx rfl (pc0 := 399) (pc' := 403) rfl (hb hby at_399) (by decide) (by decide) (XS.icmpNo X817.here hx rfl (hb hby at_403) rfl (teq q2).2 (XS.iload X817.here hx rfl (hb hby at_406) rfl (XS.iconst X817.here hx rfl (hb hby at_408) (XS.icmpNo X817.here hx rfl (hb hby at_409) rfl (flt hcA).1 (XS.iload X817.here hx rfl (hb hby at_412) rfl (XS.iload X817.here hx rfl (hb hby at_414) rfl (XS.icmpNo X817.here hx rfl (hb hby at_416) rfl (teq q2').2 (XS.iconst X817.here hx rfl (hb hby at_419) k)))))))))))))))))))))))) ?_
      refine Go.on (w := T817.setTop (mkF m 424 #[iv p0, iv p1, iv p2, iv p3, iv n0, iv n1, iv n2, iv (((p3.toUInt32 >>> ((3 : Int32) &&& 31).toUInt32).toInt32) &&& 3), iv tg, iv b0, iv b1, iv b2, iv cnt, iv pl, iv e1, iv e2, rv b790, rv r_795, rv b796, iv v_802, iv ps'_802, iv v_807, iv ps'_807, iv v_812, iv ps'_812, iv v_817, iv 1] [(.int 1)])) (fun t k => XS.goto X817.here hx rfl (pc0 := 420) (pc' := 424) rfl (hb hby at_420) (by decide) (by decide) k) ?_
      refine Go.on (w := T817.setTop (mkF m 485 #[iv p0, iv p1, iv p2, iv p3, iv n0, iv n1, iv n2, iv (((p3.toUInt32 >>> ((3 : Int32) &&& 31).toUInt32).toInt32) &&& 3), iv tg, iv b0, iv b1, iv b2, iv cnt, iv pl, iv e1, iv e2, rv b790, rv r_795, rv b796, iv v_802, iv ps'_802, iv v_807, iv ps'_807, iv v_812, iv ps'_812, iv v_817, iv 1] [(.int 1)])) (fun t k => XS.istore X817.here hx rfl (hb hby at_424) rfl (l' := #[iv p0, iv p1, iv p2, iv p3, iv n0, iv n1, iv n2, iv (((p3.toUInt32 >>> ((3 : Int32) &&& 31).toUInt32).toInt32) &&& 3), iv tg, iv b0, iv b1, iv b2, iv cnt, iv pl, iv e1, iv e2, rv b790, rv r_795, rv b796, iv v_802, iv ps'_802, iv v_807, iv ps'_807, iv v_812, iv ps'_812, iv v_817, iv 1]) rfl (XS.iload X817.here hx rfl (hb hby at_426) rfl (XS.ifNo X817.here hx rfl (hb hby at_428) rfl ((if0 _ _).trans (feq (by decide : ¬ ((1 : Int32) = (0 : Int32)))).1) (XS.iload X817.here hx rfl (hb hby at_431) rfl (XS.iload X817.here hx rfl (hb hby at_433) rfl (XS.iconst X817.here hx rfl (hb hby at_435) (XS.icmpYes X817.here hx rfl (pc0 := 436) (pc' := 443) rfl (hb hby at_436) rfl (tlt hcB).1 (by decide) (by decide) (XS.iconst X817.here hx rfl (hb hby at_443) (XS.icmpNo X817.here hx rfl (hb hby at_444) rfl (teq q3).2 (XS.iload X817.here hx rfl (hb hby at_447) rfl (XS.iconst X817.here hx rfl (hb hby at_449) (XS.icmpYes X817.here hx rfl (pc0 := 450) (pc' := 459) rfl (hb hby at_450) rfl (tlt hcB).1 (by decide) (by decide) (XS.iconst X817.here hx rfl (hb hby at_459) (XS.goto X817.here hx rfl (pc0 := 460) (pc' := 464) rfl (hb hby at_460) (by decide) (by decide) (XS.istore X817.here hx rfl (hb hby at_464) rfl (l' := #[iv p0, iv p1, iv p2, iv p3, iv n0, iv n1, iv n2, iv (((p3.toUInt32 >>> ((3 : Int32) &&& 31).toUInt32).toInt32) &&& 3), iv tg, iv b0, iv b1, iv b2, iv cnt, iv pl, iv e1, iv e2, rv b790, rv r_795, rv b796, iv v_802, iv ps'_802, iv v_807, iv ps'_807, iv v_812, iv ps'_812, iv v_817, iv 1]) rfl (XS.iload X817.here hx rfl (hb hby at_466) rfl (XS.ifNo X817.here hx rfl (hb hby at_468) rfl ((if0 _ _).trans (feq (by decide : ¬ ((1 : Int32) = (0 : Int32)))).1) (XS.iload X817.here hx rfl (hb hby at_471) rfl (XS.ifNo X817.here hx rfl (hb hby at_473) rfl ((if0 _ _).trans (teq q4).2) (XS.iconst X817.here hx rfl (hb hby at_476) (XS.goto X817.here hx rfl (pc0 := 477) (pc' := 481) rfl (hb hby at_477) (by decide) (by decide) (XS.istore X817.here hx rfl (hb hby at_481) rfl (l' := #[iv p0, iv p1, iv p2, iv p3, iv n0, iv n1, iv n2, iv (((p3.toUInt32 >>> ((3 : Int32) &&& 31).toUInt32).toInt32) &&& 3), iv tg, iv b0, iv b1, iv b2, iv cnt, iv pl, iv e1, iv e2, rv b790, rv r_795, rv b796, iv v_802, iv ps'_802, iv v_807, iv ps'_807, iv v_812, iv ps'_812, iv v_817, iv 1]) rfl (XS.iload X817.here hx rfl (hb hby at_483) rfl k))))))))))))))))))))))) ?_
      refine Go.finH X817 hlk (v := some (.int 1)) (fun h => by rw [Bd.returns] at h; cases h) (fun fs hr => ?_) (endH (Q := Q_rm0 Z p0 p1 p2 p3 h0) (by rw [eK817]; exact ⟨rfl, N817, KP817⟩) (by decide) (by decide))
      exact retN X817 hx (t := .boolean) Bd.returns (by simp) (hb hby at_485) hr
    ·
      obtain ⟨q2, q2'⟩ := hB hcA
      obtain ⟨q3, q3', q4⟩ := hD hcB
      refine Go.on (w := T817.setTop (mkF m 420 #[iv p0, iv p1, iv p2, iv p3, iv n0, iv n1, iv n2, iv (((p3.toUInt32 >>> ((3 : Int32) &&& 31).toUInt32).toInt32) &&& 3), iv tg, iv b0, iv b1, iv b2, iv cnt, iv pl, iv e1, iv e2, rv b790, rv r_795, rv b796, iv v_802, iv ps'_802, iv v_807, iv ps'_807, iv v_812, iv ps'_812, iv v_817, iv 1] [(.int 1)])) (fun t k => XS.iload X817.here hx rfl (hb hby at_366) rfl (XS.ifNo X817.here hx rfl (hb hby at_368) rfl ((if0 _ _).trans (feq hR1).1) (XS.iload X817.here hx rfl (hb hby at_371) rfl (XS.iload X817.here hx rfl (hb hby at_373) rfl (XS.icmpNo X817.here hx rfl (hb hby at_375) rfl (teq hP1).2 (XS.iconst X817.here hx rfl (hb hby at_378) (XS.goto X817.here hx rfl (pc0 := 379) (pc' := 383) rfl (hb hby at_379) (by decide) (by decide) (XS.istore X817.here hx rfl (hb hby at_383) rfl (l' := #[iv p0, iv p1, iv p2, iv p3, iv n0, iv n1, iv n2, iv (((p3.toUInt32 >>> ((3 : Int32) &&& 31).toUInt32).toInt32) &&& 3), iv tg, iv b0, iv b1, iv b2, iv cnt, iv pl, iv e1, iv e2, rv b790, rv r_795, rv b796, iv v_802, iv ps'_802, iv v_807, iv ps'_807, iv v_812, iv ps'_812, iv v_817, iv 1]) rfl (XS.iload X817.here hx rfl (hb hby at_385) rfl (XS.ifNo X817.here hx rfl (hb hby at_387) rfl ((if0 _ _).trans (feq (by decide : ¬ ((1 : Int32) = (0 : Int32)))).1) (XS.iload X817.here hx rfl (hb hby at_390) rfl (XS.iload X817.here hx rfl (hb hby at_392) rfl (XS.iconst X817.here hx rfl (hb hby at_394) (XS.icmpNo X817.here hx rfl (hb hby at_395) rfl (flt hcA).1 (XS.iconst X817.here hx rfl (hb hby at_398) (XS.goto X817.here hx rfl (pc0 := 399) (pc' := 403) rfl (hb hby at_399) (by decide) (by decide) (XS.icmpNo X817.here hx rfl (hb hby at_403) rfl (teq q2).2 (XS.iload X817.here hx rfl (hb hby at_406) rfl (XS.iconst X817.here hx rfl (hb hby at_408) (XS.icmpNo X817.here hx rfl (hb hby at_409) rfl (flt hcA).1 (XS.iload X817.here hx rfl (hb hby at_412) rfl (XS.iload X817.here hx rfl (hb hby at_414) rfl (XS.icmpNo X817.here hx rfl (hb hby at_416) rfl (teq q2').2 (XS.iconst X817.here hx rfl (hb hby at_419) k)))))))))))))))))))))))) ?_
      refine Go.on (w := T817.setTop (mkF m 424 #[iv p0, iv p1, iv p2, iv p3, iv n0, iv n1, iv n2, iv (((p3.toUInt32 >>> ((3 : Int32) &&& 31).toUInt32).toInt32) &&& 3), iv tg, iv b0, iv b1, iv b2, iv cnt, iv pl, iv e1, iv e2, rv b790, rv r_795, rv b796, iv v_802, iv ps'_802, iv v_807, iv ps'_807, iv v_812, iv ps'_812, iv v_817, iv 1] [(.int 1)])) (fun t k => XS.goto X817.here hx rfl (pc0 := 420) (pc' := 424) rfl (hb hby at_420) (by decide) (by decide) k) ?_
      refine Go.on (w := T817.setTop (mkF m 477 #[iv p0, iv p1, iv p2, iv p3, iv n0, iv n1, iv n2, iv (((p3.toUInt32 >>> ((3 : Int32) &&& 31).toUInt32).toInt32) &&& 3), iv tg, iv b0, iv b1, iv b2, iv cnt, iv pl, iv e1, iv e2, rv b790, rv r_795, rv b796, iv v_802, iv ps'_802, iv v_807, iv ps'_807, iv v_812, iv ps'_812, iv v_817, iv 1] [(.int 1)])) (fun t k => XS.istore X817.here hx rfl (hb hby at_424) rfl (l' := #[iv p0, iv p1, iv p2, iv p3, iv n0, iv n1, iv n2, iv (((p3.toUInt32 >>> ((3 : Int32) &&& 31).toUInt32).toInt32) &&& 3), iv tg, iv b0, iv b1, iv b2, iv cnt, iv pl, iv e1, iv e2, rv b790, rv r_795, rv b796, iv v_802, iv ps'_802, iv v_807, iv ps'_807, iv v_812, iv ps'_812, iv v_817, iv 1]) rfl (XS.iload X817.here hx rfl (hb hby at_426) rfl (XS.ifNo X817.here hx rfl (hb hby at_428) rfl ((if0 _ _).trans (feq (by decide : ¬ ((1 : Int32) = (0 : Int32)))).1) (XS.iload X817.here hx rfl (hb hby at_431) rfl (XS.iload X817.here hx rfl (hb hby at_433) rfl (XS.iconst X817.here hx rfl (hb hby at_435) (XS.icmpNo X817.here hx rfl (hb hby at_436) rfl (flt hcB).1 (XS.iconst X817.here hx rfl (hb hby at_439) (XS.goto X817.here hx rfl (pc0 := 440) (pc' := 444) rfl (hb hby at_440) (by decide) (by decide) (XS.icmpNo X817.here hx rfl (hb hby at_444) rfl (teq q3).2 (XS.iload X817.here hx rfl (hb hby at_447) rfl (XS.iconst X817.here hx rfl (hb hby at_449) (XS.icmpNo X817.here hx rfl (hb hby at_450) rfl (flt hcB).1 (XS.iload X817.here hx rfl (hb hby at_453) rfl (XS.iconst X817.here hx rfl (hb hby at_455) (XS.icmpNo X817.here hx rfl (hb hby at_456) rfl (teq q3').2 (XS.iconst X817.here hx rfl (hb hby at_459) (XS.goto X817.here hx rfl (pc0 := 460) (pc' := 464) rfl (hb hby at_460) (by decide) (by decide) (XS.istore X817.here hx rfl (hb hby at_464) rfl (l' := #[iv p0, iv p1, iv p2, iv p3, iv n0, iv n1, iv n2, iv (((p3.toUInt32 >>> ((3 : Int32) &&& 31).toUInt32).toInt32) &&& 3), iv tg, iv b0, iv b1, iv b2, iv cnt, iv pl, iv e1, iv e2, rv b790, rv r_795, rv b796, iv v_802, iv ps'_802, iv v_807, iv ps'_807, iv v_812, iv ps'_812, iv v_817, iv 1]) rfl (XS.iload X817.here hx rfl (hb hby at_466) rfl (XS.ifNo X817.here hx rfl (hb hby at_468) rfl ((if0 _ _).trans (feq (by decide : ¬ ((1 : Int32) = (0 : Int32)))).1) (XS.iload X817.here hx rfl (hb hby at_471) rfl (XS.ifNo X817.here hx rfl (hb hby at_473) rfl ((if0 _ _).trans (teq q4).2) (XS.iconst X817.here hx rfl (hb hby at_476) k)))))))))))))))))))))))) ?_
      refine Go.on (w := T817.setTop (mkF m 481 #[iv p0, iv p1, iv p2, iv p3, iv n0, iv n1, iv n2, iv (((p3.toUInt32 >>> ((3 : Int32) &&& 31).toUInt32).toInt32) &&& 3), iv tg, iv b0, iv b1, iv b2, iv cnt, iv pl, iv e1, iv e2, rv b790, rv r_795, rv b796, iv v_802, iv ps'_802, iv v_807, iv ps'_807, iv v_812, iv ps'_812, iv v_817, iv 1] [(.int 1)])) (fun t k => XS.goto X817.here hx rfl (pc0 := 477) (pc' := 481) rfl (hb hby at_477) (by decide) (by decide) k) ?_
      refine Go.on (w := T817.setTop (mkF m 485 #[iv p0, iv p1, iv p2, iv p3, iv n0, iv n1, iv n2, iv (((p3.toUInt32 >>> ((3 : Int32) &&& 31).toUInt32).toInt32) &&& 3), iv tg, iv b0, iv b1, iv b2, iv cnt, iv pl, iv e1, iv e2, rv b790, rv r_795, rv b796, iv v_802, iv ps'_802, iv v_807, iv ps'_807, iv v_812, iv ps'_812, iv v_817, iv 1] [(.int 1)])) (fun t k => XS.istore X817.here hx rfl (hb hby at_481) rfl (l' := #[iv p0, iv p1, iv p2, iv p3, iv n0, iv n1, iv n2, iv (((p3.toUInt32 >>> ((3 : Int32) &&& 31).toUInt32).toInt32) &&& 3), iv tg, iv b0, iv b1, iv b2, iv cnt, iv pl, iv e1, iv e2, rv b790, rv r_795, rv b796, iv v_802, iv ps'_802, iv v_807, iv ps'_807, iv v_812, iv ps'_812, iv v_817, iv 1]) rfl (XS.iload X817.here hx rfl (hb hby at_483) rfl k)) ?_
      refine Go.finH X817 hlk (v := some (.int 1)) (fun h => by rw [Bd.returns] at h; cases h) (fun fs hr => ?_) (endH (Q := Q_rm0 Z p0 p1 p2 p3 h0) (by rw [eK817]; exact ⟨rfl, N817, KP817⟩) (by decide) (by decide))
      exact retN X817 hx (t := .boolean) Bd.returns (by simp) (hb hby at_485) hr
set_option maxRecDepth 65536 in
set_option maxHeartbeats 40000000 in
theorem comes_1 {Post : Tables → Env → Array Value → State → Outcome → State → Prop} (hpost : ∀ tb e args s v u, (limb_1_1.after args s (.returned v) u = true ∧ limb_1_2.after args s (.returned v) u = true ∧ True) → FrameEnd s (.returned v) u (Jvm.fieldLocs frame_1_writes args s ++ Jvm.arrayLocs frame_1_arrays args s ++ Jvm.staticLocs frame_1_statics s) 32 704 → Post tb e args s (.returned v) u) :
    ArmFor flags0 classFile x code maxLocals ret World_1 tables_1 room_1 Calls_1 rest_1 Pre_1 Post := by
  intro l hfl _ _ p e ha hc hk s m args below hf hA hF happ hP
  obtain ⟨hcalls, hrest, hpre⟩ := hP
  obtain ⟨-, -, -, hnamed, -, -, -, hat⟩ := (Spec.applies_iff hf).mp happ
  obtain ⟨hg, hn⟩ := and_e (Cond.before_iff.mp (show (Jvm.Cond.and given_1 narrow_1).before args s = true from hpre))
  obtain ⟨gh0, gt0⟩ := and_e hg
  obtain ⟨gh1, gt1⟩ := and_e gt0
  obtain ⟨gh2, gt2⟩ := and_e gt1
  obtain ⟨gh3, gt3⟩ := and_e gt2
  obtain ⟨v0, v1, v2, v3, rfl⟩ : ∃ v0 v1 v2 v3 : Value, args = #[v0, v1, v2, v3] := by
    have hs : args.size = 4 := by simpa [Cond.value, given_1] using gh0
    obtain ⟨L⟩ := args
    match L, hs with
    | [v0, v1, v2, v3], _ => exact ⟨v0, v1, v2, v3, rfl⟩
  have hw := fun d (hd : d ∈ tables_1) => atoms_spec (ws := Jvm.Cond.code x code maxLocals ret :: tables_1) hat d (List.mem_cons_of_mem _ hd)
  have hfit : Fit s := fun {y c} hc i hi => by
    obtain ⟨ha, rfl⟩ := Array.getElem?_eq_some_iff.mp hc
    have q := List.all_eq_true.mp ((Array.all_eq_true_iff_forall_mem.mp hF) _ (Array.getElem_mem ha)) i (List.mem_range.mpr hi)
    simpa [Array.getElem?_eq_getElem hi] using q
  obtain ⟨i0, ei0⟩ := is_v gh1
  obtain rfl : v0 = (.int i0) := Option.some.inj ei0
  obtain ⟨i1, ei1⟩ := is_v gh2
  obtain rfl : v1 = (.int i1) := Option.some.inj ei1
  obtain ⟨i2, ei2⟩ := is_v gh3
  obtain rfl : v2 = (.int i2) := Option.some.inj ei2
  obtain ⟨i3, ei3⟩ := is_v gt3
  obtain rfl : v3 = (.int i3) := Option.some.inj ei3
  obtain ⟨n, o, h1, h2, h3, _, L, rfl, ⟨rfl, N, -⟩, hq⟩ := rm0 l s _ hw tables_1 i0 i1 i2 i3 s.heap (Nat.le_refl _) p e ha hc hk s m _ below hf ((Spec.applies_iff_loose hf).mp happ).1 ⟨rfl, State.Warmed39.refl s, rfl⟩ trivial
  refine ⟨n, _, h1, h2, h3, hpost _ _ _ _ _ _ ⟨Cond.after_iff.mpr rfl, Cond.after_iff.mpr (eq_i res_at (Term.int_eval (1)) rfl), trivial⟩ ⟨hq.1, hq.2.1, (hq.2.2.sift fun y hy => Or.inr (N y hy)).mono (by decide) (by decide)⟩⟩
theorem main_1_1 : Claimed_1_1 := comes_1 fun _ _ _ _ _ _ h hF => ⟨h.1, hF⟩
theorem main_1_2 : Claimed_1_2 := comes_1 fun _ _ _ _ _ _ h hF => ⟨h.2.1, hF⟩
end Jvm.Pilot.@@N@@
namespace Jvm.Pilot.@@N@@
open Jvm Jvm.ClassFile Sem Op Lib Jvm.Free Jvm.Stand Jvm.Pilot.@@N@@.Jvm.D
/-! MADE BY PROGRAM (witnessworld.py) out of the Statement's table words and the real class files: 18 classes; the members and pool entries that the words name. The judged class is class 1, her method 1. -/
namespace start1
open Jvm.ClassFile
def u (s : String) : CpInfo := .utf8 (stringToUtf16 s)
/-- a pool by its gaps: so many unusable entries, then the entry; so many at the end -/
def gap : Nat → List CpInfo → List CpInfo
  | 0, r => r
  | n + 1, r => .unusable :: gap n r
def poolList (es : List (Nat × CpInfo)) (last : Nat) : List CpInfo := es.foldr (fun e r => gap e.1 (e.2 :: r)) (gap last [])
def pool (es : List (Nat × CpInfo)) (last : Nat) : Array CpInfo := ⟨poolList es last⟩
def fileOf (pool : Array CpInfo) (this : Nat) (attrs : Array Attribute := #[]) (ms : Array MethodInfo := #[]) (fl : Nat := 33) (sup : Nat := 0) (ifs : Array Nat := #[]) (fds : Array FieldInfo := #[]) : ClassFile where
  minorVersion := 0
  majorVersion := 65
  constantPool := pool
  accessFlags := fl
  thisClass := this
  superClass := sup
  interfaces := ifs
  fields := fds
  methods := ms
  attributes := attrs
def plain (name : String) (sup : Option ClassId) : Class where
  name := name
  kind := .ordinary
  loader := none
  accessFlags := 33
  super := sup
  interfaces := #[]
  cf := none
  fields := #[]
  methods := #[]
  instanceTypes := #[]
  staticTypes := #[]
  resolved := #[]
  callSites := []
  init := .initialized
  statics := none
  mirror := none

def pool0 : Array CpInfo := pool [(5, u "<init>"), (0, u "()V"), (1, .class_ 10), (1, u "java/lang/Object")] 113

def k0c0 : Code := { maxStack := 0, maxLocals := 1, code := object_method_1_code, exceptionTable := #[], attributes := #[] }
def k0m0 : Method := { name := "<init>", desc := "()V", sig := { parameters := [], returnType := none }, accessFlags := 1, code := some k0c0 }
/-- java/lang/Object -/
def k0 : Class := { plain "java/lang/Object" none with
  accessFlags := 33
  interfaces := #[]
  cf := some (fileOf pool0 8 #[] #[{ accessFlags := 1, nameIndex := 5, descriptorIndex := 6, attributes := #[] }] 33 0 #[] #[])
  fields := #[]
  methods := #[k0m0]
  instanceTypes := #[]
  staticTypes := #[]
  resolved := Array.replicate 124 none
  statics := none }

def pool1 : Array CpInfo := pool [(2, .class_ 4), (0, .nameAndType 5 6), (0, u "java/lang/Object"), (0, u "<init>"), (0, u "()V"), (0, .integer 2147483647), (0, .class_ 9), (0, u "com/example/syntagma/syntagma/service/DocumentText$Builder"), (0, .methodref 8 3), (0, .methodref 8 12), (0, .nameAndType 13 14), (0, u "add"), (0, u "(I)V"), (0, .methodref 8 16), (0, .nameAndType 17 18), (0, u "build"), (0, u "()Lcom/example/syntagma/syntagma/service/DocumentText;"), (0, .class_ 20), (0, u "com/example/syntagma/syntagma/service/DocumentText$Positions"), (0, .methodref 19 3), (0, .methodref 19 23), (0, .nameAndType 24 25), (0, u "of"), (0, u "(Lcom/example/syntagma/syntagma/service/DocumentText;I)V"), (0, .methodref 19 27), (0, .nameAndType 28 29), (0, u "next"), (0, u "()Z"), (0, .methodref 19 31), (0, .nameAndType 32 33), (0, u "position"), (0, u "()I"), (0, .class_ 35), (0, u "com/example/syntagma/syntagma/service/PositionsNextPinLaw"), (2, u "law"), (0, u "(IIII)Z")] 8

def k1m0 : Method := { name := "<init>", desc := "()V", sig := { parameters := [], returnType := none }, accessFlags := 1, code := none }
def k1c1 : Code := { maxStack := 3, maxLocals := 27, code := code, exceptionTable := #[], attributes := #[] }
def k1m1 : Method := { name := "law", desc := "(IIII)Z", sig := { parameters := [.int, .int, .int, .int], returnType := some .boolean }, accessFlags := 9, code := some k1c1 }
/-- com/example/syntagma/syntagma/service/PositionsNextPinLaw -/
def k1 : Class := { plain "com/example/syntagma/syntagma/service/PositionsNextPinLaw" (some 0) with
  accessFlags := 49
  interfaces := #[]
  cf := some (fileOf pool1 34 #[] #[{ accessFlags := 1, nameIndex := 5, descriptorIndex := 6, attributes := #[] }, { accessFlags := 9, nameIndex := 38, descriptorIndex := 39, attributes := #[] }] 49 2 #[] #[])
  fields := #[]
  methods := #[k1m0, k1m1]
  instanceTypes := #[]
  staticTypes := #[]
  resolved := Array.replicate 48 none
  statics := none }

def pool2 : Array CpInfo := pool [(1, .class_ 2), (0, u "com/example/syntagma/syntagma/service/DocumentText"), (0, .methodref 4 5), (0, .class_ 6), (0, .nameAndType 7 8), (0, u "java/lang/Object"), (0, u "<init>"), (0, u "()V"), (0, .fieldref 10 11), (0, .class_ 12), (0, .nameAndType 13 14), (0, u "com/example/syntagma/syntagma/service/DocumentText$Builder"), (0, u "keys"), (0, u "[J"), (0, .fieldref 10 16), (0, .nameAndType 17 18), (0, u "breakPositions"), (0, u "[I"), (0, .fieldref 10 20), (0, .nameAndType 21 22), (0, u "words"), (0, u "I"), (1, .class_ 26), (1, u "java/util/Arrays"), (4, .fieldref 10 32), (0, .nameAndType 33 22), (0, u "breakCount"), (3, .fieldref 10 38), (0, .nameAndType 39 22), (0, u "sentences"), (0, .fieldref 10 41), (0, .nameAndType 42 22), (0, u "firstSentenceWords"), (3, .methodref 24 47), (0, .nameAndType 48 49), (0, u "sort"), (0, u "([JII)V"), (0, .methodref 10 51), (0, .nameAndType 52 53), (0, u "bytesOf"), (0, u "(I)I"), (0, .methodref 55 56), (0, .class_ 57), (0, .nameAndType 58 59), (0, u "java/lang/Math"), (0, u "toIntExact"), (0, u "(J)I"), (2, .methodref 1 63), (0, .nameAndType 7 64), (0, u "([I[B[I[I[JI)V"), (2, u "add"), (0, u "(I)V"), (2, u "build"), (0, u "()Lcom/example/syntagma/syntagma/service/DocumentText;")] 9

def k2c0 : Code := { maxStack := 2, maxLocals := 1, code := prog_210_method_1_code, exceptionTable := #[], attributes := #[] }
def k2m0 : Method := { name := "<init>", desc := "()V", sig := { parameters := [], returnType := none }, accessFlags := 0, code := some k2c0 }
def k2c1 : Code := { maxStack := 6, maxLocals := 2, code := prog_210_method_2_code, exceptionTable := #[], attributes := #[] }
def k2m1 : Method := { name := "add", desc := "(I)V", sig := { parameters := [.int], returnType := none }, accessFlags := 0, code := some k2c1 }
def k2c2 : Code := { maxStack := 9, maxLocals := 14, code := prog_210_method_5_code, exceptionTable := #[], attributes := #[] }
def k2m2 : Method := { name := "build", desc := "()Lcom/example/syntagma/syntagma/service/DocumentText;", sig := { parameters := [], returnType := some (.object "com/example/syntagma/syntagma/service/DocumentText") }, accessFlags := 0, code := some k2c2 }
def k2c3 : Code := { maxStack := 2, maxLocals := 3, code := prog_210_method_6_code, exceptionTable := #[], attributes := #[] }
def k2m3 : Method := { name := "bytesOf", desc := "(I)I", sig := { parameters := [.int], returnType := some .int }, accessFlags := 10, code := some k2c3 }
/-- com/example/syntagma/syntagma/service/DocumentText$Builder -/
def k2 : Class := { plain "com/example/syntagma/syntagma/service/DocumentText$Builder" (some 0) with
  accessFlags := 48
  interfaces := #[]
  cf := some (fileOf pool2 10 #[.nestHost 1] #[{ accessFlags := 0, nameIndex := 7, descriptorIndex := 8, attributes := #[] }, { accessFlags := 0, nameIndex := 67, descriptorIndex := 68, attributes := #[] }, { accessFlags := 0, nameIndex := 71, descriptorIndex := 72, attributes := #[] }, { accessFlags := 10, nameIndex := 52, descriptorIndex := 53, attributes := #[] }] 48 4 #[] #[{ accessFlags := 2, nameIndex := 13, descriptorIndex := 14, attributes := #[] }, { accessFlags := 2, nameIndex := 21, descriptorIndex := 22, attributes := #[] }, { accessFlags := 2, nameIndex := 17, descriptorIndex := 18, attributes := #[] }, { accessFlags := 2, nameIndex := 33, descriptorIndex := 22, attributes := #[] }, { accessFlags := 2, nameIndex := 39, descriptorIndex := 22, attributes := #[] }, { accessFlags := 2, nameIndex := 42, descriptorIndex := 22, attributes := #[] }])
  fields := #[{ name := "keys", type := (.array .long), accessFlags := 2, slot := 0, constantValue := 0 }, { name := "words", type := .int, accessFlags := 2, slot := 1, constantValue := 0 }, { name := "breakPositions", type := (.array .int), accessFlags := 2, slot := 2, constantValue := 0 }, { name := "breakCount", type := .int, accessFlags := 2, slot := 3, constantValue := 0 }, { name := "sentences", type := .int, accessFlags := 2, slot := 4, constantValue := 0 }, { name := "firstSentenceWords", type := .int, accessFlags := 2, slot := 5, constantValue := 0 }]
  methods := #[k2m0, k2m1, k2m2, k2m3]
  instanceTypes := #[(.array .long), .int, (.array .int), .int, .int, .int]
  staticTypes := #[]
  resolved := Array.replicate 82 none
  statics := none }

def pool3 : Array CpInfo := pool [(2, .class_ 4), (1, u "java/lang/Object"), (0, u "<init>"), (0, u "()V"), (1, .class_ 10), (1, u "java/util/DualPivotQuicksort"), (0, u "sort"), (1, .methodref 14 15), (0, .class_ 16), (0, .nameAndType 17 18), (0, u "java/util/Arrays"), (0, u "rangeCheck"), (0, u "(III)V"), (0, .methodref 8 20), (0, .nameAndType 11 21), (0, u "([JIII)V"), (52, .class_ 76), (1, u "java/util/Arrays$NaturalOrder"), (36, .class_ 115), (1, u "java/util/Arrays$LegacyMergeSort"), (1, u "Z"), (257, .class_ 376), (0, u "java/util/Arrays$ArrayList"), (68, u "$assertionsDisabled"), (269, u "MIN_ARRAY_SORT_GRAN"), (0, u "I"), (2, u "INSERTIONSORT_THRESHOLD"), (12, u "([JII)V"), (242, .class_ 976), (0, u "java/util/Arrays$ArrayItr")] 52

def k3m0 : Method := { name := "<init>", desc := "()V", sig := { parameters := [], returnType := none }, accessFlags := 2, code := none }
def k3c1 : Code := { maxStack := 4, maxLocals := 3, code := jdk_65_method_5_code, exceptionTable := #[], attributes := #[] }
def k3m1 : Method := { name := "sort", desc := "([JII)V", sig := { parameters := [(.array .long), .int, .int], returnType := none }, accessFlags := 9, code := some k3c1 }
def k3c2 : Code := { maxStack := 4, maxLocals := 3, code := jdk_65_method_30_code, exceptionTable := #[], attributes := #[] }
def k3m2 : Method := { name := "rangeCheck", desc := "(III)V", sig := { parameters := [.int, .int, .int], returnType := none }, accessFlags := 8, code := some k3c2 }
/-- java/util/Arrays -/
def k3 : Class := { plain "java/util/Arrays" (some 0) with
  accessFlags := 49
  interfaces := #[]
  cf := some (fileOf pool3 14 #[.nestMembers #[975, 375, 113, 74]] #[{ accessFlags := 2, nameIndex := 5, descriptorIndex := 6, attributes := #[] }, { accessFlags := 9, nameIndex := 11, descriptorIndex := 732, attributes := #[] }, { accessFlags := 8, nameIndex := 17, descriptorIndex := 18, attributes := #[] }] 49 2 #[] #[{ accessFlags := 26, nameIndex := 715, descriptorIndex := 716, attributes := #[] }, { accessFlags := 26, nameIndex := 719, descriptorIndex := 716, attributes := #[] }, { accessFlags := 4120, nameIndex := 445, descriptorIndex := 117, attributes := #[] }])
  fields := #[{ name := "MIN_ARRAY_SORT_GRAN", type := .int, accessFlags := 26, slot := 0, constantValue := 0 }, { name := "INSERTIONSORT_THRESHOLD", type := .int, accessFlags := 26, slot := 1, constantValue := 0 }, { name := "$assertionsDisabled", type := .boolean, accessFlags := 4120, slot := 2, constantValue := 0 }]
  methods := #[k3m0, k3m1, k3m2]
  instanceTypes := #[]
  staticTypes := #[.int, .int, .boolean]
  resolved := Array.replicate 1029 none
  statics := none }

def pool4 : Array CpInfo := pool [(1, .class_ 2), (0, u "java/util/DualPivotQuicksort"), (5, .class_ 10), (1, u "java/lang/Object"), (0, u "<init>"), (0, u "()V"), (4, .class_ 18), (0, u "java/util/DualPivotQuicksort$Sorter"), (9, u "sort"), (7, u "insertionSort"), (31, u "I"), (4, .class_ 74), (0, u "java/util/DualPivotQuicksort$RunMerger"), (10, .class_ 86), (0, u "java/util/DualPivotQuicksort$Merger"), (12, .methodref 1 100), (0, .nameAndType 28 101), (0, u "(Ljava/util/DualPivotQuicksort$Sorter;[JIII)V"), (2, u "([JIII)V"), (0, .methodref 1 106), (0, .nameAndType 36 107), (0, u "([JII)V"), (106, u "MAX_MIXED_INSERTION_SORT_SIZE"), (2, u "MAX_INSERTION_SORT_SIZE"), (1, u "MIN_PARALLEL_SORT_SIZE"), (1, u "MIN_TRY_MERGE_SIZE"), (0, u "MIN_FIRST_RUN_SIZE"), (1, u "MIN_FIRST_RUNS_FACTOR"), (1, u "MAX_RUN_CAPACITY"), (1, u "MIN_RUN_COUNT"), (1, u "MIN_PARALLEL_MERGE_PARTS_SIZE"), (0, u "MIN_BYTE_COUNTING_SORT_SIZE"), (1, u "MIN_SHORT_OR_CHAR_COUNTING_SORT_SIZE"), (1, u "DELTA"), (1, u "MAX_RECURSION_DEPTH"), (1, u "NUM_BYTE_VALUES"), (1, u "MAX_BYTE_INDEX"), (0, u "NUM_CHAR_VALUES"), (0, u "NUM_SHORT_VALUES"), (0, u "MAX_SHORT_INDEX")] 86

def k4m0 : Method := { name := "<init>", desc := "()V", sig := { parameters := [], returnType := none }, accessFlags := 2, code := none }
def k4c1 : Code := { maxStack := 9, maxLocals := 7, code := jdk_2529_method_12_code, exceptionTable := #[], attributes := #[] }
def k4m1 : Method := { name := "sort", desc := "([JIII)V", sig := { parameters := [(.array .long), .int, .int, .int], returnType := none }, accessFlags := 8, code := some k4c1 }
def k4c2 : Code := { maxStack := 6, maxLocals := 25, code := jdk_2529_method_13_code, exceptionTable := #[], attributes := #[] }
def k4m2 : Method := { name := "sort", desc := "(Ljava/util/DualPivotQuicksort$Sorter;[JIII)V", sig := { parameters := [(.object "java/util/DualPivotQuicksort$Sorter"), (.array .long), .int, .int, .int], returnType := none }, accessFlags := 8, code := some k4c2 }
def k4c3 : Code := { maxStack := 5, maxLocals := 7, code := jdk_2529_method_15_code, exceptionTable := #[], attributes := #[] }
def k4m3 : Method := { name := "insertionSort", desc := "([JII)V", sig := { parameters := [(.array .long), .int, .int], returnType := none }, accessFlags := 10, code := some k4c3 }
/-- java/util/DualPivotQuicksort -/
def k4 : Class := { plain "java/util/DualPivotQuicksort" (some 0) with
  accessFlags := 48
  interfaces := #[]
  cf := some (fileOf pool4 1 #[.nestMembers #[73, 85, 17]] #[{ accessFlags := 2, nameIndex := 11, descriptorIndex := 12, attributes := #[] }, { accessFlags := 8, nameIndex := 28, descriptorIndex := 104, attributes := #[] }, { accessFlags := 8, nameIndex := 28, descriptorIndex := 101, attributes := #[] }, { accessFlags := 10, nameIndex := 36, descriptorIndex := 107, attributes := #[] }] 48 8 #[] #[{ accessFlags := 26, nameIndex := 214, descriptorIndex := 68, attributes := #[] }, { accessFlags := 26, nameIndex := 217, descriptorIndex := 68, attributes := #[] }, { accessFlags := 26, nameIndex := 219, descriptorIndex := 68, attributes := #[] }, { accessFlags := 26, nameIndex := 221, descriptorIndex := 68, attributes := #[] }, { accessFlags := 26, nameIndex := 222, descriptorIndex := 68, attributes := #[] }, { accessFlags := 26, nameIndex := 224, descriptorIndex := 68, attributes := #[] }, { accessFlags := 26, nameIndex := 226, descriptorIndex := 68, attributes := #[] }, { accessFlags := 26, nameIndex := 228, descriptorIndex := 68, attributes := #[] }, { accessFlags := 26, nameIndex := 230, descriptorIndex := 68, attributes := #[] }, { accessFlags := 26, nameIndex := 231, descriptorIndex := 68, attributes := #[] }, { accessFlags := 26, nameIndex := 233, descriptorIndex := 68, attributes := #[] }, { accessFlags := 26, nameIndex := 235, descriptorIndex := 68, attributes := #[] }, { accessFlags := 26, nameIndex := 237, descriptorIndex := 68, attributes := #[] }, { accessFlags := 26, nameIndex := 239, descriptorIndex := 68, attributes := #[] }, { accessFlags := 26, nameIndex := 241, descriptorIndex := 68, attributes := #[] }, { accessFlags := 26, nameIndex := 242, descriptorIndex := 68, attributes := #[] }, { accessFlags := 26, nameIndex := 243, descriptorIndex := 68, attributes := #[] }, { accessFlags := 26, nameIndex := 244, descriptorIndex := 68, attributes := #[] }])
  fields := #[{ name := "MAX_MIXED_INSERTION_SORT_SIZE", type := .int, accessFlags := 26, slot := 0, constantValue := 0 }, { name := "MAX_INSERTION_SORT_SIZE", type := .int, accessFlags := 26, slot := 1, constantValue := 0 }, { name := "MIN_PARALLEL_SORT_SIZE", type := .int, accessFlags := 26, slot := 2, constantValue := 0 }, { name := "MIN_TRY_MERGE_SIZE", type := .int, accessFlags := 26, slot := 3, constantValue := 0 }, { name := "MIN_FIRST_RUN_SIZE", type := .int, accessFlags := 26, slot := 4, constantValue := 0 }, { name := "MIN_FIRST_RUNS_FACTOR", type := .int, accessFlags := 26, slot := 5, constantValue := 0 }, { name := "MAX_RUN_CAPACITY", type := .int, accessFlags := 26, slot := 6, constantValue := 0 }, { name := "MIN_RUN_COUNT", type := .int, accessFlags := 26, slot := 7, constantValue := 0 }, { name := "MIN_PARALLEL_MERGE_PARTS_SIZE", type := .int, accessFlags := 26, slot := 8, constantValue := 0 }, { name := "MIN_BYTE_COUNTING_SORT_SIZE", type := .int, accessFlags := 26, slot := 9, constantValue := 0 }, { name := "MIN_SHORT_OR_CHAR_COUNTING_SORT_SIZE", type := .int, accessFlags := 26, slot := 10, constantValue := 0 }, { name := "DELTA", type := .int, accessFlags := 26, slot := 11, constantValue := 0 }, { name := "MAX_RECURSION_DEPTH", type := .int, accessFlags := 26, slot := 12, constantValue := 0 }, { name := "NUM_BYTE_VALUES", type := .int, accessFlags := 26, slot := 13, constantValue := 0 }, { name := "MAX_BYTE_INDEX", type := .int, accessFlags := 26, slot := 14, constantValue := 0 }, { name := "NUM_CHAR_VALUES", type := .int, accessFlags := 26, slot := 15, constantValue := 0 }, { name := "NUM_SHORT_VALUES", type := .int, accessFlags := 26, slot := 16, constantValue := 0 }, { name := "MAX_SHORT_INDEX", type := .int, accessFlags := 26, slot := 17, constantValue := 0 }]
  methods := #[k4m0, k4m1, k4m2, k4m3]
  instanceTypes := #[]
  staticTypes := #[.int, .int, .int, .int, .int, .int, .int, .int, .int, .int, .int, .int, .int, .int, .int, .int, .int, .int]
  resolved := Array.replicate 331 none
  statics := none }

def pool5 : Array CpInfo := pool [(1, .class_ 2), (0, u "java/lang/Math"), (1, .class_ 6), (1, u "java/lang/Object"), (0, u "<init>"), (0, u "()V"), (89, .class_ 100), (1, u "java/lang/Math$RandomNumberGeneratorHolder"), (71, u "negativeZeroFloatBits"), (0, u "J"), (2, u "negativeZeroDoubleBits"), (68, u "$assertionsDisabled"), (0, u "Z"), (91, u "twoToTheDoubleScaleDown"), (0, u "D"), (4, u "twoToTheDoubleScaleUp"), (9, u "E"), (3, u "PI"), (2, u "TAU"), (2, u "DEGREES_TO_RADIANS"), (0, u "RADIANS_TO_DEGREES"), (39, u "toIntExact"), (0, u "(J)I")] 53

def k5m0 : Method := { name := "<init>", desc := "()V", sig := { parameters := [], returnType := none }, accessFlags := 2, code := none }
def k5c1 : Code := { maxStack := 4, maxLocals := 2, code := jdk_29_method_43_code, exceptionTable := #[], attributes := #[] }
def k5m1 : Method := { name := "toIntExact", desc := "(J)I", sig := { parameters := [.long], returnType := some .int }, accessFlags := 9, code := some k5c1 }
/-- java/lang/Math -/
def k5 : Class := { plain "java/lang/Math" (some 0) with
  accessFlags := 49
  interfaces := #[]
  cf := some (fileOf pool5 1 #[.nestMembers #[98]] #[{ accessFlags := 2, nameIndex := 7, descriptorIndex := 8, attributes := #[] }, { accessFlags := 9, nameIndex := 405, descriptorIndex := 406, attributes := #[] }] 49 4 #[] #[{ accessFlags := 25, nameIndex := 354, descriptorIndex := 339, attributes := #[] }, { accessFlags := 25, nameIndex := 358, descriptorIndex := 339, attributes := #[] }, { accessFlags := 25, nameIndex := 361, descriptorIndex := 339, attributes := #[] }, { accessFlags := 26, nameIndex := 364, descriptorIndex := 339, attributes := #[] }, { accessFlags := 26, nameIndex := 365, descriptorIndex := 339, attributes := #[] }, { accessFlags := 26, nameIndex := 172, descriptorIndex := 173, attributes := #[] }, { accessFlags := 26, nameIndex := 176, descriptorIndex := 173, attributes := #[] }, { accessFlags := 8, nameIndex := 344, descriptorIndex := 339, attributes := #[] }, { accessFlags := 8, nameIndex := 338, descriptorIndex := 339, attributes := #[] }, { accessFlags := 4120, nameIndex := 245, descriptorIndex := 246, attributes := #[] }])
  fields := #[{ name := "E", type := .double, accessFlags := 25, slot := 0, constantValue := 0 }, { name := "PI", type := .double, accessFlags := 25, slot := 1, constantValue := 0 }, { name := "TAU", type := .double, accessFlags := 25, slot := 2, constantValue := 0 }, { name := "DEGREES_TO_RADIANS", type := .double, accessFlags := 26, slot := 3, constantValue := 0 }, { name := "RADIANS_TO_DEGREES", type := .double, accessFlags := 26, slot := 4, constantValue := 0 }, { name := "negativeZeroFloatBits", type := .long, accessFlags := 26, slot := 5, constantValue := 0 }, { name := "negativeZeroDoubleBits", type := .long, accessFlags := 26, slot := 6, constantValue := 0 }, { name := "twoToTheDoubleScaleUp", type := .double, accessFlags := 8, slot := 7, constantValue := 0 }, { name := "twoToTheDoubleScaleDown", type := .double, accessFlags := 8, slot := 8, constantValue := 0 }, { name := "$assertionsDisabled", type := .boolean, accessFlags := 4120, slot := 9, constantValue := 0 }]
  methods := #[k5m0, k5m1]
  instanceTypes := #[]
  staticTypes := #[.double, .double, .double, .double, .double, .long, .long, .double, .double, .boolean]
  resolved := Array.replicate 460 none
  statics := none }

def pool6 : Array CpInfo := pool [(1, .class_ 2), (0, u "com/example/syntagma/syntagma/service/DocumentText"), (0, .methodref 4 5), (0, .class_ 6), (0, .nameAndType 7 8), (0, u "java/lang/Object"), (0, u "<init>"), (0, u "()V"), (0, .fieldref 1 10), (0, .nameAndType 11 12), (0, u "vocabulary"), (0, u "[I"), (0, .fieldref 1 14), (0, .nameAndType 15 16), (0, u "gaps"), (0, u "[B"), (0, .fieldref 1 18), (0, .nameAndType 19 20), (0, u "stretched"), (0, u "Z"), (0, .fieldref 1 22), (0, .nameAndType 23 24), (0, u "breaks"), (0, u "[J"), (0, .fieldref 1 26), (0, .nameAndType 27 28), (0, u "words"), (0, u "I"), (0, .fieldref 1 30), (0, .nameAndType 31 28), (0, u "firstSentenceWords"), (2, .integer 65535), (0, .methodref 1 36), (0, .nameAndType 37 38), (0, u "narrowed"), (0, u "([I)[C"), (0, .fieldref 1 40), (0, .nameAndType 41 42), (0, u "narrowStarts"), (0, u "[C"), (0, .fieldref 1 44), (0, .nameAndType 45 12), (0, u "wideStarts"), (0, .integer 65536), (0, .fieldref 1 48), (0, .nameAndType 49 42), (0, u "narrowPlaces"), (0, .fieldref 1 51), (0, .nameAndType 52 12), (0, u "widePlaces"), (17, u "(I)I"), (2, u "start"), (0, .class_ 75), (0, u "com/example/syntagma/syntagma/service/DocumentText$Positions"), (36, u "GAP_BITS"), (2, u "MORE"), (1, u "([I[B[I[I[JI)V"), (20, .class_ 139), (0, u "com/example/syntagma/syntagma/service/DocumentText$Builder")] 3

def k6c0 : Code := { maxStack := 3, maxLocals := 7, code := prog_209_method_1_code, exceptionTable := #[], attributes := #[] }
def k6m0 : Method := { name := "<init>", desc := "([I[B[I[I[JI)V", sig := { parameters := [(.array .int), (.array .byte), (.array .int), (.array .int), (.array .long), .int], returnType := none }, accessFlags := 2, code := some k6c0 }
def k6c1 : Code := { maxStack := 4, maxLocals := 3, code := prog_209_method_2_code, exceptionTable := #[], attributes := #[] }
def k6m1 : Method := { name := "narrowed", desc := "([I)[C", sig := { parameters := [(.array .int)], returnType := some (.array .char) }, accessFlags := 10, code := some k6c1 }
def k6c2 : Code := { maxStack := 2, maxLocals := 2, code := prog_209_method_15_code, exceptionTable := #[], attributes := #[] }
def k6m2 : Method := { name := "start", desc := "(I)I", sig := { parameters := [.int], returnType := some .int }, accessFlags := 2, code := some k6c2 }
/-- com/example/syntagma/syntagma/service/DocumentText -/
def k6 : Class := { plain "com/example/syntagma/syntagma/service/DocumentText" (some 0) with
  accessFlags := 48
  interfaces := #[]
  cf := some (fileOf pool6 1 #[.nestMembers #[74, 138]] #[{ accessFlags := 2, nameIndex := 7, descriptorIndex := 117, attributes := #[] }, { accessFlags := 10, nameIndex := 37, descriptorIndex := 38, attributes := #[] }, { accessFlags := 2, nameIndex := 73, descriptorIndex := 70, attributes := #[] }] 48 4 #[] #[{ accessFlags := 26, nameIndex := 112, descriptorIndex := 28, attributes := #[] }, { accessFlags := 26, nameIndex := 115, descriptorIndex := 28, attributes := #[] }, { accessFlags := 18, nameIndex := 11, descriptorIndex := 12, attributes := #[] }, { accessFlags := 18, nameIndex := 15, descriptorIndex := 16, attributes := #[] }, { accessFlags := 18, nameIndex := 41, descriptorIndex := 42, attributes := #[] }, { accessFlags := 18, nameIndex := 45, descriptorIndex := 12, attributes := #[] }, { accessFlags := 18, nameIndex := 19, descriptorIndex := 20, attributes := #[] }, { accessFlags := 18, nameIndex := 49, descriptorIndex := 42, attributes := #[] }, { accessFlags := 18, nameIndex := 52, descriptorIndex := 12, attributes := #[] }, { accessFlags := 18, nameIndex := 23, descriptorIndex := 24, attributes := #[] }, { accessFlags := 18, nameIndex := 27, descriptorIndex := 28, attributes := #[] }, { accessFlags := 18, nameIndex := 31, descriptorIndex := 28, attributes := #[] }])
  fields := #[{ name := "GAP_BITS", type := .int, accessFlags := 26, slot := 0, constantValue := 0 }, { name := "MORE", type := .int, accessFlags := 26, slot := 1, constantValue := 0 }, { name := "vocabulary", type := (.array .int), accessFlags := 18, slot := 0, constantValue := 0 }, { name := "gaps", type := (.array .byte), accessFlags := 18, slot := 1, constantValue := 0 }, { name := "narrowStarts", type := (.array .char), accessFlags := 18, slot := 2, constantValue := 0 }, { name := "wideStarts", type := (.array .int), accessFlags := 18, slot := 3, constantValue := 0 }, { name := "stretched", type := .boolean, accessFlags := 18, slot := 4, constantValue := 0 }, { name := "narrowPlaces", type := (.array .char), accessFlags := 18, slot := 5, constantValue := 0 }, { name := "widePlaces", type := (.array .int), accessFlags := 18, slot := 6, constantValue := 0 }, { name := "breaks", type := (.array .long), accessFlags := 18, slot := 7, constantValue := 0 }, { name := "words", type := .int, accessFlags := 18, slot := 8, constantValue := 0 }, { name := "firstSentenceWords", type := .int, accessFlags := 18, slot := 9, constantValue := 0 }]
  methods := #[k6m0, k6m1, k6m2]
  instanceTypes := #[(.array .int), (.array .byte), (.array .char), (.array .int), .boolean, (.array .char), (.array .int), (.array .long), .int, .int]
  staticTypes := #[.int, .int]
  resolved := Array.replicate 143 none
  statics := none }

def pool7 : Array CpInfo := pool [(1, .class_ 2), (0, u "com/example/syntagma/syntagma/service/DocumentText"), (0, .methodref 4 5), (0, .class_ 6), (0, .nameAndType 7 8), (0, u "java/lang/Object"), (0, u "<init>"), (0, u "()V"), (0, .fieldref 10 11), (0, .class_ 12), (0, .nameAndType 13 14), (0, u "com/example/syntagma/syntagma/service/DocumentText$Positions"), (0, u "text"), (0, u "Lcom/example/syntagma/syntagma/service/DocumentText;"), (0, .methodref 1 16), (0, .nameAndType 17 18), (0, u "start"), (0, u "(I)I"), (0, .fieldref 10 20), (0, .nameAndType 21 22), (0, u "next"), (0, u "I"), (0, .fieldref 10 24), (0, .nameAndType 25 22), (0, u "end"), (0, .fieldref 10 27), (0, .nameAndType 28 22), (0, u "position"), (0, .fieldref 1 30), (0, .nameAndType 31 32), (0, u "gaps"), (0, u "[B"), (2, u "of"), (0, u "(Lcom/example/syntagma/syntagma/service/DocumentText;I)V"), (0, u "()Z"), (2, u "()I")] 5

def k7c0 : Code := { maxStack := 1, maxLocals := 1, code := prog_211_method_1_code, exceptionTable := #[], attributes := #[] }
def k7m0 : Method := { name := "<init>", desc := "()V", sig := { parameters := [], returnType := none }, accessFlags := 0, code := some k7c0 }
def k7c1 : Code := { maxStack := 4, maxLocals := 3, code := prog_211_method_2_code, exceptionTable := #[], attributes := #[] }
def k7m1 : Method := { name := "of", desc := "(Lcom/example/syntagma/syntagma/service/DocumentText;I)V", sig := { parameters := [(.object "com/example/syntagma/syntagma/service/DocumentText"), .int], returnType := none }, accessFlags := 0, code := some k7c1 }
def k7c2 : Code := { maxStack := 5, maxLocals := 5, code := prog_211_method_3_code, exceptionTable := #[], attributes := #[] }
def k7m2 : Method := { name := "next", desc := "()Z", sig := { parameters := [], returnType := some .boolean }, accessFlags := 0, code := some k7c2 }
def k7c3 : Code := { maxStack := 1, maxLocals := 1, code := prog_211_method_4_code, exceptionTable := #[], attributes := #[] }
def k7m3 : Method := { name := "position", desc := "()I", sig := { parameters := [], returnType := some .int }, accessFlags := 0, code := some k7c3 }
/-- com/example/syntagma/syntagma/service/DocumentText$Positions -/
def k7 : Class := { plain "com/example/syntagma/syntagma/service/DocumentText$Positions" (some 0) with
  accessFlags := 48
  interfaces := #[]
  cf := some (fileOf pool7 10 #[.nestHost 1] #[{ accessFlags := 0, nameIndex := 7, descriptorIndex := 8, attributes := #[] }, { accessFlags := 0, nameIndex := 35, descriptorIndex := 36, attributes := #[] }, { accessFlags := 0, nameIndex := 21, descriptorIndex := 37, attributes := #[] }, { accessFlags := 0, nameIndex := 28, descriptorIndex := 40, attributes := #[] }] 48 4 #[] #[{ accessFlags := 2, nameIndex := 13, descriptorIndex := 14, attributes := #[] }, { accessFlags := 2, nameIndex := 21, descriptorIndex := 22, attributes := #[] }, { accessFlags := 2, nameIndex := 25, descriptorIndex := 22, attributes := #[] }, { accessFlags := 2, nameIndex := 28, descriptorIndex := 22, attributes := #[] }])
  fields := #[{ name := "text", type := (.object "com/example/syntagma/syntagma/service/DocumentText"), accessFlags := 2, slot := 0, constantValue := 0 }, { name := "next", type := .int, accessFlags := 2, slot := 1, constantValue := 0 }, { name := "end", type := .int, accessFlags := 2, slot := 2, constantValue := 0 }, { name := "position", type := .int, accessFlags := 2, slot := 3, constantValue := 0 }]
  methods := #[k7m0, k7m1, k7m2, k7m3]
  instanceTypes := #[(.object "com/example/syntagma/syntagma/service/DocumentText"), .int, .int, .int]
  staticTypes := #[]
  resolved := Array.replicate 46 none
  statics := none }

def pool8 : Array CpInfo := pool [(1, u "java/lang/Cloneable"), (0, .class_ 1), (0, u "java/lang/Object"), (0, .class_ 3)] 3

/-- java/lang/Cloneable -/
def k8 : Class := { plain "java/lang/Cloneable" (some 0) with
  accessFlags := 1537
  interfaces := #[]
  cf := some (fileOf pool8 2 #[] #[] 1537 4 #[] #[])
  fields := #[]
  methods := #[]
  instanceTypes := #[]
  staticTypes := #[]
  resolved := Array.replicate 8 none
  statics := none }

def pool9 : Array CpInfo := pool [(1, u "java/io/Serializable"), (0, .class_ 1), (0, u "java/lang/Object"), (0, .class_ 3)] 3

/-- java/io/Serializable -/
def k9 : Class := { plain "java/io/Serializable" (some 0) with
  accessFlags := 1537
  interfaces := #[]
  cf := some (fileOf pool9 2 #[] #[] 1537 4 #[] #[])
  fields := #[]
  methods := #[]
  instanceTypes := #[]
  staticTypes := #[]
  resolved := Array.replicate 8 none
  statics := none }

/-- the primitive byte -/
def k10 : Class := { plain "byte" none with kind := .primitive 'B', accessFlags := 0x411 }
/-- [B -/
def k11 : Class := { plain "[B" (some 0) with kind := .array 10 .byte, interfaces := #[8, 9], accessFlags := 1041 }

/-- the primitive char -/
def k12 : Class := { plain "char" none with kind := .primitive 'C', accessFlags := 0x411 }
/-- [C -/
def k13 : Class := { plain "[C" (some 0) with kind := .array 12 .char, interfaces := #[8, 9], accessFlags := 1041 }

/-- the primitive int -/
def k14 : Class := { plain "int" none with kind := .primitive 'I', accessFlags := 0x411 }
/-- [I -/
def k15 : Class := { plain "[I" (some 0) with kind := .array 14 .int, interfaces := #[8, 9], accessFlags := 1041 }

/-- the primitive long -/
def k16 : Class := { plain "long" none with kind := .primitive 'J', accessFlags := 0x411 }
/-- [J -/
def k17 : Class := { plain "[J" (some 0) with kind := .array 16 .long, interfaces := #[8, 9], accessFlags := 1041 }

def heap : Heap := #[]
def classes : Array Class := #[k0, k1, k2, k3, k4, k5, k6, k7, k8, k9, k10, k11, k12, k13, k14, k15, k16, k17]
def interned : List (Array UInt16 × Addr) := []
def slotsUsed : Nat := 0
def theMethod : MethodId := ⟨1, 1⟩
def args0 : Array Value := #[.int 5, .int 5, .int 5, .int 5]
def aboutOver (below : List Frame) : State where
  vm := { classes := classes, interned := interned.toArray }
  heap := heap
  slotsUsed := slotsUsed
  threads := #[{ frames := .invoking theMethod args0 :: below }]
def below0 : List Frame := [.native { method := ⟨0, 0⟩, args := #[] }]
def about1 : State := aboutOver below0
def p0 : Program := .bare "" "" ""
def e0 : Env := launch0.env 0 0 0
theorem w_frames : about1.frames = Frame.invoking theMethod args0 :: below0 := rfl
set_option maxRecDepth 65536 in
theorem w_args : argsFit about1.vm theMethod args0 = true := by decide +kernel
set_option maxRecDepth 65536 in
theorem w_heap : heapFits about1 = true := by decide +kernel
set_option maxRecDepth 65536 in
theorem w_runnable : about1.curStatus? = some .runnable := by decide +kernel
set_option maxRecDepth 65536 in
theorem w_alone : about1.alone = true := by decide +kernel
set_option maxRecDepth 65536 in
theorem w_named : about1.methodNamed? x = some theMethod := by decide +kernel
set_option maxRecDepth 65536 in
theorem w_hears : about1.hears theMethod below0 = true := by decide +kernel
set_option maxRecDepth 65536 in
theorem w_ripe : about1.ripe theMethod args0 below0 = true := by decide +kernel
theorem w_running : about1.status = .running := rfl
set_option maxRecDepth 65536 in
theorem w_room : about1.hasRoom e0.platform room_1 = true :=
  launch0.hasRoom_least _ room_1 (by decide +kernel) (by decide +kernel) (by decide +kernel) (by decide +kernel) (by decide +kernel) (by decide +kernel)
theorem allAtoms_all (ts : List Jvm.Cond) (a : Array Jvm.Value) (st : Jvm.State) : (allAtoms ts).before a st = ts.all (fun c => c.before a st) := by
  induction ts with
  | nil => rfl
  | cons c t ih =>
    show (Jvm.Cond.and c (allAtoms t)).before a st = _
    rw [Jvm.Cond.before_and, ih, List.all_cons]
def words1 : List Jvm.Cond := Jvm.Cond.code x code maxLocals ret :: tables_1
/-- a 'code' word, met by the world's own term for the bytes: nothing is compared byte by byte -/
theorem code_word {y : MethodName} {bytes : ByteArray} {mx : Nat} {rt : Option FieldType} {a : Array Value} {s : State} {m : MethodId} {meth : Method} {c : Code} (h1 : s.methodNamed? y = some m) (h2 : s.vm.method? m = some meth) (h3 : meth.code = some c) (h4 : c.code = bytes)
    (h5 : (c.maxLocals == mx && c.exceptionTable.isEmpty && decide (c.maxStack ≤ mostOperands) && decide (meth.sig.returnType = rt) && !meth.locks && decide (parseMethodDescriptor y.desc = some meth.sig)) = true) : (Jvm.Cond.code y bytes mx rt).before a s = true := by
  simp only [Bool.and_eq_true, beq_iff_eq, Bool.not_eq_true', decide_eq_true_eq] at h5
  obtain ⟨⟨⟨⟨⟨g1, g2⟩, g3⟩, g4⟩, g5⟩, g6⟩ := h5
  simp [Cond.before, Cond.holds, Cond.value, h1, h2, h3, h4, g1, g2, g3, g4, g5, g6]
def isCode : Jvm.Cond → Bool
  | .code _ _ _ _ => true
  | _ => false
theorem all_split {L : List Jvm.Cond} {P : Jvm.Cond → Bool} (h1 : L.all (fun c => isCode c || P c) = true) (h2 : ∀ c ∈ L.filter isCode, P c = true) : L.all P = true := by
  refine List.all_eq_true.mpr fun c hc => ?_
  have h := List.all_eq_true.mp h1 c hc
  rcases Bool.eq_false_or_eq_true (isCode c) with hi | hi
  · exact h2 c (List.mem_filter.mpr ⟨hc, hi⟩)
  · simpa [hi] using h
set_option maxRecDepth 65536 in
theorem w_c0 : (Jvm.Cond.code x code maxLocals ret).before args0 about1 = true := code_word (m := ⟨1, 1⟩) (meth := k1m1) (c := k1c1) (by decide +kernel) rfl rfl rfl (by decide +kernel)
set_option maxRecDepth 65536 in
theorem w_c1 : (Jvm.Cond.code ({ cls := "com/example/syntagma/syntagma/service/DocumentText$Builder", name := "<init>", desc := "()V" } : Jvm.MethodName) prog_210_method_1_code (1 : Nat) (Option.none : Option Jvm.ClassFile.FieldType)).before args0 about1 = true := code_word (m := ⟨2, 0⟩) (meth := k2m0) (c := k2c0) (by decide +kernel) rfl rfl rfl (by decide +kernel)
set_option maxRecDepth 65536 in
theorem w_c2 : (Jvm.Cond.code ({ cls := "java/lang/Object", name := "<init>", desc := "()V" } : Jvm.MethodName) object_method_1_code (1 : Nat) (Option.none : Option Jvm.ClassFile.FieldType)).before args0 about1 = true := code_word (m := ⟨0, 0⟩) (meth := k0m0) (c := k0c0) (by decide +kernel) rfl rfl rfl (by decide +kernel)
set_option maxRecDepth 65536 in
theorem w_c3 : (Jvm.Cond.code ({ cls := "com/example/syntagma/syntagma/service/DocumentText$Builder", name := "add", desc := "(I)V" } : Jvm.MethodName) prog_210_method_2_code (2 : Nat) (Option.none : Option Jvm.ClassFile.FieldType)).before args0 about1 = true := code_word (m := ⟨2, 1⟩) (meth := k2m1) (c := k2c1) (by decide +kernel) rfl rfl rfl (by decide +kernel)
set_option maxRecDepth 65536 in
theorem w_c4 : (Jvm.Cond.code ({ cls := "com/example/syntagma/syntagma/service/DocumentText$Builder", name := "build", desc := "()Lcom/example/syntagma/syntagma/service/DocumentText;" } : Jvm.MethodName) prog_210_method_5_code (14 : Nat) (Option.some (Jvm.ClassFile.FieldType.object "com/example/syntagma/syntagma/service/DocumentText"))).before args0 about1 = true := code_word (m := ⟨2, 2⟩) (meth := k2m2) (c := k2c2) (by decide +kernel) rfl rfl rfl (by decide +kernel)
set_option maxRecDepth 65536 in
theorem w_c5 : (Jvm.Cond.code ({ cls := "java/util/Arrays", name := "sort", desc := "([JII)V" } : Jvm.MethodName) jdk_65_method_5_code (3 : Nat) (Option.none : Option Jvm.ClassFile.FieldType)).before args0 about1 = true := code_word (m := ⟨3, 1⟩) (meth := k3m1) (c := k3c1) (by decide +kernel) rfl rfl rfl (by decide +kernel)
set_option maxRecDepth 65536 in
theorem w_c6 : (Jvm.Cond.code ({ cls := "java/util/Arrays", name := "rangeCheck", desc := "(III)V" } : Jvm.MethodName) jdk_65_method_30_code (3 : Nat) (Option.none : Option Jvm.ClassFile.FieldType)).before args0 about1 = true := code_word (m := ⟨3, 2⟩) (meth := k3m2) (c := k3c2) (by decide +kernel) rfl rfl rfl (by decide +kernel)
set_option maxRecDepth 65536 in
theorem w_c7 : (Jvm.Cond.code ({ cls := "java/util/DualPivotQuicksort", name := "sort", desc := "([JIII)V" } : Jvm.MethodName) jdk_2529_method_12_code (7 : Nat) (Option.none : Option Jvm.ClassFile.FieldType)).before args0 about1 = true := code_word (m := ⟨4, 1⟩) (meth := k4m1) (c := k4c1) (by decide +kernel) rfl rfl rfl (by decide +kernel)
set_option maxRecDepth 65536 in
theorem w_c8 : (Jvm.Cond.code ({ cls := "java/util/DualPivotQuicksort", name := "sort", desc := "(Ljava/util/DualPivotQuicksort$Sorter;[JIII)V" } : Jvm.MethodName) jdk_2529_method_13_code (25 : Nat) (Option.none : Option Jvm.ClassFile.FieldType)).before args0 about1 = true := code_word (m := ⟨4, 2⟩) (meth := k4m2) (c := k4c2) (by decide +kernel) rfl rfl rfl (by decide +kernel)
set_option maxRecDepth 65536 in
theorem w_c9 : (Jvm.Cond.code ({ cls := "java/util/DualPivotQuicksort", name := "insertionSort", desc := "([JII)V" } : Jvm.MethodName) jdk_2529_method_15_code (7 : Nat) (Option.none : Option Jvm.ClassFile.FieldType)).before args0 about1 = true := code_word (m := ⟨4, 3⟩) (meth := k4m3) (c := k4c3) (by decide +kernel) rfl rfl rfl (by decide +kernel)
set_option maxRecDepth 65536 in
theorem w_c10 : (Jvm.Cond.code ({ cls := "com/example/syntagma/syntagma/service/DocumentText$Builder", name := "bytesOf", desc := "(I)I" } : Jvm.MethodName) prog_210_method_6_code (3 : Nat) (Option.some Jvm.ClassFile.FieldType.int)).before args0 about1 = true := code_word (m := ⟨2, 3⟩) (meth := k2m3) (c := k2c3) (by decide +kernel) rfl rfl rfl (by decide +kernel)
set_option maxRecDepth 65536 in
theorem w_c11 : (Jvm.Cond.code ({ cls := "java/lang/Math", name := "toIntExact", desc := "(J)I" } : Jvm.MethodName) jdk_29_method_43_code (2 : Nat) (Option.some Jvm.ClassFile.FieldType.int)).before args0 about1 = true := code_word (m := ⟨5, 1⟩) (meth := k5m1) (c := k5c1) (by decide +kernel) rfl rfl rfl (by decide +kernel)
set_option maxRecDepth 65536 in
theorem w_c12 : (Jvm.Cond.code ({ cls := "com/example/syntagma/syntagma/service/DocumentText", name := "<init>", desc := "([I[B[I[I[JI)V" } : Jvm.MethodName) prog_209_method_1_code (7 : Nat) (Option.none : Option Jvm.ClassFile.FieldType)).before args0 about1 = true := code_word (m := ⟨6, 0⟩) (meth := k6m0) (c := k6c0) (by decide +kernel) rfl rfl rfl (by decide +kernel)
set_option maxRecDepth 65536 in
theorem w_c13 : (Jvm.Cond.code ({ cls := "com/example/syntagma/syntagma/service/DocumentText", name := "narrowed", desc := "([I)[C" } : Jvm.MethodName) prog_209_method_2_code (3 : Nat) (Option.some (Jvm.ClassFile.FieldType.array Jvm.ClassFile.FieldType.char))).before args0 about1 = true := code_word (m := ⟨6, 1⟩) (meth := k6m1) (c := k6c1) (by decide +kernel) rfl rfl rfl (by decide +kernel)
set_option maxRecDepth 65536 in
theorem w_c14 : (Jvm.Cond.code ({ cls := "com/example/syntagma/syntagma/service/DocumentText$Positions", name := "<init>", desc := "()V" } : Jvm.MethodName) prog_211_method_1_code (1 : Nat) (Option.none : Option Jvm.ClassFile.FieldType)).before args0 about1 = true := code_word (m := ⟨7, 0⟩) (meth := k7m0) (c := k7c0) (by decide +kernel) rfl rfl rfl (by decide +kernel)
set_option maxRecDepth 65536 in
theorem w_c15 : (Jvm.Cond.code ({ cls := "com/example/syntagma/syntagma/service/DocumentText$Positions", name := "of", desc := "(Lcom/example/syntagma/syntagma/service/DocumentText;I)V" } : Jvm.MethodName) prog_211_method_2_code (3 : Nat) (Option.none : Option Jvm.ClassFile.FieldType)).before args0 about1 = true := code_word (m := ⟨7, 1⟩) (meth := k7m1) (c := k7c1) (by decide +kernel) rfl rfl rfl (by decide +kernel)
set_option maxRecDepth 65536 in
theorem w_c16 : (Jvm.Cond.code ({ cls := "com/example/syntagma/syntagma/service/DocumentText", name := "start", desc := "(I)I" } : Jvm.MethodName) prog_209_method_15_code (2 : Nat) (Option.some Jvm.ClassFile.FieldType.int)).before args0 about1 = true := code_word (m := ⟨6, 2⟩) (meth := k6m2) (c := k6c2) (by decide +kernel) rfl rfl rfl (by decide +kernel)
set_option maxRecDepth 65536 in
theorem w_c17 : (Jvm.Cond.code ({ cls := "com/example/syntagma/syntagma/service/DocumentText$Positions", name := "next", desc := "()Z" } : Jvm.MethodName) prog_211_method_3_code (5 : Nat) (Option.some Jvm.ClassFile.FieldType.boolean)).before args0 about1 = true := code_word (m := ⟨7, 2⟩) (meth := k7m2) (c := k7c2) (by decide +kernel) rfl rfl rfl (by decide +kernel)
set_option maxRecDepth 65536 in
theorem w_c18 : (Jvm.Cond.code ({ cls := "com/example/syntagma/syntagma/service/DocumentText$Positions", name := "position", desc := "()I" } : Jvm.MethodName) prog_211_method_4_code (1 : Nat) (Option.some Jvm.ClassFile.FieldType.int)).before args0 about1 = true := code_word (m := ⟨7, 3⟩) (meth := k7m3) (c := k7c3) (by decide +kernel) rfl rfl rfl (by decide +kernel)
def codes1 : List Jvm.Cond := [Jvm.Cond.code x code maxLocals ret, Jvm.Cond.code ({ cls := "com/example/syntagma/syntagma/service/DocumentText$Builder", name := "<init>", desc := "()V" } : Jvm.MethodName) prog_210_method_1_code (1 : Nat) (Option.none : Option Jvm.ClassFile.FieldType), Jvm.Cond.code ({ cls := "java/lang/Object", name := "<init>", desc := "()V" } : Jvm.MethodName) object_method_1_code (1 : Nat) (Option.none : Option Jvm.ClassFile.FieldType), Jvm.Cond.code ({ cls := "com/example/syntagma/syntagma/service/DocumentText$Builder", name := "add", desc := "(I)V" } : Jvm.MethodName) prog_210_method_2_code (2 : Nat) (Option.none : Option Jvm.ClassFile.FieldType), Jvm.Cond.code ({ cls := "com/example/syntagma/syntagma/service/DocumentText$Builder", name := "build", desc := "()Lcom/example/syntagma/syntagma/service/DocumentText;" } : Jvm.MethodName) prog_210_method_5_code (14 : Nat) (Option.some (Jvm.ClassFile.FieldType.object "com/example/syntagma/syntagma/service/DocumentText")), Jvm.Cond.code ({ cls := "java/util/Arrays", name := "sort", desc := "([JII)V" } : Jvm.MethodName) jdk_65_method_5_code (3 : Nat) (Option.none : Option Jvm.ClassFile.FieldType), Jvm.Cond.code ({ cls := "java/util/Arrays", name := "rangeCheck", desc := "(III)V" } : Jvm.MethodName) jdk_65_method_30_code (3 : Nat) (Option.none : Option Jvm.ClassFile.FieldType), Jvm.Cond.code ({ cls := "java/util/DualPivotQuicksort", name := "sort", desc := "([JIII)V" } : Jvm.MethodName) jdk_2529_method_12_code (7 : Nat) (Option.none : Option Jvm.ClassFile.FieldType), Jvm.Cond.code ({ cls := "java/util/DualPivotQuicksort", name := "sort", desc := "(Ljava/util/DualPivotQuicksort$Sorter;[JIII)V" } : Jvm.MethodName) jdk_2529_method_13_code (25 : Nat) (Option.none : Option Jvm.ClassFile.FieldType), Jvm.Cond.code ({ cls := "java/util/DualPivotQuicksort", name := "insertionSort", desc := "([JII)V" } : Jvm.MethodName) jdk_2529_method_15_code (7 : Nat) (Option.none : Option Jvm.ClassFile.FieldType), Jvm.Cond.code ({ cls := "com/example/syntagma/syntagma/service/DocumentText$Builder", name := "bytesOf", desc := "(I)I" } : Jvm.MethodName) prog_210_method_6_code (3 : Nat) (Option.some Jvm.ClassFile.FieldType.int), Jvm.Cond.code ({ cls := "java/lang/Math", name := "toIntExact", desc := "(J)I" } : Jvm.MethodName) jdk_29_method_43_code (2 : Nat) (Option.some Jvm.ClassFile.FieldType.int), Jvm.Cond.code ({ cls := "com/example/syntagma/syntagma/service/DocumentText", name := "<init>", desc := "([I[B[I[I[JI)V" } : Jvm.MethodName) prog_209_method_1_code (7 : Nat) (Option.none : Option Jvm.ClassFile.FieldType), Jvm.Cond.code ({ cls := "com/example/syntagma/syntagma/service/DocumentText", name := "narrowed", desc := "([I)[C" } : Jvm.MethodName) prog_209_method_2_code (3 : Nat) (Option.some (Jvm.ClassFile.FieldType.array Jvm.ClassFile.FieldType.char)), Jvm.Cond.code ({ cls := "com/example/syntagma/syntagma/service/DocumentText$Positions", name := "<init>", desc := "()V" } : Jvm.MethodName) prog_211_method_1_code (1 : Nat) (Option.none : Option Jvm.ClassFile.FieldType), Jvm.Cond.code ({ cls := "com/example/syntagma/syntagma/service/DocumentText$Positions", name := "of", desc := "(Lcom/example/syntagma/syntagma/service/DocumentText;I)V" } : Jvm.MethodName) prog_211_method_2_code (3 : Nat) (Option.none : Option Jvm.ClassFile.FieldType), Jvm.Cond.code ({ cls := "com/example/syntagma/syntagma/service/DocumentText", name := "start", desc := "(I)I" } : Jvm.MethodName) prog_209_method_15_code (2 : Nat) (Option.some Jvm.ClassFile.FieldType.int), Jvm.Cond.code ({ cls := "com/example/syntagma/syntagma/service/DocumentText$Positions", name := "next", desc := "()Z" } : Jvm.MethodName) prog_211_method_3_code (5 : Nat) (Option.some Jvm.ClassFile.FieldType.boolean), Jvm.Cond.code ({ cls := "com/example/syntagma/syntagma/service/DocumentText$Positions", name := "position", desc := "()I" } : Jvm.MethodName) prog_211_method_4_code (1 : Nat) (Option.some Jvm.ClassFile.FieldType.int)]
set_option maxRecDepth 65536 in
theorem codes_eq : words1.filter isCode = codes1 := rfl
theorem w_codes : ∀ c ∈ words1.filter isCode, c.before args0 about1 = true := by
  rw [codes_eq]
  intro c hc
  simp only [codes1, List.mem_cons, List.not_mem_nil, or_false] at hc
  rcases hc with rfl | rfl | rfl | rfl | rfl | rfl | rfl | rfl | rfl | rfl | rfl | rfl | rfl | rfl | rfl | rfl | rfl | rfl | rfl
  · exact w_c0
  · exact w_c1
  · exact w_c2
  · exact w_c3
  · exact w_c4
  · exact w_c5
  · exact w_c6
  · exact w_c7
  · exact w_c8
  · exact w_c9
  · exact w_c10
  · exact w_c11
  · exact w_c12
  · exact w_c13
  · exact w_c14
  · exact w_c15
  · exact w_c16
  · exact w_c17
  · exact w_c18
set_option maxRecDepth 65536 in
theorem w_t1 : (words1.take 24).all (fun c => isCode c || c.before args0 about1) = true := by decide +kernel
set_option maxRecDepth 65536 in
theorem w_t2 : ((words1.drop 24).take 24).all (fun c => isCode c || c.before args0 about1) = true := by decide +kernel
set_option maxRecDepth 65536 in
theorem w_t3 : (((words1.drop 24).drop 24).take 24).all (fun c => isCode c || c.before args0 about1) = true := by decide +kernel
set_option maxRecDepth 65536 in
theorem w_t4 : ((((words1.drop 24).drop 24).drop 24).take 24).all (fun c => isCode c || c.before args0 about1) = true := by decide +kernel
set_option maxRecDepth 65536 in
theorem w_t5 : (((((words1.drop 24).drop 24).drop 24).drop 24).take 24).all (fun c => isCode c || c.before args0 about1) = true := by decide +kernel
set_option maxRecDepth 65536 in
theorem w_t6 : (((((words1.drop 24).drop 24).drop 24).drop 24).drop 24).all (fun c => isCode c || c.before args0 about1) = true := by decide +kernel
theorem w_tables : (allAtoms (Jvm.Cond.code x code maxLocals ret :: tables_1)).before args0 about1 = true := by
  rw [allAtoms_all]
  show words1.all (fun c => c.before args0 about1) = true
  refine all_split ?_ w_codes
  rw [← List.take_append_drop 24 words1, List.all_append, w_t1, ← List.take_append_drop 24 (words1.drop 24), List.all_append, w_t2, ← List.take_append_drop 24 ((words1.drop 24).drop 24), List.all_append, w_t3, ← List.take_append_drop 24 (((words1.drop 24).drop 24).drop 24), List.all_append, w_t4, ← List.take_append_drop 24 ((((words1.drop 24).drop 24).drop 24).drop 24), List.all_append, w_t5, w_t6]
  rfl
set_option maxRecDepth 65536 in
theorem w_case : (Jvm.Cond.and given_1 narrow_1).before args0 about1 = true := by decide +kernel
theorem w_applies : (headSpec (Jvm.Cond.code x code maxLocals ret :: tables_1) room_1).applies x e0.platform about1 = true :=
  (Spec.applies_iff w_frames).mpr ⟨w_running, w_runnable, w_alone, w_named, w_hears, w_ripe, w_room, w_tables⟩
theorem atStart : AtStart classFile x code maxLocals ret World_1 tables_1 room_1 Calls_1 rest_1 Pre_1 launch0 p0 e0 about1 theMethod args0 below0 :=
  ⟨lists_1, trivial, launch0.admits_env _ _ _, launch0.least_env, fairChoices_fair.cas, fairChoices_fair.clock, w_frames, w_args, w_heap, w_applies, trivial, trivial, w_case⟩
end start1
theorem witness_1 : WitnessClaimed_1 := ⟨start1.p0, start1.e0, start1.about1, start1.theMethod, start1.args0, start1.below0, start1.atStart⟩
end Jvm.Pilot.@@N@@
