import JvmDerived
import JvmDerived.Pilot.@@N@@Statement
import JvmDerived.Pilot.@@N@@Code
set_option linter.unusedVariables false
set_option linter.unusedSimpArgs false
namespace Jvm.Pilot.@@N@@
open Jvm Jvm.ClassFile Sem Op Lib Jvm.Free Jvm.Stand Jvm.LawKit Jvm.RoadKit Bundle Jvm.Pilot.@@N@@.Jvm.D
/-- from here the run comes to a return, and Q holds of what it returns, of the heap and of the places written -/
def own_Go (p : Program) (e : Env) (below : List Frame) (s : State) (kc ks : Nat) (Q : Option Value → Heap → List Loc → Prop) (T : State) (g : JFrame) : Prop :=
  ∃ s₂ o, Steps p.tables e below (T.setTop g) s₂ ∧ s₂.status = .running ∧ Ended s₂ below o ∧ ∃ v L, o = .returned v ∧ Q v s₂.heap L ∧ FrameEnd s o s₂ L kc ks
theorem own_step {p : Program} {e : Env} {below : List Frame} {s : State} {kc ks : Nat} {Q : Option Value → Heap → List Loc → Prop} {T T' : State} {g g' : JFrame}
    (h : ∀ t, Steps p.tables e below (T'.setTop g') t → Steps p.tables e below (T.setTop g) t) (k : own_Go p e below s kc ks Q T' g') : own_Go p e below s kc ks Q T g := by
  obtain ⟨s₂, o, h1, r⟩ := k
  exact ⟨s₂, o, h _ h1, r⟩
section Own
variable {p : Program} {l : Launch} {e : Env} {R : Room} {s : State} {m : MethodId} {args : Array Value} {below : List Frame} {meth : Method} {c : Code} {T : State} {locs : List Loc} {cells slots kc ks : Nat} {Q : Option Value → Heap → List Loc → Prop}
theorem own_ret (X : Stand p l e R s m args below meth c T locs cells slots) (hx : p.tables.exec = Jvm.exec) (hlk : meth.locks = false) {pc : Nat} {Ls : Array Slot} {w : Value} {t : FieldType} {i : Instr} {rest : List Value} (hret : meth.sig.returnType = some t) (hn : narrow t w = w)
    (hi : (i = .ireturn ∧ (t = .int ∨ t = .boolean ∨ t = .byte ∨ t = .char ∨ t = .short) ∧ ∃ z, w = .int z) ∨ (i = .lreturn ∧ t = .long ∧ ∃ z, w = .long z) ∨ (i = .dreturn ∧ t = .double ∧ ∃ z, w = .double z) ∨ (i = .freturn ∧ t = .float ∧ ∃ z, w = .float z) ∨ (i = .areturn ∧ t.isReference = true ∧ w.isRef = true))
    (hd : decode c.code pc = .ok (i, 1)) (hc : cells ≤ kc) (hs : slots ≤ ks) (hQ : Q (some w) T.heap locs) : own_Go p e below s kc ks Q T (mkF m pc Ls (w :: rest)) := by
  obtain ⟨fs, hr, hrun, hended, hW, hsame⟩ := X.leave (v := some w) (fun h => by rw [hret] at h; cases h) hlk
  exact ⟨_, _, retOut X hx hret hn hi hd hr, hrun, hended, _, _, rfl, hQ, ⟨_, rfl⟩, hW, hsame.mono hc hs⟩
theorem own_retV (X : Stand p l e R s m args below meth c T locs cells slots) (hx : p.tables.exec = Jvm.exec) (hlk : meth.locks = false) {pc : Nat} {Ls : Array Slot} (hret : meth.sig.returnType = none)
    (hd : decode c.code pc = .ok (.return_, 1)) (hc : cells ≤ kc) (hs : slots ≤ ks) (hQ : Q none T.heap locs) : own_Go p e below s kc ks Q T (mkF m pc Ls []) := by
  obtain ⟨fs, hr, hrun, hended, hW, hsame⟩ := X.leave (v := none) (fun _ => rfl) hlk
  exact ⟨_, _, X.returnOut hx hret hd hr, hrun, hended, _, _, rfl, hQ, ⟨_, rfl⟩, hW, hsame.mono hc hs⟩
theorem own_narZ {z : Int32} (hz : z = 0 ∨ z = 1) : narrow .boolean (.int z) = .int z := by rcases hz with rfl | rfl <;> rfl
end Own
/-- an int array of n places, each an int -/
def own_Ints (Z : State) (h : Heap) (a : Addr) (n : Nat) : Prop := ∃ cl : Cell, Arr Z h a cl .int ∧ cl.slots.size = n ∧ ∀ i, i < n → ∃ z : Int32, cl.slots[i]? = some (.int z)
theorem own_ints_new {Z : State} {h : Heap} {a : Addr} {k : ClassId} {z : Int32} {n : Nat} (A : Arr Z h a (newA k .int z) .int) (hn : z.toNatClampNeg = n) : own_Ints Z h a n := by
  refine ⟨_, A, (sz_new _ _ _).trans hn, fun i hi => ⟨0, ?_⟩⟩
  subst hn
  simp [newA, hi, defaultValue]
theorem own_ints_set {Z : State} {h h' : Heap} {a : Addr} {n j : Nat} {x : Int32} (I : own_Ints Z h a n) (W : Wr h h' a j (.int x)) : own_Ints Z h' a n := by
  obtain ⟨cl, A, S, H⟩ := I
  refine ⟨_, A.same W, (sz_set _ _ _).trans S, fun i hi => ?_⟩
  by_cases q : i = j
  · subst q
    refine ⟨x, ?_⟩
    simp [Cell.setSlot, S, hi]
  · obtain ⟨z, hz⟩ := H i hi
    refine ⟨z, ?_⟩
    rw [← hz]
    exact Array.getElem?_setIfInBounds_ne (fun e => q e.symm)
theorem own_in {j : Int32} {n : Nat} (h0 : 0 ≤ j.toInt) (h1 : j.toInt < n) : ¬ (j < 0 ∨ n ≤ j.toNatClampNeg) := by
  simp only [Int32.lt_iff_toInt_lt, Int32.toNatClampNeg, Int32.reduceToInt]; omega
section OwnArr
variable {p : Program} {l : Launch} {e : Env} {R : Room} {s : State} {m : MethodId} {args : Array Value} {below : List Frame} {meth : Method} {c : Code} {T : State} {locs : List Loc} {cells slots : Nat} {Z : State} {h : Heap}
theorem own_stI (X : Stand p l e R s m args below meth c T locs cells slots) (hx : p.tables.exec = Jvm.exec) (hZ : Z.Warmed39 s.vm) (eT : T.heap = h) {a : Addr} {n : Nat} (I : own_Ints Z h a n) {j x : Int32} (hj : ¬ (j < 0 ∨ n ≤ j.toNatClampNeg)) {g : JFrame} (hg : g.method = m) {rest : List Value} (hs : g.stack = .int x :: .int j :: .ref a :: rest) (hd : decode c.code g.pc = .ok (.iastore, 1)) :
    ∃ T' h', Stand p l e R s m args below meth c T' (locs ++ [⟨a, j.toNatClampNeg⟩]) cells slots ∧ T'.heap = h' ∧ Wr h h' a j.toNatClampNeg (.int x) ∧ own_Ints Z h' a n ∧ ∀ target, Steps p.tables e below (T'.setTop { g with pc := g.pc + 1, stack := rest }) target → Steps p.tables e below (T.setTop g) target := by
  have I' := I
  obtain ⟨cl, A, S, H⟩ := I
  obtain ⟨T', h', X', e', W, st⟩ := stI X hx hZ eT A (j := j) (x := x) (by rw [S]; exact hj) hg hs hd
  exact ⟨T', h', X', e', W, own_ints_set I' W, st⟩
theorem own_ldI (X : Stand p l e R s m args below meth c T locs cells slots) (hx : p.tables.exec = Jvm.exec) (hZ : Z.Warmed39 s.vm) (eT : T.heap = h) {a : Addr} {n : Nat} (I : own_Ints Z h a n) {j : Int32} (hj : ¬ (j < 0 ∨ n ≤ j.toNatClampNeg)) {g : JFrame} (hg : g.method = m) {rest : List Value} (hs : g.stack = .int j :: .ref a :: rest) (hd : decode c.code g.pc = .ok (.iaload, 1)) :
    ∃ z : Int32, ∀ target, Steps p.tables e below (T.setTop { g with pc := g.pc + 1, stack := .int z :: rest }) target → Steps p.tables e below (T.setTop g) target := by
  obtain ⟨cl, A, S, H⟩ := I
  obtain ⟨z, hz⟩ := H j.toNatClampNeg (Nat.lt_of_not_le fun q => hj (Or.inr q))
  exact ⟨z, fun t k => X.iaload hx (by rw [eT]; exact A.1) (State.isArrayOf_alike hZ.alike A.2.1) A.2.2 (by rw [S]; exact hj) hz hg hs hd t k⟩
theorem own_len (X : Stand p l e R s m args below meth c T locs cells slots) (hx : p.tables.exec = Jvm.exec) (hZ : Z.Warmed39 s.vm) (eT : T.heap = h) {a : Addr} {n : Nat} (I : own_Ints Z h a n) {k : Int32} (hk : n.toInt32 = k) {g : JFrame} (hg : g.method = m) {rest : List Value} (hs : g.stack = .ref a :: rest) (hd : decode c.code g.pc = .ok (.arraylength, 1)) :
    ∀ target, Steps p.tables e below (T.setTop { g with pc := g.pc + 1, stack := .int k :: rest }) target → Steps p.tables e below (T.setTop g) target := by
  obtain ⟨cl, A, S, H⟩ := I
  exact fun t q => X.lengthOf hx (by rw [eT]; exact A.1) (State.isArrayOf_alike hZ.alike A.2.1) (by rw [S]; exact hk) hg hs hd t q
end OwnArr
def own_vN (c : Int32) : Int32 := if c.toInt = 58 ∨ (65 ≤ c.toInt ∧ c.toInt ≤ 90) ∨ c.toInt = 95 ∨ (97 ≤ c.toInt ∧ c.toInt ≤ 122) ∨ (192 ≤ c.toInt ∧ c.toInt ≤ 214) ∨ (216 ≤ c.toInt ∧ c.toInt ≤ 246) ∨ (248 ≤ c.toInt ∧ c.toInt ≤ 767) ∨ (880 ≤ c.toInt ∧ c.toInt ≤ 893) ∨ (895 ≤ c.toInt ∧ c.toInt ≤ 8191) ∨ (8204 ≤ c.toInt ∧ c.toInt ≤ 8205) ∨ (8304 ≤ c.toInt ∧ c.toInt ≤ 8591) ∨ (11264 ≤ c.toInt ∧ c.toInt ≤ 12271) ∨ (12289 ≤ c.toInt ∧ c.toInt ≤ 55295) ∨ (63744 ≤ c.toInt ∧ c.toInt ≤ 64975) ∨ (65008 ≤ c.toInt ∧ c.toInt ≤ 65533) ∨ (65536 ≤ c.toInt ∧ c.toInt ≤ 983039) then 1 else 0
theorem own_ifc {P Q : Prop} [Decidable P] [Decidable Q] (h : P ↔ Q) : (if P then (1 : Int32) else 0) = (if Q then (1 : Int32) else 0) := by
  by_cases q : Q
  · rw [if_pos q, if_pos (h.mpr q)]
  · rw [if_neg q, if_neg (fun z => q (h.mp z))]
/-- what the table says of the signs below 128 -/
def own_Tbl (cl : Cell) : Prop := ∀ j : Int32, 0 ≤ j.toInt → j.toInt < 128 → (atv cl j &&& 1 = 0 ∧ ¬ (j.toInt = 58 ∨ (65 ≤ j.toInt ∧ j.toInt ≤ 90) ∨ j.toInt = 95 ∨ (97 ≤ j.toInt ∧ j.toInt ≤ 122))) ∨ (¬ atv cl j &&& 1 = 0 ∧ (j.toInt = 58 ∨ (65 ≤ j.toInt ∧ j.toInt ≤ 90) ∨ j.toInt = 95 ∨ (97 ≤ j.toInt ∧ j.toInt ≤ 122)))
theorem own_idx (p : Int32) : ¬ ((p &&& (2147483647 : Int32)) % 41 < 0 ∨ 41 ≤ ((p &&& (2147483647 : Int32)) % 41).toNatClampNeg) := by
  have q := (c_and p 2147483647 (by decide)).1
  have k := (c_irem (p &&& (2147483647 : Int32)) 41 41 (by decide)).1 q
  exact own_in (by rw [k]; omega) (by rw [k]; omega)
theorem d1_0 : decode prog_9_method_8_code 0 = .ok (.iload_n 0, 1) := by decide +kernel
theorem d1_1 : decode prog_9_method_8_code 1 = .ok (.sipush 128, 3) := by decide +kernel
theorem d1_4 : decode prog_9_method_8_code 4 = .ok (.if_icmp .ge 23, 3) := by decide +kernel
theorem d1_7 : decode prog_9_method_8_code 7 = .ok (.iload_n 0, 1) := by decide +kernel
theorem d1_8 : decode prog_9_method_8_code 8 = .ok (.ifCond .lt 17, 3) := by decide +kernel
theorem d1_11 : decode prog_9_method_8_code 11 = .ok (.getstatic 36, 3) := by decide +kernel
theorem d1_14 : decode prog_9_method_8_code 14 = .ok (.iload_n 0, 1) := by decide +kernel
theorem d1_15 : decode prog_9_method_8_code 15 = .ok (.baload, 1) := by decide +kernel
theorem d1_16 : decode prog_9_method_8_code 16 = .ok (.iconst 1, 1) := by decide +kernel
theorem d1_17 : decode prog_9_method_8_code 17 = .ok (.iand, 1) := by decide +kernel
theorem d1_18 : decode prog_9_method_8_code 18 = .ok (.ifCond .eq 7, 3) := by decide +kernel
theorem d1_21 : decode prog_9_method_8_code 21 = .ok (.iconst 1, 1) := by decide +kernel
theorem d1_22 : decode prog_9_method_8_code 22 = .ok (.goto 4, 3) := by decide +kernel
theorem d1_25 : decode prog_9_method_8_code 25 = .ok (.iconst 0, 1) := by decide +kernel
theorem d1_26 : decode prog_9_method_8_code 26 = .ok (.ireturn, 1) := by decide +kernel
theorem d1_27 : decode prog_9_method_8_code 27 = .ok (.iload_n 0, 1) := by decide +kernel
theorem d1_28 : decode prog_9_method_8_code 28 = .ok (.sipush 767, 3) := by decide +kernel
theorem d1_31 : decode prog_9_method_8_code 31 = .ok (.if_icmp .gt 30, 3) := by decide +kernel
theorem d1_34 : decode prog_9_method_8_code 34 = .ok (.iload_n 0, 1) := by decide +kernel
theorem d1_35 : decode prog_9_method_8_code 35 = .ok (.sipush 192, 3) := by decide +kernel
theorem d1_38 : decode prog_9_method_8_code 38 = .ok (.if_icmp .lt 21, 3) := by decide +kernel
theorem d1_41 : decode prog_9_method_8_code 41 = .ok (.iload_n 0, 1) := by decide +kernel
theorem d1_42 : decode prog_9_method_8_code 42 = .ok (.sipush 215, 3) := by decide +kernel
theorem d1_45 : decode prog_9_method_8_code 45 = .ok (.if_icmp .eq 14, 3) := by decide +kernel
theorem d1_48 : decode prog_9_method_8_code 48 = .ok (.iload_n 0, 1) := by decide +kernel
theorem d1_49 : decode prog_9_method_8_code 49 = .ok (.sipush 247, 3) := by decide +kernel
theorem d1_52 : decode prog_9_method_8_code 52 = .ok (.if_icmp .eq 7, 3) := by decide +kernel
theorem d1_55 : decode prog_9_method_8_code 55 = .ok (.iconst 1, 1) := by decide +kernel
theorem d1_56 : decode prog_9_method_8_code 56 = .ok (.goto 4, 3) := by decide +kernel
theorem d1_59 : decode prog_9_method_8_code 59 = .ok (.iconst 0, 1) := by decide +kernel
theorem d1_60 : decode prog_9_method_8_code 60 = .ok (.ireturn, 1) := by decide +kernel
theorem d1_61 : decode prog_9_method_8_code 61 = .ok (.iload_n 0, 1) := by decide +kernel
theorem d1_62 : decode prog_9_method_8_code 62 = .ok (.sipush 8191, 3) := by decide +kernel
theorem d1_65 : decode prog_9_method_8_code 65 = .ok (.if_icmp .gt 23, 3) := by decide +kernel
theorem d1_68 : decode prog_9_method_8_code 68 = .ok (.iload_n 0, 1) := by decide +kernel
theorem d1_69 : decode prog_9_method_8_code 69 = .ok (.sipush 880, 3) := by decide +kernel
theorem d1_72 : decode prog_9_method_8_code 72 = .ok (.if_icmp .lt 14, 3) := by decide +kernel
theorem d1_75 : decode prog_9_method_8_code 75 = .ok (.iload_n 0, 1) := by decide +kernel
theorem d1_76 : decode prog_9_method_8_code 76 = .ok (.sipush 894, 3) := by decide +kernel
theorem d1_79 : decode prog_9_method_8_code 79 = .ok (.if_icmp .eq 7, 3) := by decide +kernel
theorem d1_82 : decode prog_9_method_8_code 82 = .ok (.iconst 1, 1) := by decide +kernel
theorem d1_83 : decode prog_9_method_8_code 83 = .ok (.goto 4, 3) := by decide +kernel
theorem d1_86 : decode prog_9_method_8_code 86 = .ok (.iconst 0, 1) := by decide +kernel
theorem d1_87 : decode prog_9_method_8_code 87 = .ok (.ireturn, 1) := by decide +kernel
theorem d1_88 : decode prog_9_method_8_code 88 = .ok (.iload_n 0, 1) := by decide +kernel
theorem d1_89 : decode prog_9_method_8_code 89 = .ok (.sipush 12271, 3) := by decide +kernel
theorem d1_92 : decode prog_9_method_8_code 92 = .ok (.if_icmp .gt 44, 3) := by decide +kernel
theorem d1_95 : decode prog_9_method_8_code 95 = .ok (.iload_n 0, 1) := by decide +kernel
theorem d1_96 : decode prog_9_method_8_code 96 = .ok (.sipush 8204, 3) := by decide +kernel
theorem d1_99 : decode prog_9_method_8_code 99 = .ok (.if_icmp .eq 31, 3) := by decide +kernel
theorem d1_102 : decode prog_9_method_8_code 102 = .ok (.iload_n 0, 1) := by decide +kernel
theorem d1_103 : decode prog_9_method_8_code 103 = .ok (.sipush 8205, 3) := by decide +kernel
theorem d1_106 : decode prog_9_method_8_code 106 = .ok (.if_icmp .eq 24, 3) := by decide +kernel
theorem d1_109 : decode prog_9_method_8_code 109 = .ok (.iload_n 0, 1) := by decide +kernel
theorem d1_110 : decode prog_9_method_8_code 110 = .ok (.sipush 8304, 3) := by decide +kernel
theorem d1_113 : decode prog_9_method_8_code 113 = .ok (.if_icmp .lt 10, 3) := by decide +kernel
theorem d1_116 : decode prog_9_method_8_code 116 = .ok (.iload_n 0, 1) := by decide +kernel
theorem d1_117 : decode prog_9_method_8_code 117 = .ok (.sipush 8591, 3) := by decide +kernel
theorem d1_120 : decode prog_9_method_8_code 120 = .ok (.if_icmp .le 10, 3) := by decide +kernel
theorem d1_123 : decode prog_9_method_8_code 123 = .ok (.iload_n 0, 1) := by decide +kernel
theorem d1_124 : decode prog_9_method_8_code 124 = .ok (.sipush 11264, 3) := by decide +kernel
theorem d1_127 : decode prog_9_method_8_code 127 = .ok (.if_icmp .lt 7, 3) := by decide +kernel
theorem d1_130 : decode prog_9_method_8_code 130 = .ok (.iconst 1, 1) := by decide +kernel
theorem d1_131 : decode prog_9_method_8_code 131 = .ok (.goto 4, 3) := by decide +kernel
theorem d1_134 : decode prog_9_method_8_code 134 = .ok (.iconst 0, 1) := by decide +kernel
theorem d1_135 : decode prog_9_method_8_code 135 = .ok (.ireturn, 1) := by decide +kernel
theorem d1_136 : decode prog_9_method_8_code 136 = .ok (.iload_n 0, 1) := by decide +kernel
theorem d1_137 : decode prog_9_method_8_code 137 = .ok (.sipush 12289, 3) := by decide +kernel
theorem d1_140 : decode prog_9_method_8_code 140 = .ok (.if_icmp .lt 9, 3) := by decide +kernel
theorem d1_143 : decode prog_9_method_8_code 143 = .ok (.iload_n 0, 1) := by decide +kernel
theorem d1_144 : decode prog_9_method_8_code 144 = .ok (.ldc 9, 2) := by decide +kernel
theorem d1_146 : decode prog_9_method_8_code 146 = .ok (.if_icmp .le 39, 3) := by decide +kernel
theorem d1_149 : decode prog_9_method_8_code 149 = .ok (.iload_n 0, 1) := by decide +kernel
theorem d1_150 : decode prog_9_method_8_code 150 = .ok (.ldc 40, 2) := by decide +kernel
theorem d1_152 : decode prog_9_method_8_code 152 = .ok (.if_icmp .lt 9, 3) := by decide +kernel
theorem d1_155 : decode prog_9_method_8_code 155 = .ok (.iload_n 0, 1) := by decide +kernel
theorem d1_156 : decode prog_9_method_8_code 156 = .ok (.ldc 41, 2) := by decide +kernel
theorem d1_158 : decode prog_9_method_8_code 158 = .ok (.if_icmp .le 27, 3) := by decide +kernel
theorem d1_161 : decode prog_9_method_8_code 161 = .ok (.iload_n 0, 1) := by decide +kernel
theorem d1_162 : decode prog_9_method_8_code 162 = .ok (.ldc 42, 2) := by decide +kernel
theorem d1_164 : decode prog_9_method_8_code 164 = .ok (.if_icmp .lt 9, 3) := by decide +kernel
theorem d1_167 : decode prog_9_method_8_code 167 = .ok (.iload_n 0, 1) := by decide +kernel
theorem d1_168 : decode prog_9_method_8_code 168 = .ok (.ldc 11, 2) := by decide +kernel
theorem d1_170 : decode prog_9_method_8_code 170 = .ok (.if_icmp .le 15, 3) := by decide +kernel
theorem d1_173 : decode prog_9_method_8_code 173 = .ok (.iload_n 0, 1) := by decide +kernel
theorem d1_174 : decode prog_9_method_8_code 174 = .ok (.ldc 12, 2) := by decide +kernel
theorem d1_176 : decode prog_9_method_8_code 176 = .ok (.if_icmp .lt 13, 3) := by decide +kernel
theorem d1_179 : decode prog_9_method_8_code 179 = .ok (.iload_n 0, 1) := by decide +kernel
theorem d1_180 : decode prog_9_method_8_code 180 = .ok (.ldc 43, 2) := by decide +kernel
theorem d1_182 : decode prog_9_method_8_code 182 = .ok (.if_icmp .gt 7, 3) := by decide +kernel
theorem d1_185 : decode prog_9_method_8_code 185 = .ok (.iconst 1, 1) := by decide +kernel
theorem d1_186 : decode prog_9_method_8_code 186 = .ok (.goto 4, 3) := by decide +kernel
theorem d1_189 : decode prog_9_method_8_code 189 = .ok (.iconst 0, 1) := by decide +kernel
theorem d1_190 : decode prog_9_method_8_code 190 = .ok (.ireturn, 1) := by decide +kernel
theorem own_pn1 : plainName "com/example/xylem/xylem/XmlChars" = true := by first | (simp [plainName, overriddenIn]; done) | decide +kernel
theorem own_ef1 (m : MethodId) (x0 : Int32) : entryFrame m #[(.int x0)] 1 = mkF m 0 #[.val (.int x0)] [] := by first | (simp [entryFrame, mkF, argsToLocals, Value.category]; done) | rfl
def own_Q1 (Z : State) (p1 : Int32) (aw : Addr) (cl : Cell) (h0 : Heap) (n0 : Nat) (v : Option Value) (h : Heap) (L : List Loc) : Prop := v = some (.int (own_vN p1)) ∧ Fr n0 L ∧ h = h0
set_option maxRecDepth 65536 in
set_option maxHeartbeats 40000000 in
theorem own_rm1 (l : Launch) (Z : State) (a0 : Array Value) (hw : ∀ d ∈ tables_1, d.before a0 Z = true) (ws : List Jvm.Cond) (p1 : Int32) (aw : Addr) (cl : Cell) (h0 : Heap) (n0 : Nat) (Z0 : n0 ≤ h0.size) (S1 : Sta Z h0 "com/example/xylem/xylem/XmlChars" "ASCII_NAMES" "[B" (.ref aw)) (TB : Tab Z h0 aw cl .byte (128 : Int32)) (HT : own_Tbl cl) :
    MetFree l (⟨"com/example/xylem/xylem/XmlChars", "isNameStartChar", "(I)Z"⟩ : MethodName) (head1 (Jvm.Cond.code (⟨"com/example/xylem/xylem/XmlChars", "isNameStartChar", "(I)Z"⟩ : MethodName) prog_9_method_8_code 1 (some .boolean) :: ws) ({ frames := 0, cells := 0, slots := 0, locals := 0 } : Room)) (fun a U => a = #[(.int p1)] ∧ Z.Warmed39 U.vm ∧ U.heap = h0) (fun _ _ _ _ _ => True) (fun _ U o U' => ∃ v L, o = .returned v ∧ own_Q1 Z p1 aw cl h0 n0 v U'.heap L ∧ FrameEnd U o U' L ({ frames := 0, cells := 0, slots := 0, locals := 0 } : Room).cells ({ frames := 0, cells := 0, slots := 0, locals := 0 } : Room).slots) := by
  refine MetFree.of_bodySF (plainFor_of_name own_pn1) hisR ?_
  intro p e s m args below meth c s₁ Bd hml0 hP hK
  obtain ⟨rfl, hZ, hh⟩ := hP
  have hx := Bd.exec
  have hby := Bd.bytes
  have hml : c.maxLocals = 1 := hml0
  have hlk : meth.locks = false := BodyLoose.notSynchronized Bd
  have hown : s.vm.findClass "com/example/xylem/xylem/XmlChars" = some m.cls := findClass_of_methodNamed Bd.named
  have hnm := (name_of_methodNamed Bd.named Bd.method).1
  have X0 : Stand p l e ({ frames := 0, cells := 0, slots := 0, locals := 0 } : Room) s m #[(.int p1)] below meth c s₁ [] 0 0 := Stand.of_body Bd
  have e0 : s₁.heap = h0 := by rw [← hh, Bd.state]; rfl
  have N0 := Fr.nil n0
  show own_Go p e below s ({ frames := 0, cells := 0, slots := 0, locals := 0 } : Room).cells ({ frames := 0, cells := 0, slots := 0, locals := 0 } : Room).slots (own_Q1 Z p1 aw cl h0 n0) s₁ (entryFrame m #[(.int p1)] 1)
  refine own_step (fun t k => castTop (own_ef1 m p1) k) ?_
  show own_Go _ _ _ _ _ _ _ s₁ (mkF m 0 #[.val (.int p1)] [])
  refine own_step (fun t k => XS.iloadN X0.here hx rfl (hb hby d1_0) rfl k) ?_
  show own_Go _ _ _ _ _ _ _ s₁ (mkF m 1 #[.val (.int p1)] [(.int p1)])
  refine own_step (fun t k => XS.sipush X0.here hx rfl (hb hby d1_1) k) ?_
  rcases Classical.em (p1 < (128 : Int32)) with c4_1 | c4_1
  · show own_Go _ _ _ _ _ _ _ s₁ (mkF m 4 #[.val (.int p1)] [(.int (128 : Int32)), (.int p1)])
    refine own_step (fun t k => XS.icmpNo X0.here hx rfl (hb hby d1_4) rfl (tlt (c4_1)).2.1 k) ?_
    show own_Go _ _ _ _ _ _ _ s₁ (mkF m 7 #[.val (.int p1)] [])
    refine own_step (fun t k => XS.iloadN X0.here hx rfl (hb hby d1_7) rfl k) ?_
    rcases Classical.em (p1 < (0 : Int32)) with c8_2 | c8_2
    · show own_Go _ _ _ _ _ _ _ s₁ (mkF m 8 #[.val (.int p1)] [(.int p1)])
      refine own_step (fun t k => XS.ifYes X0.here hx rfl (pc0 := 8) (pc' := 25) rfl (hb hby d1_8) rfl ((if0 _ _).trans (tlt (c8_2)).1) (by decide) (by decide) k) ?_
      show own_Go _ _ _ _ _ _ _ s₁ (mkF m 25 #[.val (.int p1)] [])
      refine own_step (fun t k => XS.iconst X0.here hx rfl (hb hby d1_25) k) ?_
      simp only [Int32.lt_iff_toInt_lt, ← Int32.toInt_inj, Int32.reduceToInt] at c4_1 c8_2
      show own_Go _ _ _ _ _ _ _ s₁ (mkF m 26 #[.val (.int p1)] [(.int (0 : Int32))])
      refine own_ret X0 hx hlk Bd.returns rfl (Or.inl ⟨rfl, Or.inr (Or.inl rfl), _, rfl⟩) (hb hby d1_26) (by decide) (by decide) ?_
      show own_Q1 Z p1 aw cl h0 n0 (some (.int (0 : Int32))) s₁.heap _
      rw [e0]
      exact ⟨by rw [own_vN, if_neg (by omega)], N0, rfl⟩
    · show own_Go _ _ _ _ _ _ _ s₁ (mkF m 8 #[.val (.int p1)] [(.int p1)])
      refine own_step (fun t k => XS.ifNo X0.here hx rfl (hb hby d1_8) rfl ((if0 _ _).trans (flt (c8_2)).1) k) ?_
      show own_Go _ _ _ _ _ _ _ s₁ (mkF m 11 #[.val (.int p1)] [])
      obtain ⟨T3, X3, e3, st3⟩ := getS2 X0 hx hZ hown (host := "") (Or.inl (hw _ (List.mem_of_getElem? (i := 16) rfl))) Via.refl e0 S1 (g := (mkF m 11 #[.val (.int p1)] [])) rfl (hb hby d1_11)
      refine own_step st3 ?_
      show own_Go _ _ _ _ _ _ _ T3 (mkF m 14 #[.val (.int p1)] [(.ref aw)])
      refine own_step (fun t k => XS.iloadN X3.here hx rfl (hb hby d1_14) rfl k) ?_
      have hr4 := HT p1 (by have := c4_1; have := c8_2; simp only [Int32.lt_iff_toInt_lt, Int32.reduceToInt] at *; omega) (by have := c4_1; simp only [Int32.lt_iff_toInt_lt, Int32.reduceToInt] at *; omega)
      have hi4 : ¬ (p1 < 0 ∨ cl.slots.size ≤ p1.toNatClampNeg) := by rw [TB.2.1]; exact own_in (n := 128) (by have := c8_2; simp only [Int32.lt_iff_toInt_lt, Int32.reduceToInt] at *; omega) (by have := c4_1; simp only [Int32.lt_iff_toInt_lt, Int32.reduceToInt] at *; omega)
      show own_Go _ _ _ _ _ _ _ T3 (mkF m 15 #[.val (.int p1)] [(.int p1), (.ref aw)])
      refine own_step (fun t k => X3.baloadBytes hx (by rw [e3]; exact TB.1.1) (State.isArrayOf_alike hZ.alike TB.1.2.1) TB.1.2.2 hi4 (TB.2.2.2 p1 hi4) (g := (mkF m 15 #[.val (.int p1)] [(.int p1), (.ref aw)])) rfl rfl (hb hby d1_15) t k) ?_
      show own_Go _ _ _ _ _ _ _ T3 (mkF m 16 #[.val (.int p1)] [(.int (atv cl p1))])
      refine own_step (fun t k => XS.iconst X3.here hx rfl (hb hby d1_16) k) ?_
      show own_Go _ _ _ _ _ _ _ T3 (mkF m 17 #[.val (.int p1)] [(.int (1 : Int32)), (.int (atv cl p1))])
      refine own_step (fun t k => XS.iand X3.here hx rfl (hb hby d1_17) rfl k) ?_
      rcases Classical.em (((atv cl p1) &&& (1 : Int32)) = (0 : Int32)) with c18_5 | c18_5
      · show own_Go _ _ _ _ _ _ _ T3 (mkF m 18 #[.val (.int p1)] [(.int ((atv cl p1) &&& (1 : Int32)))])
        refine own_step (fun t k => XS.ifYes X3.here hx rfl (pc0 := 18) (pc' := 25) rfl (hb hby d1_18) rfl ((if0 _ _).trans (teq (c18_5)).1) (by decide) (by decide) k) ?_
        show own_Go _ _ _ _ _ _ _ T3 (mkF m 25 #[.val (.int p1)] [])
        refine own_step (fun t k => XS.iconst X3.here hx rfl (hb hby d1_25) k) ?_
        have hq := hr4.resolve_right (fun z => z.1 c18_5)
        simp only [Int32.lt_iff_toInt_lt, ← Int32.toInt_inj, Int32.reduceToInt] at c4_1 c8_2
        have hq2 := hq.2
        show own_Go _ _ _ _ _ _ _ T3 (mkF m 26 #[.val (.int p1)] [(.int (0 : Int32))])
        refine own_ret X3 hx hlk Bd.returns rfl (Or.inl ⟨rfl, Or.inr (Or.inl rfl), _, rfl⟩) (hb hby d1_26) (by decide) (by decide) ?_
        show own_Q1 Z p1 aw cl h0 n0 (some (.int (0 : Int32))) T3.heap _
        rw [e3]
        exact ⟨by rw [own_vN, if_neg (by omega)], N0, rfl⟩
      · show own_Go _ _ _ _ _ _ _ T3 (mkF m 18 #[.val (.int p1)] [(.int ((atv cl p1) &&& (1 : Int32)))])
        refine own_step (fun t k => XS.ifNo X3.here hx rfl (hb hby d1_18) rfl ((if0 _ _).trans (feq (c18_5)).1) k) ?_
        show own_Go _ _ _ _ _ _ _ T3 (mkF m 21 #[.val (.int p1)] [])
        refine own_step (fun t k => XS.iconst X3.here hx rfl (hb hby d1_21) k) ?_
        show own_Go _ _ _ _ _ _ _ T3 (mkF m 22 #[.val (.int p1)] [(.int (1 : Int32))])
        refine own_step (fun t k => XS.goto X3.here hx rfl (pc0 := 22) (pc' := 26) rfl (hb hby d1_22) (by decide) (by decide) k) ?_
        have hq := hr4.resolve_left (fun z => c18_5 z.1)
        have hq2 := hq.2
        show own_Go _ _ _ _ _ _ _ T3 (mkF m 26 #[.val (.int p1)] [(.int (1 : Int32))])
        refine own_ret X3 hx hlk Bd.returns rfl (Or.inl ⟨rfl, Or.inr (Or.inl rfl), _, rfl⟩) (hb hby d1_26) (by decide) (by decide) ?_
        show own_Q1 Z p1 aw cl h0 n0 (some (.int (1 : Int32))) T3.heap _
        rw [e3]
        exact ⟨by rw [own_vN, if_pos (by omega)], N0, rfl⟩
  · show own_Go _ _ _ _ _ _ _ s₁ (mkF m 4 #[.val (.int p1)] [(.int (128 : Int32)), (.int p1)])
    refine own_step (fun t k => XS.icmpYes X0.here hx rfl (pc0 := 4) (pc' := 27) rfl (hb hby d1_4) rfl (flt (c4_1)).2.1 (by decide) (by decide) k) ?_
    show own_Go _ _ _ _ _ _ _ s₁ (mkF m 27 #[.val (.int p1)] [])
    refine own_step (fun t k => XS.iloadN X0.here hx rfl (hb hby d1_27) rfl k) ?_
    show own_Go _ _ _ _ _ _ _ s₁ (mkF m 28 #[.val (.int p1)] [(.int p1)])
    refine own_step (fun t k => XS.sipush X0.here hx rfl (hb hby d1_28) k) ?_
    rcases Classical.em ((767 : Int32) < p1) with c31_6 | c31_6
    · show own_Go _ _ _ _ _ _ _ s₁ (mkF m 31 #[.val (.int p1)] [(.int (767 : Int32)), (.int p1)])
      refine own_step (fun t k => XS.icmpYes X0.here hx rfl (pc0 := 31) (pc' := 61) rfl (hb hby d1_31) rfl (tlt (c31_6)).2.2.1 (by decide) (by decide) k) ?_
      show own_Go _ _ _ _ _ _ _ s₁ (mkF m 61 #[.val (.int p1)] [])
      refine own_step (fun t k => XS.iloadN X0.here hx rfl (hb hby d1_61) rfl k) ?_
      show own_Go _ _ _ _ _ _ _ s₁ (mkF m 62 #[.val (.int p1)] [(.int p1)])
      refine own_step (fun t k => XS.sipush X0.here hx rfl (hb hby d1_62) k) ?_
      rcases Classical.em ((8191 : Int32) < p1) with c65_7 | c65_7
      · show own_Go _ _ _ _ _ _ _ s₁ (mkF m 65 #[.val (.int p1)] [(.int (8191 : Int32)), (.int p1)])
        refine own_step (fun t k => XS.icmpYes X0.here hx rfl (pc0 := 65) (pc' := 88) rfl (hb hby d1_65) rfl (tlt (c65_7)).2.2.1 (by decide) (by decide) k) ?_
        show own_Go _ _ _ _ _ _ _ s₁ (mkF m 88 #[.val (.int p1)] [])
        refine own_step (fun t k => XS.iloadN X0.here hx rfl (hb hby d1_88) rfl k) ?_
        show own_Go _ _ _ _ _ _ _ s₁ (mkF m 89 #[.val (.int p1)] [(.int p1)])
        refine own_step (fun t k => XS.sipush X0.here hx rfl (hb hby d1_89) k) ?_
        rcases Classical.em ((12271 : Int32) < p1) with c92_8 | c92_8
        · show own_Go _ _ _ _ _ _ _ s₁ (mkF m 92 #[.val (.int p1)] [(.int (12271 : Int32)), (.int p1)])
          refine own_step (fun t k => XS.icmpYes X0.here hx rfl (pc0 := 92) (pc' := 136) rfl (hb hby d1_92) rfl (tlt (c92_8)).2.2.1 (by decide) (by decide) k) ?_
          have S173 : (p1.toInt < 12289 ∨ 55295 < p1.toInt) → (p1.toInt < 63744 ∨ 64975 < p1.toInt) → (p1.toInt < 65008 ∨ 65533 < p1.toInt) → own_Go p e below s ({ frames := 0, cells := 0, slots := 0, locals := 0 } : Room).cells ({ frames := 0, cells := 0, slots := 0, locals := 0 } : Room).slots (own_Q1 Z p1 aw cl h0 n0) s₁ (mkF m 173 #[.val (.int p1)] []) := by
            intro ja jb jd
            show own_Go _ _ _ _ _ _ _ s₁ (mkF m 173 #[.val (.int p1)] [])
            refine own_step (fun t k => XS.iloadN X0.here hx rfl (hb hby d1_173) rfl k) ?_
            show own_Go _ _ _ _ _ _ _ s₁ (mkF m 174 #[.val (.int p1)] [(.int p1)])
            refine own_step (fun t k => X0.ldcInt hx hown (mvT hZ (hw _ (List.mem_of_getElem? (i := 27) rfl))) (g := (mkF m 174 #[.val (.int p1)] [(.int p1)])) rfl (hb hby d1_174) t k) ?_
            rcases Classical.em (p1 < (65536 : Int32)) with c176_9 | c176_9
            · show own_Go _ _ _ _ _ _ _ s₁ (mkF m 176 #[.val (.int p1)] [(.int (65536 : Int32)), (.int p1)])
              refine own_step (fun t k => XS.icmpYes X0.here hx rfl (pc0 := 176) (pc' := 189) rfl (hb hby d1_176) rfl (tlt (c176_9)).1 (by decide) (by decide) k) ?_
              show own_Go _ _ _ _ _ _ _ s₁ (mkF m 189 #[.val (.int p1)] [])
              refine own_step (fun t k => XS.iconst X0.here hx rfl (hb hby d1_189) k) ?_
              simp only [Int32.lt_iff_toInt_lt, ← Int32.toInt_inj, Int32.reduceToInt] at c4_1 c31_6 c65_7 c92_8 c176_9
              show own_Go _ _ _ _ _ _ _ s₁ (mkF m 190 #[.val (.int p1)] [(.int (0 : Int32))])
              refine own_ret X0 hx hlk Bd.returns rfl (Or.inl ⟨rfl, Or.inr (Or.inl rfl), _, rfl⟩) (hb hby d1_190) (by decide) (by decide) ?_
              show own_Q1 Z p1 aw cl h0 n0 (some (.int (0 : Int32))) s₁.heap _
              rw [e0]
              exact ⟨by rw [own_vN, if_neg (by omega)], N0, rfl⟩
            · show own_Go _ _ _ _ _ _ _ s₁ (mkF m 176 #[.val (.int p1)] [(.int (65536 : Int32)), (.int p1)])
              refine own_step (fun t k => XS.icmpNo X0.here hx rfl (hb hby d1_176) rfl (flt (c176_9)).1 k) ?_
              show own_Go _ _ _ _ _ _ _ s₁ (mkF m 179 #[.val (.int p1)] [])
              refine own_step (fun t k => XS.iloadN X0.here hx rfl (hb hby d1_179) rfl k) ?_
              show own_Go _ _ _ _ _ _ _ s₁ (mkF m 180 #[.val (.int p1)] [(.int p1)])
              refine own_step (fun t k => X0.ldcInt hx hown (mvT hZ (hw _ (List.mem_of_getElem? (i := 28) rfl))) (g := (mkF m 180 #[.val (.int p1)] [(.int p1)])) rfl (hb hby d1_180) t k) ?_
              rcases Classical.em ((983039 : Int32) < p1) with c182_10 | c182_10
              · show own_Go _ _ _ _ _ _ _ s₁ (mkF m 182 #[.val (.int p1)] [(.int (983039 : Int32)), (.int p1)])
                refine own_step (fun t k => XS.icmpYes X0.here hx rfl (pc0 := 182) (pc' := 189) rfl (hb hby d1_182) rfl (tlt (c182_10)).2.2.1 (by decide) (by decide) k) ?_
                show own_Go _ _ _ _ _ _ _ s₁ (mkF m 189 #[.val (.int p1)] [])
                refine own_step (fun t k => XS.iconst X0.here hx rfl (hb hby d1_189) k) ?_
                simp only [Int32.lt_iff_toInt_lt, ← Int32.toInt_inj, Int32.reduceToInt] at c4_1 c31_6 c65_7 c92_8 c176_9 c182_10
                show own_Go _ _ _ _ _ _ _ s₁ (mkF m 190 #[.val (.int p1)] [(.int (0 : Int32))])
                refine own_ret X0 hx hlk Bd.returns rfl (Or.inl ⟨rfl, Or.inr (Or.inl rfl), _, rfl⟩) (hb hby d1_190) (by decide) (by decide) ?_
                show own_Q1 Z p1 aw cl h0 n0 (some (.int (0 : Int32))) s₁.heap _
                rw [e0]
                exact ⟨by rw [own_vN, if_neg (by omega)], N0, rfl⟩
              · show own_Go _ _ _ _ _ _ _ s₁ (mkF m 182 #[.val (.int p1)] [(.int (983039 : Int32)), (.int p1)])
                refine own_step (fun t k => XS.icmpNo X0.here hx rfl (hb hby d1_182) rfl (flt (c182_10)).2.2.1 k) ?_
                show own_Go _ _ _ _ _ _ _ s₁ (mkF m 185 #[.val (.int p1)] [])
                refine own_step (fun t k => XS.iconst X0.here hx rfl (hb hby d1_185) k) ?_
                show own_Go _ _ _ _ _ _ _ s₁ (mkF m 186 #[.val (.int p1)] [(.int (1 : Int32))])
                refine own_step (fun t k => XS.goto X0.here hx rfl (pc0 := 186) (pc' := 190) rfl (hb hby d1_186) (by decide) (by decide) k) ?_
                simp only [Int32.lt_iff_toInt_lt, ← Int32.toInt_inj, Int32.reduceToInt] at c4_1 c31_6 c65_7 c92_8 c176_9 c182_10
                show own_Go _ _ _ _ _ _ _ s₁ (mkF m 190 #[.val (.int p1)] [(.int (1 : Int32))])
                refine own_ret X0 hx hlk Bd.returns rfl (Or.inl ⟨rfl, Or.inr (Or.inl rfl), _, rfl⟩) (hb hby d1_190) (by decide) (by decide) ?_
                show own_Q1 Z p1 aw cl h0 n0 (some (.int (1 : Int32))) s₁.heap _
                rw [e0]
                exact ⟨by rw [own_vN, if_pos (by omega)], N0, rfl⟩
          have S161 : (p1.toInt < 12289 ∨ 55295 < p1.toInt) → (p1.toInt < 63744 ∨ 64975 < p1.toInt) → own_Go p e below s ({ frames := 0, cells := 0, slots := 0, locals := 0 } : Room).cells ({ frames := 0, cells := 0, slots := 0, locals := 0 } : Room).slots (own_Q1 Z p1 aw cl h0 n0) s₁ (mkF m 161 #[.val (.int p1)] []) := by
            intro ja jb
            show own_Go _ _ _ _ _ _ _ s₁ (mkF m 161 #[.val (.int p1)] [])
            refine own_step (fun t k => XS.iloadN X0.here hx rfl (hb hby d1_161) rfl k) ?_
            show own_Go _ _ _ _ _ _ _ s₁ (mkF m 162 #[.val (.int p1)] [(.int p1)])
            refine own_step (fun t k => X0.ldcInt hx hown (mvT hZ (hw _ (List.mem_of_getElem? (i := 25) rfl))) (g := (mkF m 162 #[.val (.int p1)] [(.int p1)])) rfl (hb hby d1_162) t k) ?_
            rcases Classical.em (p1 < (65008 : Int32)) with c164_11 | c164_11
            · show own_Go _ _ _ _ _ _ _ s₁ (mkF m 164 #[.val (.int p1)] [(.int (65008 : Int32)), (.int p1)])
              refine own_step (fun t k => XS.icmpYes X0.here hx rfl (pc0 := 164) (pc' := 173) rfl (hb hby d1_164) rfl (tlt (c164_11)).1 (by decide) (by decide) k) ?_
              simp only [Int32.lt_iff_toInt_lt, ← Int32.toInt_inj, Int32.reduceToInt] at c4_1 c31_6 c65_7 c92_8 c164_11
              show own_Go _ _ _ _ _ _ _ s₁ (mkF m 173 #[.val (.int p1)] [])
              exact S173 ja jb (Or.inl (by omega))
            · show own_Go _ _ _ _ _ _ _ s₁ (mkF m 164 #[.val (.int p1)] [(.int (65008 : Int32)), (.int p1)])
              refine own_step (fun t k => XS.icmpNo X0.here hx rfl (hb hby d1_164) rfl (flt (c164_11)).1 k) ?_
              show own_Go _ _ _ _ _ _ _ s₁ (mkF m 167 #[.val (.int p1)] [])
              refine own_step (fun t k => XS.iloadN X0.here hx rfl (hb hby d1_167) rfl k) ?_
              show own_Go _ _ _ _ _ _ _ s₁ (mkF m 168 #[.val (.int p1)] [(.int p1)])
              refine own_step (fun t k => X0.ldcInt hx hown (mvT hZ (hw _ (List.mem_of_getElem? (i := 26) rfl))) (g := (mkF m 168 #[.val (.int p1)] [(.int p1)])) rfl (hb hby d1_168) t k) ?_
              rcases Classical.em ((65533 : Int32) < p1) with c170_12 | c170_12
              · show own_Go _ _ _ _ _ _ _ s₁ (mkF m 170 #[.val (.int p1)] [(.int (65533 : Int32)), (.int p1)])
                refine own_step (fun t k => XS.icmpNo X0.here hx rfl (hb hby d1_170) rfl (tlt (c170_12)).2.2.2 k) ?_
                simp only [Int32.lt_iff_toInt_lt, ← Int32.toInt_inj, Int32.reduceToInt] at c4_1 c31_6 c65_7 c92_8 c164_11 c170_12
                show own_Go _ _ _ _ _ _ _ s₁ (mkF m 173 #[.val (.int p1)] [])
                exact S173 ja jb (Or.inr (by omega))
              · show own_Go _ _ _ _ _ _ _ s₁ (mkF m 170 #[.val (.int p1)] [(.int (65533 : Int32)), (.int p1)])
                refine own_step (fun t k => XS.icmpYes X0.here hx rfl (pc0 := 170) (pc' := 185) rfl (hb hby d1_170) rfl (flt (c170_12)).2.2.2 (by decide) (by decide) k) ?_
                show own_Go _ _ _ _ _ _ _ s₁ (mkF m 185 #[.val (.int p1)] [])
                refine own_step (fun t k => XS.iconst X0.here hx rfl (hb hby d1_185) k) ?_
                show own_Go _ _ _ _ _ _ _ s₁ (mkF m 186 #[.val (.int p1)] [(.int (1 : Int32))])
                refine own_step (fun t k => XS.goto X0.here hx rfl (pc0 := 186) (pc' := 190) rfl (hb hby d1_186) (by decide) (by decide) k) ?_
                simp only [Int32.lt_iff_toInt_lt, ← Int32.toInt_inj, Int32.reduceToInt] at c4_1 c31_6 c65_7 c92_8 c164_11 c170_12
                show own_Go _ _ _ _ _ _ _ s₁ (mkF m 190 #[.val (.int p1)] [(.int (1 : Int32))])
                refine own_ret X0 hx hlk Bd.returns rfl (Or.inl ⟨rfl, Or.inr (Or.inl rfl), _, rfl⟩) (hb hby d1_190) (by decide) (by decide) ?_
                show own_Q1 Z p1 aw cl h0 n0 (some (.int (1 : Int32))) s₁.heap _
                rw [e0]
                exact ⟨by rw [own_vN, if_pos (by omega)], N0, rfl⟩
          have S149 : (p1.toInt < 12289 ∨ 55295 < p1.toInt) → own_Go p e below s ({ frames := 0, cells := 0, slots := 0, locals := 0 } : Room).cells ({ frames := 0, cells := 0, slots := 0, locals := 0 } : Room).slots (own_Q1 Z p1 aw cl h0 n0) s₁ (mkF m 149 #[.val (.int p1)] []) := by
            intro ja
            show own_Go _ _ _ _ _ _ _ s₁ (mkF m 149 #[.val (.int p1)] [])
            refine own_step (fun t k => XS.iloadN X0.here hx rfl (hb hby d1_149) rfl k) ?_
            show own_Go _ _ _ _ _ _ _ s₁ (mkF m 150 #[.val (.int p1)] [(.int p1)])
            refine own_step (fun t k => X0.ldcInt hx hown (mvT hZ (hw _ (List.mem_of_getElem? (i := 23) rfl))) (g := (mkF m 150 #[.val (.int p1)] [(.int p1)])) rfl (hb hby d1_150) t k) ?_
            rcases Classical.em (p1 < (63744 : Int32)) with c152_13 | c152_13
            · show own_Go _ _ _ _ _ _ _ s₁ (mkF m 152 #[.val (.int p1)] [(.int (63744 : Int32)), (.int p1)])
              refine own_step (fun t k => XS.icmpYes X0.here hx rfl (pc0 := 152) (pc' := 161) rfl (hb hby d1_152) rfl (tlt (c152_13)).1 (by decide) (by decide) k) ?_
              simp only [Int32.lt_iff_toInt_lt, ← Int32.toInt_inj, Int32.reduceToInt] at c4_1 c31_6 c65_7 c92_8 c152_13
              show own_Go _ _ _ _ _ _ _ s₁ (mkF m 161 #[.val (.int p1)] [])
              exact S161 ja (Or.inl (by omega))
            · show own_Go _ _ _ _ _ _ _ s₁ (mkF m 152 #[.val (.int p1)] [(.int (63744 : Int32)), (.int p1)])
              refine own_step (fun t k => XS.icmpNo X0.here hx rfl (hb hby d1_152) rfl (flt (c152_13)).1 k) ?_
              show own_Go _ _ _ _ _ _ _ s₁ (mkF m 155 #[.val (.int p1)] [])
              refine own_step (fun t k => XS.iloadN X0.here hx rfl (hb hby d1_155) rfl k) ?_
              show own_Go _ _ _ _ _ _ _ s₁ (mkF m 156 #[.val (.int p1)] [(.int p1)])
              refine own_step (fun t k => X0.ldcInt hx hown (mvT hZ (hw _ (List.mem_of_getElem? (i := 24) rfl))) (g := (mkF m 156 #[.val (.int p1)] [(.int p1)])) rfl (hb hby d1_156) t k) ?_
              rcases Classical.em ((64975 : Int32) < p1) with c158_14 | c158_14
              · show own_Go _ _ _ _ _ _ _ s₁ (mkF m 158 #[.val (.int p1)] [(.int (64975 : Int32)), (.int p1)])
                refine own_step (fun t k => XS.icmpNo X0.here hx rfl (hb hby d1_158) rfl (tlt (c158_14)).2.2.2 k) ?_
                simp only [Int32.lt_iff_toInt_lt, ← Int32.toInt_inj, Int32.reduceToInt] at c4_1 c31_6 c65_7 c92_8 c152_13 c158_14
                show own_Go _ _ _ _ _ _ _ s₁ (mkF m 161 #[.val (.int p1)] [])
                exact S161 ja (Or.inr (by omega))
              · show own_Go _ _ _ _ _ _ _ s₁ (mkF m 158 #[.val (.int p1)] [(.int (64975 : Int32)), (.int p1)])
                refine own_step (fun t k => XS.icmpYes X0.here hx rfl (pc0 := 158) (pc' := 185) rfl (hb hby d1_158) rfl (flt (c158_14)).2.2.2 (by decide) (by decide) k) ?_
                show own_Go _ _ _ _ _ _ _ s₁ (mkF m 185 #[.val (.int p1)] [])
                refine own_step (fun t k => XS.iconst X0.here hx rfl (hb hby d1_185) k) ?_
                show own_Go _ _ _ _ _ _ _ s₁ (mkF m 186 #[.val (.int p1)] [(.int (1 : Int32))])
                refine own_step (fun t k => XS.goto X0.here hx rfl (pc0 := 186) (pc' := 190) rfl (hb hby d1_186) (by decide) (by decide) k) ?_
                simp only [Int32.lt_iff_toInt_lt, ← Int32.toInt_inj, Int32.reduceToInt] at c4_1 c31_6 c65_7 c92_8 c152_13 c158_14
                show own_Go _ _ _ _ _ _ _ s₁ (mkF m 190 #[.val (.int p1)] [(.int (1 : Int32))])
                refine own_ret X0 hx hlk Bd.returns rfl (Or.inl ⟨rfl, Or.inr (Or.inl rfl), _, rfl⟩) (hb hby d1_190) (by decide) (by decide) ?_
                show own_Q1 Z p1 aw cl h0 n0 (some (.int (1 : Int32))) s₁.heap _
                rw [e0]
                exact ⟨by rw [own_vN, if_pos (by omega)], N0, rfl⟩
          show own_Go _ _ _ _ _ _ _ s₁ (mkF m 136 #[.val (.int p1)] [])
          refine own_step (fun t k => XS.iloadN X0.here hx rfl (hb hby d1_136) rfl k) ?_
          show own_Go _ _ _ _ _ _ _ s₁ (mkF m 137 #[.val (.int p1)] [(.int p1)])
          refine own_step (fun t k => XS.sipush X0.here hx rfl (hb hby d1_137) k) ?_
          rcases Classical.em (p1 < (12289 : Int32)) with c140_15 | c140_15
          · show own_Go _ _ _ _ _ _ _ s₁ (mkF m 140 #[.val (.int p1)] [(.int (12289 : Int32)), (.int p1)])
            refine own_step (fun t k => XS.icmpYes X0.here hx rfl (pc0 := 140) (pc' := 149) rfl (hb hby d1_140) rfl (tlt (c140_15)).1 (by decide) (by decide) k) ?_
            simp only [Int32.lt_iff_toInt_lt, ← Int32.toInt_inj, Int32.reduceToInt] at c4_1 c31_6 c65_7 c92_8 c140_15
            show own_Go _ _ _ _ _ _ _ s₁ (mkF m 149 #[.val (.int p1)] [])
            exact S149 (Or.inl (by omega))
          · show own_Go _ _ _ _ _ _ _ s₁ (mkF m 140 #[.val (.int p1)] [(.int (12289 : Int32)), (.int p1)])
            refine own_step (fun t k => XS.icmpNo X0.here hx rfl (hb hby d1_140) rfl (flt (c140_15)).1 k) ?_
            show own_Go _ _ _ _ _ _ _ s₁ (mkF m 143 #[.val (.int p1)] [])
            refine own_step (fun t k => XS.iloadN X0.here hx rfl (hb hby d1_143) rfl k) ?_
            show own_Go _ _ _ _ _ _ _ s₁ (mkF m 144 #[.val (.int p1)] [(.int p1)])
            refine own_step (fun t k => X0.ldcInt hx hown (mvT hZ (hw _ (List.mem_of_getElem? (i := 22) rfl))) (g := (mkF m 144 #[.val (.int p1)] [(.int p1)])) rfl (hb hby d1_144) t k) ?_
            rcases Classical.em ((55295 : Int32) < p1) with c146_16 | c146_16
            · show own_Go _ _ _ _ _ _ _ s₁ (mkF m 146 #[.val (.int p1)] [(.int (55295 : Int32)), (.int p1)])
              refine own_step (fun t k => XS.icmpNo X0.here hx rfl (hb hby d1_146) rfl (tlt (c146_16)).2.2.2 k) ?_
              simp only [Int32.lt_iff_toInt_lt, ← Int32.toInt_inj, Int32.reduceToInt] at c4_1 c31_6 c65_7 c92_8 c140_15 c146_16
              show own_Go _ _ _ _ _ _ _ s₁ (mkF m 149 #[.val (.int p1)] [])
              exact S149 (Or.inr (by omega))
            · show own_Go _ _ _ _ _ _ _ s₁ (mkF m 146 #[.val (.int p1)] [(.int (55295 : Int32)), (.int p1)])
              refine own_step (fun t k => XS.icmpYes X0.here hx rfl (pc0 := 146) (pc' := 185) rfl (hb hby d1_146) rfl (flt (c146_16)).2.2.2 (by decide) (by decide) k) ?_
              show own_Go _ _ _ _ _ _ _ s₁ (mkF m 185 #[.val (.int p1)] [])
              refine own_step (fun t k => XS.iconst X0.here hx rfl (hb hby d1_185) k) ?_
              show own_Go _ _ _ _ _ _ _ s₁ (mkF m 186 #[.val (.int p1)] [(.int (1 : Int32))])
              refine own_step (fun t k => XS.goto X0.here hx rfl (pc0 := 186) (pc' := 190) rfl (hb hby d1_186) (by decide) (by decide) k) ?_
              simp only [Int32.lt_iff_toInt_lt, ← Int32.toInt_inj, Int32.reduceToInt] at c4_1 c31_6 c65_7 c92_8 c140_15 c146_16
              show own_Go _ _ _ _ _ _ _ s₁ (mkF m 190 #[.val (.int p1)] [(.int (1 : Int32))])
              refine own_ret X0 hx hlk Bd.returns rfl (Or.inl ⟨rfl, Or.inr (Or.inl rfl), _, rfl⟩) (hb hby d1_190) (by decide) (by decide) ?_
              show own_Q1 Z p1 aw cl h0 n0 (some (.int (1 : Int32))) s₁.heap _
              rw [e0]
              exact ⟨by rw [own_vN, if_pos (by omega)], N0, rfl⟩
        · show own_Go _ _ _ _ _ _ _ s₁ (mkF m 92 #[.val (.int p1)] [(.int (12271 : Int32)), (.int p1)])
          refine own_step (fun t k => XS.icmpNo X0.here hx rfl (hb hby d1_92) rfl (flt (c92_8)).2.2.1 k) ?_
          show own_Go _ _ _ _ _ _ _ s₁ (mkF m 95 #[.val (.int p1)] [])
          refine own_step (fun t k => XS.iloadN X0.here hx rfl (hb hby d1_95) rfl k) ?_
          show own_Go _ _ _ _ _ _ _ s₁ (mkF m 96 #[.val (.int p1)] [(.int p1)])
          refine own_step (fun t k => XS.sipush X0.here hx rfl (hb hby d1_96) k) ?_
          rcases Classical.em (p1 = (8204 : Int32)) with c99_17 | c99_17
          · show own_Go _ _ _ _ _ _ _ s₁ (mkF m 99 #[.val (.int p1)] [(.int (8204 : Int32)), (.int p1)])
            refine own_step (fun t k => XS.icmpYes X0.here hx rfl (pc0 := 99) (pc' := 130) rfl (hb hby d1_99) rfl (teq (c99_17)).1 (by decide) (by decide) k) ?_
            show own_Go _ _ _ _ _ _ _ s₁ (mkF m 130 #[.val (.int p1)] [])
            refine own_step (fun t k => XS.iconst X0.here hx rfl (hb hby d1_130) k) ?_
            show own_Go _ _ _ _ _ _ _ s₁ (mkF m 131 #[.val (.int p1)] [(.int (1 : Int32))])
            refine own_step (fun t k => XS.goto X0.here hx rfl (pc0 := 131) (pc' := 135) rfl (hb hby d1_131) (by decide) (by decide) k) ?_
            simp only [Int32.lt_iff_toInt_lt, ← Int32.toInt_inj, Int32.reduceToInt] at c4_1 c31_6 c65_7 c92_8 c99_17
            show own_Go _ _ _ _ _ _ _ s₁ (mkF m 135 #[.val (.int p1)] [(.int (1 : Int32))])
            refine own_ret X0 hx hlk Bd.returns rfl (Or.inl ⟨rfl, Or.inr (Or.inl rfl), _, rfl⟩) (hb hby d1_135) (by decide) (by decide) ?_
            show own_Q1 Z p1 aw cl h0 n0 (some (.int (1 : Int32))) s₁.heap _
            rw [e0]
            exact ⟨by rw [own_vN, if_pos (by omega)], N0, rfl⟩
          · show own_Go _ _ _ _ _ _ _ s₁ (mkF m 99 #[.val (.int p1)] [(.int (8204 : Int32)), (.int p1)])
            refine own_step (fun t k => XS.icmpNo X0.here hx rfl (hb hby d1_99) rfl (feq (c99_17)).1 k) ?_
            show own_Go _ _ _ _ _ _ _ s₁ (mkF m 102 #[.val (.int p1)] [])
            refine own_step (fun t k => XS.iloadN X0.here hx rfl (hb hby d1_102) rfl k) ?_
            show own_Go _ _ _ _ _ _ _ s₁ (mkF m 103 #[.val (.int p1)] [(.int p1)])
            refine own_step (fun t k => XS.sipush X0.here hx rfl (hb hby d1_103) k) ?_
            rcases Classical.em (p1 = (8205 : Int32)) with c106_18 | c106_18
            · show own_Go _ _ _ _ _ _ _ s₁ (mkF m 106 #[.val (.int p1)] [(.int (8205 : Int32)), (.int p1)])
              refine own_step (fun t k => XS.icmpYes X0.here hx rfl (pc0 := 106) (pc' := 130) rfl (hb hby d1_106) rfl (teq (c106_18)).1 (by decide) (by decide) k) ?_
              show own_Go _ _ _ _ _ _ _ s₁ (mkF m 130 #[.val (.int p1)] [])
              refine own_step (fun t k => XS.iconst X0.here hx rfl (hb hby d1_130) k) ?_
              show own_Go _ _ _ _ _ _ _ s₁ (mkF m 131 #[.val (.int p1)] [(.int (1 : Int32))])
              refine own_step (fun t k => XS.goto X0.here hx rfl (pc0 := 131) (pc' := 135) rfl (hb hby d1_131) (by decide) (by decide) k) ?_
              simp only [Int32.lt_iff_toInt_lt, ← Int32.toInt_inj, Int32.reduceToInt] at c4_1 c31_6 c65_7 c92_8 c99_17 c106_18
              show own_Go _ _ _ _ _ _ _ s₁ (mkF m 135 #[.val (.int p1)] [(.int (1 : Int32))])
              refine own_ret X0 hx hlk Bd.returns rfl (Or.inl ⟨rfl, Or.inr (Or.inl rfl), _, rfl⟩) (hb hby d1_135) (by decide) (by decide) ?_
              show own_Q1 Z p1 aw cl h0 n0 (some (.int (1 : Int32))) s₁.heap _
              rw [e0]
              exact ⟨by rw [own_vN, if_pos (by omega)], N0, rfl⟩
            · show own_Go _ _ _ _ _ _ _ s₁ (mkF m 106 #[.val (.int p1)] [(.int (8205 : Int32)), (.int p1)])
              refine own_step (fun t k => XS.icmpNo X0.here hx rfl (hb hby d1_106) rfl (feq (c106_18)).1 k) ?_
              show own_Go _ _ _ _ _ _ _ s₁ (mkF m 109 #[.val (.int p1)] [])
              refine own_step (fun t k => XS.iloadN X0.here hx rfl (hb hby d1_109) rfl k) ?_
              show own_Go _ _ _ _ _ _ _ s₁ (mkF m 110 #[.val (.int p1)] [(.int p1)])
              refine own_step (fun t k => XS.sipush X0.here hx rfl (hb hby d1_110) k) ?_
              rcases Classical.em (p1 < (8304 : Int32)) with c113_19 | c113_19
              · show own_Go _ _ _ _ _ _ _ s₁ (mkF m 113 #[.val (.int p1)] [(.int (8304 : Int32)), (.int p1)])
                refine own_step (fun t k => XS.icmpYes X0.here hx rfl (pc0 := 113) (pc' := 123) rfl (hb hby d1_113) rfl (tlt (c113_19)).1 (by decide) (by decide) k) ?_
                show own_Go _ _ _ _ _ _ _ s₁ (mkF m 123 #[.val (.int p1)] [])
                refine own_step (fun t k => XS.iloadN X0.here hx rfl (hb hby d1_123) rfl k) ?_
                show own_Go _ _ _ _ _ _ _ s₁ (mkF m 124 #[.val (.int p1)] [(.int p1)])
                refine own_step (fun t k => XS.sipush X0.here hx rfl (hb hby d1_124) k) ?_
                rcases Classical.em (p1 < (11264 : Int32)) with c127_20 | c127_20
                · show own_Go _ _ _ _ _ _ _ s₁ (mkF m 127 #[.val (.int p1)] [(.int (11264 : Int32)), (.int p1)])
                  refine own_step (fun t k => XS.icmpYes X0.here hx rfl (pc0 := 127) (pc' := 134) rfl (hb hby d1_127) rfl (tlt (c127_20)).1 (by decide) (by decide) k) ?_
                  show own_Go _ _ _ _ _ _ _ s₁ (mkF m 134 #[.val (.int p1)] [])
                  refine own_step (fun t k => XS.iconst X0.here hx rfl (hb hby d1_134) k) ?_
                  simp only [Int32.lt_iff_toInt_lt, ← Int32.toInt_inj, Int32.reduceToInt] at c4_1 c31_6 c65_7 c92_8 c99_17 c106_18 c113_19 c127_20
                  show own_Go _ _ _ _ _ _ _ s₁ (mkF m 135 #[.val (.int p1)] [(.int (0 : Int32))])
                  refine own_ret X0 hx hlk Bd.returns rfl (Or.inl ⟨rfl, Or.inr (Or.inl rfl), _, rfl⟩) (hb hby d1_135) (by decide) (by decide) ?_
                  show own_Q1 Z p1 aw cl h0 n0 (some (.int (0 : Int32))) s₁.heap _
                  rw [e0]
                  exact ⟨by rw [own_vN, if_neg (by omega)], N0, rfl⟩
                · show own_Go _ _ _ _ _ _ _ s₁ (mkF m 127 #[.val (.int p1)] [(.int (11264 : Int32)), (.int p1)])
                  refine own_step (fun t k => XS.icmpNo X0.here hx rfl (hb hby d1_127) rfl (flt (c127_20)).1 k) ?_
                  show own_Go _ _ _ _ _ _ _ s₁ (mkF m 130 #[.val (.int p1)] [])
                  refine own_step (fun t k => XS.iconst X0.here hx rfl (hb hby d1_130) k) ?_
                  show own_Go _ _ _ _ _ _ _ s₁ (mkF m 131 #[.val (.int p1)] [(.int (1 : Int32))])
                  refine own_step (fun t k => XS.goto X0.here hx rfl (pc0 := 131) (pc' := 135) rfl (hb hby d1_131) (by decide) (by decide) k) ?_
                  simp only [Int32.lt_iff_toInt_lt, ← Int32.toInt_inj, Int32.reduceToInt] at c4_1 c31_6 c65_7 c92_8 c99_17 c106_18 c113_19 c127_20
                  show own_Go _ _ _ _ _ _ _ s₁ (mkF m 135 #[.val (.int p1)] [(.int (1 : Int32))])
                  refine own_ret X0 hx hlk Bd.returns rfl (Or.inl ⟨rfl, Or.inr (Or.inl rfl), _, rfl⟩) (hb hby d1_135) (by decide) (by decide) ?_
                  show own_Q1 Z p1 aw cl h0 n0 (some (.int (1 : Int32))) s₁.heap _
                  rw [e0]
                  exact ⟨by rw [own_vN, if_pos (by omega)], N0, rfl⟩
              · show own_Go _ _ _ _ _ _ _ s₁ (mkF m 113 #[.val (.int p1)] [(.int (8304 : Int32)), (.int p1)])
                refine own_step (fun t k => XS.icmpNo X0.here hx rfl (hb hby d1_113) rfl (flt (c113_19)).1 k) ?_
                show own_Go _ _ _ _ _ _ _ s₁ (mkF m 116 #[.val (.int p1)] [])
                refine own_step (fun t k => XS.iloadN X0.here hx rfl (hb hby d1_116) rfl k) ?_
                show own_Go _ _ _ _ _ _ _ s₁ (mkF m 117 #[.val (.int p1)] [(.int p1)])
                refine own_step (fun t k => XS.sipush X0.here hx rfl (hb hby d1_117) k) ?_
                rcases Classical.em ((8591 : Int32) < p1) with c120_21 | c120_21
                · show own_Go _ _ _ _ _ _ _ s₁ (mkF m 120 #[.val (.int p1)] [(.int (8591 : Int32)), (.int p1)])
                  refine own_step (fun t k => XS.icmpNo X0.here hx rfl (hb hby d1_120) rfl (tlt (c120_21)).2.2.2 k) ?_
                  show own_Go _ _ _ _ _ _ _ s₁ (mkF m 123 #[.val (.int p1)] [])
                  refine own_step (fun t k => XS.iloadN X0.here hx rfl (hb hby d1_123) rfl k) ?_
                  show own_Go _ _ _ _ _ _ _ s₁ (mkF m 124 #[.val (.int p1)] [(.int p1)])
                  refine own_step (fun t k => XS.sipush X0.here hx rfl (hb hby d1_124) k) ?_
                  rcases Classical.em (p1 < (11264 : Int32)) with c127_22 | c127_22
                  · show own_Go _ _ _ _ _ _ _ s₁ (mkF m 127 #[.val (.int p1)] [(.int (11264 : Int32)), (.int p1)])
                    refine own_step (fun t k => XS.icmpYes X0.here hx rfl (pc0 := 127) (pc' := 134) rfl (hb hby d1_127) rfl (tlt (c127_22)).1 (by decide) (by decide) k) ?_
                    show own_Go _ _ _ _ _ _ _ s₁ (mkF m 134 #[.val (.int p1)] [])
                    refine own_step (fun t k => XS.iconst X0.here hx rfl (hb hby d1_134) k) ?_
                    simp only [Int32.lt_iff_toInt_lt, ← Int32.toInt_inj, Int32.reduceToInt] at c4_1 c31_6 c65_7 c92_8 c99_17 c106_18 c113_19 c120_21 c127_22
                    show own_Go _ _ _ _ _ _ _ s₁ (mkF m 135 #[.val (.int p1)] [(.int (0 : Int32))])
                    refine own_ret X0 hx hlk Bd.returns rfl (Or.inl ⟨rfl, Or.inr (Or.inl rfl), _, rfl⟩) (hb hby d1_135) (by decide) (by decide) ?_
                    show own_Q1 Z p1 aw cl h0 n0 (some (.int (0 : Int32))) s₁.heap _
                    rw [e0]
                    exact ⟨by rw [own_vN, if_neg (by omega)], N0, rfl⟩
                  · show own_Go _ _ _ _ _ _ _ s₁ (mkF m 127 #[.val (.int p1)] [(.int (11264 : Int32)), (.int p1)])
                    refine own_step (fun t k => XS.icmpNo X0.here hx rfl (hb hby d1_127) rfl (flt (c127_22)).1 k) ?_
                    show own_Go _ _ _ _ _ _ _ s₁ (mkF m 130 #[.val (.int p1)] [])
                    refine own_step (fun t k => XS.iconst X0.here hx rfl (hb hby d1_130) k) ?_
                    show own_Go _ _ _ _ _ _ _ s₁ (mkF m 131 #[.val (.int p1)] [(.int (1 : Int32))])
                    refine own_step (fun t k => XS.goto X0.here hx rfl (pc0 := 131) (pc' := 135) rfl (hb hby d1_131) (by decide) (by decide) k) ?_
                    simp only [Int32.lt_iff_toInt_lt, ← Int32.toInt_inj, Int32.reduceToInt] at c4_1 c31_6 c65_7 c92_8 c99_17 c106_18 c113_19 c120_21 c127_22
                    show own_Go _ _ _ _ _ _ _ s₁ (mkF m 135 #[.val (.int p1)] [(.int (1 : Int32))])
                    refine own_ret X0 hx hlk Bd.returns rfl (Or.inl ⟨rfl, Or.inr (Or.inl rfl), _, rfl⟩) (hb hby d1_135) (by decide) (by decide) ?_
                    show own_Q1 Z p1 aw cl h0 n0 (some (.int (1 : Int32))) s₁.heap _
                    rw [e0]
                    exact ⟨by rw [own_vN, if_pos (by omega)], N0, rfl⟩
                · show own_Go _ _ _ _ _ _ _ s₁ (mkF m 120 #[.val (.int p1)] [(.int (8591 : Int32)), (.int p1)])
                  refine own_step (fun t k => XS.icmpYes X0.here hx rfl (pc0 := 120) (pc' := 130) rfl (hb hby d1_120) rfl (flt (c120_21)).2.2.2 (by decide) (by decide) k) ?_
                  show own_Go _ _ _ _ _ _ _ s₁ (mkF m 130 #[.val (.int p1)] [])
                  refine own_step (fun t k => XS.iconst X0.here hx rfl (hb hby d1_130) k) ?_
                  show own_Go _ _ _ _ _ _ _ s₁ (mkF m 131 #[.val (.int p1)] [(.int (1 : Int32))])
                  refine own_step (fun t k => XS.goto X0.here hx rfl (pc0 := 131) (pc' := 135) rfl (hb hby d1_131) (by decide) (by decide) k) ?_
                  simp only [Int32.lt_iff_toInt_lt, ← Int32.toInt_inj, Int32.reduceToInt] at c4_1 c31_6 c65_7 c92_8 c99_17 c106_18 c113_19 c120_21
                  show own_Go _ _ _ _ _ _ _ s₁ (mkF m 135 #[.val (.int p1)] [(.int (1 : Int32))])
                  refine own_ret X0 hx hlk Bd.returns rfl (Or.inl ⟨rfl, Or.inr (Or.inl rfl), _, rfl⟩) (hb hby d1_135) (by decide) (by decide) ?_
                  show own_Q1 Z p1 aw cl h0 n0 (some (.int (1 : Int32))) s₁.heap _
                  rw [e0]
                  exact ⟨by rw [own_vN, if_pos (by omega)], N0, rfl⟩
      · show own_Go _ _ _ _ _ _ _ s₁ (mkF m 65 #[.val (.int p1)] [(.int (8191 : Int32)), (.int p1)])
        refine own_step (fun t k => XS.icmpNo X0.here hx rfl (hb hby d1_65) rfl (flt (c65_7)).2.2.1 k) ?_
        show own_Go _ _ _ _ _ _ _ s₁ (mkF m 68 #[.val (.int p1)] [])
        refine own_step (fun t k => XS.iloadN X0.here hx rfl (hb hby d1_68) rfl k) ?_
        show own_Go _ _ _ _ _ _ _ s₁ (mkF m 69 #[.val (.int p1)] [(.int p1)])
        refine own_step (fun t k => XS.sipush X0.here hx rfl (hb hby d1_69) k) ?_
        rcases Classical.em (p1 < (880 : Int32)) with c72_23 | c72_23
        · show own_Go _ _ _ _ _ _ _ s₁ (mkF m 72 #[.val (.int p1)] [(.int (880 : Int32)), (.int p1)])
          refine own_step (fun t k => XS.icmpYes X0.here hx rfl (pc0 := 72) (pc' := 86) rfl (hb hby d1_72) rfl (tlt (c72_23)).1 (by decide) (by decide) k) ?_
          show own_Go _ _ _ _ _ _ _ s₁ (mkF m 86 #[.val (.int p1)] [])
          refine own_step (fun t k => XS.iconst X0.here hx rfl (hb hby d1_86) k) ?_
          simp only [Int32.lt_iff_toInt_lt, ← Int32.toInt_inj, Int32.reduceToInt] at c4_1 c31_6 c65_7 c72_23
          show own_Go _ _ _ _ _ _ _ s₁ (mkF m 87 #[.val (.int p1)] [(.int (0 : Int32))])
          refine own_ret X0 hx hlk Bd.returns rfl (Or.inl ⟨rfl, Or.inr (Or.inl rfl), _, rfl⟩) (hb hby d1_87) (by decide) (by decide) ?_
          show own_Q1 Z p1 aw cl h0 n0 (some (.int (0 : Int32))) s₁.heap _
          rw [e0]
          exact ⟨by rw [own_vN, if_neg (by omega)], N0, rfl⟩
        · show own_Go _ _ _ _ _ _ _ s₁ (mkF m 72 #[.val (.int p1)] [(.int (880 : Int32)), (.int p1)])
          refine own_step (fun t k => XS.icmpNo X0.here hx rfl (hb hby d1_72) rfl (flt (c72_23)).1 k) ?_
          show own_Go _ _ _ _ _ _ _ s₁ (mkF m 75 #[.val (.int p1)] [])
          refine own_step (fun t k => XS.iloadN X0.here hx rfl (hb hby d1_75) rfl k) ?_
          show own_Go _ _ _ _ _ _ _ s₁ (mkF m 76 #[.val (.int p1)] [(.int p1)])
          refine own_step (fun t k => XS.sipush X0.here hx rfl (hb hby d1_76) k) ?_
          rcases Classical.em (p1 = (894 : Int32)) with c79_24 | c79_24
          · show own_Go _ _ _ _ _ _ _ s₁ (mkF m 79 #[.val (.int p1)] [(.int (894 : Int32)), (.int p1)])
            refine own_step (fun t k => XS.icmpYes X0.here hx rfl (pc0 := 79) (pc' := 86) rfl (hb hby d1_79) rfl (teq (c79_24)).1 (by decide) (by decide) k) ?_
            show own_Go _ _ _ _ _ _ _ s₁ (mkF m 86 #[.val (.int p1)] [])
            refine own_step (fun t k => XS.iconst X0.here hx rfl (hb hby d1_86) k) ?_
            simp only [Int32.lt_iff_toInt_lt, ← Int32.toInt_inj, Int32.reduceToInt] at c4_1 c31_6 c65_7 c72_23 c79_24
            show own_Go _ _ _ _ _ _ _ s₁ (mkF m 87 #[.val (.int p1)] [(.int (0 : Int32))])
            refine own_ret X0 hx hlk Bd.returns rfl (Or.inl ⟨rfl, Or.inr (Or.inl rfl), _, rfl⟩) (hb hby d1_87) (by decide) (by decide) ?_
            show own_Q1 Z p1 aw cl h0 n0 (some (.int (0 : Int32))) s₁.heap _
            rw [e0]
            exact ⟨by rw [own_vN, if_neg (by omega)], N0, rfl⟩
          · show own_Go _ _ _ _ _ _ _ s₁ (mkF m 79 #[.val (.int p1)] [(.int (894 : Int32)), (.int p1)])
            refine own_step (fun t k => XS.icmpNo X0.here hx rfl (hb hby d1_79) rfl (feq (c79_24)).1 k) ?_
            show own_Go _ _ _ _ _ _ _ s₁ (mkF m 82 #[.val (.int p1)] [])
            refine own_step (fun t k => XS.iconst X0.here hx rfl (hb hby d1_82) k) ?_
            show own_Go _ _ _ _ _ _ _ s₁ (mkF m 83 #[.val (.int p1)] [(.int (1 : Int32))])
            refine own_step (fun t k => XS.goto X0.here hx rfl (pc0 := 83) (pc' := 87) rfl (hb hby d1_83) (by decide) (by decide) k) ?_
            simp only [Int32.lt_iff_toInt_lt, ← Int32.toInt_inj, Int32.reduceToInt] at c4_1 c31_6 c65_7 c72_23 c79_24
            show own_Go _ _ _ _ _ _ _ s₁ (mkF m 87 #[.val (.int p1)] [(.int (1 : Int32))])
            refine own_ret X0 hx hlk Bd.returns rfl (Or.inl ⟨rfl, Or.inr (Or.inl rfl), _, rfl⟩) (hb hby d1_87) (by decide) (by decide) ?_
            show own_Q1 Z p1 aw cl h0 n0 (some (.int (1 : Int32))) s₁.heap _
            rw [e0]
            exact ⟨by rw [own_vN, if_pos (by omega)], N0, rfl⟩
    · show own_Go _ _ _ _ _ _ _ s₁ (mkF m 31 #[.val (.int p1)] [(.int (767 : Int32)), (.int p1)])
      refine own_step (fun t k => XS.icmpNo X0.here hx rfl (hb hby d1_31) rfl (flt (c31_6)).2.2.1 k) ?_
      show own_Go _ _ _ _ _ _ _ s₁ (mkF m 34 #[.val (.int p1)] [])
      refine own_step (fun t k => XS.iloadN X0.here hx rfl (hb hby d1_34) rfl k) ?_
      show own_Go _ _ _ _ _ _ _ s₁ (mkF m 35 #[.val (.int p1)] [(.int p1)])
      refine own_step (fun t k => XS.sipush X0.here hx rfl (hb hby d1_35) k) ?_
      rcases Classical.em (p1 < (192 : Int32)) with c38_25 | c38_25
      · show own_Go _ _ _ _ _ _ _ s₁ (mkF m 38 #[.val (.int p1)] [(.int (192 : Int32)), (.int p1)])
        refine own_step (fun t k => XS.icmpYes X0.here hx rfl (pc0 := 38) (pc' := 59) rfl (hb hby d1_38) rfl (tlt (c38_25)).1 (by decide) (by decide) k) ?_
        show own_Go _ _ _ _ _ _ _ s₁ (mkF m 59 #[.val (.int p1)] [])
        refine own_step (fun t k => XS.iconst X0.here hx rfl (hb hby d1_59) k) ?_
        simp only [Int32.lt_iff_toInt_lt, ← Int32.toInt_inj, Int32.reduceToInt] at c4_1 c31_6 c38_25
        show own_Go _ _ _ _ _ _ _ s₁ (mkF m 60 #[.val (.int p1)] [(.int (0 : Int32))])
        refine own_ret X0 hx hlk Bd.returns rfl (Or.inl ⟨rfl, Or.inr (Or.inl rfl), _, rfl⟩) (hb hby d1_60) (by decide) (by decide) ?_
        show own_Q1 Z p1 aw cl h0 n0 (some (.int (0 : Int32))) s₁.heap _
        rw [e0]
        exact ⟨by rw [own_vN, if_neg (by omega)], N0, rfl⟩
      · show own_Go _ _ _ _ _ _ _ s₁ (mkF m 38 #[.val (.int p1)] [(.int (192 : Int32)), (.int p1)])
        refine own_step (fun t k => XS.icmpNo X0.here hx rfl (hb hby d1_38) rfl (flt (c38_25)).1 k) ?_
        show own_Go _ _ _ _ _ _ _ s₁ (mkF m 41 #[.val (.int p1)] [])
        refine own_step (fun t k => XS.iloadN X0.here hx rfl (hb hby d1_41) rfl k) ?_
        show own_Go _ _ _ _ _ _ _ s₁ (mkF m 42 #[.val (.int p1)] [(.int p1)])
        refine own_step (fun t k => XS.sipush X0.here hx rfl (hb hby d1_42) k) ?_
        rcases Classical.em (p1 = (215 : Int32)) with c45_26 | c45_26
        · show own_Go _ _ _ _ _ _ _ s₁ (mkF m 45 #[.val (.int p1)] [(.int (215 : Int32)), (.int p1)])
          refine own_step (fun t k => XS.icmpYes X0.here hx rfl (pc0 := 45) (pc' := 59) rfl (hb hby d1_45) rfl (teq (c45_26)).1 (by decide) (by decide) k) ?_
          show own_Go _ _ _ _ _ _ _ s₁ (mkF m 59 #[.val (.int p1)] [])
          refine own_step (fun t k => XS.iconst X0.here hx rfl (hb hby d1_59) k) ?_
          simp only [Int32.lt_iff_toInt_lt, ← Int32.toInt_inj, Int32.reduceToInt] at c4_1 c31_6 c38_25 c45_26
          show own_Go _ _ _ _ _ _ _ s₁ (mkF m 60 #[.val (.int p1)] [(.int (0 : Int32))])
          refine own_ret X0 hx hlk Bd.returns rfl (Or.inl ⟨rfl, Or.inr (Or.inl rfl), _, rfl⟩) (hb hby d1_60) (by decide) (by decide) ?_
          show own_Q1 Z p1 aw cl h0 n0 (some (.int (0 : Int32))) s₁.heap _
          rw [e0]
          exact ⟨by rw [own_vN, if_neg (by omega)], N0, rfl⟩
        · show own_Go _ _ _ _ _ _ _ s₁ (mkF m 45 #[.val (.int p1)] [(.int (215 : Int32)), (.int p1)])
          refine own_step (fun t k => XS.icmpNo X0.here hx rfl (hb hby d1_45) rfl (feq (c45_26)).1 k) ?_
          show own_Go _ _ _ _ _ _ _ s₁ (mkF m 48 #[.val (.int p1)] [])
          refine own_step (fun t k => XS.iloadN X0.here hx rfl (hb hby d1_48) rfl k) ?_
          show own_Go _ _ _ _ _ _ _ s₁ (mkF m 49 #[.val (.int p1)] [(.int p1)])
          refine own_step (fun t k => XS.sipush X0.here hx rfl (hb hby d1_49) k) ?_
          rcases Classical.em (p1 = (247 : Int32)) with c52_27 | c52_27
          · show own_Go _ _ _ _ _ _ _ s₁ (mkF m 52 #[.val (.int p1)] [(.int (247 : Int32)), (.int p1)])
            refine own_step (fun t k => XS.icmpYes X0.here hx rfl (pc0 := 52) (pc' := 59) rfl (hb hby d1_52) rfl (teq (c52_27)).1 (by decide) (by decide) k) ?_
            show own_Go _ _ _ _ _ _ _ s₁ (mkF m 59 #[.val (.int p1)] [])
            refine own_step (fun t k => XS.iconst X0.here hx rfl (hb hby d1_59) k) ?_
            simp only [Int32.lt_iff_toInt_lt, ← Int32.toInt_inj, Int32.reduceToInt] at c4_1 c31_6 c38_25 c45_26 c52_27
            show own_Go _ _ _ _ _ _ _ s₁ (mkF m 60 #[.val (.int p1)] [(.int (0 : Int32))])
            refine own_ret X0 hx hlk Bd.returns rfl (Or.inl ⟨rfl, Or.inr (Or.inl rfl), _, rfl⟩) (hb hby d1_60) (by decide) (by decide) ?_
            show own_Q1 Z p1 aw cl h0 n0 (some (.int (0 : Int32))) s₁.heap _
            rw [e0]
            exact ⟨by rw [own_vN, if_neg (by omega)], N0, rfl⟩
          · show own_Go _ _ _ _ _ _ _ s₁ (mkF m 52 #[.val (.int p1)] [(.int (247 : Int32)), (.int p1)])
            refine own_step (fun t k => XS.icmpNo X0.here hx rfl (hb hby d1_52) rfl (feq (c52_27)).1 k) ?_
            show own_Go _ _ _ _ _ _ _ s₁ (mkF m 55 #[.val (.int p1)] [])
            refine own_step (fun t k => XS.iconst X0.here hx rfl (hb hby d1_55) k) ?_
            show own_Go _ _ _ _ _ _ _ s₁ (mkF m 56 #[.val (.int p1)] [(.int (1 : Int32))])
            refine own_step (fun t k => XS.goto X0.here hx rfl (pc0 := 56) (pc' := 60) rfl (hb hby d1_56) (by decide) (by decide) k) ?_
            simp only [Int32.lt_iff_toInt_lt, ← Int32.toInt_inj, Int32.reduceToInt] at c4_1 c31_6 c38_25 c45_26 c52_27
            show own_Go _ _ _ _ _ _ _ s₁ (mkF m 60 #[.val (.int p1)] [(.int (1 : Int32))])
            refine own_ret X0 hx hlk Bd.returns rfl (Or.inl ⟨rfl, Or.inr (Or.inl rfl), _, rfl⟩) (hb hby d1_60) (by decide) (by decide) ?_
            show own_Q1 Z p1 aw cl h0 n0 (some (.int (1 : Int32))) s₁.heap _
            rw [e0]
            exact ⟨by rw [own_vN, if_pos (by omega)], N0, rfl⟩
theorem d2_0 : decode method_2_code 0 = .ok (.iload_n 0, 1) := by decide +kernel
theorem d2_1 : decode method_2_code 1 = .ok (.bipush 58, 2) := by decide +kernel
theorem d2_3 : decode method_2_code 3 = .ok (.if_icmp .eq 194, 3) := by decide +kernel
theorem d2_6 : decode method_2_code 6 = .ok (.iload_n 0, 1) := by decide +kernel
theorem d2_7 : decode method_2_code 7 = .ok (.bipush 65, 2) := by decide +kernel
theorem d2_9 : decode method_2_code 9 = .ok (.if_icmp .lt 9, 3) := by decide +kernel
theorem d2_12 : decode method_2_code 12 = .ok (.iload_n 0, 1) := by decide +kernel
theorem d2_13 : decode method_2_code 13 = .ok (.bipush 90, 2) := by decide +kernel
theorem d2_15 : decode method_2_code 15 = .ok (.if_icmp .le 182, 3) := by decide +kernel
theorem d2_18 : decode method_2_code 18 = .ok (.iload_n 0, 1) := by decide +kernel
theorem d2_19 : decode method_2_code 19 = .ok (.bipush 95, 2) := by decide +kernel
theorem d2_21 : decode method_2_code 21 = .ok (.if_icmp .eq 176, 3) := by decide +kernel
theorem d2_24 : decode method_2_code 24 = .ok (.iload_n 0, 1) := by decide +kernel
theorem d2_25 : decode method_2_code 25 = .ok (.bipush 97, 2) := by decide +kernel
theorem d2_27 : decode method_2_code 27 = .ok (.if_icmp .lt 9, 3) := by decide +kernel
theorem d2_30 : decode method_2_code 30 = .ok (.iload_n 0, 1) := by decide +kernel
theorem d2_31 : decode method_2_code 31 = .ok (.bipush 122, 2) := by decide +kernel
theorem d2_33 : decode method_2_code 33 = .ok (.if_icmp .le 164, 3) := by decide +kernel
theorem d2_36 : decode method_2_code 36 = .ok (.iload_n 0, 1) := by decide +kernel
theorem d2_37 : decode method_2_code 37 = .ok (.sipush 192, 3) := by decide +kernel
theorem d2_40 : decode method_2_code 40 = .ok (.if_icmp .lt 10, 3) := by decide +kernel
theorem d2_43 : decode method_2_code 43 = .ok (.iload_n 0, 1) := by decide +kernel
theorem d2_44 : decode method_2_code 44 = .ok (.sipush 214, 3) := by decide +kernel
theorem d2_47 : decode method_2_code 47 = .ok (.if_icmp .le 150, 3) := by decide +kernel
theorem d2_50 : decode method_2_code 50 = .ok (.iload_n 0, 1) := by decide +kernel
theorem d2_51 : decode method_2_code 51 = .ok (.sipush 216, 3) := by decide +kernel
theorem d2_54 : decode method_2_code 54 = .ok (.if_icmp .lt 10, 3) := by decide +kernel
theorem d2_57 : decode method_2_code 57 = .ok (.iload_n 0, 1) := by decide +kernel
theorem d2_58 : decode method_2_code 58 = .ok (.sipush 246, 3) := by decide +kernel
theorem d2_61 : decode method_2_code 61 = .ok (.if_icmp .le 136, 3) := by decide +kernel
theorem d2_64 : decode method_2_code 64 = .ok (.iload_n 0, 1) := by decide +kernel
theorem d2_65 : decode method_2_code 65 = .ok (.sipush 248, 3) := by decide +kernel
theorem d2_68 : decode method_2_code 68 = .ok (.if_icmp .lt 10, 3) := by decide +kernel
theorem d2_71 : decode method_2_code 71 = .ok (.iload_n 0, 1) := by decide +kernel
theorem d2_72 : decode method_2_code 72 = .ok (.sipush 767, 3) := by decide +kernel
theorem d2_75 : decode method_2_code 75 = .ok (.if_icmp .le 122, 3) := by decide +kernel
theorem d2_78 : decode method_2_code 78 = .ok (.iload_n 0, 1) := by decide +kernel
theorem d2_79 : decode method_2_code 79 = .ok (.sipush 880, 3) := by decide +kernel
theorem d2_82 : decode method_2_code 82 = .ok (.if_icmp .lt 10, 3) := by decide +kernel
theorem d2_85 : decode method_2_code 85 = .ok (.iload_n 0, 1) := by decide +kernel
theorem d2_86 : decode method_2_code 86 = .ok (.sipush 893, 3) := by decide +kernel
theorem d2_89 : decode method_2_code 89 = .ok (.if_icmp .le 108, 3) := by decide +kernel
theorem d2_92 : decode method_2_code 92 = .ok (.iload_n 0, 1) := by decide +kernel
theorem d2_93 : decode method_2_code 93 = .ok (.sipush 895, 3) := by decide +kernel
theorem d2_96 : decode method_2_code 96 = .ok (.if_icmp .lt 10, 3) := by decide +kernel
theorem d2_99 : decode method_2_code 99 = .ok (.iload_n 0, 1) := by decide +kernel
theorem d2_100 : decode method_2_code 100 = .ok (.sipush 8191, 3) := by decide +kernel
theorem d2_103 : decode method_2_code 103 = .ok (.if_icmp .le 94, 3) := by decide +kernel
theorem d2_106 : decode method_2_code 106 = .ok (.iload_n 0, 1) := by decide +kernel
theorem d2_107 : decode method_2_code 107 = .ok (.sipush 8204, 3) := by decide +kernel
theorem d2_110 : decode method_2_code 110 = .ok (.if_icmp .lt 10, 3) := by decide +kernel
theorem d2_113 : decode method_2_code 113 = .ok (.iload_n 0, 1) := by decide +kernel
theorem d2_114 : decode method_2_code 114 = .ok (.sipush 8205, 3) := by decide +kernel
theorem d2_117 : decode method_2_code 117 = .ok (.if_icmp .le 80, 3) := by decide +kernel
theorem d2_120 : decode method_2_code 120 = .ok (.iload_n 0, 1) := by decide +kernel
theorem d2_121 : decode method_2_code 121 = .ok (.sipush 8304, 3) := by decide +kernel
theorem d2_124 : decode method_2_code 124 = .ok (.if_icmp .lt 10, 3) := by decide +kernel
theorem d2_127 : decode method_2_code 127 = .ok (.iload_n 0, 1) := by decide +kernel
theorem d2_128 : decode method_2_code 128 = .ok (.sipush 8591, 3) := by decide +kernel
theorem d2_131 : decode method_2_code 131 = .ok (.if_icmp .le 66, 3) := by decide +kernel
theorem d2_134 : decode method_2_code 134 = .ok (.iload_n 0, 1) := by decide +kernel
theorem d2_135 : decode method_2_code 135 = .ok (.sipush 11264, 3) := by decide +kernel
theorem d2_138 : decode method_2_code 138 = .ok (.if_icmp .lt 10, 3) := by decide +kernel
theorem d2_141 : decode method_2_code 141 = .ok (.iload_n 0, 1) := by decide +kernel
theorem d2_142 : decode method_2_code 142 = .ok (.sipush 12271, 3) := by decide +kernel
theorem d2_145 : decode method_2_code 145 = .ok (.if_icmp .le 52, 3) := by decide +kernel
theorem d2_148 : decode method_2_code 148 = .ok (.iload_n 0, 1) := by decide +kernel
theorem d2_149 : decode method_2_code 149 = .ok (.sipush 12289, 3) := by decide +kernel
theorem d2_152 : decode method_2_code 152 = .ok (.if_icmp .lt 9, 3) := by decide +kernel
theorem d2_155 : decode method_2_code 155 = .ok (.iload_n 0, 1) := by decide +kernel
theorem d2_156 : decode method_2_code 156 = .ok (.ldc 7, 2) := by decide +kernel
theorem d2_158 : decode method_2_code 158 = .ok (.if_icmp .le 39, 3) := by decide +kernel
theorem d2_161 : decode method_2_code 161 = .ok (.iload_n 0, 1) := by decide +kernel
theorem d2_162 : decode method_2_code 162 = .ok (.ldc 8, 2) := by decide +kernel
theorem d2_164 : decode method_2_code 164 = .ok (.if_icmp .lt 9, 3) := by decide +kernel
theorem d2_167 : decode method_2_code 167 = .ok (.iload_n 0, 1) := by decide +kernel
theorem d2_168 : decode method_2_code 168 = .ok (.ldc 9, 2) := by decide +kernel
theorem d2_170 : decode method_2_code 170 = .ok (.if_icmp .le 27, 3) := by decide +kernel
theorem d2_173 : decode method_2_code 173 = .ok (.iload_n 0, 1) := by decide +kernel
theorem d2_174 : decode method_2_code 174 = .ok (.ldc 10, 2) := by decide +kernel
theorem d2_176 : decode method_2_code 176 = .ok (.if_icmp .lt 9, 3) := by decide +kernel
theorem d2_179 : decode method_2_code 179 = .ok (.iload_n 0, 1) := by decide +kernel
theorem d2_180 : decode method_2_code 180 = .ok (.ldc 11, 2) := by decide +kernel
theorem d2_182 : decode method_2_code 182 = .ok (.if_icmp .le 15, 3) := by decide +kernel
theorem d2_185 : decode method_2_code 185 = .ok (.iload_n 0, 1) := by decide +kernel
theorem d2_186 : decode method_2_code 186 = .ok (.ldc 12, 2) := by decide +kernel
theorem d2_188 : decode method_2_code 188 = .ok (.if_icmp .lt 13, 3) := by decide +kernel
theorem d2_191 : decode method_2_code 191 = .ok (.iload_n 0, 1) := by decide +kernel
theorem d2_192 : decode method_2_code 192 = .ok (.ldc 13, 2) := by decide +kernel
theorem d2_194 : decode method_2_code 194 = .ok (.if_icmp .gt 7, 3) := by decide +kernel
theorem d2_197 : decode method_2_code 197 = .ok (.iconst 1, 1) := by decide +kernel
theorem d2_198 : decode method_2_code 198 = .ok (.goto 4, 3) := by decide +kernel
theorem d2_201 : decode method_2_code 201 = .ok (.iconst 0, 1) := by decide +kernel
theorem d2_202 : decode method_2_code 202 = .ok (.ireturn, 1) := by decide +kernel
theorem own_pn2 : plainName "com/example/xylem/xylem/XmlCharsIsNameStartCharPinLaw" = true := by first | (simp [plainName, overriddenIn]; done) | decide +kernel
theorem own_ef2 (m : MethodId) (x0 : Int32) : entryFrame m #[(.int x0)] 1 = mkF m 0 #[.val (.int x0)] [] := by first | (simp [entryFrame, mkF, argsToLocals, Value.category]; done) | rfl
def own_Q2 (Z : State) (p1 : Int32) (h0 : Heap) (n0 : Nat) (v : Option Value) (h : Heap) (L : List Loc) : Prop := v = some (.int (own_vN p1)) ∧ Fr n0 L ∧ h = h0
set_option maxRecDepth 65536 in
set_option maxHeartbeats 40000000 in
theorem own_rm2 (l : Launch) (Z : State) (a0 : Array Value) (hw : ∀ d ∈ tables_1, d.before a0 Z = true) (ws : List Jvm.Cond) (p1 : Int32) (h0 : Heap) (n0 : Nat) (Z0 : n0 ≤ h0.size)  :
    MetFree l (⟨"com/example/xylem/xylem/XmlCharsIsNameStartCharPinLaw", "ref", "(I)Z"⟩ : MethodName) (head1 (Jvm.Cond.code (⟨"com/example/xylem/xylem/XmlCharsIsNameStartCharPinLaw", "ref", "(I)Z"⟩ : MethodName) method_2_code 1 (some .boolean) :: ws) ({ frames := 0, cells := 0, slots := 0, locals := 0 } : Room)) (fun a U => a = #[(.int p1)] ∧ Z.Warmed39 U.vm ∧ U.heap = h0) (fun _ _ _ _ _ => True) (fun _ U o U' => ∃ v L, o = .returned v ∧ own_Q2 Z p1 h0 n0 v U'.heap L ∧ FrameEnd U o U' L ({ frames := 0, cells := 0, slots := 0, locals := 0 } : Room).cells ({ frames := 0, cells := 0, slots := 0, locals := 0 } : Room).slots) := by
  refine MetFree.of_bodySF (plainFor_of_name own_pn2) hisR ?_
  intro p e s m args below meth c s₁ Bd hml0 hP hK
  obtain ⟨rfl, hZ, hh⟩ := hP
  have hx := Bd.exec
  have hby := Bd.bytes
  have hml : c.maxLocals = 1 := hml0
  have hlk : meth.locks = false := BodyLoose.notSynchronized Bd
  have hown : s.vm.findClass "com/example/xylem/xylem/XmlCharsIsNameStartCharPinLaw" = some m.cls := findClass_of_methodNamed Bd.named
  have hnm := (name_of_methodNamed Bd.named Bd.method).1
  have X0 : Stand p l e ({ frames := 0, cells := 0, slots := 0, locals := 0 } : Room) s m #[(.int p1)] below meth c s₁ [] 0 0 := Stand.of_body Bd
  have e0 : s₁.heap = h0 := by rw [← hh, Bd.state]; rfl
  have N0 := Fr.nil n0
  show own_Go p e below s ({ frames := 0, cells := 0, slots := 0, locals := 0 } : Room).cells ({ frames := 0, cells := 0, slots := 0, locals := 0 } : Room).slots (own_Q2 Z p1 h0 n0) s₁ (entryFrame m #[(.int p1)] 1)
  refine own_step (fun t k => castTop (own_ef2 m p1) k) ?_
  have J197 : own_vN p1 = 1 → own_Go p e below s ({ frames := 0, cells := 0, slots := 0, locals := 0 } : Room).cells ({ frames := 0, cells := 0, slots := 0, locals := 0 } : Room).slots (own_Q2 Z p1 h0 n0) s₁ (mkF m 197 #[.val (.int p1)] []) := by
    intro hv
    show own_Go _ _ _ _ _ _ _ s₁ (mkF m 197 #[.val (.int p1)] [])
    refine own_step (fun t k => XS.iconst X0.here hx rfl (hb hby d2_197) k) ?_
    show own_Go _ _ _ _ _ _ _ s₁ (mkF m 198 #[.val (.int p1)] [(.int (1 : Int32))])
    refine own_step (fun t k => XS.goto X0.here hx rfl (pc0 := 198) (pc' := 202) rfl (hb hby d2_198) (by decide) (by decide) k) ?_
    show own_Go _ _ _ _ _ _ _ s₁ (mkF m 202 #[.val (.int p1)] [(.int (1 : Int32))])
    refine own_ret X0 hx hlk Bd.returns rfl (Or.inl ⟨rfl, Or.inr (Or.inl rfl), _, rfl⟩) (hb hby d2_202) (by decide) (by decide) ?_
    show own_Q2 Z p1 h0 n0 (some (.int (1 : Int32))) s₁.heap _
    rw [e0]
    exact ⟨by rw [hv], N0, rfl⟩
  have J201 : own_vN p1 = 0 → own_Go p e below s ({ frames := 0, cells := 0, slots := 0, locals := 0 } : Room).cells ({ frames := 0, cells := 0, slots := 0, locals := 0 } : Room).slots (own_Q2 Z p1 h0 n0) s₁ (mkF m 201 #[.val (.int p1)] []) := by
    intro hv
    show own_Go _ _ _ _ _ _ _ s₁ (mkF m 201 #[.val (.int p1)] [])
    refine own_step (fun t k => XS.iconst X0.here hx rfl (hb hby d2_201) k) ?_
    show own_Go _ _ _ _ _ _ _ s₁ (mkF m 202 #[.val (.int p1)] [(.int (0 : Int32))])
    refine own_ret X0 hx hlk Bd.returns rfl (Or.inl ⟨rfl, Or.inr (Or.inl rfl), _, rfl⟩) (hb hby d2_202) (by decide) (by decide) ?_
    show own_Q2 Z p1 h0 n0 (some (.int (0 : Int32))) s₁.heap _
    rw [e0]
    exact ⟨by rw [hv], N0, rfl⟩
  have S15 : (own_vN p1 = if (65536 ≤ p1.toInt ∧ p1.toInt ≤ 983039) then (1 : Int32) else 0) → own_Go p e below s ({ frames := 0, cells := 0, slots := 0, locals := 0 } : Room).cells ({ frames := 0, cells := 0, slots := 0, locals := 0 } : Room).slots (own_Q2 Z p1 h0 n0) s₁ (mkF m 185 #[.val (.int p1)] []) := by
    intro hk
    show own_Go _ _ _ _ _ _ _ s₁ (mkF m 185 #[.val (.int p1)] [])
    refine own_step (fun t k => XS.iloadN X0.here hx rfl (hb hby d2_185) rfl k) ?_
    show own_Go _ _ _ _ _ _ _ s₁ (mkF m 186 #[.val (.int p1)] [(.int p1)])
    refine own_step (fun t k => X0.ldcInt hx hown (mvT hZ (hw _ (List.mem_of_getElem? (i := 8) rfl))) (g := (mkF m 186 #[.val (.int p1)] [(.int p1)])) rfl (hb hby d2_186) t k) ?_
    rcases Classical.em (p1 < (65536 : Int32)) with c188_1 | c188_1
    · show own_Go _ _ _ _ _ _ _ s₁ (mkF m 188 #[.val (.int p1)] [(.int (65536 : Int32)), (.int p1)])
      refine own_step (fun t k => XS.icmpYes X0.here hx rfl (pc0 := 188) (pc' := 201) rfl (hb hby d2_188) rfl (tlt (c188_1)).1 (by decide) (by decide) k) ?_
      simp only [Int32.lt_iff_toInt_lt, ← Int32.toInt_inj, Int32.reduceToInt] at c188_1
      show own_Go _ _ _ _ _ _ _ s₁ (mkF m 201 #[.val (.int p1)] [])
      exact J201 (hk.trans (if_neg (by omega)))
    · show own_Go _ _ _ _ _ _ _ s₁ (mkF m 188 #[.val (.int p1)] [(.int (65536 : Int32)), (.int p1)])
      refine own_step (fun t k => XS.icmpNo X0.here hx rfl (hb hby d2_188) rfl (flt (c188_1)).1 k) ?_
      show own_Go _ _ _ _ _ _ _ s₁ (mkF m 191 #[.val (.int p1)] [])
      refine own_step (fun t k => XS.iloadN X0.here hx rfl (hb hby d2_191) rfl k) ?_
      show own_Go _ _ _ _ _ _ _ s₁ (mkF m 192 #[.val (.int p1)] [(.int p1)])
      refine own_step (fun t k => X0.ldcInt hx hown (mvT hZ (hw _ (List.mem_of_getElem? (i := 9) rfl))) (g := (mkF m 192 #[.val (.int p1)] [(.int p1)])) rfl (hb hby d2_192) t k) ?_
      rcases Classical.em ((983039 : Int32) < p1) with c194_2 | c194_2
      · show own_Go _ _ _ _ _ _ _ s₁ (mkF m 194 #[.val (.int p1)] [(.int (983039 : Int32)), (.int p1)])
        refine own_step (fun t k => XS.icmpYes X0.here hx rfl (pc0 := 194) (pc' := 201) rfl (hb hby d2_194) rfl (tlt (c194_2)).2.2.1 (by decide) (by decide) k) ?_
        simp only [Int32.lt_iff_toInt_lt, ← Int32.toInt_inj, Int32.reduceToInt] at c188_1 c194_2
        show own_Go _ _ _ _ _ _ _ s₁ (mkF m 201 #[.val (.int p1)] [])
        exact J201 (hk.trans (if_neg (by omega)))
      · show own_Go _ _ _ _ _ _ _ s₁ (mkF m 194 #[.val (.int p1)] [(.int (983039 : Int32)), (.int p1)])
        refine own_step (fun t k => XS.icmpNo X0.here hx rfl (hb hby d2_194) rfl (flt (c194_2)).2.2.1 k) ?_
        simp only [Int32.lt_iff_toInt_lt, ← Int32.toInt_inj, Int32.reduceToInt] at c188_1 c194_2
        show own_Go _ _ _ _ _ _ _ s₁ (mkF m 197 #[.val (.int p1)] [])
        exact J197 (hk.trans (if_pos (by omega)))
  have S14 : (own_vN p1 = if (65008 ≤ p1.toInt ∧ p1.toInt ≤ 65533) ∨ (65536 ≤ p1.toInt ∧ p1.toInt ≤ 983039) then (1 : Int32) else 0) → own_Go p e below s ({ frames := 0, cells := 0, slots := 0, locals := 0 } : Room).cells ({ frames := 0, cells := 0, slots := 0, locals := 0 } : Room).slots (own_Q2 Z p1 h0 n0) s₁ (mkF m 173 #[.val (.int p1)] []) := by
    intro hk
    show own_Go _ _ _ _ _ _ _ s₁ (mkF m 173 #[.val (.int p1)] [])
    refine own_step (fun t k => XS.iloadN X0.here hx rfl (hb hby d2_173) rfl k) ?_
    show own_Go _ _ _ _ _ _ _ s₁ (mkF m 174 #[.val (.int p1)] [(.int p1)])
    refine own_step (fun t k => X0.ldcInt hx hown (mvT hZ (hw _ (List.mem_of_getElem? (i := 6) rfl))) (g := (mkF m 174 #[.val (.int p1)] [(.int p1)])) rfl (hb hby d2_174) t k) ?_
    rcases Classical.em (p1 < (65008 : Int32)) with c176_3 | c176_3
    · show own_Go _ _ _ _ _ _ _ s₁ (mkF m 176 #[.val (.int p1)] [(.int (65008 : Int32)), (.int p1)])
      refine own_step (fun t k => XS.icmpYes X0.here hx rfl (pc0 := 176) (pc' := 185) rfl (hb hby d2_176) rfl (tlt (c176_3)).1 (by decide) (by decide) k) ?_
      simp only [Int32.lt_iff_toInt_lt, ← Int32.toInt_inj, Int32.reduceToInt] at c176_3
      show own_Go _ _ _ _ _ _ _ s₁ (mkF m 185 #[.val (.int p1)] [])
      exact S15 (hk.trans (own_ifc (or_iff_right (by omega))))
    · show own_Go _ _ _ _ _ _ _ s₁ (mkF m 176 #[.val (.int p1)] [(.int (65008 : Int32)), (.int p1)])
      refine own_step (fun t k => XS.icmpNo X0.here hx rfl (hb hby d2_176) rfl (flt (c176_3)).1 k) ?_
      show own_Go _ _ _ _ _ _ _ s₁ (mkF m 179 #[.val (.int p1)] [])
      refine own_step (fun t k => XS.iloadN X0.here hx rfl (hb hby d2_179) rfl k) ?_
      show own_Go _ _ _ _ _ _ _ s₁ (mkF m 180 #[.val (.int p1)] [(.int p1)])
      refine own_step (fun t k => X0.ldcInt hx hown (mvT hZ (hw _ (List.mem_of_getElem? (i := 7) rfl))) (g := (mkF m 180 #[.val (.int p1)] [(.int p1)])) rfl (hb hby d2_180) t k) ?_
      rcases Classical.em ((65533 : Int32) < p1) with c182_4 | c182_4
      · show own_Go _ _ _ _ _ _ _ s₁ (mkF m 182 #[.val (.int p1)] [(.int (65533 : Int32)), (.int p1)])
        refine own_step (fun t k => XS.icmpNo X0.here hx rfl (hb hby d2_182) rfl (tlt (c182_4)).2.2.2 k) ?_
        simp only [Int32.lt_iff_toInt_lt, ← Int32.toInt_inj, Int32.reduceToInt] at c176_3 c182_4
        show own_Go _ _ _ _ _ _ _ s₁ (mkF m 185 #[.val (.int p1)] [])
        exact S15 (hk.trans (own_ifc (or_iff_right (by omega))))
      · show own_Go _ _ _ _ _ _ _ s₁ (mkF m 182 #[.val (.int p1)] [(.int (65533 : Int32)), (.int p1)])
        refine own_step (fun t k => XS.icmpYes X0.here hx rfl (pc0 := 182) (pc' := 197) rfl (hb hby d2_182) rfl (flt (c182_4)).2.2.2 (by decide) (by decide) k) ?_
        simp only [Int32.lt_iff_toInt_lt, ← Int32.toInt_inj, Int32.reduceToInt] at c176_3 c182_4
        show own_Go _ _ _ _ _ _ _ s₁ (mkF m 197 #[.val (.int p1)] [])
        exact J197 (hk.trans (if_pos (Or.inl (by omega))))
  have S13 : (own_vN p1 = if (63744 ≤ p1.toInt ∧ p1.toInt ≤ 64975) ∨ (65008 ≤ p1.toInt ∧ p1.toInt ≤ 65533) ∨ (65536 ≤ p1.toInt ∧ p1.toInt ≤ 983039) then (1 : Int32) else 0) → own_Go p e below s ({ frames := 0, cells := 0, slots := 0, locals := 0 } : Room).cells ({ frames := 0, cells := 0, slots := 0, locals := 0 } : Room).slots (own_Q2 Z p1 h0 n0) s₁ (mkF m 161 #[.val (.int p1)] []) := by
    intro hk
    show own_Go _ _ _ _ _ _ _ s₁ (mkF m 161 #[.val (.int p1)] [])
    refine own_step (fun t k => XS.iloadN X0.here hx rfl (hb hby d2_161) rfl k) ?_
    show own_Go _ _ _ _ _ _ _ s₁ (mkF m 162 #[.val (.int p1)] [(.int p1)])
    refine own_step (fun t k => X0.ldcInt hx hown (mvT hZ (hw _ (List.mem_of_getElem? (i := 4) rfl))) (g := (mkF m 162 #[.val (.int p1)] [(.int p1)])) rfl (hb hby d2_162) t k) ?_
    rcases Classical.em (p1 < (63744 : Int32)) with c164_5 | c164_5
    · show own_Go _ _ _ _ _ _ _ s₁ (mkF m 164 #[.val (.int p1)] [(.int (63744 : Int32)), (.int p1)])
      refine own_step (fun t k => XS.icmpYes X0.here hx rfl (pc0 := 164) (pc' := 173) rfl (hb hby d2_164) rfl (tlt (c164_5)).1 (by decide) (by decide) k) ?_
      simp only [Int32.lt_iff_toInt_lt, ← Int32.toInt_inj, Int32.reduceToInt] at c164_5
      show own_Go _ _ _ _ _ _ _ s₁ (mkF m 173 #[.val (.int p1)] [])
      exact S14 (hk.trans (own_ifc (or_iff_right (by omega))))
    · show own_Go _ _ _ _ _ _ _ s₁ (mkF m 164 #[.val (.int p1)] [(.int (63744 : Int32)), (.int p1)])
      refine own_step (fun t k => XS.icmpNo X0.here hx rfl (hb hby d2_164) rfl (flt (c164_5)).1 k) ?_
      show own_Go _ _ _ _ _ _ _ s₁ (mkF m 167 #[.val (.int p1)] [])
      refine own_step (fun t k => XS.iloadN X0.here hx rfl (hb hby d2_167) rfl k) ?_
      show own_Go _ _ _ _ _ _ _ s₁ (mkF m 168 #[.val (.int p1)] [(.int p1)])
      refine own_step (fun t k => X0.ldcInt hx hown (mvT hZ (hw _ (List.mem_of_getElem? (i := 5) rfl))) (g := (mkF m 168 #[.val (.int p1)] [(.int p1)])) rfl (hb hby d2_168) t k) ?_
      rcases Classical.em ((64975 : Int32) < p1) with c170_6 | c170_6
      · show own_Go _ _ _ _ _ _ _ s₁ (mkF m 170 #[.val (.int p1)] [(.int (64975 : Int32)), (.int p1)])
        refine own_step (fun t k => XS.icmpNo X0.here hx rfl (hb hby d2_170) rfl (tlt (c170_6)).2.2.2 k) ?_
        simp only [Int32.lt_iff_toInt_lt, ← Int32.toInt_inj, Int32.reduceToInt] at c164_5 c170_6
        show own_Go _ _ _ _ _ _ _ s₁ (mkF m 173 #[.val (.int p1)] [])
        exact S14 (hk.trans (own_ifc (or_iff_right (by omega))))
      · show own_Go _ _ _ _ _ _ _ s₁ (mkF m 170 #[.val (.int p1)] [(.int (64975 : Int32)), (.int p1)])
        refine own_step (fun t k => XS.icmpYes X0.here hx rfl (pc0 := 170) (pc' := 197) rfl (hb hby d2_170) rfl (flt (c170_6)).2.2.2 (by decide) (by decide) k) ?_
        simp only [Int32.lt_iff_toInt_lt, ← Int32.toInt_inj, Int32.reduceToInt] at c164_5 c170_6
        show own_Go _ _ _ _ _ _ _ s₁ (mkF m 197 #[.val (.int p1)] [])
        exact J197 (hk.trans (if_pos (Or.inl (by omega))))
  have S12 : (own_vN p1 = if (12289 ≤ p1.toInt ∧ p1.toInt ≤ 55295) ∨ (63744 ≤ p1.toInt ∧ p1.toInt ≤ 64975) ∨ (65008 ≤ p1.toInt ∧ p1.toInt ≤ 65533) ∨ (65536 ≤ p1.toInt ∧ p1.toInt ≤ 983039) then (1 : Int32) else 0) → own_Go p e below s ({ frames := 0, cells := 0, slots := 0, locals := 0 } : Room).cells ({ frames := 0, cells := 0, slots := 0, locals := 0 } : Room).slots (own_Q2 Z p1 h0 n0) s₁ (mkF m 148 #[.val (.int p1)] []) := by
    intro hk
    show own_Go _ _ _ _ _ _ _ s₁ (mkF m 148 #[.val (.int p1)] [])
    refine own_step (fun t k => XS.iloadN X0.here hx rfl (hb hby d2_148) rfl k) ?_
    show own_Go _ _ _ _ _ _ _ s₁ (mkF m 149 #[.val (.int p1)] [(.int p1)])
    refine own_step (fun t k => XS.sipush X0.here hx rfl (hb hby d2_149) k) ?_
    rcases Classical.em (p1 < (12289 : Int32)) with c152_7 | c152_7
    · show own_Go _ _ _ _ _ _ _ s₁ (mkF m 152 #[.val (.int p1)] [(.int (12289 : Int32)), (.int p1)])
      refine own_step (fun t k => XS.icmpYes X0.here hx rfl (pc0 := 152) (pc' := 161) rfl (hb hby d2_152) rfl (tlt (c152_7)).1 (by decide) (by decide) k) ?_
      simp only [Int32.lt_iff_toInt_lt, ← Int32.toInt_inj, Int32.reduceToInt] at c152_7
      show own_Go _ _ _ _ _ _ _ s₁ (mkF m 161 #[.val (.int p1)] [])
      exact S13 (hk.trans (own_ifc (or_iff_right (by omega))))
    · show own_Go _ _ _ _ _ _ _ s₁ (mkF m 152 #[.val (.int p1)] [(.int (12289 : Int32)), (.int p1)])
      refine own_step (fun t k => XS.icmpNo X0.here hx rfl (hb hby d2_152) rfl (flt (c152_7)).1 k) ?_
      show own_Go _ _ _ _ _ _ _ s₁ (mkF m 155 #[.val (.int p1)] [])
      refine own_step (fun t k => XS.iloadN X0.here hx rfl (hb hby d2_155) rfl k) ?_
      show own_Go _ _ _ _ _ _ _ s₁ (mkF m 156 #[.val (.int p1)] [(.int p1)])
      refine own_step (fun t k => X0.ldcInt hx hown (mvT hZ (hw _ (List.mem_of_getElem? (i := 2) rfl))) (g := (mkF m 156 #[.val (.int p1)] [(.int p1)])) rfl (hb hby d2_156) t k) ?_
      rcases Classical.em ((55295 : Int32) < p1) with c158_8 | c158_8
      · show own_Go _ _ _ _ _ _ _ s₁ (mkF m 158 #[.val (.int p1)] [(.int (55295 : Int32)), (.int p1)])
        refine own_step (fun t k => XS.icmpNo X0.here hx rfl (hb hby d2_158) rfl (tlt (c158_8)).2.2.2 k) ?_
        simp only [Int32.lt_iff_toInt_lt, ← Int32.toInt_inj, Int32.reduceToInt] at c152_7 c158_8
        show own_Go _ _ _ _ _ _ _ s₁ (mkF m 161 #[.val (.int p1)] [])
        exact S13 (hk.trans (own_ifc (or_iff_right (by omega))))
      · show own_Go _ _ _ _ _ _ _ s₁ (mkF m 158 #[.val (.int p1)] [(.int (55295 : Int32)), (.int p1)])
        refine own_step (fun t k => XS.icmpYes X0.here hx rfl (pc0 := 158) (pc' := 197) rfl (hb hby d2_158) rfl (flt (c158_8)).2.2.2 (by decide) (by decide) k) ?_
        simp only [Int32.lt_iff_toInt_lt, ← Int32.toInt_inj, Int32.reduceToInt] at c152_7 c158_8
        show own_Go _ _ _ _ _ _ _ s₁ (mkF m 197 #[.val (.int p1)] [])
        exact J197 (hk.trans (if_pos (Or.inl (by omega))))
  have S11 : (own_vN p1 = if (11264 ≤ p1.toInt ∧ p1.toInt ≤ 12271) ∨ (12289 ≤ p1.toInt ∧ p1.toInt ≤ 55295) ∨ (63744 ≤ p1.toInt ∧ p1.toInt ≤ 64975) ∨ (65008 ≤ p1.toInt ∧ p1.toInt ≤ 65533) ∨ (65536 ≤ p1.toInt ∧ p1.toInt ≤ 983039) then (1 : Int32) else 0) → own_Go p e below s ({ frames := 0, cells := 0, slots := 0, locals := 0 } : Room).cells ({ frames := 0, cells := 0, slots := 0, locals := 0 } : Room).slots (own_Q2 Z p1 h0 n0) s₁ (mkF m 134 #[.val (.int p1)] []) := by
    intro hk
    show own_Go _ _ _ _ _ _ _ s₁ (mkF m 134 #[.val (.int p1)] [])
    refine own_step (fun t k => XS.iloadN X0.here hx rfl (hb hby d2_134) rfl k) ?_
    show own_Go _ _ _ _ _ _ _ s₁ (mkF m 135 #[.val (.int p1)] [(.int p1)])
    refine own_step (fun t k => XS.sipush X0.here hx rfl (hb hby d2_135) k) ?_
    rcases Classical.em (p1 < (11264 : Int32)) with c138_9 | c138_9
    · show own_Go _ _ _ _ _ _ _ s₁ (mkF m 138 #[.val (.int p1)] [(.int (11264 : Int32)), (.int p1)])
      refine own_step (fun t k => XS.icmpYes X0.here hx rfl (pc0 := 138) (pc' := 148) rfl (hb hby d2_138) rfl (tlt (c138_9)).1 (by decide) (by decide) k) ?_
      simp only [Int32.lt_iff_toInt_lt, ← Int32.toInt_inj, Int32.reduceToInt] at c138_9
      show own_Go _ _ _ _ _ _ _ s₁ (mkF m 148 #[.val (.int p1)] [])
      exact S12 (hk.trans (own_ifc (or_iff_right (by omega))))
    · show own_Go _ _ _ _ _ _ _ s₁ (mkF m 138 #[.val (.int p1)] [(.int (11264 : Int32)), (.int p1)])
      refine own_step (fun t k => XS.icmpNo X0.here hx rfl (hb hby d2_138) rfl (flt (c138_9)).1 k) ?_
      show own_Go _ _ _ _ _ _ _ s₁ (mkF m 141 #[.val (.int p1)] [])
      refine own_step (fun t k => XS.iloadN X0.here hx rfl (hb hby d2_141) rfl k) ?_
      show own_Go _ _ _ _ _ _ _ s₁ (mkF m 142 #[.val (.int p1)] [(.int p1)])
      refine own_step (fun t k => XS.sipush X0.here hx rfl (hb hby d2_142) k) ?_
      rcases Classical.em ((12271 : Int32) < p1) with c145_10 | c145_10
      · show own_Go _ _ _ _ _ _ _ s₁ (mkF m 145 #[.val (.int p1)] [(.int (12271 : Int32)), (.int p1)])
        refine own_step (fun t k => XS.icmpNo X0.here hx rfl (hb hby d2_145) rfl (tlt (c145_10)).2.2.2 k) ?_
        simp only [Int32.lt_iff_toInt_lt, ← Int32.toInt_inj, Int32.reduceToInt] at c138_9 c145_10
        show own_Go _ _ _ _ _ _ _ s₁ (mkF m 148 #[.val (.int p1)] [])
        exact S12 (hk.trans (own_ifc (or_iff_right (by omega))))
      · show own_Go _ _ _ _ _ _ _ s₁ (mkF m 145 #[.val (.int p1)] [(.int (12271 : Int32)), (.int p1)])
        refine own_step (fun t k => XS.icmpYes X0.here hx rfl (pc0 := 145) (pc' := 197) rfl (hb hby d2_145) rfl (flt (c145_10)).2.2.2 (by decide) (by decide) k) ?_
        simp only [Int32.lt_iff_toInt_lt, ← Int32.toInt_inj, Int32.reduceToInt] at c138_9 c145_10
        show own_Go _ _ _ _ _ _ _ s₁ (mkF m 197 #[.val (.int p1)] [])
        exact J197 (hk.trans (if_pos (Or.inl (by omega))))
  have S10 : (own_vN p1 = if (8304 ≤ p1.toInt ∧ p1.toInt ≤ 8591) ∨ (11264 ≤ p1.toInt ∧ p1.toInt ≤ 12271) ∨ (12289 ≤ p1.toInt ∧ p1.toInt ≤ 55295) ∨ (63744 ≤ p1.toInt ∧ p1.toInt ≤ 64975) ∨ (65008 ≤ p1.toInt ∧ p1.toInt ≤ 65533) ∨ (65536 ≤ p1.toInt ∧ p1.toInt ≤ 983039) then (1 : Int32) else 0) → own_Go p e below s ({ frames := 0, cells := 0, slots := 0, locals := 0 } : Room).cells ({ frames := 0, cells := 0, slots := 0, locals := 0 } : Room).slots (own_Q2 Z p1 h0 n0) s₁ (mkF m 120 #[.val (.int p1)] []) := by
    intro hk
    show own_Go _ _ _ _ _ _ _ s₁ (mkF m 120 #[.val (.int p1)] [])
    refine own_step (fun t k => XS.iloadN X0.here hx rfl (hb hby d2_120) rfl k) ?_
    show own_Go _ _ _ _ _ _ _ s₁ (mkF m 121 #[.val (.int p1)] [(.int p1)])
    refine own_step (fun t k => XS.sipush X0.here hx rfl (hb hby d2_121) k) ?_
    rcases Classical.em (p1 < (8304 : Int32)) with c124_11 | c124_11
    · show own_Go _ _ _ _ _ _ _ s₁ (mkF m 124 #[.val (.int p1)] [(.int (8304 : Int32)), (.int p1)])
      refine own_step (fun t k => XS.icmpYes X0.here hx rfl (pc0 := 124) (pc' := 134) rfl (hb hby d2_124) rfl (tlt (c124_11)).1 (by decide) (by decide) k) ?_
      simp only [Int32.lt_iff_toInt_lt, ← Int32.toInt_inj, Int32.reduceToInt] at c124_11
      show own_Go _ _ _ _ _ _ _ s₁ (mkF m 134 #[.val (.int p1)] [])
      exact S11 (hk.trans (own_ifc (or_iff_right (by omega))))
    · show own_Go _ _ _ _ _ _ _ s₁ (mkF m 124 #[.val (.int p1)] [(.int (8304 : Int32)), (.int p1)])
      refine own_step (fun t k => XS.icmpNo X0.here hx rfl (hb hby d2_124) rfl (flt (c124_11)).1 k) ?_
      show own_Go _ _ _ _ _ _ _ s₁ (mkF m 127 #[.val (.int p1)] [])
      refine own_step (fun t k => XS.iloadN X0.here hx rfl (hb hby d2_127) rfl k) ?_
      show own_Go _ _ _ _ _ _ _ s₁ (mkF m 128 #[.val (.int p1)] [(.int p1)])
      refine own_step (fun t k => XS.sipush X0.here hx rfl (hb hby d2_128) k) ?_
      rcases Classical.em ((8591 : Int32) < p1) with c131_12 | c131_12
      · show own_Go _ _ _ _ _ _ _ s₁ (mkF m 131 #[.val (.int p1)] [(.int (8591 : Int32)), (.int p1)])
        refine own_step (fun t k => XS.icmpNo X0.here hx rfl (hb hby d2_131) rfl (tlt (c131_12)).2.2.2 k) ?_
        simp only [Int32.lt_iff_toInt_lt, ← Int32.toInt_inj, Int32.reduceToInt] at c124_11 c131_12
        show own_Go _ _ _ _ _ _ _ s₁ (mkF m 134 #[.val (.int p1)] [])
        exact S11 (hk.trans (own_ifc (or_iff_right (by omega))))
      · show own_Go _ _ _ _ _ _ _ s₁ (mkF m 131 #[.val (.int p1)] [(.int (8591 : Int32)), (.int p1)])
        refine own_step (fun t k => XS.icmpYes X0.here hx rfl (pc0 := 131) (pc' := 197) rfl (hb hby d2_131) rfl (flt (c131_12)).2.2.2 (by decide) (by decide) k) ?_
        simp only [Int32.lt_iff_toInt_lt, ← Int32.toInt_inj, Int32.reduceToInt] at c124_11 c131_12
        show own_Go _ _ _ _ _ _ _ s₁ (mkF m 197 #[.val (.int p1)] [])
        exact J197 (hk.trans (if_pos (Or.inl (by omega))))
  have S9 : (own_vN p1 = if (8204 ≤ p1.toInt ∧ p1.toInt ≤ 8205) ∨ (8304 ≤ p1.toInt ∧ p1.toInt ≤ 8591) ∨ (11264 ≤ p1.toInt ∧ p1.toInt ≤ 12271) ∨ (12289 ≤ p1.toInt ∧ p1.toInt ≤ 55295) ∨ (63744 ≤ p1.toInt ∧ p1.toInt ≤ 64975) ∨ (65008 ≤ p1.toInt ∧ p1.toInt ≤ 65533) ∨ (65536 ≤ p1.toInt ∧ p1.toInt ≤ 983039) then (1 : Int32) else 0) → own_Go p e below s ({ frames := 0, cells := 0, slots := 0, locals := 0 } : Room).cells ({ frames := 0, cells := 0, slots := 0, locals := 0 } : Room).slots (own_Q2 Z p1 h0 n0) s₁ (mkF m 106 #[.val (.int p1)] []) := by
    intro hk
    show own_Go _ _ _ _ _ _ _ s₁ (mkF m 106 #[.val (.int p1)] [])
    refine own_step (fun t k => XS.iloadN X0.here hx rfl (hb hby d2_106) rfl k) ?_
    show own_Go _ _ _ _ _ _ _ s₁ (mkF m 107 #[.val (.int p1)] [(.int p1)])
    refine own_step (fun t k => XS.sipush X0.here hx rfl (hb hby d2_107) k) ?_
    rcases Classical.em (p1 < (8204 : Int32)) with c110_13 | c110_13
    · show own_Go _ _ _ _ _ _ _ s₁ (mkF m 110 #[.val (.int p1)] [(.int (8204 : Int32)), (.int p1)])
      refine own_step (fun t k => XS.icmpYes X0.here hx rfl (pc0 := 110) (pc' := 120) rfl (hb hby d2_110) rfl (tlt (c110_13)).1 (by decide) (by decide) k) ?_
      simp only [Int32.lt_iff_toInt_lt, ← Int32.toInt_inj, Int32.reduceToInt] at c110_13
      show own_Go _ _ _ _ _ _ _ s₁ (mkF m 120 #[.val (.int p1)] [])
      exact S10 (hk.trans (own_ifc (or_iff_right (by omega))))
    · show own_Go _ _ _ _ _ _ _ s₁ (mkF m 110 #[.val (.int p1)] [(.int (8204 : Int32)), (.int p1)])
      refine own_step (fun t k => XS.icmpNo X0.here hx rfl (hb hby d2_110) rfl (flt (c110_13)).1 k) ?_
      show own_Go _ _ _ _ _ _ _ s₁ (mkF m 113 #[.val (.int p1)] [])
      refine own_step (fun t k => XS.iloadN X0.here hx rfl (hb hby d2_113) rfl k) ?_
      show own_Go _ _ _ _ _ _ _ s₁ (mkF m 114 #[.val (.int p1)] [(.int p1)])
      refine own_step (fun t k => XS.sipush X0.here hx rfl (hb hby d2_114) k) ?_
      rcases Classical.em ((8205 : Int32) < p1) with c117_14 | c117_14
      · show own_Go _ _ _ _ _ _ _ s₁ (mkF m 117 #[.val (.int p1)] [(.int (8205 : Int32)), (.int p1)])
        refine own_step (fun t k => XS.icmpNo X0.here hx rfl (hb hby d2_117) rfl (tlt (c117_14)).2.2.2 k) ?_
        simp only [Int32.lt_iff_toInt_lt, ← Int32.toInt_inj, Int32.reduceToInt] at c110_13 c117_14
        show own_Go _ _ _ _ _ _ _ s₁ (mkF m 120 #[.val (.int p1)] [])
        exact S10 (hk.trans (own_ifc (or_iff_right (by omega))))
      · show own_Go _ _ _ _ _ _ _ s₁ (mkF m 117 #[.val (.int p1)] [(.int (8205 : Int32)), (.int p1)])
        refine own_step (fun t k => XS.icmpYes X0.here hx rfl (pc0 := 117) (pc' := 197) rfl (hb hby d2_117) rfl (flt (c117_14)).2.2.2 (by decide) (by decide) k) ?_
        simp only [Int32.lt_iff_toInt_lt, ← Int32.toInt_inj, Int32.reduceToInt] at c110_13 c117_14
        show own_Go _ _ _ _ _ _ _ s₁ (mkF m 197 #[.val (.int p1)] [])
        exact J197 (hk.trans (if_pos (Or.inl (by omega))))
  have S8 : (own_vN p1 = if (895 ≤ p1.toInt ∧ p1.toInt ≤ 8191) ∨ (8204 ≤ p1.toInt ∧ p1.toInt ≤ 8205) ∨ (8304 ≤ p1.toInt ∧ p1.toInt ≤ 8591) ∨ (11264 ≤ p1.toInt ∧ p1.toInt ≤ 12271) ∨ (12289 ≤ p1.toInt ∧ p1.toInt ≤ 55295) ∨ (63744 ≤ p1.toInt ∧ p1.toInt ≤ 64975) ∨ (65008 ≤ p1.toInt ∧ p1.toInt ≤ 65533) ∨ (65536 ≤ p1.toInt ∧ p1.toInt ≤ 983039) then (1 : Int32) else 0) → own_Go p e below s ({ frames := 0, cells := 0, slots := 0, locals := 0 } : Room).cells ({ frames := 0, cells := 0, slots := 0, locals := 0 } : Room).slots (own_Q2 Z p1 h0 n0) s₁ (mkF m 92 #[.val (.int p1)] []) := by
    intro hk
    show own_Go _ _ _ _ _ _ _ s₁ (mkF m 92 #[.val (.int p1)] [])
    refine own_step (fun t k => XS.iloadN X0.here hx rfl (hb hby d2_92) rfl k) ?_
    show own_Go _ _ _ _ _ _ _ s₁ (mkF m 93 #[.val (.int p1)] [(.int p1)])
    refine own_step (fun t k => XS.sipush X0.here hx rfl (hb hby d2_93) k) ?_
    rcases Classical.em (p1 < (895 : Int32)) with c96_15 | c96_15
    · show own_Go _ _ _ _ _ _ _ s₁ (mkF m 96 #[.val (.int p1)] [(.int (895 : Int32)), (.int p1)])
      refine own_step (fun t k => XS.icmpYes X0.here hx rfl (pc0 := 96) (pc' := 106) rfl (hb hby d2_96) rfl (tlt (c96_15)).1 (by decide) (by decide) k) ?_
      simp only [Int32.lt_iff_toInt_lt, ← Int32.toInt_inj, Int32.reduceToInt] at c96_15
      show own_Go _ _ _ _ _ _ _ s₁ (mkF m 106 #[.val (.int p1)] [])
      exact S9 (hk.trans (own_ifc (or_iff_right (by omega))))
    · show own_Go _ _ _ _ _ _ _ s₁ (mkF m 96 #[.val (.int p1)] [(.int (895 : Int32)), (.int p1)])
      refine own_step (fun t k => XS.icmpNo X0.here hx rfl (hb hby d2_96) rfl (flt (c96_15)).1 k) ?_
      show own_Go _ _ _ _ _ _ _ s₁ (mkF m 99 #[.val (.int p1)] [])
      refine own_step (fun t k => XS.iloadN X0.here hx rfl (hb hby d2_99) rfl k) ?_
      show own_Go _ _ _ _ _ _ _ s₁ (mkF m 100 #[.val (.int p1)] [(.int p1)])
      refine own_step (fun t k => XS.sipush X0.here hx rfl (hb hby d2_100) k) ?_
      rcases Classical.em ((8191 : Int32) < p1) with c103_16 | c103_16
      · show own_Go _ _ _ _ _ _ _ s₁ (mkF m 103 #[.val (.int p1)] [(.int (8191 : Int32)), (.int p1)])
        refine own_step (fun t k => XS.icmpNo X0.here hx rfl (hb hby d2_103) rfl (tlt (c103_16)).2.2.2 k) ?_
        simp only [Int32.lt_iff_toInt_lt, ← Int32.toInt_inj, Int32.reduceToInt] at c96_15 c103_16
        show own_Go _ _ _ _ _ _ _ s₁ (mkF m 106 #[.val (.int p1)] [])
        exact S9 (hk.trans (own_ifc (or_iff_right (by omega))))
      · show own_Go _ _ _ _ _ _ _ s₁ (mkF m 103 #[.val (.int p1)] [(.int (8191 : Int32)), (.int p1)])
        refine own_step (fun t k => XS.icmpYes X0.here hx rfl (pc0 := 103) (pc' := 197) rfl (hb hby d2_103) rfl (flt (c103_16)).2.2.2 (by decide) (by decide) k) ?_
        simp only [Int32.lt_iff_toInt_lt, ← Int32.toInt_inj, Int32.reduceToInt] at c96_15 c103_16
        show own_Go _ _ _ _ _ _ _ s₁ (mkF m 197 #[.val (.int p1)] [])
        exact J197 (hk.trans (if_pos (Or.inl (by omega))))
  have S7 : (own_vN p1 = if (880 ≤ p1.toInt ∧ p1.toInt ≤ 893) ∨ (895 ≤ p1.toInt ∧ p1.toInt ≤ 8191) ∨ (8204 ≤ p1.toInt ∧ p1.toInt ≤ 8205) ∨ (8304 ≤ p1.toInt ∧ p1.toInt ≤ 8591) ∨ (11264 ≤ p1.toInt ∧ p1.toInt ≤ 12271) ∨ (12289 ≤ p1.toInt ∧ p1.toInt ≤ 55295) ∨ (63744 ≤ p1.toInt ∧ p1.toInt ≤ 64975) ∨ (65008 ≤ p1.toInt ∧ p1.toInt ≤ 65533) ∨ (65536 ≤ p1.toInt ∧ p1.toInt ≤ 983039) then (1 : Int32) else 0) → own_Go p e below s ({ frames := 0, cells := 0, slots := 0, locals := 0 } : Room).cells ({ frames := 0, cells := 0, slots := 0, locals := 0 } : Room).slots (own_Q2 Z p1 h0 n0) s₁ (mkF m 78 #[.val (.int p1)] []) := by
    intro hk
    show own_Go _ _ _ _ _ _ _ s₁ (mkF m 78 #[.val (.int p1)] [])
    refine own_step (fun t k => XS.iloadN X0.here hx rfl (hb hby d2_78) rfl k) ?_
    show own_Go _ _ _ _ _ _ _ s₁ (mkF m 79 #[.val (.int p1)] [(.int p1)])
    refine own_step (fun t k => XS.sipush X0.here hx rfl (hb hby d2_79) k) ?_
    rcases Classical.em (p1 < (880 : Int32)) with c82_17 | c82_17
    · show own_Go _ _ _ _ _ _ _ s₁ (mkF m 82 #[.val (.int p1)] [(.int (880 : Int32)), (.int p1)])
      refine own_step (fun t k => XS.icmpYes X0.here hx rfl (pc0 := 82) (pc' := 92) rfl (hb hby d2_82) rfl (tlt (c82_17)).1 (by decide) (by decide) k) ?_
      simp only [Int32.lt_iff_toInt_lt, ← Int32.toInt_inj, Int32.reduceToInt] at c82_17
      show own_Go _ _ _ _ _ _ _ s₁ (mkF m 92 #[.val (.int p1)] [])
      exact S8 (hk.trans (own_ifc (or_iff_right (by omega))))
    · show own_Go _ _ _ _ _ _ _ s₁ (mkF m 82 #[.val (.int p1)] [(.int (880 : Int32)), (.int p1)])
      refine own_step (fun t k => XS.icmpNo X0.here hx rfl (hb hby d2_82) rfl (flt (c82_17)).1 k) ?_
      show own_Go _ _ _ _ _ _ _ s₁ (mkF m 85 #[.val (.int p1)] [])
      refine own_step (fun t k => XS.iloadN X0.here hx rfl (hb hby d2_85) rfl k) ?_
      show own_Go _ _ _ _ _ _ _ s₁ (mkF m 86 #[.val (.int p1)] [(.int p1)])
      refine own_step (fun t k => XS.sipush X0.here hx rfl (hb hby d2_86) k) ?_
      rcases Classical.em ((893 : Int32) < p1) with c89_18 | c89_18
      · show own_Go _ _ _ _ _ _ _ s₁ (mkF m 89 #[.val (.int p1)] [(.int (893 : Int32)), (.int p1)])
        refine own_step (fun t k => XS.icmpNo X0.here hx rfl (hb hby d2_89) rfl (tlt (c89_18)).2.2.2 k) ?_
        simp only [Int32.lt_iff_toInt_lt, ← Int32.toInt_inj, Int32.reduceToInt] at c82_17 c89_18
        show own_Go _ _ _ _ _ _ _ s₁ (mkF m 92 #[.val (.int p1)] [])
        exact S8 (hk.trans (own_ifc (or_iff_right (by omega))))
      · show own_Go _ _ _ _ _ _ _ s₁ (mkF m 89 #[.val (.int p1)] [(.int (893 : Int32)), (.int p1)])
        refine own_step (fun t k => XS.icmpYes X0.here hx rfl (pc0 := 89) (pc' := 197) rfl (hb hby d2_89) rfl (flt (c89_18)).2.2.2 (by decide) (by decide) k) ?_
        simp only [Int32.lt_iff_toInt_lt, ← Int32.toInt_inj, Int32.reduceToInt] at c82_17 c89_18
        show own_Go _ _ _ _ _ _ _ s₁ (mkF m 197 #[.val (.int p1)] [])
        exact J197 (hk.trans (if_pos (Or.inl (by omega))))
  have S6 : (own_vN p1 = if (248 ≤ p1.toInt ∧ p1.toInt ≤ 767) ∨ (880 ≤ p1.toInt ∧ p1.toInt ≤ 893) ∨ (895 ≤ p1.toInt ∧ p1.toInt ≤ 8191) ∨ (8204 ≤ p1.toInt ∧ p1.toInt ≤ 8205) ∨ (8304 ≤ p1.toInt ∧ p1.toInt ≤ 8591) ∨ (11264 ≤ p1.toInt ∧ p1.toInt ≤ 12271) ∨ (12289 ≤ p1.toInt ∧ p1.toInt ≤ 55295) ∨ (63744 ≤ p1.toInt ∧ p1.toInt ≤ 64975) ∨ (65008 ≤ p1.toInt ∧ p1.toInt ≤ 65533) ∨ (65536 ≤ p1.toInt ∧ p1.toInt ≤ 983039) then (1 : Int32) else 0) → own_Go p e below s ({ frames := 0, cells := 0, slots := 0, locals := 0 } : Room).cells ({ frames := 0, cells := 0, slots := 0, locals := 0 } : Room).slots (own_Q2 Z p1 h0 n0) s₁ (mkF m 64 #[.val (.int p1)] []) := by
    intro hk
    show own_Go _ _ _ _ _ _ _ s₁ (mkF m 64 #[.val (.int p1)] [])
    refine own_step (fun t k => XS.iloadN X0.here hx rfl (hb hby d2_64) rfl k) ?_
    show own_Go _ _ _ _ _ _ _ s₁ (mkF m 65 #[.val (.int p1)] [(.int p1)])
    refine own_step (fun t k => XS.sipush X0.here hx rfl (hb hby d2_65) k) ?_
    rcases Classical.em (p1 < (248 : Int32)) with c68_19 | c68_19
    · show own_Go _ _ _ _ _ _ _ s₁ (mkF m 68 #[.val (.int p1)] [(.int (248 : Int32)), (.int p1)])
      refine own_step (fun t k => XS.icmpYes X0.here hx rfl (pc0 := 68) (pc' := 78) rfl (hb hby d2_68) rfl (tlt (c68_19)).1 (by decide) (by decide) k) ?_
      simp only [Int32.lt_iff_toInt_lt, ← Int32.toInt_inj, Int32.reduceToInt] at c68_19
      show own_Go _ _ _ _ _ _ _ s₁ (mkF m 78 #[.val (.int p1)] [])
      exact S7 (hk.trans (own_ifc (or_iff_right (by omega))))
    · show own_Go _ _ _ _ _ _ _ s₁ (mkF m 68 #[.val (.int p1)] [(.int (248 : Int32)), (.int p1)])
      refine own_step (fun t k => XS.icmpNo X0.here hx rfl (hb hby d2_68) rfl (flt (c68_19)).1 k) ?_
      show own_Go _ _ _ _ _ _ _ s₁ (mkF m 71 #[.val (.int p1)] [])
      refine own_step (fun t k => XS.iloadN X0.here hx rfl (hb hby d2_71) rfl k) ?_
      show own_Go _ _ _ _ _ _ _ s₁ (mkF m 72 #[.val (.int p1)] [(.int p1)])
      refine own_step (fun t k => XS.sipush X0.here hx rfl (hb hby d2_72) k) ?_
      rcases Classical.em ((767 : Int32) < p1) with c75_20 | c75_20
      · show own_Go _ _ _ _ _ _ _ s₁ (mkF m 75 #[.val (.int p1)] [(.int (767 : Int32)), (.int p1)])
        refine own_step (fun t k => XS.icmpNo X0.here hx rfl (hb hby d2_75) rfl (tlt (c75_20)).2.2.2 k) ?_
        simp only [Int32.lt_iff_toInt_lt, ← Int32.toInt_inj, Int32.reduceToInt] at c68_19 c75_20
        show own_Go _ _ _ _ _ _ _ s₁ (mkF m 78 #[.val (.int p1)] [])
        exact S7 (hk.trans (own_ifc (or_iff_right (by omega))))
      · show own_Go _ _ _ _ _ _ _ s₁ (mkF m 75 #[.val (.int p1)] [(.int (767 : Int32)), (.int p1)])
        refine own_step (fun t k => XS.icmpYes X0.here hx rfl (pc0 := 75) (pc' := 197) rfl (hb hby d2_75) rfl (flt (c75_20)).2.2.2 (by decide) (by decide) k) ?_
        simp only [Int32.lt_iff_toInt_lt, ← Int32.toInt_inj, Int32.reduceToInt] at c68_19 c75_20
        show own_Go _ _ _ _ _ _ _ s₁ (mkF m 197 #[.val (.int p1)] [])
        exact J197 (hk.trans (if_pos (Or.inl (by omega))))
  have S5 : (own_vN p1 = if (216 ≤ p1.toInt ∧ p1.toInt ≤ 246) ∨ (248 ≤ p1.toInt ∧ p1.toInt ≤ 767) ∨ (880 ≤ p1.toInt ∧ p1.toInt ≤ 893) ∨ (895 ≤ p1.toInt ∧ p1.toInt ≤ 8191) ∨ (8204 ≤ p1.toInt ∧ p1.toInt ≤ 8205) ∨ (8304 ≤ p1.toInt ∧ p1.toInt ≤ 8591) ∨ (11264 ≤ p1.toInt ∧ p1.toInt ≤ 12271) ∨ (12289 ≤ p1.toInt ∧ p1.toInt ≤ 55295) ∨ (63744 ≤ p1.toInt ∧ p1.toInt ≤ 64975) ∨ (65008 ≤ p1.toInt ∧ p1.toInt ≤ 65533) ∨ (65536 ≤ p1.toInt ∧ p1.toInt ≤ 983039) then (1 : Int32) else 0) → own_Go p e below s ({ frames := 0, cells := 0, slots := 0, locals := 0 } : Room).cells ({ frames := 0, cells := 0, slots := 0, locals := 0 } : Room).slots (own_Q2 Z p1 h0 n0) s₁ (mkF m 50 #[.val (.int p1)] []) := by
    intro hk
    show own_Go _ _ _ _ _ _ _ s₁ (mkF m 50 #[.val (.int p1)] [])
    refine own_step (fun t k => XS.iloadN X0.here hx rfl (hb hby d2_50) rfl k) ?_
    show own_Go _ _ _ _ _ _ _ s₁ (mkF m 51 #[.val (.int p1)] [(.int p1)])
    refine own_step (fun t k => XS.sipush X0.here hx rfl (hb hby d2_51) k) ?_
    rcases Classical.em (p1 < (216 : Int32)) with c54_21 | c54_21
    · show own_Go _ _ _ _ _ _ _ s₁ (mkF m 54 #[.val (.int p1)] [(.int (216 : Int32)), (.int p1)])
      refine own_step (fun t k => XS.icmpYes X0.here hx rfl (pc0 := 54) (pc' := 64) rfl (hb hby d2_54) rfl (tlt (c54_21)).1 (by decide) (by decide) k) ?_
      simp only [Int32.lt_iff_toInt_lt, ← Int32.toInt_inj, Int32.reduceToInt] at c54_21
      show own_Go _ _ _ _ _ _ _ s₁ (mkF m 64 #[.val (.int p1)] [])
      exact S6 (hk.trans (own_ifc (or_iff_right (by omega))))
    · show own_Go _ _ _ _ _ _ _ s₁ (mkF m 54 #[.val (.int p1)] [(.int (216 : Int32)), (.int p1)])
      refine own_step (fun t k => XS.icmpNo X0.here hx rfl (hb hby d2_54) rfl (flt (c54_21)).1 k) ?_
      show own_Go _ _ _ _ _ _ _ s₁ (mkF m 57 #[.val (.int p1)] [])
      refine own_step (fun t k => XS.iloadN X0.here hx rfl (hb hby d2_57) rfl k) ?_
      show own_Go _ _ _ _ _ _ _ s₁ (mkF m 58 #[.val (.int p1)] [(.int p1)])
      refine own_step (fun t k => XS.sipush X0.here hx rfl (hb hby d2_58) k) ?_
      rcases Classical.em ((246 : Int32) < p1) with c61_22 | c61_22
      · show own_Go _ _ _ _ _ _ _ s₁ (mkF m 61 #[.val (.int p1)] [(.int (246 : Int32)), (.int p1)])
        refine own_step (fun t k => XS.icmpNo X0.here hx rfl (hb hby d2_61) rfl (tlt (c61_22)).2.2.2 k) ?_
        simp only [Int32.lt_iff_toInt_lt, ← Int32.toInt_inj, Int32.reduceToInt] at c54_21 c61_22
        show own_Go _ _ _ _ _ _ _ s₁ (mkF m 64 #[.val (.int p1)] [])
        exact S6 (hk.trans (own_ifc (or_iff_right (by omega))))
      · show own_Go _ _ _ _ _ _ _ s₁ (mkF m 61 #[.val (.int p1)] [(.int (246 : Int32)), (.int p1)])
        refine own_step (fun t k => XS.icmpYes X0.here hx rfl (pc0 := 61) (pc' := 197) rfl (hb hby d2_61) rfl (flt (c61_22)).2.2.2 (by decide) (by decide) k) ?_
        simp only [Int32.lt_iff_toInt_lt, ← Int32.toInt_inj, Int32.reduceToInt] at c54_21 c61_22
        show own_Go _ _ _ _ _ _ _ s₁ (mkF m 197 #[.val (.int p1)] [])
        exact J197 (hk.trans (if_pos (Or.inl (by omega))))
  have S4 : (own_vN p1 = if (192 ≤ p1.toInt ∧ p1.toInt ≤ 214) ∨ (216 ≤ p1.toInt ∧ p1.toInt ≤ 246) ∨ (248 ≤ p1.toInt ∧ p1.toInt ≤ 767) ∨ (880 ≤ p1.toInt ∧ p1.toInt ≤ 893) ∨ (895 ≤ p1.toInt ∧ p1.toInt ≤ 8191) ∨ (8204 ≤ p1.toInt ∧ p1.toInt ≤ 8205) ∨ (8304 ≤ p1.toInt ∧ p1.toInt ≤ 8591) ∨ (11264 ≤ p1.toInt ∧ p1.toInt ≤ 12271) ∨ (12289 ≤ p1.toInt ∧ p1.toInt ≤ 55295) ∨ (63744 ≤ p1.toInt ∧ p1.toInt ≤ 64975) ∨ (65008 ≤ p1.toInt ∧ p1.toInt ≤ 65533) ∨ (65536 ≤ p1.toInt ∧ p1.toInt ≤ 983039) then (1 : Int32) else 0) → own_Go p e below s ({ frames := 0, cells := 0, slots := 0, locals := 0 } : Room).cells ({ frames := 0, cells := 0, slots := 0, locals := 0 } : Room).slots (own_Q2 Z p1 h0 n0) s₁ (mkF m 36 #[.val (.int p1)] []) := by
    intro hk
    show own_Go _ _ _ _ _ _ _ s₁ (mkF m 36 #[.val (.int p1)] [])
    refine own_step (fun t k => XS.iloadN X0.here hx rfl (hb hby d2_36) rfl k) ?_
    show own_Go _ _ _ _ _ _ _ s₁ (mkF m 37 #[.val (.int p1)] [(.int p1)])
    refine own_step (fun t k => XS.sipush X0.here hx rfl (hb hby d2_37) k) ?_
    rcases Classical.em (p1 < (192 : Int32)) with c40_23 | c40_23
    · show own_Go _ _ _ _ _ _ _ s₁ (mkF m 40 #[.val (.int p1)] [(.int (192 : Int32)), (.int p1)])
      refine own_step (fun t k => XS.icmpYes X0.here hx rfl (pc0 := 40) (pc' := 50) rfl (hb hby d2_40) rfl (tlt (c40_23)).1 (by decide) (by decide) k) ?_
      simp only [Int32.lt_iff_toInt_lt, ← Int32.toInt_inj, Int32.reduceToInt] at c40_23
      show own_Go _ _ _ _ _ _ _ s₁ (mkF m 50 #[.val (.int p1)] [])
      exact S5 (hk.trans (own_ifc (or_iff_right (by omega))))
    · show own_Go _ _ _ _ _ _ _ s₁ (mkF m 40 #[.val (.int p1)] [(.int (192 : Int32)), (.int p1)])
      refine own_step (fun t k => XS.icmpNo X0.here hx rfl (hb hby d2_40) rfl (flt (c40_23)).1 k) ?_
      show own_Go _ _ _ _ _ _ _ s₁ (mkF m 43 #[.val (.int p1)] [])
      refine own_step (fun t k => XS.iloadN X0.here hx rfl (hb hby d2_43) rfl k) ?_
      show own_Go _ _ _ _ _ _ _ s₁ (mkF m 44 #[.val (.int p1)] [(.int p1)])
      refine own_step (fun t k => XS.sipush X0.here hx rfl (hb hby d2_44) k) ?_
      rcases Classical.em ((214 : Int32) < p1) with c47_24 | c47_24
      · show own_Go _ _ _ _ _ _ _ s₁ (mkF m 47 #[.val (.int p1)] [(.int (214 : Int32)), (.int p1)])
        refine own_step (fun t k => XS.icmpNo X0.here hx rfl (hb hby d2_47) rfl (tlt (c47_24)).2.2.2 k) ?_
        simp only [Int32.lt_iff_toInt_lt, ← Int32.toInt_inj, Int32.reduceToInt] at c40_23 c47_24
        show own_Go _ _ _ _ _ _ _ s₁ (mkF m 50 #[.val (.int p1)] [])
        exact S5 (hk.trans (own_ifc (or_iff_right (by omega))))
      · show own_Go _ _ _ _ _ _ _ s₁ (mkF m 47 #[.val (.int p1)] [(.int (214 : Int32)), (.int p1)])
        refine own_step (fun t k => XS.icmpYes X0.here hx rfl (pc0 := 47) (pc' := 197) rfl (hb hby d2_47) rfl (flt (c47_24)).2.2.2 (by decide) (by decide) k) ?_
        simp only [Int32.lt_iff_toInt_lt, ← Int32.toInt_inj, Int32.reduceToInt] at c40_23 c47_24
        show own_Go _ _ _ _ _ _ _ s₁ (mkF m 197 #[.val (.int p1)] [])
        exact J197 (hk.trans (if_pos (Or.inl (by omega))))
  have S3 : (own_vN p1 = if (97 ≤ p1.toInt ∧ p1.toInt ≤ 122) ∨ (192 ≤ p1.toInt ∧ p1.toInt ≤ 214) ∨ (216 ≤ p1.toInt ∧ p1.toInt ≤ 246) ∨ (248 ≤ p1.toInt ∧ p1.toInt ≤ 767) ∨ (880 ≤ p1.toInt ∧ p1.toInt ≤ 893) ∨ (895 ≤ p1.toInt ∧ p1.toInt ≤ 8191) ∨ (8204 ≤ p1.toInt ∧ p1.toInt ≤ 8205) ∨ (8304 ≤ p1.toInt ∧ p1.toInt ≤ 8591) ∨ (11264 ≤ p1.toInt ∧ p1.toInt ≤ 12271) ∨ (12289 ≤ p1.toInt ∧ p1.toInt ≤ 55295) ∨ (63744 ≤ p1.toInt ∧ p1.toInt ≤ 64975) ∨ (65008 ≤ p1.toInt ∧ p1.toInt ≤ 65533) ∨ (65536 ≤ p1.toInt ∧ p1.toInt ≤ 983039) then (1 : Int32) else 0) → own_Go p e below s ({ frames := 0, cells := 0, slots := 0, locals := 0 } : Room).cells ({ frames := 0, cells := 0, slots := 0, locals := 0 } : Room).slots (own_Q2 Z p1 h0 n0) s₁ (mkF m 24 #[.val (.int p1)] []) := by
    intro hk
    show own_Go _ _ _ _ _ _ _ s₁ (mkF m 24 #[.val (.int p1)] [])
    refine own_step (fun t k => XS.iloadN X0.here hx rfl (hb hby d2_24) rfl k) ?_
    show own_Go _ _ _ _ _ _ _ s₁ (mkF m 25 #[.val (.int p1)] [(.int p1)])
    refine own_step (fun t k => XS.bipush X0.here hx rfl (hb hby d2_25) k) ?_
    rcases Classical.em (p1 < (97 : Int32)) with c27_25 | c27_25
    · show own_Go _ _ _ _ _ _ _ s₁ (mkF m 27 #[.val (.int p1)] [(.int (97 : Int32)), (.int p1)])
      refine own_step (fun t k => XS.icmpYes X0.here hx rfl (pc0 := 27) (pc' := 36) rfl (hb hby d2_27) rfl (tlt (c27_25)).1 (by decide) (by decide) k) ?_
      simp only [Int32.lt_iff_toInt_lt, ← Int32.toInt_inj, Int32.reduceToInt] at c27_25
      show own_Go _ _ _ _ _ _ _ s₁ (mkF m 36 #[.val (.int p1)] [])
      exact S4 (hk.trans (own_ifc (or_iff_right (by omega))))
    · show own_Go _ _ _ _ _ _ _ s₁ (mkF m 27 #[.val (.int p1)] [(.int (97 : Int32)), (.int p1)])
      refine own_step (fun t k => XS.icmpNo X0.here hx rfl (hb hby d2_27) rfl (flt (c27_25)).1 k) ?_
      show own_Go _ _ _ _ _ _ _ s₁ (mkF m 30 #[.val (.int p1)] [])
      refine own_step (fun t k => XS.iloadN X0.here hx rfl (hb hby d2_30) rfl k) ?_
      show own_Go _ _ _ _ _ _ _ s₁ (mkF m 31 #[.val (.int p1)] [(.int p1)])
      refine own_step (fun t k => XS.bipush X0.here hx rfl (hb hby d2_31) k) ?_
      rcases Classical.em ((122 : Int32) < p1) with c33_26 | c33_26
      · show own_Go _ _ _ _ _ _ _ s₁ (mkF m 33 #[.val (.int p1)] [(.int (122 : Int32)), (.int p1)])
        refine own_step (fun t k => XS.icmpNo X0.here hx rfl (hb hby d2_33) rfl (tlt (c33_26)).2.2.2 k) ?_
        simp only [Int32.lt_iff_toInt_lt, ← Int32.toInt_inj, Int32.reduceToInt] at c27_25 c33_26
        show own_Go _ _ _ _ _ _ _ s₁ (mkF m 36 #[.val (.int p1)] [])
        exact S4 (hk.trans (own_ifc (or_iff_right (by omega))))
      · show own_Go _ _ _ _ _ _ _ s₁ (mkF m 33 #[.val (.int p1)] [(.int (122 : Int32)), (.int p1)])
        refine own_step (fun t k => XS.icmpYes X0.here hx rfl (pc0 := 33) (pc' := 197) rfl (hb hby d2_33) rfl (flt (c33_26)).2.2.2 (by decide) (by decide) k) ?_
        simp only [Int32.lt_iff_toInt_lt, ← Int32.toInt_inj, Int32.reduceToInt] at c27_25 c33_26
        show own_Go _ _ _ _ _ _ _ s₁ (mkF m 197 #[.val (.int p1)] [])
        exact J197 (hk.trans (if_pos (Or.inl (by omega))))
  have S2 : (own_vN p1 = if p1.toInt = 95 ∨ (97 ≤ p1.toInt ∧ p1.toInt ≤ 122) ∨ (192 ≤ p1.toInt ∧ p1.toInt ≤ 214) ∨ (216 ≤ p1.toInt ∧ p1.toInt ≤ 246) ∨ (248 ≤ p1.toInt ∧ p1.toInt ≤ 767) ∨ (880 ≤ p1.toInt ∧ p1.toInt ≤ 893) ∨ (895 ≤ p1.toInt ∧ p1.toInt ≤ 8191) ∨ (8204 ≤ p1.toInt ∧ p1.toInt ≤ 8205) ∨ (8304 ≤ p1.toInt ∧ p1.toInt ≤ 8591) ∨ (11264 ≤ p1.toInt ∧ p1.toInt ≤ 12271) ∨ (12289 ≤ p1.toInt ∧ p1.toInt ≤ 55295) ∨ (63744 ≤ p1.toInt ∧ p1.toInt ≤ 64975) ∨ (65008 ≤ p1.toInt ∧ p1.toInt ≤ 65533) ∨ (65536 ≤ p1.toInt ∧ p1.toInt ≤ 983039) then (1 : Int32) else 0) → own_Go p e below s ({ frames := 0, cells := 0, slots := 0, locals := 0 } : Room).cells ({ frames := 0, cells := 0, slots := 0, locals := 0 } : Room).slots (own_Q2 Z p1 h0 n0) s₁ (mkF m 18 #[.val (.int p1)] []) := by
    intro hk
    show own_Go _ _ _ _ _ _ _ s₁ (mkF m 18 #[.val (.int p1)] [])
    refine own_step (fun t k => XS.iloadN X0.here hx rfl (hb hby d2_18) rfl k) ?_
    show own_Go _ _ _ _ _ _ _ s₁ (mkF m 19 #[.val (.int p1)] [(.int p1)])
    refine own_step (fun t k => XS.bipush X0.here hx rfl (hb hby d2_19) k) ?_
    rcases Classical.em (p1 = (95 : Int32)) with c21_27 | c21_27
    · show own_Go _ _ _ _ _ _ _ s₁ (mkF m 21 #[.val (.int p1)] [(.int (95 : Int32)), (.int p1)])
      refine own_step (fun t k => XS.icmpYes X0.here hx rfl (pc0 := 21) (pc' := 197) rfl (hb hby d2_21) rfl (teq (c21_27)).1 (by decide) (by decide) k) ?_
      simp only [Int32.lt_iff_toInt_lt, ← Int32.toInt_inj, Int32.reduceToInt] at c21_27
      show own_Go _ _ _ _ _ _ _ s₁ (mkF m 197 #[.val (.int p1)] [])
      exact J197 (hk.trans (if_pos (Or.inl (by omega))))
    · show own_Go _ _ _ _ _ _ _ s₁ (mkF m 21 #[.val (.int p1)] [(.int (95 : Int32)), (.int p1)])
      refine own_step (fun t k => XS.icmpNo X0.here hx rfl (hb hby d2_21) rfl (feq (c21_27)).1 k) ?_
      simp only [Int32.lt_iff_toInt_lt, ← Int32.toInt_inj, Int32.reduceToInt] at c21_27
      show own_Go _ _ _ _ _ _ _ s₁ (mkF m 24 #[.val (.int p1)] [])
      exact S3 (hk.trans (own_ifc (or_iff_right (by omega))))
  have S1 : (own_vN p1 = if (65 ≤ p1.toInt ∧ p1.toInt ≤ 90) ∨ p1.toInt = 95 ∨ (97 ≤ p1.toInt ∧ p1.toInt ≤ 122) ∨ (192 ≤ p1.toInt ∧ p1.toInt ≤ 214) ∨ (216 ≤ p1.toInt ∧ p1.toInt ≤ 246) ∨ (248 ≤ p1.toInt ∧ p1.toInt ≤ 767) ∨ (880 ≤ p1.toInt ∧ p1.toInt ≤ 893) ∨ (895 ≤ p1.toInt ∧ p1.toInt ≤ 8191) ∨ (8204 ≤ p1.toInt ∧ p1.toInt ≤ 8205) ∨ (8304 ≤ p1.toInt ∧ p1.toInt ≤ 8591) ∨ (11264 ≤ p1.toInt ∧ p1.toInt ≤ 12271) ∨ (12289 ≤ p1.toInt ∧ p1.toInt ≤ 55295) ∨ (63744 ≤ p1.toInt ∧ p1.toInt ≤ 64975) ∨ (65008 ≤ p1.toInt ∧ p1.toInt ≤ 65533) ∨ (65536 ≤ p1.toInt ∧ p1.toInt ≤ 983039) then (1 : Int32) else 0) → own_Go p e below s ({ frames := 0, cells := 0, slots := 0, locals := 0 } : Room).cells ({ frames := 0, cells := 0, slots := 0, locals := 0 } : Room).slots (own_Q2 Z p1 h0 n0) s₁ (mkF m 6 #[.val (.int p1)] []) := by
    intro hk
    show own_Go _ _ _ _ _ _ _ s₁ (mkF m 6 #[.val (.int p1)] [])
    refine own_step (fun t k => XS.iloadN X0.here hx rfl (hb hby d2_6) rfl k) ?_
    show own_Go _ _ _ _ _ _ _ s₁ (mkF m 7 #[.val (.int p1)] [(.int p1)])
    refine own_step (fun t k => XS.bipush X0.here hx rfl (hb hby d2_7) k) ?_
    rcases Classical.em (p1 < (65 : Int32)) with c9_28 | c9_28
    · show own_Go _ _ _ _ _ _ _ s₁ (mkF m 9 #[.val (.int p1)] [(.int (65 : Int32)), (.int p1)])
      refine own_step (fun t k => XS.icmpYes X0.here hx rfl (pc0 := 9) (pc' := 18) rfl (hb hby d2_9) rfl (tlt (c9_28)).1 (by decide) (by decide) k) ?_
      simp only [Int32.lt_iff_toInt_lt, ← Int32.toInt_inj, Int32.reduceToInt] at c9_28
      show own_Go _ _ _ _ _ _ _ s₁ (mkF m 18 #[.val (.int p1)] [])
      exact S2 (hk.trans (own_ifc (or_iff_right (by omega))))
    · show own_Go _ _ _ _ _ _ _ s₁ (mkF m 9 #[.val (.int p1)] [(.int (65 : Int32)), (.int p1)])
      refine own_step (fun t k => XS.icmpNo X0.here hx rfl (hb hby d2_9) rfl (flt (c9_28)).1 k) ?_
      show own_Go _ _ _ _ _ _ _ s₁ (mkF m 12 #[.val (.int p1)] [])
      refine own_step (fun t k => XS.iloadN X0.here hx rfl (hb hby d2_12) rfl k) ?_
      show own_Go _ _ _ _ _ _ _ s₁ (mkF m 13 #[.val (.int p1)] [(.int p1)])
      refine own_step (fun t k => XS.bipush X0.here hx rfl (hb hby d2_13) k) ?_
      rcases Classical.em ((90 : Int32) < p1) with c15_29 | c15_29
      · show own_Go _ _ _ _ _ _ _ s₁ (mkF m 15 #[.val (.int p1)] [(.int (90 : Int32)), (.int p1)])
        refine own_step (fun t k => XS.icmpNo X0.here hx rfl (hb hby d2_15) rfl (tlt (c15_29)).2.2.2 k) ?_
        simp only [Int32.lt_iff_toInt_lt, ← Int32.toInt_inj, Int32.reduceToInt] at c9_28 c15_29
        show own_Go _ _ _ _ _ _ _ s₁ (mkF m 18 #[.val (.int p1)] [])
        exact S2 (hk.trans (own_ifc (or_iff_right (by omega))))
      · show own_Go _ _ _ _ _ _ _ s₁ (mkF m 15 #[.val (.int p1)] [(.int (90 : Int32)), (.int p1)])
        refine own_step (fun t k => XS.icmpYes X0.here hx rfl (pc0 := 15) (pc' := 197) rfl (hb hby d2_15) rfl (flt (c15_29)).2.2.2 (by decide) (by decide) k) ?_
        simp only [Int32.lt_iff_toInt_lt, ← Int32.toInt_inj, Int32.reduceToInt] at c9_28 c15_29
        show own_Go _ _ _ _ _ _ _ s₁ (mkF m 197 #[.val (.int p1)] [])
        exact J197 (hk.trans (if_pos (Or.inl (by omega))))
  have hk : own_vN p1 = if p1.toInt = 58 ∨ (65 ≤ p1.toInt ∧ p1.toInt ≤ 90) ∨ p1.toInt = 95 ∨ (97 ≤ p1.toInt ∧ p1.toInt ≤ 122) ∨ (192 ≤ p1.toInt ∧ p1.toInt ≤ 214) ∨ (216 ≤ p1.toInt ∧ p1.toInt ≤ 246) ∨ (248 ≤ p1.toInt ∧ p1.toInt ≤ 767) ∨ (880 ≤ p1.toInt ∧ p1.toInt ≤ 893) ∨ (895 ≤ p1.toInt ∧ p1.toInt ≤ 8191) ∨ (8204 ≤ p1.toInt ∧ p1.toInt ≤ 8205) ∨ (8304 ≤ p1.toInt ∧ p1.toInt ≤ 8591) ∨ (11264 ≤ p1.toInt ∧ p1.toInt ≤ 12271) ∨ (12289 ≤ p1.toInt ∧ p1.toInt ≤ 55295) ∨ (63744 ≤ p1.toInt ∧ p1.toInt ≤ 64975) ∨ (65008 ≤ p1.toInt ∧ p1.toInt ≤ 65533) ∨ (65536 ≤ p1.toInt ∧ p1.toInt ≤ 983039) then (1 : Int32) else 0 := rfl
  show own_Go _ _ _ _ _ _ _ s₁ (mkF m 0 #[.val (.int p1)] [])
  refine own_step (fun t k => XS.iloadN X0.here hx rfl (hb hby d2_0) rfl k) ?_
  show own_Go _ _ _ _ _ _ _ s₁ (mkF m 1 #[.val (.int p1)] [(.int p1)])
  refine own_step (fun t k => XS.bipush X0.here hx rfl (hb hby d2_1) k) ?_
  rcases Classical.em (p1 = (58 : Int32)) with c3_30 | c3_30
  · show own_Go _ _ _ _ _ _ _ s₁ (mkF m 3 #[.val (.int p1)] [(.int (58 : Int32)), (.int p1)])
    refine own_step (fun t k => XS.icmpYes X0.here hx rfl (pc0 := 3) (pc' := 197) rfl (hb hby d2_3) rfl (teq (c3_30)).1 (by decide) (by decide) k) ?_
    simp only [Int32.lt_iff_toInt_lt, ← Int32.toInt_inj, Int32.reduceToInt] at c3_30
    show own_Go _ _ _ _ _ _ _ s₁ (mkF m 197 #[.val (.int p1)] [])
    exact J197 (hk.trans (if_pos (Or.inl (by omega))))
  · show own_Go _ _ _ _ _ _ _ s₁ (mkF m 3 #[.val (.int p1)] [(.int (58 : Int32)), (.int p1)])
    refine own_step (fun t k => XS.icmpNo X0.here hx rfl (hb hby d2_3) rfl (feq (c3_30)).1 k) ?_
    simp only [Int32.lt_iff_toInt_lt, ← Int32.toInt_inj, Int32.reduceToInt] at c3_30
    show own_Go _ _ _ _ _ _ _ s₁ (mkF m 6 #[.val (.int p1)] [])
    exact S1 (hk.trans (own_ifc (or_iff_right (by omega))))
theorem own_sta_keep {Z : State} {h h' : Heap} {C n d : String} {w : Value} (F : Sta Z h C n d w) (K : Keep h h' []) : Sta Z h' C n d w := by
  obtain ⟨cf, i, k, f, st, cell, h1, h2, h3, h4, h5, r⟩ := F
  exact ⟨cf, i, k, f, st, cell, h1, h2, h3, h4, K.2.1 _ _ h5 nin0, r⟩
theorem own_pn0 : plainName "com/example/xylem/xylem/XmlCharsIsNameStartCharPinLaw" = true := by first | (simp [plainName, overriddenIn]; done) | decide +kernel
theorem own_pd0_0 : parseMethodDescriptor "(I)Z" = some ⟨[.int], some .boolean⟩ := by decide +kernel
theorem own_ef0 (m : MethodId) (x0 : Int32) (x1 : Int32) (x2 : Int32) (x3 : Int32) : entryFrame m #[(.int x0), (.int x1), (.int x2), (.int x3)] maxLocals = mkF m 0 #[.val (.int x0), .val (.int x1), .val (.int x2), .val (.int x3), .unset, .unset, .unset, .unset] [] := by first | (simp [entryFrame, mkF, argsToLocals, Value.category, maxLocals]; done) | rfl
def own_Q0 (Z : State) (p1 : Int32) (p2 : Int32) (p3 : Int32) (p4 : Int32) (aw : Addr) (cl : Cell) (h0 : Heap) (n0 : Nat) (v : Option Value) (h : Heap) (L : List Loc) : Prop := v = some (.int 1) ∧ Fr n0 L
set_option maxRecDepth 65536 in
set_option maxHeartbeats 40000000 in
theorem own_rm0 (l : Launch) (Z : State) (a0 : Array Value) (hw : ∀ d ∈ tables_1, d.before a0 Z = true) (ws : List Jvm.Cond) (p1 : Int32) (p2 : Int32) (p3 : Int32) (p4 : Int32) (aw : Addr) (cl : Cell) (h0 : Heap) (n0 : Nat) (Z0 : n0 ≤ h0.size) (S1 : Sta Z h0 "com/example/xylem/xylem/XmlChars" "ASCII_NAMES" "[B" (.ref aw)) (TB : Tab Z h0 aw cl .byte (128 : Int32)) (HT : own_Tbl cl) :
    MetFree l x (head1 (Jvm.Cond.code x code maxLocals ret :: ws) room_1) (fun a U => a = #[(.int p1), (.int p2), (.int p3), (.int p4)] ∧ Z.Warmed39 U.vm ∧ U.heap = h0) (fun _ _ _ _ _ => True) (fun _ U o U' => ∃ v L, o = .returned v ∧ own_Q0 Z p1 p2 p3 p4 aw cl h0 n0 v U'.heap L ∧ FrameEnd U o U' L room_1.cells room_1.slots) := by
  refine MetFree.of_bodySF (plainFor_of_name own_pn0) hisR ?_
  intro p e s m args below meth c s₁ Bd hml0 hP hK
  obtain ⟨rfl, hZ, hh⟩ := hP
  have hx := Bd.exec
  have hby := Bd.bytes
  have hml : c.maxLocals = 8 := hml0
  have hlk : meth.locks = false := BodyLoose.notSynchronized Bd
  have hown : s.vm.findClass "com/example/xylem/xylem/XmlCharsIsNameStartCharPinLaw" = some m.cls := findClass_of_methodNamed Bd.named
  have hnm := (name_of_methodNamed Bd.named Bd.method).1
  have X0 : Stand p l e room_1 s m #[(.int p1), (.int p2), (.int p3), (.int p4)] below meth c s₁ [] 0 0 := Stand.of_body Bd
  have e0 : s₁.heap = h0 := by rw [← hh, Bd.state]; rfl
  have N0 := Fr.nil n0
  show own_Go p e below s room_1.cells room_1.slots (own_Q0 Z p1 p2 p3 p4 aw cl h0 n0) s₁ (entryFrame m #[(.int p1), (.int p2), (.int p3), (.int p4)] maxLocals)
  refine own_step (fun t k => castTop (own_ef0 m p1 p2 p3 p4) k) ?_
  show own_Go _ _ _ _ _ _ _ s₁ (mkF m 0 #[.val (.int p1), .val (.int p2), .val (.int p3), .val (.int p4), .unset, .unset, .unset, .unset] [])
  refine own_step (fun t k => XS.bipush X0.here hx rfl (hb hby at_0) k) ?_
  show own_Go _ _ _ _ _ _ _ s₁ (mkF m 2 #[.val (.int p1), .val (.int p2), .val (.int p3), .val (.int p4), .unset, .unset, .unset, .unset] [(.int (41 : Int32))])
  obtain ⟨T1, h1, ca1, X1, e1, E1, A1, st1⟩ := newP X0 hx hZ (hw _ (List.mem_of_getElem? (i := 0) rfl)) e0 (g := (mkF m 2 #[.val (.int p1), .val (.int p2), .val (.int p3), .val (.int p4), .unset, .unset, .unset, .unset] [(.int (41 : Int32))])) rfl (hb hby at_2) rfl (by decide) (cap := 41) (by decide) (by decide) (by decide) (by decide)
  obtain ⟨b1, g1⟩ : ∃ z, z = h0.size := ⟨_, rfl⟩
  rw [← g1] at A1 st1
  have I1 : own_Ints Z h1 b1 41 := own_ints_new A1 (by decide)
  have nb1 : n0 ≤ b1 := Nat.le_trans (Z0) (Nat.le_of_eq g1.symm)
  have K1 : Keep h0 h1 [] := (Keep.refl h0 []).ext E1
  have sb1 : h0.size ≤ b1 := Nat.le_of_eq g1.symm
  refine own_step st1 ?_
  show own_Go _ _ _ _ _ _ _ T1 (mkF m 4 #[.val (.int p1), .val (.int p2), .val (.int p3), .val (.int p4), .unset, .unset, .unset, .unset] [(.ref b1)])
  refine own_step (fun t k => XS.dup X1.here hx rfl (hb hby at_4) rfl rfl k) ?_
  show own_Go _ _ _ _ _ _ _ T1 (mkF m 5 #[.val (.int p1), .val (.int p2), .val (.int p3), .val (.int p4), .unset, .unset, .unset, .unset] [(.ref b1), (.ref b1)])
  refine own_step (fun t k => XS.iconst X1.here hx rfl (hb hby at_5) k) ?_
  show own_Go _ _ _ _ _ _ _ T1 (mkF m 6 #[.val (.int p1), .val (.int p2), .val (.int p3), .val (.int p4), .unset, .unset, .unset, .unset] [(.int (0 : Int32)), (.ref b1), (.ref b1)])
  refine own_step (fun t k => X1.ldcInt hx hown (mvT hZ (hw _ (List.mem_of_getElem? (i := 1) rfl))) (g := (mkF m 6 #[.val (.int p1), .val (.int p2), .val (.int p3), .val (.int p4), .unset, .unset, .unset, .unset] [(.int (0 : Int32)), (.ref b1), (.ref b1)])) rfl (hb hby at_6) t k) ?_
  show own_Go _ _ _ _ _ _ _ T1 (mkF m 8 #[.val (.int p1), .val (.int p2), .val (.int p3), .val (.int p4), .unset, .unset, .unset, .unset] [(.int (-2147483648 : Int32)), (.int (0 : Int32)), (.ref b1), (.ref b1)])
  obtain ⟨T2, h2, X2, e2, W2, I2, st2⟩ := own_stI X1 hx hZ e1 I1 (by decide) (g := (mkF m 8 #[.val (.int p1), .val (.int p2), .val (.int p3), .val (.int p4), .unset, .unset, .unset, .unset] [(.int (-2147483648 : Int32)), (.int (0 : Int32)), (.ref b1), (.ref b1)])) rfl rfl (hb hby at_8)
  have N2 := Fr.snoc X2 N0 nb1
  have K2 : Keep h0 h2 [] := K1.wr W2 (Or.inr sb1)
  refine own_step st2 ?_
  show own_Go _ _ _ _ _ _ _ T2 (mkF m 9 #[.val (.int p1), .val (.int p2), .val (.int p3), .val (.int p4), .unset, .unset, .unset, .unset] [(.ref b1)])
  refine own_step (fun t k => XS.dup X2.here hx rfl (hb hby at_9) rfl rfl k) ?_
  show own_Go _ _ _ _ _ _ _ T2 (mkF m 10 #[.val (.int p1), .val (.int p2), .val (.int p3), .val (.int p4), .unset, .unset, .unset, .unset] [(.ref b1), (.ref b1)])
  refine own_step (fun t k => XS.iconst X2.here hx rfl (hb hby at_10) k) ?_
  show own_Go _ _ _ _ _ _ _ T2 (mkF m 11 #[.val (.int p1), .val (.int p2), .val (.int p3), .val (.int p4), .unset, .unset, .unset, .unset] [(.int (1 : Int32)), (.ref b1), (.ref b1)])
  refine own_step (fun t k => XS.iconst X2.here hx rfl (hb hby at_11) k) ?_
  show own_Go _ _ _ _ _ _ _ T2 (mkF m 12 #[.val (.int p1), .val (.int p2), .val (.int p3), .val (.int p4), .unset, .unset, .unset, .unset] [(.int (0 : Int32)), (.int (1 : Int32)), (.ref b1), (.ref b1)])
  obtain ⟨T3, h3, X3, e3, W3, I3, st3⟩ := own_stI X2 hx hZ e2 I2 (by decide) (g := (mkF m 12 #[.val (.int p1), .val (.int p2), .val (.int p3), .val (.int p4), .unset, .unset, .unset, .unset] [(.int (0 : Int32)), (.int (1 : Int32)), (.ref b1), (.ref b1)])) rfl rfl (hb hby at_12)
  have N3 := Fr.snoc X3 N2 nb1
  have K3 : Keep h0 h3 [] := K2.wr W3 (Or.inr sb1)
  refine own_step st3 ?_
  show own_Go _ _ _ _ _ _ _ T3 (mkF m 13 #[.val (.int p1), .val (.int p2), .val (.int p3), .val (.int p4), .unset, .unset, .unset, .unset] [(.ref b1)])
  refine own_step (fun t k => XS.dup X3.here hx rfl (hb hby at_13) rfl rfl k) ?_
  show own_Go _ _ _ _ _ _ _ T3 (mkF m 14 #[.val (.int p1), .val (.int p2), .val (.int p3), .val (.int p4), .unset, .unset, .unset, .unset] [(.ref b1), (.ref b1)])
  refine own_step (fun t k => XS.iconst X3.here hx rfl (hb hby at_14) k) ?_
  show own_Go _ _ _ _ _ _ _ T3 (mkF m 15 #[.val (.int p1), .val (.int p2), .val (.int p3), .val (.int p4), .unset, .unset, .unset, .unset] [(.int (2 : Int32)), (.ref b1), (.ref b1)])
  refine own_step (fun t k => XS.bipush X3.here hx rfl (hb hby at_15) k) ?_
  show own_Go _ _ _ _ _ _ _ T3 (mkF m 17 #[.val (.int p1), .val (.int p2), .val (.int p3), .val (.int p4), .unset, .unset, .unset, .unset] [(.int (45 : Int32)), (.int (2 : Int32)), (.ref b1), (.ref b1)])
  obtain ⟨T4, h4, X4, e4, W4, I4, st4⟩ := own_stI X3 hx hZ e3 I3 (by decide) (g := (mkF m 17 #[.val (.int p1), .val (.int p2), .val (.int p3), .val (.int p4), .unset, .unset, .unset, .unset] [(.int (45 : Int32)), (.int (2 : Int32)), (.ref b1), (.ref b1)])) rfl rfl (hb hby at_17)
  have N4 := Fr.snoc X4 N3 nb1
  have K4 : Keep h0 h4 [] := K3.wr W4 (Or.inr sb1)
  refine own_step st4 ?_
  show own_Go _ _ _ _ _ _ _ T4 (mkF m 18 #[.val (.int p1), .val (.int p2), .val (.int p3), .val (.int p4), .unset, .unset, .unset, .unset] [(.ref b1)])
  refine own_step (fun t k => XS.dup X4.here hx rfl (hb hby at_18) rfl rfl k) ?_
  show own_Go _ _ _ _ _ _ _ T4 (mkF m 19 #[.val (.int p1), .val (.int p2), .val (.int p3), .val (.int p4), .unset, .unset, .unset, .unset] [(.ref b1), (.ref b1)])
  refine own_step (fun t k => XS.iconst X4.here hx rfl (hb hby at_19) k) ?_
  show own_Go _ _ _ _ _ _ _ T4 (mkF m 20 #[.val (.int p1), .val (.int p2), .val (.int p3), .val (.int p4), .unset, .unset, .unset, .unset] [(.int (3 : Int32)), (.ref b1), (.ref b1)])
  refine own_step (fun t k => XS.bipush X4.here hx rfl (hb hby at_20) k) ?_
  show own_Go _ _ _ _ _ _ _ T4 (mkF m 22 #[.val (.int p1), .val (.int p2), .val (.int p3), .val (.int p4), .unset, .unset, .unset, .unset] [(.int (46 : Int32)), (.int (3 : Int32)), (.ref b1), (.ref b1)])
  obtain ⟨T5, h5, X5, e5, W5, I5, st5⟩ := own_stI X4 hx hZ e4 I4 (by decide) (g := (mkF m 22 #[.val (.int p1), .val (.int p2), .val (.int p3), .val (.int p4), .unset, .unset, .unset, .unset] [(.int (46 : Int32)), (.int (3 : Int32)), (.ref b1), (.ref b1)])) rfl rfl (hb hby at_22)
  have N5 := Fr.snoc X5 N4 nb1
  have K5 : Keep h0 h5 [] := K4.wr W5 (Or.inr sb1)
  refine own_step st5 ?_
  show own_Go _ _ _ _ _ _ _ T5 (mkF m 23 #[.val (.int p1), .val (.int p2), .val (.int p3), .val (.int p4), .unset, .unset, .unset, .unset] [(.ref b1)])
  refine own_step (fun t k => XS.dup X5.here hx rfl (hb hby at_23) rfl rfl k) ?_
  show own_Go _ _ _ _ _ _ _ T5 (mkF m 24 #[.val (.int p1), .val (.int p2), .val (.int p3), .val (.int p4), .unset, .unset, .unset, .unset] [(.ref b1), (.ref b1)])
  refine own_step (fun t k => XS.iconst X5.here hx rfl (hb hby at_24) k) ?_
  show own_Go _ _ _ _ _ _ _ T5 (mkF m 25 #[.val (.int p1), .val (.int p2), .val (.int p3), .val (.int p4), .unset, .unset, .unset, .unset] [(.int (4 : Int32)), (.ref b1), (.ref b1)])
  refine own_step (fun t k => XS.bipush X5.here hx rfl (hb hby at_25) k) ?_
  show own_Go _ _ _ _ _ _ _ T5 (mkF m 27 #[.val (.int p1), .val (.int p2), .val (.int p3), .val (.int p4), .unset, .unset, .unset, .unset] [(.int (48 : Int32)), (.int (4 : Int32)), (.ref b1), (.ref b1)])
  obtain ⟨T6, h6, X6, e6, W6, I6, st6⟩ := own_stI X5 hx hZ e5 I5 (by decide) (g := (mkF m 27 #[.val (.int p1), .val (.int p2), .val (.int p3), .val (.int p4), .unset, .unset, .unset, .unset] [(.int (48 : Int32)), (.int (4 : Int32)), (.ref b1), (.ref b1)])) rfl rfl (hb hby at_27)
  have N6 := Fr.snoc X6 N5 nb1
  have K6 : Keep h0 h6 [] := K5.wr W6 (Or.inr sb1)
  refine own_step st6 ?_
  show own_Go _ _ _ _ _ _ _ T6 (mkF m 28 #[.val (.int p1), .val (.int p2), .val (.int p3), .val (.int p4), .unset, .unset, .unset, .unset] [(.ref b1)])
  refine own_step (fun t k => XS.dup X6.here hx rfl (hb hby at_28) rfl rfl k) ?_
  show own_Go _ _ _ _ _ _ _ T6 (mkF m 29 #[.val (.int p1), .val (.int p2), .val (.int p3), .val (.int p4), .unset, .unset, .unset, .unset] [(.ref b1), (.ref b1)])
  refine own_step (fun t k => XS.iconst X6.here hx rfl (hb hby at_29) k) ?_
  show own_Go _ _ _ _ _ _ _ T6 (mkF m 30 #[.val (.int p1), .val (.int p2), .val (.int p3), .val (.int p4), .unset, .unset, .unset, .unset] [(.int (5 : Int32)), (.ref b1), (.ref b1)])
  refine own_step (fun t k => XS.bipush X6.here hx rfl (hb hby at_30) k) ?_
  show own_Go _ _ _ _ _ _ _ T6 (mkF m 32 #[.val (.int p1), .val (.int p2), .val (.int p3), .val (.int p4), .unset, .unset, .unset, .unset] [(.int (57 : Int32)), (.int (5 : Int32)), (.ref b1), (.ref b1)])
  obtain ⟨T7, h7, X7, e7, W7, I7, st7⟩ := own_stI X6 hx hZ e6 I6 (by decide) (g := (mkF m 32 #[.val (.int p1), .val (.int p2), .val (.int p3), .val (.int p4), .unset, .unset, .unset, .unset] [(.int (57 : Int32)), (.int (5 : Int32)), (.ref b1), (.ref b1)])) rfl rfl (hb hby at_32)
  have N7 := Fr.snoc X7 N6 nb1
  have K7 : Keep h0 h7 [] := K6.wr W7 (Or.inr sb1)
  refine own_step st7 ?_
  show own_Go _ _ _ _ _ _ _ T7 (mkF m 33 #[.val (.int p1), .val (.int p2), .val (.int p3), .val (.int p4), .unset, .unset, .unset, .unset] [(.ref b1)])
  refine own_step (fun t k => XS.dup X7.here hx rfl (hb hby at_33) rfl rfl k) ?_
  show own_Go _ _ _ _ _ _ _ T7 (mkF m 34 #[.val (.int p1), .val (.int p2), .val (.int p3), .val (.int p4), .unset, .unset, .unset, .unset] [(.ref b1), (.ref b1)])
  refine own_step (fun t k => XS.bipush X7.here hx rfl (hb hby at_34) k) ?_
  show own_Go _ _ _ _ _ _ _ T7 (mkF m 36 #[.val (.int p1), .val (.int p2), .val (.int p3), .val (.int p4), .unset, .unset, .unset, .unset] [(.int (6 : Int32)), (.ref b1), (.ref b1)])
  refine own_step (fun t k => XS.bipush X7.here hx rfl (hb hby at_36) k) ?_
  show own_Go _ _ _ _ _ _ _ T7 (mkF m 38 #[.val (.int p1), .val (.int p2), .val (.int p3), .val (.int p4), .unset, .unset, .unset, .unset] [(.int (58 : Int32)), (.int (6 : Int32)), (.ref b1), (.ref b1)])
  obtain ⟨T8, h8, X8, e8, W8, I8, st8⟩ := own_stI X7 hx hZ e7 I7 (by decide) (g := (mkF m 38 #[.val (.int p1), .val (.int p2), .val (.int p3), .val (.int p4), .unset, .unset, .unset, .unset] [(.int (58 : Int32)), (.int (6 : Int32)), (.ref b1), (.ref b1)])) rfl rfl (hb hby at_38)
  have N8 := Fr.snoc X8 N7 nb1
  have K8 : Keep h0 h8 [] := K7.wr W8 (Or.inr sb1)
  refine own_step st8 ?_
  show own_Go _ _ _ _ _ _ _ T8 (mkF m 39 #[.val (.int p1), .val (.int p2), .val (.int p3), .val (.int p4), .unset, .unset, .unset, .unset] [(.ref b1)])
  refine own_step (fun t k => XS.dup X8.here hx rfl (hb hby at_39) rfl rfl k) ?_
  show own_Go _ _ _ _ _ _ _ T8 (mkF m 40 #[.val (.int p1), .val (.int p2), .val (.int p3), .val (.int p4), .unset, .unset, .unset, .unset] [(.ref b1), (.ref b1)])
  refine own_step (fun t k => XS.bipush X8.here hx rfl (hb hby at_40) k) ?_
  show own_Go _ _ _ _ _ _ _ T8 (mkF m 42 #[.val (.int p1), .val (.int p2), .val (.int p3), .val (.int p4), .unset, .unset, .unset, .unset] [(.int (7 : Int32)), (.ref b1), (.ref b1)])
  refine own_step (fun t k => XS.bipush X8.here hx rfl (hb hby at_42) k) ?_
  show own_Go _ _ _ _ _ _ _ T8 (mkF m 44 #[.val (.int p1), .val (.int p2), .val (.int p3), .val (.int p4), .unset, .unset, .unset, .unset] [(.int (65 : Int32)), (.int (7 : Int32)), (.ref b1), (.ref b1)])
  obtain ⟨T9, h9, X9, e9, W9, I9, st9⟩ := own_stI X8 hx hZ e8 I8 (by decide) (g := (mkF m 44 #[.val (.int p1), .val (.int p2), .val (.int p3), .val (.int p4), .unset, .unset, .unset, .unset] [(.int (65 : Int32)), (.int (7 : Int32)), (.ref b1), (.ref b1)])) rfl rfl (hb hby at_44)
  have N9 := Fr.snoc X9 N8 nb1
  have K9 : Keep h0 h9 [] := K8.wr W9 (Or.inr sb1)
  refine own_step st9 ?_
  show own_Go _ _ _ _ _ _ _ T9 (mkF m 45 #[.val (.int p1), .val (.int p2), .val (.int p3), .val (.int p4), .unset, .unset, .unset, .unset] [(.ref b1)])
  refine own_step (fun t k => XS.dup X9.here hx rfl (hb hby at_45) rfl rfl k) ?_
  show own_Go _ _ _ _ _ _ _ T9 (mkF m 46 #[.val (.int p1), .val (.int p2), .val (.int p3), .val (.int p4), .unset, .unset, .unset, .unset] [(.ref b1), (.ref b1)])
  refine own_step (fun t k => XS.bipush X9.here hx rfl (hb hby at_46) k) ?_
  show own_Go _ _ _ _ _ _ _ T9 (mkF m 48 #[.val (.int p1), .val (.int p2), .val (.int p3), .val (.int p4), .unset, .unset, .unset, .unset] [(.int (8 : Int32)), (.ref b1), (.ref b1)])
  refine own_step (fun t k => XS.bipush X9.here hx rfl (hb hby at_48) k) ?_
  show own_Go _ _ _ _ _ _ _ T9 (mkF m 50 #[.val (.int p1), .val (.int p2), .val (.int p3), .val (.int p4), .unset, .unset, .unset, .unset] [(.int (90 : Int32)), (.int (8 : Int32)), (.ref b1), (.ref b1)])
  obtain ⟨T10, h10, X10, e10, W10, I10, st10⟩ := own_stI X9 hx hZ e9 I9 (by decide) (g := (mkF m 50 #[.val (.int p1), .val (.int p2), .val (.int p3), .val (.int p4), .unset, .unset, .unset, .unset] [(.int (90 : Int32)), (.int (8 : Int32)), (.ref b1), (.ref b1)])) rfl rfl (hb hby at_50)
  have N10 := Fr.snoc X10 N9 nb1
  have K10 : Keep h0 h10 [] := K9.wr W10 (Or.inr sb1)
  refine own_step st10 ?_
  show own_Go _ _ _ _ _ _ _ T10 (mkF m 51 #[.val (.int p1), .val (.int p2), .val (.int p3), .val (.int p4), .unset, .unset, .unset, .unset] [(.ref b1)])
  refine own_step (fun t k => XS.dup X10.here hx rfl (hb hby at_51) rfl rfl k) ?_
  show own_Go _ _ _ _ _ _ _ T10 (mkF m 52 #[.val (.int p1), .val (.int p2), .val (.int p3), .val (.int p4), .unset, .unset, .unset, .unset] [(.ref b1), (.ref b1)])
  refine own_step (fun t k => XS.bipush X10.here hx rfl (hb hby at_52) k) ?_
  show own_Go _ _ _ _ _ _ _ T10 (mkF m 54 #[.val (.int p1), .val (.int p2), .val (.int p3), .val (.int p4), .unset, .unset, .unset, .unset] [(.int (9 : Int32)), (.ref b1), (.ref b1)])
  refine own_step (fun t k => XS.bipush X10.here hx rfl (hb hby at_54) k) ?_
  show own_Go _ _ _ _ _ _ _ T10 (mkF m 56 #[.val (.int p1), .val (.int p2), .val (.int p3), .val (.int p4), .unset, .unset, .unset, .unset] [(.int (95 : Int32)), (.int (9 : Int32)), (.ref b1), (.ref b1)])
  obtain ⟨T11, h11, X11, e11, W11, I11, st11⟩ := own_stI X10 hx hZ e10 I10 (by decide) (g := (mkF m 56 #[.val (.int p1), .val (.int p2), .val (.int p3), .val (.int p4), .unset, .unset, .unset, .unset] [(.int (95 : Int32)), (.int (9 : Int32)), (.ref b1), (.ref b1)])) rfl rfl (hb hby at_56)
  have N11 := Fr.snoc X11 N10 nb1
  have K11 : Keep h0 h11 [] := K10.wr W11 (Or.inr sb1)
  refine own_step st11 ?_
  show own_Go _ _ _ _ _ _ _ T11 (mkF m 57 #[.val (.int p1), .val (.int p2), .val (.int p3), .val (.int p4), .unset, .unset, .unset, .unset] [(.ref b1)])
  refine own_step (fun t k => XS.dup X11.here hx rfl (hb hby at_57) rfl rfl k) ?_
  show own_Go _ _ _ _ _ _ _ T11 (mkF m 58 #[.val (.int p1), .val (.int p2), .val (.int p3), .val (.int p4), .unset, .unset, .unset, .unset] [(.ref b1), (.ref b1)])
  refine own_step (fun t k => XS.bipush X11.here hx rfl (hb hby at_58) k) ?_
  show own_Go _ _ _ _ _ _ _ T11 (mkF m 60 #[.val (.int p1), .val (.int p2), .val (.int p3), .val (.int p4), .unset, .unset, .unset, .unset] [(.int (10 : Int32)), (.ref b1), (.ref b1)])
  refine own_step (fun t k => XS.bipush X11.here hx rfl (hb hby at_60) k) ?_
  show own_Go _ _ _ _ _ _ _ T11 (mkF m 62 #[.val (.int p1), .val (.int p2), .val (.int p3), .val (.int p4), .unset, .unset, .unset, .unset] [(.int (97 : Int32)), (.int (10 : Int32)), (.ref b1), (.ref b1)])
  obtain ⟨T12, h12, X12, e12, W12, I12, st12⟩ := own_stI X11 hx hZ e11 I11 (by decide) (g := (mkF m 62 #[.val (.int p1), .val (.int p2), .val (.int p3), .val (.int p4), .unset, .unset, .unset, .unset] [(.int (97 : Int32)), (.int (10 : Int32)), (.ref b1), (.ref b1)])) rfl rfl (hb hby at_62)
  have N12 := Fr.snoc X12 N11 nb1
  have K12 : Keep h0 h12 [] := K11.wr W12 (Or.inr sb1)
  refine own_step st12 ?_
  show own_Go _ _ _ _ _ _ _ T12 (mkF m 63 #[.val (.int p1), .val (.int p2), .val (.int p3), .val (.int p4), .unset, .unset, .unset, .unset] [(.ref b1)])
  refine own_step (fun t k => XS.dup X12.here hx rfl (hb hby at_63) rfl rfl k) ?_
  show own_Go _ _ _ _ _ _ _ T12 (mkF m 64 #[.val (.int p1), .val (.int p2), .val (.int p3), .val (.int p4), .unset, .unset, .unset, .unset] [(.ref b1), (.ref b1)])
  refine own_step (fun t k => XS.bipush X12.here hx rfl (hb hby at_64) k) ?_
  show own_Go _ _ _ _ _ _ _ T12 (mkF m 66 #[.val (.int p1), .val (.int p2), .val (.int p3), .val (.int p4), .unset, .unset, .unset, .unset] [(.int (11 : Int32)), (.ref b1), (.ref b1)])
  refine own_step (fun t k => XS.bipush X12.here hx rfl (hb hby at_66) k) ?_
  show own_Go _ _ _ _ _ _ _ T12 (mkF m 68 #[.val (.int p1), .val (.int p2), .val (.int p3), .val (.int p4), .unset, .unset, .unset, .unset] [(.int (122 : Int32)), (.int (11 : Int32)), (.ref b1), (.ref b1)])
  obtain ⟨T13, h13, X13, e13, W13, I13, st13⟩ := own_stI X12 hx hZ e12 I12 (by decide) (g := (mkF m 68 #[.val (.int p1), .val (.int p2), .val (.int p3), .val (.int p4), .unset, .unset, .unset, .unset] [(.int (122 : Int32)), (.int (11 : Int32)), (.ref b1), (.ref b1)])) rfl rfl (hb hby at_68)
  have N13 := Fr.snoc X13 N12 nb1
  have K13 : Keep h0 h13 [] := K12.wr W13 (Or.inr sb1)
  refine own_step st13 ?_
  show own_Go _ _ _ _ _ _ _ T13 (mkF m 69 #[.val (.int p1), .val (.int p2), .val (.int p3), .val (.int p4), .unset, .unset, .unset, .unset] [(.ref b1)])
  refine own_step (fun t k => XS.dup X13.here hx rfl (hb hby at_69) rfl rfl k) ?_
  show own_Go _ _ _ _ _ _ _ T13 (mkF m 70 #[.val (.int p1), .val (.int p2), .val (.int p3), .val (.int p4), .unset, .unset, .unset, .unset] [(.ref b1), (.ref b1)])
  refine own_step (fun t k => XS.bipush X13.here hx rfl (hb hby at_70) k) ?_
  show own_Go _ _ _ _ _ _ _ T13 (mkF m 72 #[.val (.int p1), .val (.int p2), .val (.int p3), .val (.int p4), .unset, .unset, .unset, .unset] [(.int (12 : Int32)), (.ref b1), (.ref b1)])
  refine own_step (fun t k => XS.bipush X13.here hx rfl (hb hby at_72) k) ?_
  show own_Go _ _ _ _ _ _ _ T13 (mkF m 74 #[.val (.int p1), .val (.int p2), .val (.int p3), .val (.int p4), .unset, .unset, .unset, .unset] [(.int (127 : Int32)), (.int (12 : Int32)), (.ref b1), (.ref b1)])
  obtain ⟨T14, h14, X14, e14, W14, I14, st14⟩ := own_stI X13 hx hZ e13 I13 (by decide) (g := (mkF m 74 #[.val (.int p1), .val (.int p2), .val (.int p3), .val (.int p4), .unset, .unset, .unset, .unset] [(.int (127 : Int32)), (.int (12 : Int32)), (.ref b1), (.ref b1)])) rfl rfl (hb hby at_74)
  have N14 := Fr.snoc X14 N13 nb1
  have K14 : Keep h0 h14 [] := K13.wr W14 (Or.inr sb1)
  refine own_step st14 ?_
  show own_Go _ _ _ _ _ _ _ T14 (mkF m 75 #[.val (.int p1), .val (.int p2), .val (.int p3), .val (.int p4), .unset, .unset, .unset, .unset] [(.ref b1)])
  refine own_step (fun t k => XS.dup X14.here hx rfl (hb hby at_75) rfl rfl k) ?_
  show own_Go _ _ _ _ _ _ _ T14 (mkF m 76 #[.val (.int p1), .val (.int p2), .val (.int p3), .val (.int p4), .unset, .unset, .unset, .unset] [(.ref b1), (.ref b1)])
  refine own_step (fun t k => XS.bipush X14.here hx rfl (hb hby at_76) k) ?_
  show own_Go _ _ _ _ _ _ _ T14 (mkF m 78 #[.val (.int p1), .val (.int p2), .val (.int p3), .val (.int p4), .unset, .unset, .unset, .unset] [(.int (13 : Int32)), (.ref b1), (.ref b1)])
  refine own_step (fun t k => XS.sipush X14.here hx rfl (hb hby at_78) k) ?_
  show own_Go _ _ _ _ _ _ _ T14 (mkF m 81 #[.val (.int p1), .val (.int p2), .val (.int p3), .val (.int p4), .unset, .unset, .unset, .unset] [(.int (128 : Int32)), (.int (13 : Int32)), (.ref b1), (.ref b1)])
  obtain ⟨T15, h15, X15, e15, W15, I15, st15⟩ := own_stI X14 hx hZ e14 I14 (by decide) (g := (mkF m 81 #[.val (.int p1), .val (.int p2), .val (.int p3), .val (.int p4), .unset, .unset, .unset, .unset] [(.int (128 : Int32)), (.int (13 : Int32)), (.ref b1), (.ref b1)])) rfl rfl (hb hby at_81)
  have N15 := Fr.snoc X15 N14 nb1
  have K15 : Keep h0 h15 [] := K14.wr W15 (Or.inr sb1)
  refine own_step st15 ?_
  show own_Go _ _ _ _ _ _ _ T15 (mkF m 82 #[.val (.int p1), .val (.int p2), .val (.int p3), .val (.int p4), .unset, .unset, .unset, .unset] [(.ref b1)])
  refine own_step (fun t k => XS.dup X15.here hx rfl (hb hby at_82) rfl rfl k) ?_
  show own_Go _ _ _ _ _ _ _ T15 (mkF m 83 #[.val (.int p1), .val (.int p2), .val (.int p3), .val (.int p4), .unset, .unset, .unset, .unset] [(.ref b1), (.ref b1)])
  refine own_step (fun t k => XS.bipush X15.here hx rfl (hb hby at_83) k) ?_
  show own_Go _ _ _ _ _ _ _ T15 (mkF m 85 #[.val (.int p1), .val (.int p2), .val (.int p3), .val (.int p4), .unset, .unset, .unset, .unset] [(.int (14 : Int32)), (.ref b1), (.ref b1)])
  refine own_step (fun t k => XS.sipush X15.here hx rfl (hb hby at_85) k) ?_
  show own_Go _ _ _ _ _ _ _ T15 (mkF m 88 #[.val (.int p1), .val (.int p2), .val (.int p3), .val (.int p4), .unset, .unset, .unset, .unset] [(.int (183 : Int32)), (.int (14 : Int32)), (.ref b1), (.ref b1)])
  obtain ⟨T16, h16, X16, e16, W16, I16, st16⟩ := own_stI X15 hx hZ e15 I15 (by decide) (g := (mkF m 88 #[.val (.int p1), .val (.int p2), .val (.int p3), .val (.int p4), .unset, .unset, .unset, .unset] [(.int (183 : Int32)), (.int (14 : Int32)), (.ref b1), (.ref b1)])) rfl rfl (hb hby at_88)
  have N16 := Fr.snoc X16 N15 nb1
  have K16 : Keep h0 h16 [] := K15.wr W16 (Or.inr sb1)
  refine own_step st16 ?_
  show own_Go _ _ _ _ _ _ _ T16 (mkF m 89 #[.val (.int p1), .val (.int p2), .val (.int p3), .val (.int p4), .unset, .unset, .unset, .unset] [(.ref b1)])
  refine own_step (fun t k => XS.dup X16.here hx rfl (hb hby at_89) rfl rfl k) ?_
  show own_Go _ _ _ _ _ _ _ T16 (mkF m 90 #[.val (.int p1), .val (.int p2), .val (.int p3), .val (.int p4), .unset, .unset, .unset, .unset] [(.ref b1), (.ref b1)])
  refine own_step (fun t k => XS.bipush X16.here hx rfl (hb hby at_90) k) ?_
  show own_Go _ _ _ _ _ _ _ T16 (mkF m 92 #[.val (.int p1), .val (.int p2), .val (.int p3), .val (.int p4), .unset, .unset, .unset, .unset] [(.int (15 : Int32)), (.ref b1), (.ref b1)])
  refine own_step (fun t k => XS.sipush X16.here hx rfl (hb hby at_92) k) ?_
  show own_Go _ _ _ _ _ _ _ T16 (mkF m 95 #[.val (.int p1), .val (.int p2), .val (.int p3), .val (.int p4), .unset, .unset, .unset, .unset] [(.int (192 : Int32)), (.int (15 : Int32)), (.ref b1), (.ref b1)])
  obtain ⟨T17, h17, X17, e17, W17, I17, st17⟩ := own_stI X16 hx hZ e16 I16 (by decide) (g := (mkF m 95 #[.val (.int p1), .val (.int p2), .val (.int p3), .val (.int p4), .unset, .unset, .unset, .unset] [(.int (192 : Int32)), (.int (15 : Int32)), (.ref b1), (.ref b1)])) rfl rfl (hb hby at_95)
  have N17 := Fr.snoc X17 N16 nb1
  have K17 : Keep h0 h17 [] := K16.wr W17 (Or.inr sb1)
  refine own_step st17 ?_
  show own_Go _ _ _ _ _ _ _ T17 (mkF m 96 #[.val (.int p1), .val (.int p2), .val (.int p3), .val (.int p4), .unset, .unset, .unset, .unset] [(.ref b1)])
  refine own_step (fun t k => XS.dup X17.here hx rfl (hb hby at_96) rfl rfl k) ?_
  show own_Go _ _ _ _ _ _ _ T17 (mkF m 97 #[.val (.int p1), .val (.int p2), .val (.int p3), .val (.int p4), .unset, .unset, .unset, .unset] [(.ref b1), (.ref b1)])
  refine own_step (fun t k => XS.bipush X17.here hx rfl (hb hby at_97) k) ?_
  show own_Go _ _ _ _ _ _ _ T17 (mkF m 99 #[.val (.int p1), .val (.int p2), .val (.int p3), .val (.int p4), .unset, .unset, .unset, .unset] [(.int (16 : Int32)), (.ref b1), (.ref b1)])
  refine own_step (fun t k => XS.sipush X17.here hx rfl (hb hby at_99) k) ?_
  show own_Go _ _ _ _ _ _ _ T17 (mkF m 102 #[.val (.int p1), .val (.int p2), .val (.int p3), .val (.int p4), .unset, .unset, .unset, .unset] [(.int (215 : Int32)), (.int (16 : Int32)), (.ref b1), (.ref b1)])
  obtain ⟨T18, h18, X18, e18, W18, I18, st18⟩ := own_stI X17 hx hZ e17 I17 (by decide) (g := (mkF m 102 #[.val (.int p1), .val (.int p2), .val (.int p3), .val (.int p4), .unset, .unset, .unset, .unset] [(.int (215 : Int32)), (.int (16 : Int32)), (.ref b1), (.ref b1)])) rfl rfl (hb hby at_102)
  have N18 := Fr.snoc X18 N17 nb1
  have K18 : Keep h0 h18 [] := K17.wr W18 (Or.inr sb1)
  refine own_step st18 ?_
  show own_Go _ _ _ _ _ _ _ T18 (mkF m 103 #[.val (.int p1), .val (.int p2), .val (.int p3), .val (.int p4), .unset, .unset, .unset, .unset] [(.ref b1)])
  refine own_step (fun t k => XS.dup X18.here hx rfl (hb hby at_103) rfl rfl k) ?_
  show own_Go _ _ _ _ _ _ _ T18 (mkF m 104 #[.val (.int p1), .val (.int p2), .val (.int p3), .val (.int p4), .unset, .unset, .unset, .unset] [(.ref b1), (.ref b1)])
  refine own_step (fun t k => XS.bipush X18.here hx rfl (hb hby at_104) k) ?_
  show own_Go _ _ _ _ _ _ _ T18 (mkF m 106 #[.val (.int p1), .val (.int p2), .val (.int p3), .val (.int p4), .unset, .unset, .unset, .unset] [(.int (17 : Int32)), (.ref b1), (.ref b1)])
  refine own_step (fun t k => XS.sipush X18.here hx rfl (hb hby at_106) k) ?_
  show own_Go _ _ _ _ _ _ _ T18 (mkF m 109 #[.val (.int p1), .val (.int p2), .val (.int p3), .val (.int p4), .unset, .unset, .unset, .unset] [(.int (247 : Int32)), (.int (17 : Int32)), (.ref b1), (.ref b1)])
  obtain ⟨T19, h19, X19, e19, W19, I19, st19⟩ := own_stI X18 hx hZ e18 I18 (by decide) (g := (mkF m 109 #[.val (.int p1), .val (.int p2), .val (.int p3), .val (.int p4), .unset, .unset, .unset, .unset] [(.int (247 : Int32)), (.int (17 : Int32)), (.ref b1), (.ref b1)])) rfl rfl (hb hby at_109)
  have N19 := Fr.snoc X19 N18 nb1
  have K19 : Keep h0 h19 [] := K18.wr W19 (Or.inr sb1)
  refine own_step st19 ?_
  show own_Go _ _ _ _ _ _ _ T19 (mkF m 110 #[.val (.int p1), .val (.int p2), .val (.int p3), .val (.int p4), .unset, .unset, .unset, .unset] [(.ref b1)])
  refine own_step (fun t k => XS.dup X19.here hx rfl (hb hby at_110) rfl rfl k) ?_
  show own_Go _ _ _ _ _ _ _ T19 (mkF m 111 #[.val (.int p1), .val (.int p2), .val (.int p3), .val (.int p4), .unset, .unset, .unset, .unset] [(.ref b1), (.ref b1)])
  refine own_step (fun t k => XS.bipush X19.here hx rfl (hb hby at_111) k) ?_
  show own_Go _ _ _ _ _ _ _ T19 (mkF m 113 #[.val (.int p1), .val (.int p2), .val (.int p3), .val (.int p4), .unset, .unset, .unset, .unset] [(.int (18 : Int32)), (.ref b1), (.ref b1)])
  refine own_step (fun t k => XS.sipush X19.here hx rfl (hb hby at_113) k) ?_
  show own_Go _ _ _ _ _ _ _ T19 (mkF m 116 #[.val (.int p1), .val (.int p2), .val (.int p3), .val (.int p4), .unset, .unset, .unset, .unset] [(.int (767 : Int32)), (.int (18 : Int32)), (.ref b1), (.ref b1)])
  obtain ⟨T20, h20, X20, e20, W20, I20, st20⟩ := own_stI X19 hx hZ e19 I19 (by decide) (g := (mkF m 116 #[.val (.int p1), .val (.int p2), .val (.int p3), .val (.int p4), .unset, .unset, .unset, .unset] [(.int (767 : Int32)), (.int (18 : Int32)), (.ref b1), (.ref b1)])) rfl rfl (hb hby at_116)
  have N20 := Fr.snoc X20 N19 nb1
  have K20 : Keep h0 h20 [] := K19.wr W20 (Or.inr sb1)
  refine own_step st20 ?_
  show own_Go _ _ _ _ _ _ _ T20 (mkF m 117 #[.val (.int p1), .val (.int p2), .val (.int p3), .val (.int p4), .unset, .unset, .unset, .unset] [(.ref b1)])
  refine own_step (fun t k => XS.dup X20.here hx rfl (hb hby at_117) rfl rfl k) ?_
  show own_Go _ _ _ _ _ _ _ T20 (mkF m 118 #[.val (.int p1), .val (.int p2), .val (.int p3), .val (.int p4), .unset, .unset, .unset, .unset] [(.ref b1), (.ref b1)])
  refine own_step (fun t k => XS.bipush X20.here hx rfl (hb hby at_118) k) ?_
  show own_Go _ _ _ _ _ _ _ T20 (mkF m 120 #[.val (.int p1), .val (.int p2), .val (.int p3), .val (.int p4), .unset, .unset, .unset, .unset] [(.int (19 : Int32)), (.ref b1), (.ref b1)])
  refine own_step (fun t k => XS.sipush X20.here hx rfl (hb hby at_120) k) ?_
  show own_Go _ _ _ _ _ _ _ T20 (mkF m 123 #[.val (.int p1), .val (.int p2), .val (.int p3), .val (.int p4), .unset, .unset, .unset, .unset] [(.int (879 : Int32)), (.int (19 : Int32)), (.ref b1), (.ref b1)])
  obtain ⟨T21, h21, X21, e21, W21, I21, st21⟩ := own_stI X20 hx hZ e20 I20 (by decide) (g := (mkF m 123 #[.val (.int p1), .val (.int p2), .val (.int p3), .val (.int p4), .unset, .unset, .unset, .unset] [(.int (879 : Int32)), (.int (19 : Int32)), (.ref b1), (.ref b1)])) rfl rfl (hb hby at_123)
  have N21 := Fr.snoc X21 N20 nb1
  have K21 : Keep h0 h21 [] := K20.wr W21 (Or.inr sb1)
  refine own_step st21 ?_
  show own_Go _ _ _ _ _ _ _ T21 (mkF m 124 #[.val (.int p1), .val (.int p2), .val (.int p3), .val (.int p4), .unset, .unset, .unset, .unset] [(.ref b1)])
  refine own_step (fun t k => XS.dup X21.here hx rfl (hb hby at_124) rfl rfl k) ?_
  show own_Go _ _ _ _ _ _ _ T21 (mkF m 125 #[.val (.int p1), .val (.int p2), .val (.int p3), .val (.int p4), .unset, .unset, .unset, .unset] [(.ref b1), (.ref b1)])
  refine own_step (fun t k => XS.bipush X21.here hx rfl (hb hby at_125) k) ?_
  show own_Go _ _ _ _ _ _ _ T21 (mkF m 127 #[.val (.int p1), .val (.int p2), .val (.int p3), .val (.int p4), .unset, .unset, .unset, .unset] [(.int (20 : Int32)), (.ref b1), (.ref b1)])
  refine own_step (fun t k => XS.sipush X21.here hx rfl (hb hby at_127) k) ?_
  show own_Go _ _ _ _ _ _ _ T21 (mkF m 130 #[.val (.int p1), .val (.int p2), .val (.int p3), .val (.int p4), .unset, .unset, .unset, .unset] [(.int (880 : Int32)), (.int (20 : Int32)), (.ref b1), (.ref b1)])
  obtain ⟨T22, h22, X22, e22, W22, I22, st22⟩ := own_stI X21 hx hZ e21 I21 (by decide) (g := (mkF m 130 #[.val (.int p1), .val (.int p2), .val (.int p3), .val (.int p4), .unset, .unset, .unset, .unset] [(.int (880 : Int32)), (.int (20 : Int32)), (.ref b1), (.ref b1)])) rfl rfl (hb hby at_130)
  have N22 := Fr.snoc X22 N21 nb1
  have K22 : Keep h0 h22 [] := K21.wr W22 (Or.inr sb1)
  refine own_step st22 ?_
  show own_Go _ _ _ _ _ _ _ T22 (mkF m 131 #[.val (.int p1), .val (.int p2), .val (.int p3), .val (.int p4), .unset, .unset, .unset, .unset] [(.ref b1)])
  refine own_step (fun t k => XS.dup X22.here hx rfl (hb hby at_131) rfl rfl k) ?_
  show own_Go _ _ _ _ _ _ _ T22 (mkF m 132 #[.val (.int p1), .val (.int p2), .val (.int p3), .val (.int p4), .unset, .unset, .unset, .unset] [(.ref b1), (.ref b1)])
  refine own_step (fun t k => XS.bipush X22.here hx rfl (hb hby at_132) k) ?_
  show own_Go _ _ _ _ _ _ _ T22 (mkF m 134 #[.val (.int p1), .val (.int p2), .val (.int p3), .val (.int p4), .unset, .unset, .unset, .unset] [(.int (21 : Int32)), (.ref b1), (.ref b1)])
  refine own_step (fun t k => XS.sipush X22.here hx rfl (hb hby at_134) k) ?_
  show own_Go _ _ _ _ _ _ _ T22 (mkF m 137 #[.val (.int p1), .val (.int p2), .val (.int p3), .val (.int p4), .unset, .unset, .unset, .unset] [(.int (894 : Int32)), (.int (21 : Int32)), (.ref b1), (.ref b1)])
  obtain ⟨T23, h23, X23, e23, W23, I23, st23⟩ := own_stI X22 hx hZ e22 I22 (by decide) (g := (mkF m 137 #[.val (.int p1), .val (.int p2), .val (.int p3), .val (.int p4), .unset, .unset, .unset, .unset] [(.int (894 : Int32)), (.int (21 : Int32)), (.ref b1), (.ref b1)])) rfl rfl (hb hby at_137)
  have N23 := Fr.snoc X23 N22 nb1
  have K23 : Keep h0 h23 [] := K22.wr W23 (Or.inr sb1)
  refine own_step st23 ?_
  show own_Go _ _ _ _ _ _ _ T23 (mkF m 138 #[.val (.int p1), .val (.int p2), .val (.int p3), .val (.int p4), .unset, .unset, .unset, .unset] [(.ref b1)])
  refine own_step (fun t k => XS.dup X23.here hx rfl (hb hby at_138) rfl rfl k) ?_
  show own_Go _ _ _ _ _ _ _ T23 (mkF m 139 #[.val (.int p1), .val (.int p2), .val (.int p3), .val (.int p4), .unset, .unset, .unset, .unset] [(.ref b1), (.ref b1)])
  refine own_step (fun t k => XS.bipush X23.here hx rfl (hb hby at_139) k) ?_
  show own_Go _ _ _ _ _ _ _ T23 (mkF m 141 #[.val (.int p1), .val (.int p2), .val (.int p3), .val (.int p4), .unset, .unset, .unset, .unset] [(.int (22 : Int32)), (.ref b1), (.ref b1)])
  refine own_step (fun t k => XS.sipush X23.here hx rfl (hb hby at_141) k) ?_
  show own_Go _ _ _ _ _ _ _ T23 (mkF m 144 #[.val (.int p1), .val (.int p2), .val (.int p3), .val (.int p4), .unset, .unset, .unset, .unset] [(.int (8191 : Int32)), (.int (22 : Int32)), (.ref b1), (.ref b1)])
  obtain ⟨T24, h24, X24, e24, W24, I24, st24⟩ := own_stI X23 hx hZ e23 I23 (by decide) (g := (mkF m 144 #[.val (.int p1), .val (.int p2), .val (.int p3), .val (.int p4), .unset, .unset, .unset, .unset] [(.int (8191 : Int32)), (.int (22 : Int32)), (.ref b1), (.ref b1)])) rfl rfl (hb hby at_144)
  have N24 := Fr.snoc X24 N23 nb1
  have K24 : Keep h0 h24 [] := K23.wr W24 (Or.inr sb1)
  refine own_step st24 ?_
  show own_Go _ _ _ _ _ _ _ T24 (mkF m 145 #[.val (.int p1), .val (.int p2), .val (.int p3), .val (.int p4), .unset, .unset, .unset, .unset] [(.ref b1)])
  refine own_step (fun t k => XS.dup X24.here hx rfl (hb hby at_145) rfl rfl k) ?_
  show own_Go _ _ _ _ _ _ _ T24 (mkF m 146 #[.val (.int p1), .val (.int p2), .val (.int p3), .val (.int p4), .unset, .unset, .unset, .unset] [(.ref b1), (.ref b1)])
  refine own_step (fun t k => XS.bipush X24.here hx rfl (hb hby at_146) k) ?_
  show own_Go _ _ _ _ _ _ _ T24 (mkF m 148 #[.val (.int p1), .val (.int p2), .val (.int p3), .val (.int p4), .unset, .unset, .unset, .unset] [(.int (23 : Int32)), (.ref b1), (.ref b1)])
  refine own_step (fun t k => XS.sipush X24.here hx rfl (hb hby at_148) k) ?_
  show own_Go _ _ _ _ _ _ _ T24 (mkF m 151 #[.val (.int p1), .val (.int p2), .val (.int p3), .val (.int p4), .unset, .unset, .unset, .unset] [(.int (8204 : Int32)), (.int (23 : Int32)), (.ref b1), (.ref b1)])
  obtain ⟨T25, h25, X25, e25, W25, I25, st25⟩ := own_stI X24 hx hZ e24 I24 (by decide) (g := (mkF m 151 #[.val (.int p1), .val (.int p2), .val (.int p3), .val (.int p4), .unset, .unset, .unset, .unset] [(.int (8204 : Int32)), (.int (23 : Int32)), (.ref b1), (.ref b1)])) rfl rfl (hb hby at_151)
  have N25 := Fr.snoc X25 N24 nb1
  have K25 : Keep h0 h25 [] := K24.wr W25 (Or.inr sb1)
  refine own_step st25 ?_
  show own_Go _ _ _ _ _ _ _ T25 (mkF m 152 #[.val (.int p1), .val (.int p2), .val (.int p3), .val (.int p4), .unset, .unset, .unset, .unset] [(.ref b1)])
  refine own_step (fun t k => XS.dup X25.here hx rfl (hb hby at_152) rfl rfl k) ?_
  show own_Go _ _ _ _ _ _ _ T25 (mkF m 153 #[.val (.int p1), .val (.int p2), .val (.int p3), .val (.int p4), .unset, .unset, .unset, .unset] [(.ref b1), (.ref b1)])
  refine own_step (fun t k => XS.bipush X25.here hx rfl (hb hby at_153) k) ?_
  show own_Go _ _ _ _ _ _ _ T25 (mkF m 155 #[.val (.int p1), .val (.int p2), .val (.int p3), .val (.int p4), .unset, .unset, .unset, .unset] [(.int (24 : Int32)), (.ref b1), (.ref b1)])
  refine own_step (fun t k => XS.sipush X25.here hx rfl (hb hby at_155) k) ?_
  show own_Go _ _ _ _ _ _ _ T25 (mkF m 158 #[.val (.int p1), .val (.int p2), .val (.int p3), .val (.int p4), .unset, .unset, .unset, .unset] [(.int (8205 : Int32)), (.int (24 : Int32)), (.ref b1), (.ref b1)])
  obtain ⟨T26, h26, X26, e26, W26, I26, st26⟩ := own_stI X25 hx hZ e25 I25 (by decide) (g := (mkF m 158 #[.val (.int p1), .val (.int p2), .val (.int p3), .val (.int p4), .unset, .unset, .unset, .unset] [(.int (8205 : Int32)), (.int (24 : Int32)), (.ref b1), (.ref b1)])) rfl rfl (hb hby at_158)
  have N26 := Fr.snoc X26 N25 nb1
  have K26 : Keep h0 h26 [] := K25.wr W26 (Or.inr sb1)
  refine own_step st26 ?_
  show own_Go _ _ _ _ _ _ _ T26 (mkF m 159 #[.val (.int p1), .val (.int p2), .val (.int p3), .val (.int p4), .unset, .unset, .unset, .unset] [(.ref b1)])
  refine own_step (fun t k => XS.dup X26.here hx rfl (hb hby at_159) rfl rfl k) ?_
  show own_Go _ _ _ _ _ _ _ T26 (mkF m 160 #[.val (.int p1), .val (.int p2), .val (.int p3), .val (.int p4), .unset, .unset, .unset, .unset] [(.ref b1), (.ref b1)])
  refine own_step (fun t k => XS.bipush X26.here hx rfl (hb hby at_160) k) ?_
  show own_Go _ _ _ _ _ _ _ T26 (mkF m 162 #[.val (.int p1), .val (.int p2), .val (.int p3), .val (.int p4), .unset, .unset, .unset, .unset] [(.int (25 : Int32)), (.ref b1), (.ref b1)])
  refine own_step (fun t k => XS.sipush X26.here hx rfl (hb hby at_162) k) ?_
  show own_Go _ _ _ _ _ _ _ T26 (mkF m 165 #[.val (.int p1), .val (.int p2), .val (.int p3), .val (.int p4), .unset, .unset, .unset, .unset] [(.int (8255 : Int32)), (.int (25 : Int32)), (.ref b1), (.ref b1)])
  obtain ⟨T27, h27, X27, e27, W27, I27, st27⟩ := own_stI X26 hx hZ e26 I26 (by decide) (g := (mkF m 165 #[.val (.int p1), .val (.int p2), .val (.int p3), .val (.int p4), .unset, .unset, .unset, .unset] [(.int (8255 : Int32)), (.int (25 : Int32)), (.ref b1), (.ref b1)])) rfl rfl (hb hby at_165)
  have N27 := Fr.snoc X27 N26 nb1
  have K27 : Keep h0 h27 [] := K26.wr W27 (Or.inr sb1)
  refine own_step st27 ?_
  show own_Go _ _ _ _ _ _ _ T27 (mkF m 166 #[.val (.int p1), .val (.int p2), .val (.int p3), .val (.int p4), .unset, .unset, .unset, .unset] [(.ref b1)])
  refine own_step (fun t k => XS.dup X27.here hx rfl (hb hby at_166) rfl rfl k) ?_
  show own_Go _ _ _ _ _ _ _ T27 (mkF m 167 #[.val (.int p1), .val (.int p2), .val (.int p3), .val (.int p4), .unset, .unset, .unset, .unset] [(.ref b1), (.ref b1)])
  refine own_step (fun t k => XS.bipush X27.here hx rfl (hb hby at_167) k) ?_
  show own_Go _ _ _ _ _ _ _ T27 (mkF m 169 #[.val (.int p1), .val (.int p2), .val (.int p3), .val (.int p4), .unset, .unset, .unset, .unset] [(.int (26 : Int32)), (.ref b1), (.ref b1)])
  refine own_step (fun t k => XS.sipush X27.here hx rfl (hb hby at_169) k) ?_
  show own_Go _ _ _ _ _ _ _ T27 (mkF m 172 #[.val (.int p1), .val (.int p2), .val (.int p3), .val (.int p4), .unset, .unset, .unset, .unset] [(.int (8304 : Int32)), (.int (26 : Int32)), (.ref b1), (.ref b1)])
  obtain ⟨T28, h28, X28, e28, W28, I28, st28⟩ := own_stI X27 hx hZ e27 I27 (by decide) (g := (mkF m 172 #[.val (.int p1), .val (.int p2), .val (.int p3), .val (.int p4), .unset, .unset, .unset, .unset] [(.int (8304 : Int32)), (.int (26 : Int32)), (.ref b1), (.ref b1)])) rfl rfl (hb hby at_172)
  have N28 := Fr.snoc X28 N27 nb1
  have K28 : Keep h0 h28 [] := K27.wr W28 (Or.inr sb1)
  refine own_step st28 ?_
  show own_Go _ _ _ _ _ _ _ T28 (mkF m 173 #[.val (.int p1), .val (.int p2), .val (.int p3), .val (.int p4), .unset, .unset, .unset, .unset] [(.ref b1)])
  refine own_step (fun t k => XS.dup X28.here hx rfl (hb hby at_173) rfl rfl k) ?_
  show own_Go _ _ _ _ _ _ _ T28 (mkF m 174 #[.val (.int p1), .val (.int p2), .val (.int p3), .val (.int p4), .unset, .unset, .unset, .unset] [(.ref b1), (.ref b1)])
  refine own_step (fun t k => XS.bipush X28.here hx rfl (hb hby at_174) k) ?_
  show own_Go _ _ _ _ _ _ _ T28 (mkF m 176 #[.val (.int p1), .val (.int p2), .val (.int p3), .val (.int p4), .unset, .unset, .unset, .unset] [(.int (27 : Int32)), (.ref b1), (.ref b1)])
  refine own_step (fun t k => XS.sipush X28.here hx rfl (hb hby at_176) k) ?_
  show own_Go _ _ _ _ _ _ _ T28 (mkF m 179 #[.val (.int p1), .val (.int p2), .val (.int p3), .val (.int p4), .unset, .unset, .unset, .unset] [(.int (8591 : Int32)), (.int (27 : Int32)), (.ref b1), (.ref b1)])
  obtain ⟨T29, h29, X29, e29, W29, I29, st29⟩ := own_stI X28 hx hZ e28 I28 (by decide) (g := (mkF m 179 #[.val (.int p1), .val (.int p2), .val (.int p3), .val (.int p4), .unset, .unset, .unset, .unset] [(.int (8591 : Int32)), (.int (27 : Int32)), (.ref b1), (.ref b1)])) rfl rfl (hb hby at_179)
  have N29 := Fr.snoc X29 N28 nb1
  have K29 : Keep h0 h29 [] := K28.wr W29 (Or.inr sb1)
  refine own_step st29 ?_
  show own_Go _ _ _ _ _ _ _ T29 (mkF m 180 #[.val (.int p1), .val (.int p2), .val (.int p3), .val (.int p4), .unset, .unset, .unset, .unset] [(.ref b1)])
  refine own_step (fun t k => XS.dup X29.here hx rfl (hb hby at_180) rfl rfl k) ?_
  show own_Go _ _ _ _ _ _ _ T29 (mkF m 181 #[.val (.int p1), .val (.int p2), .val (.int p3), .val (.int p4), .unset, .unset, .unset, .unset] [(.ref b1), (.ref b1)])
  refine own_step (fun t k => XS.bipush X29.here hx rfl (hb hby at_181) k) ?_
  show own_Go _ _ _ _ _ _ _ T29 (mkF m 183 #[.val (.int p1), .val (.int p2), .val (.int p3), .val (.int p4), .unset, .unset, .unset, .unset] [(.int (28 : Int32)), (.ref b1), (.ref b1)])
  refine own_step (fun t k => XS.sipush X29.here hx rfl (hb hby at_183) k) ?_
  show own_Go _ _ _ _ _ _ _ T29 (mkF m 186 #[.val (.int p1), .val (.int p2), .val (.int p3), .val (.int p4), .unset, .unset, .unset, .unset] [(.int (11264 : Int32)), (.int (28 : Int32)), (.ref b1), (.ref b1)])
  obtain ⟨T30, h30, X30, e30, W30, I30, st30⟩ := own_stI X29 hx hZ e29 I29 (by decide) (g := (mkF m 186 #[.val (.int p1), .val (.int p2), .val (.int p3), .val (.int p4), .unset, .unset, .unset, .unset] [(.int (11264 : Int32)), (.int (28 : Int32)), (.ref b1), (.ref b1)])) rfl rfl (hb hby at_186)
  have N30 := Fr.snoc X30 N29 nb1
  have K30 : Keep h0 h30 [] := K29.wr W30 (Or.inr sb1)
  refine own_step st30 ?_
  show own_Go _ _ _ _ _ _ _ T30 (mkF m 187 #[.val (.int p1), .val (.int p2), .val (.int p3), .val (.int p4), .unset, .unset, .unset, .unset] [(.ref b1)])
  refine own_step (fun t k => XS.dup X30.here hx rfl (hb hby at_187) rfl rfl k) ?_
  show own_Go _ _ _ _ _ _ _ T30 (mkF m 188 #[.val (.int p1), .val (.int p2), .val (.int p3), .val (.int p4), .unset, .unset, .unset, .unset] [(.ref b1), (.ref b1)])
  refine own_step (fun t k => XS.bipush X30.here hx rfl (hb hby at_188) k) ?_
  show own_Go _ _ _ _ _ _ _ T30 (mkF m 190 #[.val (.int p1), .val (.int p2), .val (.int p3), .val (.int p4), .unset, .unset, .unset, .unset] [(.int (29 : Int32)), (.ref b1), (.ref b1)])
  refine own_step (fun t k => XS.sipush X30.here hx rfl (hb hby at_190) k) ?_
  show own_Go _ _ _ _ _ _ _ T30 (mkF m 193 #[.val (.int p1), .val (.int p2), .val (.int p3), .val (.int p4), .unset, .unset, .unset, .unset] [(.int (12271 : Int32)), (.int (29 : Int32)), (.ref b1), (.ref b1)])
  obtain ⟨T31, h31, X31, e31, W31, I31, st31⟩ := own_stI X30 hx hZ e30 I30 (by decide) (g := (mkF m 193 #[.val (.int p1), .val (.int p2), .val (.int p3), .val (.int p4), .unset, .unset, .unset, .unset] [(.int (12271 : Int32)), (.int (29 : Int32)), (.ref b1), (.ref b1)])) rfl rfl (hb hby at_193)
  have N31 := Fr.snoc X31 N30 nb1
  have K31 : Keep h0 h31 [] := K30.wr W31 (Or.inr sb1)
  refine own_step st31 ?_
  show own_Go _ _ _ _ _ _ _ T31 (mkF m 194 #[.val (.int p1), .val (.int p2), .val (.int p3), .val (.int p4), .unset, .unset, .unset, .unset] [(.ref b1)])
  refine own_step (fun t k => XS.dup X31.here hx rfl (hb hby at_194) rfl rfl k) ?_
  show own_Go _ _ _ _ _ _ _ T31 (mkF m 195 #[.val (.int p1), .val (.int p2), .val (.int p3), .val (.int p4), .unset, .unset, .unset, .unset] [(.ref b1), (.ref b1)])
  refine own_step (fun t k => XS.bipush X31.here hx rfl (hb hby at_195) k) ?_
  show own_Go _ _ _ _ _ _ _ T31 (mkF m 197 #[.val (.int p1), .val (.int p2), .val (.int p3), .val (.int p4), .unset, .unset, .unset, .unset] [(.int (30 : Int32)), (.ref b1), (.ref b1)])
  refine own_step (fun t k => XS.sipush X31.here hx rfl (hb hby at_197) k) ?_
  show own_Go _ _ _ _ _ _ _ T31 (mkF m 200 #[.val (.int p1), .val (.int p2), .val (.int p3), .val (.int p4), .unset, .unset, .unset, .unset] [(.int (12289 : Int32)), (.int (30 : Int32)), (.ref b1), (.ref b1)])
  obtain ⟨T32, h32, X32, e32, W32, I32, st32⟩ := own_stI X31 hx hZ e31 I31 (by decide) (g := (mkF m 200 #[.val (.int p1), .val (.int p2), .val (.int p3), .val (.int p4), .unset, .unset, .unset, .unset] [(.int (12289 : Int32)), (.int (30 : Int32)), (.ref b1), (.ref b1)])) rfl rfl (hb hby at_200)
  have N32 := Fr.snoc X32 N31 nb1
  have K32 : Keep h0 h32 [] := K31.wr W32 (Or.inr sb1)
  refine own_step st32 ?_
  show own_Go _ _ _ _ _ _ _ T32 (mkF m 201 #[.val (.int p1), .val (.int p2), .val (.int p3), .val (.int p4), .unset, .unset, .unset, .unset] [(.ref b1)])
  refine own_step (fun t k => XS.dup X32.here hx rfl (hb hby at_201) rfl rfl k) ?_
  show own_Go _ _ _ _ _ _ _ T32 (mkF m 202 #[.val (.int p1), .val (.int p2), .val (.int p3), .val (.int p4), .unset, .unset, .unset, .unset] [(.ref b1), (.ref b1)])
  refine own_step (fun t k => XS.bipush X32.here hx rfl (hb hby at_202) k) ?_
  show own_Go _ _ _ _ _ _ _ T32 (mkF m 204 #[.val (.int p1), .val (.int p2), .val (.int p3), .val (.int p4), .unset, .unset, .unset, .unset] [(.int (31 : Int32)), (.ref b1), (.ref b1)])
  refine own_step (fun t k => X32.ldcInt hx hown (mvT hZ (hw _ (List.mem_of_getElem? (i := 2) rfl))) (g := (mkF m 204 #[.val (.int p1), .val (.int p2), .val (.int p3), .val (.int p4), .unset, .unset, .unset, .unset] [(.int (31 : Int32)), (.ref b1), (.ref b1)])) rfl (hb hby at_204) t k) ?_
  show own_Go _ _ _ _ _ _ _ T32 (mkF m 206 #[.val (.int p1), .val (.int p2), .val (.int p3), .val (.int p4), .unset, .unset, .unset, .unset] [(.int (55295 : Int32)), (.int (31 : Int32)), (.ref b1), (.ref b1)])
  obtain ⟨T33, h33, X33, e33, W33, I33, st33⟩ := own_stI X32 hx hZ e32 I32 (by decide) (g := (mkF m 206 #[.val (.int p1), .val (.int p2), .val (.int p3), .val (.int p4), .unset, .unset, .unset, .unset] [(.int (55295 : Int32)), (.int (31 : Int32)), (.ref b1), (.ref b1)])) rfl rfl (hb hby at_206)
  have N33 := Fr.snoc X33 N32 nb1
  have K33 : Keep h0 h33 [] := K32.wr W33 (Or.inr sb1)
  refine own_step st33 ?_
  show own_Go _ _ _ _ _ _ _ T33 (mkF m 207 #[.val (.int p1), .val (.int p2), .val (.int p3), .val (.int p4), .unset, .unset, .unset, .unset] [(.ref b1)])
  refine own_step (fun t k => XS.dup X33.here hx rfl (hb hby at_207) rfl rfl k) ?_
  show own_Go _ _ _ _ _ _ _ T33 (mkF m 208 #[.val (.int p1), .val (.int p2), .val (.int p3), .val (.int p4), .unset, .unset, .unset, .unset] [(.ref b1), (.ref b1)])
  refine own_step (fun t k => XS.bipush X33.here hx rfl (hb hby at_208) k) ?_
  show own_Go _ _ _ _ _ _ _ T33 (mkF m 210 #[.val (.int p1), .val (.int p2), .val (.int p3), .val (.int p4), .unset, .unset, .unset, .unset] [(.int (32 : Int32)), (.ref b1), (.ref b1)])
  refine own_step (fun t k => X33.ldcInt hx hown (mvT hZ (hw _ (List.mem_of_getElem? (i := 3) rfl))) (g := (mkF m 210 #[.val (.int p1), .val (.int p2), .val (.int p3), .val (.int p4), .unset, .unset, .unset, .unset] [(.int (32 : Int32)), (.ref b1), (.ref b1)])) rfl (hb hby at_210) t k) ?_
  show own_Go _ _ _ _ _ _ _ T33 (mkF m 212 #[.val (.int p1), .val (.int p2), .val (.int p3), .val (.int p4), .unset, .unset, .unset, .unset] [(.int (55296 : Int32)), (.int (32 : Int32)), (.ref b1), (.ref b1)])
  obtain ⟨T34, h34, X34, e34, W34, I34, st34⟩ := own_stI X33 hx hZ e33 I33 (by decide) (g := (mkF m 212 #[.val (.int p1), .val (.int p2), .val (.int p3), .val (.int p4), .unset, .unset, .unset, .unset] [(.int (55296 : Int32)), (.int (32 : Int32)), (.ref b1), (.ref b1)])) rfl rfl (hb hby at_212)
  have N34 := Fr.snoc X34 N33 nb1
  have K34 : Keep h0 h34 [] := K33.wr W34 (Or.inr sb1)
  refine own_step st34 ?_
  show own_Go _ _ _ _ _ _ _ T34 (mkF m 213 #[.val (.int p1), .val (.int p2), .val (.int p3), .val (.int p4), .unset, .unset, .unset, .unset] [(.ref b1)])
  refine own_step (fun t k => XS.dup X34.here hx rfl (hb hby at_213) rfl rfl k) ?_
  show own_Go _ _ _ _ _ _ _ T34 (mkF m 214 #[.val (.int p1), .val (.int p2), .val (.int p3), .val (.int p4), .unset, .unset, .unset, .unset] [(.ref b1), (.ref b1)])
  refine own_step (fun t k => XS.bipush X34.here hx rfl (hb hby at_214) k) ?_
  show own_Go _ _ _ _ _ _ _ T34 (mkF m 216 #[.val (.int p1), .val (.int p2), .val (.int p3), .val (.int p4), .unset, .unset, .unset, .unset] [(.int (33 : Int32)), (.ref b1), (.ref b1)])
  refine own_step (fun t k => X34.ldcInt hx hown (mvT hZ (hw _ (List.mem_of_getElem? (i := 4) rfl))) (g := (mkF m 216 #[.val (.int p1), .val (.int p2), .val (.int p3), .val (.int p4), .unset, .unset, .unset, .unset] [(.int (33 : Int32)), (.ref b1), (.ref b1)])) rfl (hb hby at_216) t k) ?_
  show own_Go _ _ _ _ _ _ _ T34 (mkF m 218 #[.val (.int p1), .val (.int p2), .val (.int p3), .val (.int p4), .unset, .unset, .unset, .unset] [(.int (63744 : Int32)), (.int (33 : Int32)), (.ref b1), (.ref b1)])
  obtain ⟨T35, h35, X35, e35, W35, I35, st35⟩ := own_stI X34 hx hZ e34 I34 (by decide) (g := (mkF m 218 #[.val (.int p1), .val (.int p2), .val (.int p3), .val (.int p4), .unset, .unset, .unset, .unset] [(.int (63744 : Int32)), (.int (33 : Int32)), (.ref b1), (.ref b1)])) rfl rfl (hb hby at_218)
  have N35 := Fr.snoc X35 N34 nb1
  have K35 : Keep h0 h35 [] := K34.wr W35 (Or.inr sb1)
  refine own_step st35 ?_
  show own_Go _ _ _ _ _ _ _ T35 (mkF m 219 #[.val (.int p1), .val (.int p2), .val (.int p3), .val (.int p4), .unset, .unset, .unset, .unset] [(.ref b1)])
  refine own_step (fun t k => XS.dup X35.here hx rfl (hb hby at_219) rfl rfl k) ?_
  show own_Go _ _ _ _ _ _ _ T35 (mkF m 220 #[.val (.int p1), .val (.int p2), .val (.int p3), .val (.int p4), .unset, .unset, .unset, .unset] [(.ref b1), (.ref b1)])
  refine own_step (fun t k => XS.bipush X35.here hx rfl (hb hby at_220) k) ?_
  show own_Go _ _ _ _ _ _ _ T35 (mkF m 222 #[.val (.int p1), .val (.int p2), .val (.int p3), .val (.int p4), .unset, .unset, .unset, .unset] [(.int (34 : Int32)), (.ref b1), (.ref b1)])
  refine own_step (fun t k => X35.ldcInt hx hown (mvT hZ (hw _ (List.mem_of_getElem? (i := 5) rfl))) (g := (mkF m 222 #[.val (.int p1), .val (.int p2), .val (.int p3), .val (.int p4), .unset, .unset, .unset, .unset] [(.int (34 : Int32)), (.ref b1), (.ref b1)])) rfl (hb hby at_222) t k) ?_
  show own_Go _ _ _ _ _ _ _ T35 (mkF m 224 #[.val (.int p1), .val (.int p2), .val (.int p3), .val (.int p4), .unset, .unset, .unset, .unset] [(.int (64975 : Int32)), (.int (34 : Int32)), (.ref b1), (.ref b1)])
  obtain ⟨T36, h36, X36, e36, W36, I36, st36⟩ := own_stI X35 hx hZ e35 I35 (by decide) (g := (mkF m 224 #[.val (.int p1), .val (.int p2), .val (.int p3), .val (.int p4), .unset, .unset, .unset, .unset] [(.int (64975 : Int32)), (.int (34 : Int32)), (.ref b1), (.ref b1)])) rfl rfl (hb hby at_224)
  have N36 := Fr.snoc X36 N35 nb1
  have K36 : Keep h0 h36 [] := K35.wr W36 (Or.inr sb1)
  refine own_step st36 ?_
  show own_Go _ _ _ _ _ _ _ T36 (mkF m 225 #[.val (.int p1), .val (.int p2), .val (.int p3), .val (.int p4), .unset, .unset, .unset, .unset] [(.ref b1)])
  refine own_step (fun t k => XS.dup X36.here hx rfl (hb hby at_225) rfl rfl k) ?_
  show own_Go _ _ _ _ _ _ _ T36 (mkF m 226 #[.val (.int p1), .val (.int p2), .val (.int p3), .val (.int p4), .unset, .unset, .unset, .unset] [(.ref b1), (.ref b1)])
  refine own_step (fun t k => XS.bipush X36.here hx rfl (hb hby at_226) k) ?_
  show own_Go _ _ _ _ _ _ _ T36 (mkF m 228 #[.val (.int p1), .val (.int p2), .val (.int p3), .val (.int p4), .unset, .unset, .unset, .unset] [(.int (35 : Int32)), (.ref b1), (.ref b1)])
  refine own_step (fun t k => X36.ldcInt hx hown (mvT hZ (hw _ (List.mem_of_getElem? (i := 6) rfl))) (g := (mkF m 228 #[.val (.int p1), .val (.int p2), .val (.int p3), .val (.int p4), .unset, .unset, .unset, .unset] [(.int (35 : Int32)), (.ref b1), (.ref b1)])) rfl (hb hby at_228) t k) ?_
  show own_Go _ _ _ _ _ _ _ T36 (mkF m 230 #[.val (.int p1), .val (.int p2), .val (.int p3), .val (.int p4), .unset, .unset, .unset, .unset] [(.int (65008 : Int32)), (.int (35 : Int32)), (.ref b1), (.ref b1)])
  obtain ⟨T37, h37, X37, e37, W37, I37, st37⟩ := own_stI X36 hx hZ e36 I36 (by decide) (g := (mkF m 230 #[.val (.int p1), .val (.int p2), .val (.int p3), .val (.int p4), .unset, .unset, .unset, .unset] [(.int (65008 : Int32)), (.int (35 : Int32)), (.ref b1), (.ref b1)])) rfl rfl (hb hby at_230)
  have N37 := Fr.snoc X37 N36 nb1
  have K37 : Keep h0 h37 [] := K36.wr W37 (Or.inr sb1)
  refine own_step st37 ?_
  show own_Go _ _ _ _ _ _ _ T37 (mkF m 231 #[.val (.int p1), .val (.int p2), .val (.int p3), .val (.int p4), .unset, .unset, .unset, .unset] [(.ref b1)])
  refine own_step (fun t k => XS.dup X37.here hx rfl (hb hby at_231) rfl rfl k) ?_
  show own_Go _ _ _ _ _ _ _ T37 (mkF m 232 #[.val (.int p1), .val (.int p2), .val (.int p3), .val (.int p4), .unset, .unset, .unset, .unset] [(.ref b1), (.ref b1)])
  refine own_step (fun t k => XS.bipush X37.here hx rfl (hb hby at_232) k) ?_
  show own_Go _ _ _ _ _ _ _ T37 (mkF m 234 #[.val (.int p1), .val (.int p2), .val (.int p3), .val (.int p4), .unset, .unset, .unset, .unset] [(.int (36 : Int32)), (.ref b1), (.ref b1)])
  refine own_step (fun t k => X37.ldcInt hx hown (mvT hZ (hw _ (List.mem_of_getElem? (i := 7) rfl))) (g := (mkF m 234 #[.val (.int p1), .val (.int p2), .val (.int p3), .val (.int p4), .unset, .unset, .unset, .unset] [(.int (36 : Int32)), (.ref b1), (.ref b1)])) rfl (hb hby at_234) t k) ?_
  show own_Go _ _ _ _ _ _ _ T37 (mkF m 236 #[.val (.int p1), .val (.int p2), .val (.int p3), .val (.int p4), .unset, .unset, .unset, .unset] [(.int (65533 : Int32)), (.int (36 : Int32)), (.ref b1), (.ref b1)])
  obtain ⟨T38, h38, X38, e38, W38, I38, st38⟩ := own_stI X37 hx hZ e37 I37 (by decide) (g := (mkF m 236 #[.val (.int p1), .val (.int p2), .val (.int p3), .val (.int p4), .unset, .unset, .unset, .unset] [(.int (65533 : Int32)), (.int (36 : Int32)), (.ref b1), (.ref b1)])) rfl rfl (hb hby at_236)
  have N38 := Fr.snoc X38 N37 nb1
  have K38 : Keep h0 h38 [] := K37.wr W38 (Or.inr sb1)
  refine own_step st38 ?_
  show own_Go _ _ _ _ _ _ _ T38 (mkF m 237 #[.val (.int p1), .val (.int p2), .val (.int p3), .val (.int p4), .unset, .unset, .unset, .unset] [(.ref b1)])
  refine own_step (fun t k => XS.dup X38.here hx rfl (hb hby at_237) rfl rfl k) ?_
  show own_Go _ _ _ _ _ _ _ T38 (mkF m 238 #[.val (.int p1), .val (.int p2), .val (.int p3), .val (.int p4), .unset, .unset, .unset, .unset] [(.ref b1), (.ref b1)])
  refine own_step (fun t k => XS.bipush X38.here hx rfl (hb hby at_238) k) ?_
  show own_Go _ _ _ _ _ _ _ T38 (mkF m 240 #[.val (.int p1), .val (.int p2), .val (.int p3), .val (.int p4), .unset, .unset, .unset, .unset] [(.int (37 : Int32)), (.ref b1), (.ref b1)])
  refine own_step (fun t k => X38.ldcInt hx hown (mvT hZ (hw _ (List.mem_of_getElem? (i := 8) rfl))) (g := (mkF m 240 #[.val (.int p1), .val (.int p2), .val (.int p3), .val (.int p4), .unset, .unset, .unset, .unset] [(.int (37 : Int32)), (.ref b1), (.ref b1)])) rfl (hb hby at_240) t k) ?_
  show own_Go _ _ _ _ _ _ _ T38 (mkF m 242 #[.val (.int p1), .val (.int p2), .val (.int p3), .val (.int p4), .unset, .unset, .unset, .unset] [(.int (65536 : Int32)), (.int (37 : Int32)), (.ref b1), (.ref b1)])
  obtain ⟨T39, h39, X39, e39, W39, I39, st39⟩ := own_stI X38 hx hZ e38 I38 (by decide) (g := (mkF m 242 #[.val (.int p1), .val (.int p2), .val (.int p3), .val (.int p4), .unset, .unset, .unset, .unset] [(.int (65536 : Int32)), (.int (37 : Int32)), (.ref b1), (.ref b1)])) rfl rfl (hb hby at_242)
  have N39 := Fr.snoc X39 N38 nb1
  have K39 : Keep h0 h39 [] := K38.wr W39 (Or.inr sb1)
  refine own_step st39 ?_
  show own_Go _ _ _ _ _ _ _ T39 (mkF m 243 #[.val (.int p1), .val (.int p2), .val (.int p3), .val (.int p4), .unset, .unset, .unset, .unset] [(.ref b1)])
  refine own_step (fun t k => XS.dup X39.here hx rfl (hb hby at_243) rfl rfl k) ?_
  show own_Go _ _ _ _ _ _ _ T39 (mkF m 244 #[.val (.int p1), .val (.int p2), .val (.int p3), .val (.int p4), .unset, .unset, .unset, .unset] [(.ref b1), (.ref b1)])
  refine own_step (fun t k => XS.bipush X39.here hx rfl (hb hby at_244) k) ?_
  show own_Go _ _ _ _ _ _ _ T39 (mkF m 246 #[.val (.int p1), .val (.int p2), .val (.int p3), .val (.int p4), .unset, .unset, .unset, .unset] [(.int (38 : Int32)), (.ref b1), (.ref b1)])
  refine own_step (fun t k => X39.ldcInt hx hown (mvT hZ (hw _ (List.mem_of_getElem? (i := 9) rfl))) (g := (mkF m 246 #[.val (.int p1), .val (.int p2), .val (.int p3), .val (.int p4), .unset, .unset, .unset, .unset] [(.int (38 : Int32)), (.ref b1), (.ref b1)])) rfl (hb hby at_246) t k) ?_
  show own_Go _ _ _ _ _ _ _ T39 (mkF m 248 #[.val (.int p1), .val (.int p2), .val (.int p3), .val (.int p4), .unset, .unset, .unset, .unset] [(.int (983039 : Int32)), (.int (38 : Int32)), (.ref b1), (.ref b1)])
  obtain ⟨T40, h40, X40, e40, W40, I40, st40⟩ := own_stI X39 hx hZ e39 I39 (by decide) (g := (mkF m 248 #[.val (.int p1), .val (.int p2), .val (.int p3), .val (.int p4), .unset, .unset, .unset, .unset] [(.int (983039 : Int32)), (.int (38 : Int32)), (.ref b1), (.ref b1)])) rfl rfl (hb hby at_248)
  have N40 := Fr.snoc X40 N39 nb1
  have K40 : Keep h0 h40 [] := K39.wr W40 (Or.inr sb1)
  refine own_step st40 ?_
  show own_Go _ _ _ _ _ _ _ T40 (mkF m 249 #[.val (.int p1), .val (.int p2), .val (.int p3), .val (.int p4), .unset, .unset, .unset, .unset] [(.ref b1)])
  refine own_step (fun t k => XS.dup X40.here hx rfl (hb hby at_249) rfl rfl k) ?_
  show own_Go _ _ _ _ _ _ _ T40 (mkF m 250 #[.val (.int p1), .val (.int p2), .val (.int p3), .val (.int p4), .unset, .unset, .unset, .unset] [(.ref b1), (.ref b1)])
  refine own_step (fun t k => XS.bipush X40.here hx rfl (hb hby at_250) k) ?_
  show own_Go _ _ _ _ _ _ _ T40 (mkF m 252 #[.val (.int p1), .val (.int p2), .val (.int p3), .val (.int p4), .unset, .unset, .unset, .unset] [(.int (39 : Int32)), (.ref b1), (.ref b1)])
  refine own_step (fun t k => X40.ldcInt hx hown (mvT hZ (hw _ (List.mem_of_getElem? (i := 10) rfl))) (g := (mkF m 252 #[.val (.int p1), .val (.int p2), .val (.int p3), .val (.int p4), .unset, .unset, .unset, .unset] [(.int (39 : Int32)), (.ref b1), (.ref b1)])) rfl (hb hby at_252) t k) ?_
  show own_Go _ _ _ _ _ _ _ T40 (mkF m 254 #[.val (.int p1), .val (.int p2), .val (.int p3), .val (.int p4), .unset, .unset, .unset, .unset] [(.int (1114111 : Int32)), (.int (39 : Int32)), (.ref b1), (.ref b1)])
  obtain ⟨T41, h41, X41, e41, W41, I41, st41⟩ := own_stI X40 hx hZ e40 I40 (by decide) (g := (mkF m 254 #[.val (.int p1), .val (.int p2), .val (.int p3), .val (.int p4), .unset, .unset, .unset, .unset] [(.int (1114111 : Int32)), (.int (39 : Int32)), (.ref b1), (.ref b1)])) rfl rfl (hb hby at_254)
  have N41 := Fr.snoc X41 N40 nb1
  have K41 : Keep h0 h41 [] := K40.wr W41 (Or.inr sb1)
  refine own_step st41 ?_
  show own_Go _ _ _ _ _ _ _ T41 (mkF m 255 #[.val (.int p1), .val (.int p2), .val (.int p3), .val (.int p4), .unset, .unset, .unset, .unset] [(.ref b1)])
  refine own_step (fun t k => XS.dup X41.here hx rfl (hb hby at_255) rfl rfl k) ?_
  show own_Go _ _ _ _ _ _ _ T41 (mkF m 256 #[.val (.int p1), .val (.int p2), .val (.int p3), .val (.int p4), .unset, .unset, .unset, .unset] [(.ref b1), (.ref b1)])
  refine own_step (fun t k => XS.bipush X41.here hx rfl (hb hby at_256) k) ?_
  show own_Go _ _ _ _ _ _ _ T41 (mkF m 258 #[.val (.int p1), .val (.int p2), .val (.int p3), .val (.int p4), .unset, .unset, .unset, .unset] [(.int (40 : Int32)), (.ref b1), (.ref b1)])
  refine own_step (fun t k => X41.ldcInt hx hown (mvT hZ (hw _ (List.mem_of_getElem? (i := 11) rfl))) (g := (mkF m 258 #[.val (.int p1), .val (.int p2), .val (.int p3), .val (.int p4), .unset, .unset, .unset, .unset] [(.int (40 : Int32)), (.ref b1), (.ref b1)])) rfl (hb hby at_258) t k) ?_
  show own_Go _ _ _ _ _ _ _ T41 (mkF m 260 #[.val (.int p1), .val (.int p2), .val (.int p3), .val (.int p4), .unset, .unset, .unset, .unset] [(.int (2147483647 : Int32)), (.int (40 : Int32)), (.ref b1), (.ref b1)])
  obtain ⟨T42, h42, X42, e42, W42, I42, st42⟩ := own_stI X41 hx hZ e41 I41 (by decide) (g := (mkF m 260 #[.val (.int p1), .val (.int p2), .val (.int p3), .val (.int p4), .unset, .unset, .unset, .unset] [(.int (2147483647 : Int32)), (.int (40 : Int32)), (.ref b1), (.ref b1)])) rfl rfl (hb hby at_260)
  have N42 := Fr.snoc X42 N41 nb1
  have K42 : Keep h0 h42 [] := K41.wr W42 (Or.inr sb1)
  refine own_step st42 ?_
  show own_Go _ _ _ _ _ _ _ T42 (mkF m 261 #[.val (.int p1), .val (.int p2), .val (.int p3), .val (.int p4), .unset, .unset, .unset, .unset] [(.ref b1)])
  refine own_step (fun t k => XS.astore X42.here hx rfl (hb hby at_261) rfl rfl (l' := #[.val (.int p1), .val (.int p2), .val (.int p3), .val (.int p4), .val (.ref b1), .unset, .unset, .unset]) rfl k) ?_
  show own_Go _ _ _ _ _ _ _ T42 (mkF m 263 #[.val (.int p1), .val (.int p2), .val (.int p3), .val (.int p4), .val (.ref b1), .unset, .unset, .unset] [])
  refine own_step (fun t k => XS.iloadN X42.here hx rfl (hb hby at_263) rfl k) ?_
  show own_Go _ _ _ _ _ _ _ T42 (mkF m 264 #[.val (.int p1), .val (.int p2), .val (.int p3), .val (.int p4), .val (.ref b1), .unset, .unset, .unset] [(.int p4)])
  refine own_step (fun t k => XS.iconst X42.here hx rfl (hb hby at_264) k) ?_
  show own_Go _ _ _ _ _ _ _ T42 (mkF m 265 #[.val (.int p1), .val (.int p2), .val (.int p3), .val (.int p4), .val (.ref b1), .unset, .unset, .unset] [(.int (1 : Int32)), (.int p4)])
  refine own_step (fun t k => XS.iand X42.here hx rfl (hb hby at_265) rfl k) ?_
  have lt1 : aw < h0.size := TB.1.lt
  have S2 : Sta Z h42 "com/example/xylem/xylem/XmlChars" "ASCII_NAMES" "[B" (.ref aw) := own_sta_keep S1 K42
  have TB2 : Tab Z h42 aw cl .byte (128 : Int32) := ⟨⟨K42.2.1 _ _ TB.1.1 nin0, TB.1.2⟩, TB.2⟩
  have JF : ∀ (Tj : State) (Lj : List Loc) (Xj : Stand p l e room_1 s m #[(.int p1), (.int p2), (.int p3), (.int p4)] below meth c Tj Lj 1 41) (ej : Tj.heap = h42) (Nj : Fr n0 Lj), own_Go p e below s room_1.cells room_1.slots (own_Q0 Z p1 p2 p3 p4 aw cl h0 n0) Tj (mkF m 266 #[.val (.int p1), .val (.int p2), .val (.int p3), .val (.int p4), .val (.ref b1), .unset, .unset, .unset] [(.int (p4 &&& (1 : Int32)))]) := by
    intro T43 L43 X43 e43 N43 
    rcases Classical.em ((p4 &&& (1 : Int32)) = (0 : Int32)) with c266_44 | c266_44
    · show own_Go _ _ _ _ _ _ _ T43 (mkF m 266 #[.val (.int p1), .val (.int p2), .val (.int p3), .val (.int p4), .val (.ref b1), .unset, .unset, .unset] [(.int (p4 &&& (1 : Int32)))])
      refine own_step (fun t k => XS.ifYes X43.here hx rfl (pc0 := 266) (pc' := 275) rfl (hb hby at_266) rfl ((if0 _ _).trans (teq (c266_44)).1) (by decide) (by decide) k) ?_
      show own_Go _ _ _ _ _ _ _ T43 (mkF m 275 #[.val (.int p1), .val (.int p2), .val (.int p3), .val (.int p4), .val (.ref b1), .unset, .unset, .unset] [])
      refine own_step (fun t k => XS.iloadN X43.here hx rfl (hb hby at_275) rfl k) ?_
      show own_Go _ _ _ _ _ _ _ T43 (mkF m 276 #[.val (.int p1), .val (.int p2), .val (.int p3), .val (.int p4), .val (.ref b1), .unset, .unset, .unset] [(.int p2)])
      refine own_step (fun t k => X43.ldcInt hx hown (mvT hZ (hw _ (List.mem_of_getElem? (i := 11) rfl))) (g := (mkF m 276 #[.val (.int p1), .val (.int p2), .val (.int p3), .val (.int p4), .val (.ref b1), .unset, .unset, .unset] [(.int p2)])) rfl (hb hby at_276) t k) ?_
      show own_Go _ _ _ _ _ _ _ T43 (mkF m 278 #[.val (.int p1), .val (.int p2), .val (.int p3), .val (.int p4), .val (.ref b1), .unset, .unset, .unset] [(.int (2147483647 : Int32)), (.int p2)])
      refine own_step (fun t k => XS.iand X43.here hx rfl (hb hby at_278) rfl k) ?_
      show own_Go _ _ _ _ _ _ _ T43 (mkF m 279 #[.val (.int p1), .val (.int p2), .val (.int p3), .val (.int p4), .val (.ref b1), .unset, .unset, .unset] [(.int (p2 &&& (2147483647 : Int32)))])
      refine own_step (fun t k => XS.aload X43.here hx rfl (hb hby at_279) rfl rfl k) ?_
      show own_Go _ _ _ _ _ _ _ T43 (mkF m 281 #[.val (.int p1), .val (.int p2), .val (.int p3), .val (.int p4), .val (.ref b1), .unset, .unset, .unset] [(.ref b1), (.int (p2 &&& (2147483647 : Int32)))])
      refine own_step (own_len X43 hx hZ e43 I42 (k := (41 : Int32)) (by decide) (g := (mkF m 281 #[.val (.int p1), .val (.int p2), .val (.int p3), .val (.int p4), .val (.ref b1), .unset, .unset, .unset] [(.ref b1), (.int (p2 &&& (2147483647 : Int32)))])) rfl rfl (hb hby at_281)) ?_
      show own_Go _ _ _ _ _ _ _ T43 (mkF m 282 #[.val (.int p1), .val (.int p2), .val (.int p3), .val (.int p4), .val (.ref b1), .unset, .unset, .unset] [(.int (41 : Int32)), (.int (p2 &&& (2147483647 : Int32)))])
      refine own_step (fun t k => iremM X43 hx rfl (hb hby at_282) rfl (by decide) k) ?_
      show own_Go _ _ _ _ _ _ _ T43 (mkF m 283 #[.val (.int p1), .val (.int p2), .val (.int p3), .val (.int p4), .val (.ref b1), .unset, .unset, .unset] [(.int ((p2 &&& (2147483647 : Int32)) % (41 : Int32)))])
      refine own_step (fun t k => XS.istore X43.here hx rfl (hb hby at_283) rfl (l' := #[.val (.int p1), .val (.int p2), .val (.int p3), .val (.int p4), .val (.ref b1), .unset, .val (.int ((p2 &&& (2147483647 : Int32)) % (41 : Int32))), .unset]) rfl k) ?_
      show own_Go _ _ _ _ _ _ _ T43 (mkF m 285 #[.val (.int p1), .val (.int p2), .val (.int p3), .val (.int p4), .val (.ref b1), .unset, .val (.int ((p2 &&& (2147483647 : Int32)) % (41 : Int32))), .unset] [])
      refine own_step (fun t k => XS.iloadN X43.here hx rfl (hb hby at_285) rfl k) ?_
      show own_Go _ _ _ _ _ _ _ T43 (mkF m 286 #[.val (.int p1), .val (.int p2), .val (.int p3), .val (.int p4), .val (.ref b1), .unset, .val (.int ((p2 &&& (2147483647 : Int32)) % (41 : Int32))), .unset] [(.int p3)])
      refine own_step (fun t k => X43.ldcInt hx hown (mvT hZ (hw _ (List.mem_of_getElem? (i := 11) rfl))) (g := (mkF m 286 #[.val (.int p1), .val (.int p2), .val (.int p3), .val (.int p4), .val (.ref b1), .unset, .val (.int ((p2 &&& (2147483647 : Int32)) % (41 : Int32))), .unset] [(.int p3)])) rfl (hb hby at_286) t k) ?_
      show own_Go _ _ _ _ _ _ _ T43 (mkF m 288 #[.val (.int p1), .val (.int p2), .val (.int p3), .val (.int p4), .val (.ref b1), .unset, .val (.int ((p2 &&& (2147483647 : Int32)) % (41 : Int32))), .unset] [(.int (2147483647 : Int32)), (.int p3)])
      refine own_step (fun t k => XS.iand X43.here hx rfl (hb hby at_288) rfl k) ?_
      show own_Go _ _ _ _ _ _ _ T43 (mkF m 289 #[.val (.int p1), .val (.int p2), .val (.int p3), .val (.int p4), .val (.ref b1), .unset, .val (.int ((p2 &&& (2147483647 : Int32)) % (41 : Int32))), .unset] [(.int (p3 &&& (2147483647 : Int32)))])
      refine own_step (fun t k => XS.iconst X43.here hx rfl (hb hby at_289) k) ?_
      show own_Go _ _ _ _ _ _ _ T43 (mkF m 290 #[.val (.int p1), .val (.int p2), .val (.int p3), .val (.int p4), .val (.ref b1), .unset, .val (.int ((p2 &&& (2147483647 : Int32)) % (41 : Int32))), .unset] [(.int (3 : Int32)), (.int (p3 &&& (2147483647 : Int32)))])
      refine own_step (fun t k => iremM X43 hx rfl (hb hby at_290) rfl (by decide) k) ?_
      show own_Go _ _ _ _ _ _ _ T43 (mkF m 291 #[.val (.int p1), .val (.int p2), .val (.int p3), .val (.int p4), .val (.ref b1), .unset, .val (.int ((p2 &&& (2147483647 : Int32)) % (41 : Int32))), .unset] [(.int ((p3 &&& (2147483647 : Int32)) % (3 : Int32)))])
      refine own_step (fun t k => XS.iconst X43.here hx rfl (hb hby at_291) k) ?_
      show own_Go _ _ _ _ _ _ _ T43 (mkF m 292 #[.val (.int p1), .val (.int p2), .val (.int p3), .val (.int p4), .val (.ref b1), .unset, .val (.int ((p2 &&& (2147483647 : Int32)) % (41 : Int32))), .unset] [(.int (1 : Int32)), (.int ((p3 &&& (2147483647 : Int32)) % (3 : Int32)))])
      refine own_step (fun t k => XS.isub X43.here hx rfl (hb hby at_292) rfl k) ?_
      show own_Go _ _ _ _ _ _ _ T43 (mkF m 293 #[.val (.int p1), .val (.int p2), .val (.int p3), .val (.int p4), .val (.ref b1), .unset, .val (.int ((p2 &&& (2147483647 : Int32)) % (41 : Int32))), .unset] [(.int (((p3 &&& (2147483647 : Int32)) % (3 : Int32)) - (1 : Int32)))])
      refine own_step (fun t k => XS.istore X43.here hx rfl (hb hby at_293) rfl (l' := #[.val (.int p1), .val (.int p2), .val (.int p3), .val (.int p4), .val (.ref b1), .unset, .val (.int ((p2 &&& (2147483647 : Int32)) % (41 : Int32))), .val (.int (((p3 &&& (2147483647 : Int32)) % (3 : Int32)) - (1 : Int32)))]) rfl k) ?_
      show own_Go _ _ _ _ _ _ _ T43 (mkF m 295 #[.val (.int p1), .val (.int p2), .val (.int p3), .val (.int p4), .val (.ref b1), .unset, .val (.int ((p2 &&& (2147483647 : Int32)) % (41 : Int32))), .val (.int (((p3 &&& (2147483647 : Int32)) % (3 : Int32)) - (1 : Int32)))] [])
      refine own_step (fun t k => XS.aload X43.here hx rfl (hb hby at_295) rfl rfl k) ?_
      show own_Go _ _ _ _ _ _ _ T43 (mkF m 297 #[.val (.int p1), .val (.int p2), .val (.int p3), .val (.int p4), .val (.ref b1), .unset, .val (.int ((p2 &&& (2147483647 : Int32)) % (41 : Int32))), .val (.int (((p3 &&& (2147483647 : Int32)) % (3 : Int32)) - (1 : Int32)))] [(.ref b1)])
      refine own_step (fun t k => XS.iload X43.here hx rfl (hb hby at_297) rfl k) ?_
      show own_Go _ _ _ _ _ _ _ T43 (mkF m 299 #[.val (.int p1), .val (.int p2), .val (.int p3), .val (.int p4), .val (.ref b1), .unset, .val (.int ((p2 &&& (2147483647 : Int32)) % (41 : Int32))), .val (.int (((p3 &&& (2147483647 : Int32)) % (3 : Int32)) - (1 : Int32)))] [(.int ((p2 &&& (2147483647 : Int32)) % (41 : Int32))), (.ref b1)])
      obtain ⟨z45, st45⟩ := own_ldI X43 hx hZ e43 I42 (own_idx p2) (g := (mkF m 299 #[.val (.int p1), .val (.int p2), .val (.int p3), .val (.int p4), .val (.ref b1), .unset, .val (.int ((p2 &&& (2147483647 : Int32)) % (41 : Int32))), .val (.int (((p3 &&& (2147483647 : Int32)) % (3 : Int32)) - (1 : Int32)))] [(.int ((p2 &&& (2147483647 : Int32)) % (41 : Int32))), (.ref b1)])) rfl rfl (hb hby at_299)
      refine own_step st45 ?_
      show own_Go _ _ _ _ _ _ _ T43 (mkF m 300 #[.val (.int p1), .val (.int p2), .val (.int p3), .val (.int p4), .val (.ref b1), .unset, .val (.int ((p2 &&& (2147483647 : Int32)) % (41 : Int32))), .val (.int (((p3 &&& (2147483647 : Int32)) % (3 : Int32)) - (1 : Int32)))] [(.int z45)])
      refine own_step (fun t k => XS.iload X43.here hx rfl (hb hby at_300) rfl k) ?_
      show own_Go _ _ _ _ _ _ _ T43 (mkF m 302 #[.val (.int p1), .val (.int p2), .val (.int p3), .val (.int p4), .val (.ref b1), .unset, .val (.int ((p2 &&& (2147483647 : Int32)) % (41 : Int32))), .val (.int (((p3 &&& (2147483647 : Int32)) % (3 : Int32)) - (1 : Int32)))] [(.int (((p3 &&& (2147483647 : Int32)) % (3 : Int32)) - (1 : Int32))), (.int z45)])
      refine own_step (fun t k => XS.iadd X43.here hx rfl (hb hby at_302) rfl k) ?_
      show own_Go _ _ _ _ _ _ _ T43 (mkF m 303 #[.val (.int p1), .val (.int p2), .val (.int p3), .val (.int p4), .val (.ref b1), .unset, .val (.int ((p2 &&& (2147483647 : Int32)) % (41 : Int32))), .val (.int (((p3 &&& (2147483647 : Int32)) % (3 : Int32)) - (1 : Int32)))] [(.int (z45 + (((p3 &&& (2147483647 : Int32)) % (3 : Int32)) - (1 : Int32))))])
      refine own_step (fun t k => XS.istore X43.here hx rfl (hb hby at_303) rfl (l' := #[.val (.int p1), .val (.int p2), .val (.int p3), .val (.int p4), .val (.ref b1), .val (.int (z45 + (((p3 &&& (2147483647 : Int32)) % (3 : Int32)) - (1 : Int32)))), .val (.int ((p2 &&& (2147483647 : Int32)) % (41 : Int32))), .val (.int (((p3 &&& (2147483647 : Int32)) % (3 : Int32)) - (1 : Int32)))]) rfl k) ?_
      obtain ⟨vv, hvv⟩ : ∃ z, z = (z45 + (((p3 &&& (2147483647 : Int32)) % (3 : Int32)) - (1 : Int32))) := ⟨_, rfl⟩
      show own_Go _ _ _ _ _ _ _ T43 (mkF m 305 #[.val (.int p1), .val (.int p2), .val (.int p3), .val (.int p4), .val (.ref b1), .val (.int (z45 + (((p3 &&& (2147483647 : Int32)) % (3 : Int32)) - (1 : Int32)))), .val (.int ((p2 &&& (2147483647 : Int32)) % (41 : Int32))), .val (.int (((p3 &&& (2147483647 : Int32)) % (3 : Int32)) - (1 : Int32)))] [])
      rw [← hvv]
      show own_Go _ _ _ _ _ _ _ T43 (mkF m 305 #[.val (.int p1), .val (.int p2), .val (.int p3), .val (.int p4), .val (.ref b1), .val (.int vv), .val (.int ((p2 &&& (2147483647 : Int32)) % (41 : Int32))), .val (.int (((p3 &&& (2147483647 : Int32)) % (3 : Int32)) - (1 : Int32)))] [])
      refine own_step (fun t k => XS.iload X43.here hx rfl (hb hby at_305) rfl k) ?_
      show own_Go _ _ _ _ _ _ _ T43 (mkF m 307 #[.val (.int p1), .val (.int p2), .val (.int p3), .val (.int p4), .val (.ref b1), .val (.int vv), .val (.int ((p2 &&& (2147483647 : Int32)) % (41 : Int32))), .val (.int (((p3 &&& (2147483647 : Int32)) % (3 : Int32)) - (1 : Int32)))] [(.int vv)])
      obtain ⟨_, _, ⟨T46, L46, k46, n46⟩, -, X46, ⟨Lc46, hQ46, l46, y46, z46⟩, st46⟩ := Jvm.LawKit.callS X43 hx (y := (⟨"com/example/xylem/xylem/XmlChars", "isNameStartChar", "(I)Z"⟩ : MethodName)) hown (mvT hZ (hw _ (List.mem_of_getElem? (i := 12) rfl))) (mvT hZ (hw _ (List.mem_of_getElem? (i := 13) rfl))) (mvT hZ (hw _ (List.mem_of_getElem? (i := 14) rfl))) (mvT hZ (hw _ (List.mem_of_getElem? (i := 15) rfl))) (by decide) (backOf (W := 0) (own_rm1 l Z a0 hw [] vv aw cl h42 n0 (Nat.le_trans Z0 K42.1) S2 TB2 HT) hZ (hw _ (List.mem_of_getElem? (i := 15) rfl)) (hw _ (List.mem_of_getElem? (i := 14) rfl)) (by decide) (by decide)) (g := (mkF m 307 #[.val (.int p1), .val (.int p2), .val (.int p3), .val (.int p4), .val (.ref b1), .val (.int vv), .val (.int ((p2 &&& (2147483647 : Int32)) % (41 : Int32))), .val (.int (((p3 &&& (2147483647 : Int32)) % (3 : Int32)) - (1 : Int32)))] [(.int vv)])) rfl (by rw [hml]; rfl) (argsL := [(.int vv)]) (rest := []) (lenOf own_pd0_0 rfl) rfl (by show 2 * 0 + _ ≤ _; exact Nat.le_of_eq rfl) (hb hby at_307) (fun _ _ => ⟨rfl, e43, (by decide : 1 + 0 ≤ _), (by decide : 41 + 0 ≤ _)⟩)
      dsimp only [Pt.U, Pt.locs, Pt.cells, Pt.slots] at X46 l46 y46 z46 st46 hQ46
      subst l46 y46 z46
      obtain ⟨rfl, Nq46, e46⟩ := hQ46
      have N46 := Fr.app N43 Nq46
      refine own_step (fun t k => st46 t k) ?_
      show own_Go _ _ _ _ _ _ _ T46 (mkF m 310 #[.val (.int p1), .val (.int p2), .val (.int p3), .val (.int p4), .val (.ref b1), .val (.int vv), .val (.int ((p2 &&& (2147483647 : Int32)) % (41 : Int32))), .val (.int (((p3 &&& (2147483647 : Int32)) % (3 : Int32)) - (1 : Int32)))] [(.int (own_vN vv))])
      refine own_step (fun t k => XS.iload X46.here hx rfl (hb hby at_310) rfl k) ?_
      show own_Go _ _ _ _ _ _ _ T46 (mkF m 312 #[.val (.int p1), .val (.int p2), .val (.int p3), .val (.int p4), .val (.ref b1), .val (.int vv), .val (.int ((p2 &&& (2147483647 : Int32)) % (41 : Int32))), .val (.int (((p3 &&& (2147483647 : Int32)) % (3 : Int32)) - (1 : Int32)))] [(.int vv), (.int (own_vN vv))])
      obtain ⟨_, _, ⟨T47, L47, k47, n47⟩, -, X47, ⟨Lc47, hQ47, l47, y47, z47⟩, st47⟩ := Jvm.LawKit.callS X46 hx (y := (⟨"com/example/xylem/xylem/XmlCharsIsNameStartCharPinLaw", "ref", "(I)Z"⟩ : MethodName)) hown (mvT hZ (hw _ (List.mem_of_getElem? (i := 18) rfl))) (mvT hZ (hw _ (List.mem_of_getElem? (i := 19) rfl))) (mvT hZ (hw _ (List.mem_of_getElem? (i := 20) rfl))) (mvT hZ (hw _ (List.mem_of_getElem? (i := 21) rfl))) (by decide) (backOf (W := 1) (own_rm2 l Z a0 hw [] vv h42 n0 (Nat.le_trans Z0 K42.1)) hZ (hw _ (List.mem_of_getElem? (i := 21) rfl)) (hw _ (List.mem_of_getElem? (i := 20) rfl)) (by decide) (by decide)) (g := (mkF m 312 #[.val (.int p1), .val (.int p2), .val (.int p3), .val (.int p4), .val (.ref b1), .val (.int vv), .val (.int ((p2 &&& (2147483647 : Int32)) % (41 : Int32))), .val (.int (((p3 &&& (2147483647 : Int32)) % (3 : Int32)) - (1 : Int32)))] [(.int vv), (.int (own_vN vv))])) rfl (by rw [hml]; rfl) (argsL := [(.int vv)]) (rest := [(.int (own_vN vv))]) (lenOf own_pd0_0 rfl) rfl (by show 2 * 0 + _ ≤ _; exact Nat.le_of_eq rfl) (hb hby at_312) (fun _ _ => ⟨rfl, e46, (by decide : 1 + 0 ≤ _), (by decide : 41 + 0 ≤ _)⟩)
      dsimp only [Pt.U, Pt.locs, Pt.cells, Pt.slots] at X47 l47 y47 z47 st47 hQ47
      subst l47 y47 z47
      obtain ⟨rfl, Nq47, e47⟩ := hQ47
      have N47 := Fr.app N46 Nq47
      refine own_step (fun t k => st47 t k) ?_
      show own_Go _ _ _ _ _ _ _ T47 (mkF m 315 #[.val (.int p1), .val (.int p2), .val (.int p3), .val (.int p4), .val (.ref b1), .val (.int vv), .val (.int ((p2 &&& (2147483647 : Int32)) % (41 : Int32))), .val (.int (((p3 &&& (2147483647 : Int32)) % (3 : Int32)) - (1 : Int32)))] [(.int (own_vN vv)), (.int (own_vN vv))])
      refine own_step (fun t k => XS.icmpNo X47.here hx rfl (hb hby at_315) rfl (teq (rfl)).2 k) ?_
      show own_Go _ _ _ _ _ _ _ T47 (mkF m 318 #[.val (.int p1), .val (.int p2), .val (.int p3), .val (.int p4), .val (.ref b1), .val (.int vv), .val (.int ((p2 &&& (2147483647 : Int32)) % (41 : Int32))), .val (.int (((p3 &&& (2147483647 : Int32)) % (3 : Int32)) - (1 : Int32)))] [])
      refine own_step (fun t k => XS.iconst X47.here hx rfl (hb hby at_318) k) ?_
      show own_Go _ _ _ _ _ _ _ T47 (mkF m 319 #[.val (.int p1), .val (.int p2), .val (.int p3), .val (.int p4), .val (.ref b1), .val (.int vv), .val (.int ((p2 &&& (2147483647 : Int32)) % (41 : Int32))), .val (.int (((p3 &&& (2147483647 : Int32)) % (3 : Int32)) - (1 : Int32)))] [(.int (1 : Int32))])
      refine own_step (fun t k => XS.goto X47.here hx rfl (pc0 := 319) (pc' := 323) rfl (hb hby at_319) (by decide) (by decide) k) ?_
      show own_Go _ _ _ _ _ _ _ T47 (mkF m 323 #[.val (.int p1), .val (.int p2), .val (.int p3), .val (.int p4), .val (.ref b1), .val (.int vv), .val (.int ((p2 &&& (2147483647 : Int32)) % (41 : Int32))), .val (.int (((p3 &&& (2147483647 : Int32)) % (3 : Int32)) - (1 : Int32)))] [(.int (1 : Int32))])
      refine own_ret X47 hx hlk Bd.returns rfl (Or.inl ⟨rfl, Or.inr (Or.inl rfl), _, rfl⟩) (hb hby at_323) (by decide) (by decide) ?_
      show own_Q0 Z p1 p2 p3 p4 aw cl h0 n0 (some (.int (1 : Int32))) T47.heap _
      rw [e47]
      exact ⟨rfl, N47⟩
    · show own_Go _ _ _ _ _ _ _ T43 (mkF m 266 #[.val (.int p1), .val (.int p2), .val (.int p3), .val (.int p4), .val (.ref b1), .unset, .unset, .unset] [(.int (p4 &&& (1 : Int32)))])
      refine own_step (fun t k => XS.ifNo X43.here hx rfl (hb hby at_266) rfl ((if0 _ _).trans (feq (c266_44)).1) k) ?_
      show own_Go _ _ _ _ _ _ _ T43 (mkF m 269 #[.val (.int p1), .val (.int p2), .val (.int p3), .val (.int p4), .val (.ref b1), .unset, .unset, .unset] [])
      refine own_step (fun t k => XS.iloadN X43.here hx rfl (hb hby at_269) rfl k) ?_
      show own_Go _ _ _ _ _ _ _ T43 (mkF m 270 #[.val (.int p1), .val (.int p2), .val (.int p3), .val (.int p4), .val (.ref b1), .unset, .unset, .unset] [(.int p1)])
      refine own_step (fun t k => XS.istore X43.here hx rfl (hb hby at_270) rfl (l' := #[.val (.int p1), .val (.int p2), .val (.int p3), .val (.int p4), .val (.ref b1), .val (.int p1), .unset, .unset]) rfl k) ?_
      show own_Go _ _ _ _ _ _ _ T43 (mkF m 272 #[.val (.int p1), .val (.int p2), .val (.int p3), .val (.int p4), .val (.ref b1), .val (.int p1), .unset, .unset] [])
      refine own_step (fun t k => XS.goto X43.here hx rfl (pc0 := 272) (pc' := 305) rfl (hb hby at_272) (by decide) (by decide) k) ?_
      show own_Go _ _ _ _ _ _ _ T43 (mkF m 305 #[.val (.int p1), .val (.int p2), .val (.int p3), .val (.int p4), .val (.ref b1), .val (.int p1), .unset, .unset] [])
      refine own_step (fun t k => XS.iload X43.here hx rfl (hb hby at_305) rfl k) ?_
      show own_Go _ _ _ _ _ _ _ T43 (mkF m 307 #[.val (.int p1), .val (.int p2), .val (.int p3), .val (.int p4), .val (.ref b1), .val (.int p1), .unset, .unset] [(.int p1)])
      obtain ⟨_, _, ⟨T48, L48, k48, n48⟩, -, X48, ⟨Lc48, hQ48, l48, y48, z48⟩, st48⟩ := Jvm.LawKit.callS X43 hx (y := (⟨"com/example/xylem/xylem/XmlChars", "isNameStartChar", "(I)Z"⟩ : MethodName)) hown (mvT hZ (hw _ (List.mem_of_getElem? (i := 12) rfl))) (mvT hZ (hw _ (List.mem_of_getElem? (i := 13) rfl))) (mvT hZ (hw _ (List.mem_of_getElem? (i := 14) rfl))) (mvT hZ (hw _ (List.mem_of_getElem? (i := 15) rfl))) (by decide) (backOf (W := 0) (own_rm1 l Z a0 hw [] p1 aw cl h42 n0 (Nat.le_trans Z0 K42.1) S2 TB2 HT) hZ (hw _ (List.mem_of_getElem? (i := 15) rfl)) (hw _ (List.mem_of_getElem? (i := 14) rfl)) (by decide) (by decide)) (g := (mkF m 307 #[.val (.int p1), .val (.int p2), .val (.int p3), .val (.int p4), .val (.ref b1), .val (.int p1), .unset, .unset] [(.int p1)])) rfl (by rw [hml]; rfl) (argsL := [(.int p1)]) (rest := []) (lenOf own_pd0_0 rfl) rfl (by show 2 * 0 + _ ≤ _; exact Nat.le_of_eq rfl) (hb hby at_307) (fun _ _ => ⟨rfl, e43, (by decide : 1 + 0 ≤ _), (by decide : 41 + 0 ≤ _)⟩)
      dsimp only [Pt.U, Pt.locs, Pt.cells, Pt.slots] at X48 l48 y48 z48 st48 hQ48
      subst l48 y48 z48
      obtain ⟨rfl, Nq48, e48⟩ := hQ48
      have N48 := Fr.app N43 Nq48
      refine own_step (fun t k => st48 t k) ?_
      show own_Go _ _ _ _ _ _ _ T48 (mkF m 310 #[.val (.int p1), .val (.int p2), .val (.int p3), .val (.int p4), .val (.ref b1), .val (.int p1), .unset, .unset] [(.int (own_vN p1))])
      refine own_step (fun t k => XS.iload X48.here hx rfl (hb hby at_310) rfl k) ?_
      show own_Go _ _ _ _ _ _ _ T48 (mkF m 312 #[.val (.int p1), .val (.int p2), .val (.int p3), .val (.int p4), .val (.ref b1), .val (.int p1), .unset, .unset] [(.int p1), (.int (own_vN p1))])
      obtain ⟨_, _, ⟨T49, L49, k49, n49⟩, -, X49, ⟨Lc49, hQ49, l49, y49, z49⟩, st49⟩ := Jvm.LawKit.callS X48 hx (y := (⟨"com/example/xylem/xylem/XmlCharsIsNameStartCharPinLaw", "ref", "(I)Z"⟩ : MethodName)) hown (mvT hZ (hw _ (List.mem_of_getElem? (i := 18) rfl))) (mvT hZ (hw _ (List.mem_of_getElem? (i := 19) rfl))) (mvT hZ (hw _ (List.mem_of_getElem? (i := 20) rfl))) (mvT hZ (hw _ (List.mem_of_getElem? (i := 21) rfl))) (by decide) (backOf (W := 1) (own_rm2 l Z a0 hw [] p1 h42 n0 (Nat.le_trans Z0 K42.1)) hZ (hw _ (List.mem_of_getElem? (i := 21) rfl)) (hw _ (List.mem_of_getElem? (i := 20) rfl)) (by decide) (by decide)) (g := (mkF m 312 #[.val (.int p1), .val (.int p2), .val (.int p3), .val (.int p4), .val (.ref b1), .val (.int p1), .unset, .unset] [(.int p1), (.int (own_vN p1))])) rfl (by rw [hml]; rfl) (argsL := [(.int p1)]) (rest := [(.int (own_vN p1))]) (lenOf own_pd0_0 rfl) rfl (by show 2 * 0 + _ ≤ _; exact Nat.le_of_eq rfl) (hb hby at_312) (fun _ _ => ⟨rfl, e48, (by decide : 1 + 0 ≤ _), (by decide : 41 + 0 ≤ _)⟩)
      dsimp only [Pt.U, Pt.locs, Pt.cells, Pt.slots] at X49 l49 y49 z49 st49 hQ49
      subst l49 y49 z49
      obtain ⟨rfl, Nq49, e49⟩ := hQ49
      have N49 := Fr.app N48 Nq49
      refine own_step (fun t k => st49 t k) ?_
      show own_Go _ _ _ _ _ _ _ T49 (mkF m 315 #[.val (.int p1), .val (.int p2), .val (.int p3), .val (.int p4), .val (.ref b1), .val (.int p1), .unset, .unset] [(.int (own_vN p1)), (.int (own_vN p1))])
      refine own_step (fun t k => XS.icmpNo X49.here hx rfl (hb hby at_315) rfl (teq (rfl)).2 k) ?_
      show own_Go _ _ _ _ _ _ _ T49 (mkF m 318 #[.val (.int p1), .val (.int p2), .val (.int p3), .val (.int p4), .val (.ref b1), .val (.int p1), .unset, .unset] [])
      refine own_step (fun t k => XS.iconst X49.here hx rfl (hb hby at_318) k) ?_
      show own_Go _ _ _ _ _ _ _ T49 (mkF m 319 #[.val (.int p1), .val (.int p2), .val (.int p3), .val (.int p4), .val (.ref b1), .val (.int p1), .unset, .unset] [(.int (1 : Int32))])
      refine own_step (fun t k => XS.goto X49.here hx rfl (pc0 := 319) (pc' := 323) rfl (hb hby at_319) (by decide) (by decide) k) ?_
      show own_Go _ _ _ _ _ _ _ T49 (mkF m 323 #[.val (.int p1), .val (.int p2), .val (.int p3), .val (.int p4), .val (.ref b1), .val (.int p1), .unset, .unset] [(.int (1 : Int32))])
      refine own_ret X49 hx hlk Bd.returns rfl (Or.inl ⟨rfl, Or.inr (Or.inl rfl), _, rfl⟩) (hb hby at_323) (by decide) (by decide) ?_
      show own_Q0 Z p1 p2 p3 p4 aw cl h0 n0 (some (.int (1 : Int32))) T49.heap _
      rw [e49]
      exact ⟨rfl, N49⟩
  show own_Go _ _ _ _ _ _ _ T42 (mkF m 266 #[.val (.int p1), .val (.int p2), .val (.int p3), .val (.int p4), .val (.ref b1), .unset, .unset, .unset] [(.int (p4 &&& (1 : Int32)))])
  exact JF _ _ X42 e42 N42 
section OwnTbl
variable {s : State} {args : Array Value} {tt : Term} {a : Addr} {cl : Cell}
theorem own_el (hcl : s.arrayAt? a = some cl) (T : Tab s s.heap a cl .byte (128 : Int32)) {idx : List Nat} {ti : Term} {j v : Int32} (ev : tt.eval args s none idx s = some (.ref a)) (hj : ti.eval args s none idx s = some (.int j)) (h0 : 0 ≤ j.toInt) (h1 : j.toInt < 128) : (Cond.eq (.elem tt ti) (.int v)).value args s none s idx = some (decide (atv cl j = v)) := by
  have hin : ¬ (j < 0 ∨ cl.slots.size ≤ j.toNatClampNeg) := by rw [T.2.1]; exact own_in (n := 128) h0 h1
  have hn : ¬ j < 0 := fun q => hin (Or.inl q)
  have e := (elem_f ev hj hcl hn).trans (T.2.2.2 j hin)
  exact Cond.eq_ints e (Term.int_eval v)
theorem own_pt (hcl : s.arrayAt? a = some cl) (T : Tab s s.heap a cl .byte (128 : Int32)) {k v : Int32} (ev : tt.eval args s none [] s = some (.ref a)) (h0 : 0 ≤ k.toInt) (h1 : k.toInt < 128) (h : (Cond.eq (.elem tt (.int k)) (.int v)).value args s none s [] = some true) : atv cl k = v :=
  gotT (own_el hcl T ev (Term.int_eval k) h0 h1) h
theorem own_all (hcl : s.arrayAt? a = some cl) (T : Tab s s.heap a cl .byte (128 : Int32)) {c : Cond} (ev : tt.eval args s none [] s = some (.ref a)) (h : (Cond.all tt c).value args s none s [] = some true) (j : Int32) (h0 : 0 ≤ j.toInt) (h1 : j.toInt < 128) : c.value args s none s [j.toNatClampNeg] = some true := by
  refine Cond.all_elim ev hcl h _ ?_
  have hin : ¬ (j < 0 ∨ cl.slots.size ≤ j.toNatClampNeg) := by rw [T.2.1]; exact own_in (n := 128) h0 h1
  exact Nat.lt_of_not_le fun q => hin (Or.inr q)
theorem own_ix {j : Int32} (h0 : 0 ≤ j.toInt) : (Term.index 0).eval args s none [j.toNatClampNeg] s = some (.int j) := by
  have hn : ¬ j < 0 := by simp only [Int32.lt_iff_toInt_lt, Int32.reduceToInt]; omega
  exact idx_at hn
end OwnTbl
theorem own_len_eq {s : State} {args : Array Value} {t : Term} {a : Addr} {cl : Cell} {n : Int32} (ev : t.eval args s none [] s = some (.ref a)) (hcl : s.arrayAt? a = some cl) (h : (Cond.eq (Term.length t) (Term.int n)).value args s none s [] = some true) : cl.slots.size < 2 ^ 31 ∧ cl.slots.size.toInt32 = n := by
  obtain ⟨v, y, hv, -, -, -⟩ := cmp_v (Or.inl h)
  by_cases q : cl.slots.size < 2 ^ 31
  · exact ⟨q, gotT (Cond.eq_ints (len_f ev hcl q) (Term.int_eval n)) h⟩
  · exfalso
    have z : (Term.length t).eval args s none [] s = none := by simp [Term.eval, ev, hcl, q]
    rw [z] at hv; cases hv
set_option maxRecDepth 65536 in
set_option maxHeartbeats 40000000 in
theorem own_comes_1 {Post : Tables → Env → Array Value → State → Outcome → State → Prop} (hpost : ∀ tb e args s v u, (limb_1_1.after args s (.returned v) u = true ∧ limb_1_2.after args s (.returned v) u = true ∧ True) → FrameEnd s (.returned v) u (Jvm.fieldLocs frame_1_writes args s ++ Jvm.arrayLocs frame_1_arrays args s ++ Jvm.staticLocs frame_1_statics s) 16 192 → Post tb e args s (.returned v) u) :
    ArmFor flags0 classFile x code maxLocals ret World_1 tables_1 room_1 Calls_1 rest_1 Pre_1 Post := by
  intro l hfl _ _ p e ha hc hk s m args below hf hA hF happ hP
  obtain ⟨hcalls, hrest, hpre⟩ := hP
  obtain ⟨-, -, -, hnamed, -, -, -, hat⟩ := (Spec.applies_iff hf).mp happ
  obtain ⟨hg, hn⟩ := and_e (Cond.before_iff.mp (show (Jvm.Cond.and given_1 narrow_1).before args s = true from hpre))
  obtain ⟨g0, r0⟩ := and_e hg
  obtain ⟨g1, r1⟩ := and_e r0
  obtain ⟨g2, r2⟩ := and_e r1
  obtain ⟨g3, r3⟩ := and_e r2
  have g4 := r3
  obtain ⟨w0, w1, w2, w3, rfl⟩ : ∃ w0 w1 w2 w3 : Value, args = #[w0, w1, w2, w3] := by
    have hs : args.size = 4 := by simpa [Cond.value, given_1] using g0
    obtain ⟨L⟩ := args
    match L, hs with
    | [w0, w1, w2, w3], _ => exact ⟨w0, w1, w2, w3, rfl⟩
  have hw := fun d (hd : d ∈ tables_1) => atoms_spec (ws := Jvm.Cond.code x code maxLocals ret :: tables_1) hat d (List.mem_cons_of_mem _ hd)
  have hfit : Fit s := fun {y c} hc i hi => by
    obtain ⟨ha, rfl⟩ := Array.getElem?_eq_some_iff.mp hc
    have q := List.all_eq_true.mp ((Array.all_eq_true_iff_forall_mem.mp hF) _ (Array.getElem_mem ha)) i (List.mem_range.mpr hi)
    simpa [Array.getElem?_eq_getElem hi] using q
  obtain ⟨i0, ei0⟩ := is_v g1
  obtain rfl : w0 = (.int i0) := Option.some.inj ei0
  obtain ⟨i1, ei1⟩ := is_v g2
  obtain rfl : w1 = (.int i1) := Option.some.inj ei1
  obtain ⟨i2, ei2⟩ := is_v g3
  obtain rfl : w2 = (.int i2) := Option.some.inj ei2
  obtain ⟨i3, ei3⟩ := is_v g4
  obtain rfl : w3 = (.int i3) := Option.some.inj ei3
  unfold narrow_1 at hn
  obtain ⟨nA, hn⟩ := and_e hn
  obtain ⟨nL, hn⟩ := and_e hn
  obtain ⟨na1, hn⟩ := and_e hn
  obtain ⟨nk45, hn⟩ := and_e hn
  obtain ⟨nk46, hn⟩ := and_e hn
  obtain ⟨nk47, hn⟩ := and_e hn
  obtain ⟨na2, hn⟩ := and_e hn
  obtain ⟨nk58, hn⟩ := and_e hn
  obtain ⟨na3, hn⟩ := and_e hn
  obtain ⟨na4, hn⟩ := and_e hn
  obtain ⟨na5, hn⟩ := and_e hn
  obtain ⟨nk95, hn⟩ := and_e hn
  obtain ⟨nk96, hn⟩ := and_e hn
  obtain ⟨na6, na7⟩ := and_e hn
  obtain ⟨aw, ev⟩ := arr_v nA
  obtain ⟨cl, AR⟩ := Arr.start ev nA
  have hcl : s.arrayAt? aw = some cl := AR.fin (Vm.Alike.refl _)
  have hlen := own_len_eq ev hcl nL
  have T := Tab.start hfit AR (by simp) hlen.1 hlen.2 (by decide)
  have S1 := Sta.start ev (Or.inr ⟨(hw _ (List.mem_of_getElem? (i := 14) rfl)), (hw _ (List.mem_of_getElem? (i := 17) rfl))⟩)
  have e45 : atv cl 45 = 2 := own_pt hcl T ev (by decide) (by decide) nk45
  have e46 : atv cl 46 = 2 := own_pt hcl T ev (by decide) (by decide) nk46
  have e47 : atv cl 47 = 0 := own_pt hcl T ev (by decide) (by decide) nk47
  have e58 : atv cl 58 = 3 := own_pt hcl T ev (by decide) (by decide) nk58
  have e95 : atv cl 95 = 3 := own_pt hcl T ev (by decide) (by decide) nk95
  have e96 : atv cl 96 = 0 := own_pt hcl T ev (by decide) (by decide) nk96
  have HT : own_Tbl cl := by
    intro j h0 h1
    have evj : ∀ idx, (Term.static "com/example/xylem/xylem/XmlChars" "ASCII_NAMES" "[B").eval #[(.int i0), (.int i1), (.int i2), (.int i3)] s none idx s = some (.ref aw) := fun idx => ev
    have ix := own_ix (s := s) (args := #[(.int i0), (.int i1), (.int i2), (.int i3)]) h0
    have fa1 := own_all hcl T ev na1 j h0 h1
    have ra1 : 45 ≤ j.toInt ∨ atv cl j = 0 := by
      have el := own_el (v := 0) hcl T (evj [j.toNatClampNeg]) ix h0 h1
      have e2 : (Cond.le (Term.int 45) (Term.index 0)).value #[(.int i0), (.int i1), (.int i2), (.int i3)] s none s [j.toNatClampNeg] = some (decide (45 ≤ j)) := Cond.le_ints (Term.int_eval _) ix
      by_cases q2 : (45 : Int32) ≤ j
      · exact Or.inl (by simpa [Int32.le_iff_toInt_le] using q2)
      rw [Cond.or_of_right (nay e2 q2)] at fa1
      exact Or.inr (gotT el fa1)
    have fa2 := own_all hcl T ev na2 j h0 h1
    have ra2 : j.toInt < 48 ∨ 58 ≤ j.toInt ∨ atv cl j = 2 := by
      have el := own_el (v := 2) hcl T (evj [j.toNatClampNeg]) ix h0 h1
      have e1 : (Cond.lt (Term.index 0) (Term.int 48)).value #[(.int i0), (.int i1), (.int i2), (.int i3)] s none s [j.toNatClampNeg] = some (decide (j < 48)) := Cond.lt_ints ix (Term.int_eval _)
      have e2 : (Cond.le (Term.int 58) (Term.index 0)).value #[(.int i0), (.int i1), (.int i2), (.int i3)] s none s [j.toNatClampNeg] = some (decide (58 ≤ j)) := Cond.le_ints (Term.int_eval _) ix
      by_cases q1 : j < 48
      · exact Or.inl (by simpa [Int32.lt_iff_toInt_lt] using q1)
      rw [Cond.or_of_right (nay e1 q1)] at fa2
      by_cases q2 : (58 : Int32) ≤ j
      · exact Or.inr (Or.inl (by simpa [Int32.le_iff_toInt_le] using q2))
      rw [Cond.or_of_right (nay e2 q2)] at fa2
      exact Or.inr (Or.inr (gotT el fa2))
    have fa3 := own_all hcl T ev na3 j h0 h1
    have ra3 : j.toInt < 59 ∨ 65 ≤ j.toInt ∨ atv cl j = 0 := by
      have el := own_el (v := 0) hcl T (evj [j.toNatClampNeg]) ix h0 h1
      have e1 : (Cond.lt (Term.index 0) (Term.int 59)).value #[(.int i0), (.int i1), (.int i2), (.int i3)] s none s [j.toNatClampNeg] = some (decide (j < 59)) := Cond.lt_ints ix (Term.int_eval _)
      have e2 : (Cond.le (Term.int 65) (Term.index 0)).value #[(.int i0), (.int i1), (.int i2), (.int i3)] s none s [j.toNatClampNeg] = some (decide (65 ≤ j)) := Cond.le_ints (Term.int_eval _) ix
      by_cases q1 : j < 59
      · exact Or.inl (by simpa [Int32.lt_iff_toInt_lt] using q1)
      rw [Cond.or_of_right (nay e1 q1)] at fa3
      by_cases q2 : (65 : Int32) ≤ j
      · exact Or.inr (Or.inl (by simpa [Int32.le_iff_toInt_le] using q2))
      rw [Cond.or_of_right (nay e2 q2)] at fa3
      exact Or.inr (Or.inr (gotT el fa3))
    have fa4 := own_all hcl T ev na4 j h0 h1
    have ra4 : j.toInt < 65 ∨ 91 ≤ j.toInt ∨ atv cl j = 3 := by
      have el := own_el (v := 3) hcl T (evj [j.toNatClampNeg]) ix h0 h1
      have e1 : (Cond.lt (Term.index 0) (Term.int 65)).value #[(.int i0), (.int i1), (.int i2), (.int i3)] s none s [j.toNatClampNeg] = some (decide (j < 65)) := Cond.lt_ints ix (Term.int_eval _)
      have e2 : (Cond.le (Term.int 91) (Term.index 0)).value #[(.int i0), (.int i1), (.int i2), (.int i3)] s none s [j.toNatClampNeg] = some (decide (91 ≤ j)) := Cond.le_ints (Term.int_eval _) ix
      by_cases q1 : j < 65
      · exact Or.inl (by simpa [Int32.lt_iff_toInt_lt] using q1)
      rw [Cond.or_of_right (nay e1 q1)] at fa4
      by_cases q2 : (91 : Int32) ≤ j
      · exact Or.inr (Or.inl (by simpa [Int32.le_iff_toInt_le] using q2))
      rw [Cond.or_of_right (nay e2 q2)] at fa4
      exact Or.inr (Or.inr (gotT el fa4))
    have fa5 := own_all hcl T ev na5 j h0 h1
    have ra5 : j.toInt < 91 ∨ 95 ≤ j.toInt ∨ atv cl j = 0 := by
      have el := own_el (v := 0) hcl T (evj [j.toNatClampNeg]) ix h0 h1
      have e1 : (Cond.lt (Term.index 0) (Term.int 91)).value #[(.int i0), (.int i1), (.int i2), (.int i3)] s none s [j.toNatClampNeg] = some (decide (j < 91)) := Cond.lt_ints ix (Term.int_eval _)
      have e2 : (Cond.le (Term.int 95) (Term.index 0)).value #[(.int i0), (.int i1), (.int i2), (.int i3)] s none s [j.toNatClampNeg] = some (decide (95 ≤ j)) := Cond.le_ints (Term.int_eval _) ix
      by_cases q1 : j < 91
      · exact Or.inl (by simpa [Int32.lt_iff_toInt_lt] using q1)
      rw [Cond.or_of_right (nay e1 q1)] at fa5
      by_cases q2 : (95 : Int32) ≤ j
      · exact Or.inr (Or.inl (by simpa [Int32.le_iff_toInt_le] using q2))
      rw [Cond.or_of_right (nay e2 q2)] at fa5
      exact Or.inr (Or.inr (gotT el fa5))
    have fa6 := own_all hcl T ev na6 j h0 h1
    have ra6 : j.toInt < 97 ∨ 123 ≤ j.toInt ∨ atv cl j = 3 := by
      have el := own_el (v := 3) hcl T (evj [j.toNatClampNeg]) ix h0 h1
      have e1 : (Cond.lt (Term.index 0) (Term.int 97)).value #[(.int i0), (.int i1), (.int i2), (.int i3)] s none s [j.toNatClampNeg] = some (decide (j < 97)) := Cond.lt_ints ix (Term.int_eval _)
      have e2 : (Cond.le (Term.int 123) (Term.index 0)).value #[(.int i0), (.int i1), (.int i2), (.int i3)] s none s [j.toNatClampNeg] = some (decide (123 ≤ j)) := Cond.le_ints (Term.int_eval _) ix
      by_cases q1 : j < 97
      · exact Or.inl (by simpa [Int32.lt_iff_toInt_lt] using q1)
      rw [Cond.or_of_right (nay e1 q1)] at fa6
      by_cases q2 : (123 : Int32) ≤ j
      · exact Or.inr (Or.inl (by simpa [Int32.le_iff_toInt_le] using q2))
      rw [Cond.or_of_right (nay e2 q2)] at fa6
      exact Or.inr (Or.inr (gotT el fa6))
    have fa7 := own_all hcl T ev na7 j h0 h1
    have ra7 : j.toInt < 123 ∨ atv cl j = 0 := by
      have el := own_el (v := 0) hcl T (evj [j.toNatClampNeg]) ix h0 h1
      have e1 : (Cond.lt (Term.index 0) (Term.int 123)).value #[(.int i0), (.int i1), (.int i2), (.int i3)] s none s [j.toNatClampNeg] = some (decide (j < 123)) := Cond.lt_ints ix (Term.int_eval _)
      by_cases q1 : j < 123
      · exact Or.inl (by simpa [Int32.lt_iff_toInt_lt] using q1)
      rw [Cond.or_of_right (nay e1 q1)] at fa7
      exact Or.inr (gotT el fa7)
    have p45 : j.toInt = 45 → atv cl j = 2 := fun q => by rw [show j = 45 from Int32.toInt_inj.mp (by rw [q]; decide)]; exact e45
    have p46 : j.toInt = 46 → atv cl j = 2 := fun q => by rw [show j = 46 from Int32.toInt_inj.mp (by rw [q]; decide)]; exact e46
    have p47 : j.toInt = 47 → atv cl j = 0 := fun q => by rw [show j = 47 from Int32.toInt_inj.mp (by rw [q]; decide)]; exact e47
    have p58 : j.toInt = 58 → atv cl j = 3 := fun q => by rw [show j = 58 from Int32.toInt_inj.mp (by rw [q]; decide)]; exact e58
    have p95 : j.toInt = 95 → atv cl j = 3 := fun q => by rw [show j = 95 from Int32.toInt_inj.mp (by rw [q]; decide)]; exact e95
    have p96 : j.toInt = 96 → atv cl j = 0 := fun q => by rw [show j = 96 from Int32.toInt_inj.mp (by rw [q]; decide)]; exact e96
    have b0 : (0 : Int32) &&& 1 = 0 := by decide
    have b2 : (2 : Int32) &&& 1 = 0 := by decide
    have b3 : ¬ (3 : Int32) &&& 1 = 0 := by decide
    have key : ((atv cl j = 0 ∨ atv cl j = 2) ∧ ¬ (j.toInt = 58 ∨ (65 ≤ j.toInt ∧ j.toInt ≤ 90) ∨ j.toInt = 95 ∨ (97 ≤ j.toInt ∧ j.toInt ≤ 122))) ∨ (atv cl j = 3 ∧ (j.toInt = 58 ∨ (65 ≤ j.toInt ∧ j.toInt ≤ 90) ∨ j.toInt = 95 ∨ (97 ≤ j.toInt ∧ j.toInt ≤ 122))) := by
      generalize atv cl j = z at *
      rcases Classical.em (z = 0) with y0 | y0
      · subst y0
        refine Or.inl ⟨Or.inl rfl, ?_⟩
        simp at *; omega
      · rcases Classical.em (z = 2) with y2 | y2
        · subst y2
          refine Or.inl ⟨Or.inr rfl, ?_⟩
          simp at *; omega
        · rcases Classical.em (z = 3) with y3 | y3
          · subst y3
            refine Or.inr ⟨rfl, ?_⟩
            simp at *; omega
          · exfalso
            simp [y0, y2, y3] at *; omega
    rcases key with ⟨k1 | k1, k2⟩ | ⟨k1, k2⟩
    · exact Or.inl ⟨by rw [k1]; exact b0, k2⟩
    · exact Or.inl ⟨by rw [k1]; exact b2, k2⟩
    · exact Or.inr ⟨by rw [k1]; exact b3, k2⟩
  obtain ⟨n, o, h1, h2, h3, _, L, rfl, ⟨rfl, N⟩, hq⟩ := own_rm0 l s _ hw tables_1 i0 i1 i2 i3 aw cl s.heap s.heap.size (Nat.le_refl _) S1 T HT p e ha hc hk s m _ below hf ((Spec.applies_iff_loose hf).mp happ).1 ⟨rfl, State.Warmed39.refl s, rfl⟩ trivial
  refine ⟨n, _, h1, h2, h3, hpost _ _ _ _ _ _ ⟨Cond.after_iff.mpr rfl, Cond.after_iff.mpr (eq_i res_at (Term.int_eval (1)) rfl), trivial⟩ ⟨hq.1, hq.2.1, (hq.2.2.sift fun y hy => Or.inr (N y hy)).mono (by decide) (by decide)⟩⟩
theorem main_1_1 : Claimed_1_1 := own_comes_1 fun _ _ _ _ _ _ h hF => ⟨h.1, hF⟩
theorem main_1_2 : Claimed_1_2 := own_comes_1 fun _ _ _ _ _ _ h hF => ⟨h.2.1, hF⟩
end Jvm.Pilot.@@N@@
namespace Jvm.Pilot.@@N@@
open Jvm Jvm.ClassFile Sem Op Lib Jvm.Free Jvm.Stand Jvm.Pilot.@@N@@.Jvm.D
/-! MADE BY PROGRAM (witnessworld.py) out of the Statement's table words and the real class files: 9 classes; the members and pool entries that the words name. The judged class is class 1, her method 2. -/
namespace start1
open Jvm.ClassFile
def u (s : String) : CpInfo := .utf8 (stringToUtf16 s)
/-- a pool by its gaps: so many unusable entries, then the entry; so many at the end -/
def gap : Nat → List CpInfo → List CpInfo
  | 0, r => r
  | n + 1, r => .unusable :: gap n r
def poolList (es : List (Nat × CpInfo)) (last : Nat) : List CpInfo := es.foldr (fun e r => gap e.1 (e.2 :: r)) (gap last [])
def pool (es : List (Nat × CpInfo)) (last : Nat) : Array CpInfo := ⟨poolList es last⟩
def fileOf (pool : Array CpInfo) (this : Nat) (attrs : Array Attribute := #[]) (ms : Array MethodInfo := #[]) (fl : Nat := 33) (sup : Nat := 0) (ifs : Array Nat := #[]) (fds : Array FieldInfo := #[]) : ClassFile where
  minorVersion := 0
  majorVersion := 65
  constantPool := pool
  accessFlags := fl
  thisClass := this
  superClass := sup
  interfaces := ifs
  fields := fds
  methods := ms
  attributes := attrs
def plain (name : String) (sup : Option ClassId) : Class where
  name := name
  kind := .ordinary
  loader := none
  accessFlags := 33
  super := sup
  interfaces := #[]
  cf := none
  fields := #[]
  methods := #[]
  instanceTypes := #[]
  staticTypes := #[]
  resolved := #[]
  callSites := []
  init := .initialized
  statics := none
  mirror := none

def pool0 : Array CpInfo := pool [(5, u "<init>"), (0, u "()V"), (1, .class_ 10), (1, u "java/lang/Object")] 113

def k0m0 : Method := { name := "<init>", desc := "()V", sig := { parameters := [], returnType := none }, accessFlags := 1, code := none }
/-- java/lang/Object -/
def k0 : Class := { plain "java/lang/Object" none with
  accessFlags := 33
  interfaces := #[]
  cf := some (fileOf pool0 8 #[] #[{ accessFlags := 1, nameIndex := 5, descriptorIndex := 6, attributes := #[] }] 33 0 #[] #[])
  fields := #[]
  methods := #[k0m0]
  instanceTypes := #[]
  staticTypes := #[]
  resolved := Array.replicate 124 none
  statics := none }

def pool1 : Array CpInfo := pool [(2, .class_ 4), (1, u "java/lang/Object"), (0, u "<init>"), (0, u "()V"), (0, .integer 55295), (0, .integer 63744), (0, .integer 64975), (0, .integer 65008), (0, .integer 65533), (0, .integer 65536), (0, .integer 983039), (2, .integer 2147483648), (0, .integer 55296), (0, .integer 1114111), (0, .integer 2147483647), (0, .methodref 21 22), (0, .class_ 23), (0, .nameAndType 24 25), (0, u "com/example/xylem/xylem/XmlChars"), (0, u "isNameStartChar"), (0, u "(I)Z"), (0, .methodref 27 28), (0, .class_ 29), (0, .nameAndType 30 25), (0, u "com/example/xylem/xylem/XmlCharsIsNameStartCharPinLaw"), (0, u "ref"), (3, u "law"), (0, u "(IIII)Z")] 4

def k1m0 : Method := { name := "<init>", desc := "()V", sig := { parameters := [], returnType := none }, accessFlags := 2, code := none }
def k1c1 : Code := { maxStack := 2, maxLocals := 1, code := method_2_code, exceptionTable := #[], attributes := #[] }
def k1m1 : Method := { name := "ref", desc := "(I)Z", sig := { parameters := [.int], returnType := some .boolean }, accessFlags := 10, code := some k1c1 }
def k1c2 : Code := { maxStack := 4, maxLocals := 8, code := code, exceptionTable := #[], attributes := #[] }
def k1m2 : Method := { name := "law", desc := "(IIII)Z", sig := { parameters := [.int, .int, .int, .int], returnType := some .boolean }, accessFlags := 9, code := some k1c2 }
/-- com/example/xylem/xylem/XmlCharsIsNameStartCharPinLaw -/
def k1 : Class := { plain "com/example/xylem/xylem/XmlCharsIsNameStartCharPinLaw" (some 0) with
  accessFlags := 49
  interfaces := #[]
  cf := some (fileOf pool1 27 #[] #[{ accessFlags := 2, nameIndex := 5, descriptorIndex := 6, attributes := #[] }, { accessFlags := 10, nameIndex := 30, descriptorIndex := 25, attributes := #[] }, { accessFlags := 9, nameIndex := 34, descriptorIndex := 35, attributes := #[] }] 49 2 #[] #[])
  fields := #[]
  methods := #[k1m0, k1m1, k1m2]
  instanceTypes := #[]
  staticTypes := #[]
  resolved := Array.replicate 40 none
  statics := none }

def pool2 : Array CpInfo := pool [(2, .class_ 4), (1, u "java/lang/Object"), (0, u "<init>"), (0, u "()V"), (0, .class_ 8), (0, u "com/example/xylem/xylem/XmlChars"), (0, .integer 55295), (1, .integer 65533), (0, .integer 65536), (4, u "(I)Z"), (18, .fieldref 7 37), (0, .nameAndType 38 39), (0, u "ASCII_NAMES"), (0, u "[B"), (0, .integer 63744), (0, .integer 64975), (0, .integer 65008), (0, .integer 983039), (2, u "isNameStartChar"), (30, u "NAME_START"), (0, u "B"), (2, u "NAME"), (1, u "PUBID_MARKS"), (0, u "Ljava/lang/String;")] 12

def k2m0 : Method := { name := "<init>", desc := "()V", sig := { parameters := [], returnType := none }, accessFlags := 2, code := none }
def k2c1 : Code := { maxStack := 2, maxLocals := 1, code := prog_9_method_8_code, exceptionTable := #[], attributes := #[] }
def k2m1 : Method := { name := "isNameStartChar", desc := "(I)Z", sig := { parameters := [.int], returnType := some .boolean }, accessFlags := 9, code := some k2c1 }
/-- com/example/xylem/xylem/XmlChars -/
def k2 : Class := { plain "com/example/xylem/xylem/XmlChars" (some 0) with
  accessFlags := 49
  interfaces := #[]
  cf := some (fileOf pool2 7 #[] #[{ accessFlags := 2, nameIndex := 5, descriptorIndex := 6, attributes := #[] }, { accessFlags := 9, nameIndex := 46, descriptorIndex := 17, attributes := #[] }] 49 2 #[] #[{ accessFlags := 26, nameIndex := 77, descriptorIndex := 78, attributes := #[] }, { accessFlags := 26, nameIndex := 81, descriptorIndex := 78, attributes := #[] }, { accessFlags := 26, nameIndex := 38, descriptorIndex := 39, attributes := #[] }, { accessFlags := 26, nameIndex := 83, descriptorIndex := 84, attributes := #[] }])
  fields := #[{ name := "NAME_START", type := .byte, accessFlags := 26, slot := 0, constantValue := 0 }, { name := "NAME", type := .byte, accessFlags := 26, slot := 1, constantValue := 0 }, { name := "ASCII_NAMES", type := (.array .byte), accessFlags := 26, slot := 2, constantValue := 0 }, { name := "PUBID_MARKS", type := (.object "java/lang/String"), accessFlags := 26, slot := 3, constantValue := 0 }]
  methods := #[k2m0, k2m1]
  instanceTypes := #[]
  staticTypes := #[.byte, .byte, (.array .byte), (.object "java/lang/String")]
  resolved := Array.replicate 97 none
  statics := some 0 }

def pool3 : Array CpInfo := pool [(1, u "java/lang/Cloneable"), (0, .class_ 1), (0, u "java/lang/Object"), (0, .class_ 3)] 3

/-- java/lang/Cloneable -/
def k3 : Class := { plain "java/lang/Cloneable" (some 0) with
  accessFlags := 1537
  interfaces := #[]
  cf := some (fileOf pool3 2 #[] #[] 1537 4 #[] #[])
  fields := #[]
  methods := #[]
  instanceTypes := #[]
  staticTypes := #[]
  resolved := Array.replicate 8 none
  statics := none }

def pool4 : Array CpInfo := pool [(1, u "java/io/Serializable"), (0, .class_ 1), (0, u "java/lang/Object"), (0, .class_ 3)] 3

/-- java/io/Serializable -/
def k4 : Class := { plain "java/io/Serializable" (some 0) with
  accessFlags := 1537
  interfaces := #[]
  cf := some (fileOf pool4 2 #[] #[] 1537 4 #[] #[])
  fields := #[]
  methods := #[]
  instanceTypes := #[]
  staticTypes := #[]
  resolved := Array.replicate 8 none
  statics := none }

/-- the primitive byte -/
def k5 : Class := { plain "byte" none with kind := .primitive 'B', accessFlags := 0x411 }
/-- [B -/
def k6 : Class := { plain "[B" (some 0) with kind := .array 5 .byte, interfaces := #[3, 4], accessFlags := 1041 }

/-- the primitive int -/
def k7 : Class := { plain "int" none with kind := .primitive 'I', accessFlags := 0x411 }
/-- [I -/
def k8 : Class := { plain "[I" (some 0) with kind := .array 7 .int, interfaces := #[3, 4], accessFlags := 1041 }

def heap : Heap := #[{ cls := 2, slots := #[.int 0, .int 0, .ref 1, .null], vm := .statics 2 },
  { cls := 6, slots := #[.int 0, .int 0, .int 0, .int 0, .int 0, .int 0, .int 0, .int 0, .int 0, .int 0, .int 0, .int 0, .int 0, .int 0, .int 0, .int 0, .int 0, .int 0, .int 0, .int 0, .int 0, .int 0, .int 0, .int 0, .int 0, .int 0, .int 0, .int 0, .int 0, .int 0, .int 0, .int 0, .int 0, .int 0, .int 0, .int 0, .int 0, .int 0, .int 0, .int 0, .int 0, .int 0, .int 0, .int 0, .int 0, .int 2, .int 2, .int 0, .int 2, .int 2, .int 2, .int 2, .int 2, .int 2, .int 2, .int 2, .int 2, .int 2, .int 3, .int 0, .int 0, .int 0, .int 0, .int 0, .int 0, .int 3, .int 3, .int 3, .int 3, .int 3, .int 3, .int 3, .int 3, .int 3, .int 3, .int 3, .int 3, .int 3, .int 3, .int 3, .int 3, .int 3, .int 3, .int 3, .int 3, .int 3, .int 3, .int 3, .int 3, .int 3, .int 3, .int 0, .int 0, .int 0, .int 0, .int 3, .int 0, .int 3, .int 3, .int 3, .int 3, .int 3, .int 3, .int 3, .int 3, .int 3, .int 3, .int 3, .int 3, .int 3, .int 3, .int 3, .int 3, .int 3, .int 3, .int 3, .int 3, .int 3, .int 3, .int 3, .int 3, .int 3, .int 3, .int 0, .int 0, .int 0, .int 0, .int 0], vm := .none }]
def classes : Array Class := #[k0, k1, k2, k3, k4, k5, k6, k7, k8]
def interned : List (Array UInt16 × Addr) := []
def slotsUsed : Nat := 132
def theMethod : MethodId := ⟨1, 2⟩
def args0 : Array Value := #[.int 5, .int 3, .int 2, .int 1]
def aboutOver (below : List Frame) : State where
  vm := { classes := classes, interned := interned.toArray }
  heap := heap
  slotsUsed := slotsUsed
  threads := #[{ frames := .invoking theMethod args0 :: below }]
def below0 : List Frame := [.native { method := ⟨0, 0⟩, args := #[] }]
def about1 : State := aboutOver below0
def p0 : Program := .bare "" "" ""
def e0 : Env := launch0.env 0 0 0
theorem w_frames : about1.frames = Frame.invoking theMethod args0 :: below0 := rfl
set_option maxRecDepth 65536 in
theorem w_args : argsFit about1.vm theMethod args0 = true := by decide +kernel
set_option maxRecDepth 65536 in
theorem w_heap : heapFits about1 = true := by decide +kernel
set_option maxRecDepth 65536 in
theorem w_runnable : about1.curStatus? = some .runnable := by decide +kernel
set_option maxRecDepth 65536 in
theorem w_alone : about1.alone = true := by decide +kernel
set_option maxRecDepth 65536 in
theorem w_named : about1.methodNamed? x = some theMethod := by decide +kernel
set_option maxRecDepth 65536 in
theorem w_hears : about1.hears theMethod below0 = true := by decide +kernel
set_option maxRecDepth 65536 in
theorem w_ripe : about1.ripe theMethod args0 below0 = true := by decide +kernel
theorem w_running : about1.status = .running := rfl
set_option maxRecDepth 65536 in
theorem w_room : about1.hasRoom e0.platform room_1 = true :=
  launch0.hasRoom_least _ room_1 (by decide +kernel) (by decide +kernel) (by decide +kernel) (by decide +kernel) (by decide +kernel) (by decide +kernel)
theorem allAtoms_all (ts : List Jvm.Cond) (a : Array Jvm.Value) (st : Jvm.State) : (allAtoms ts).before a st = ts.all (fun c => c.before a st) := by
  induction ts with
  | nil => rfl
  | cons c t ih =>
    show (Jvm.Cond.and c (allAtoms t)).before a st = _
    rw [Jvm.Cond.before_and, ih, List.all_cons]
def words1 : List Jvm.Cond := Jvm.Cond.code x code maxLocals ret :: tables_1
/-- a 'code' word, met by the world's own term for the bytes: nothing is compared byte by byte -/
theorem code_word {y : MethodName} {bytes : ByteArray} {mx : Nat} {rt : Option FieldType} {a : Array Value} {s : State} {m : MethodId} {meth : Method} {c : Code} (h1 : s.methodNamed? y = some m) (h2 : s.vm.method? m = some meth) (h3 : meth.code = some c) (h4 : c.code = bytes)
    (h5 : (c.maxLocals == mx && c.exceptionTable.isEmpty && decide (c.maxStack ≤ mostOperands) && decide (meth.sig.returnType = rt) && !meth.locks && decide (parseMethodDescriptor y.desc = some meth.sig)) = true) : (Jvm.Cond.code y bytes mx rt).before a s = true := by
  simp only [Bool.and_eq_true, beq_iff_eq, Bool.not_eq_true', decide_eq_true_eq] at h5
  obtain ⟨⟨⟨⟨⟨g1, g2⟩, g3⟩, g4⟩, g5⟩, g6⟩ := h5
  simp [Cond.before, Cond.holds, Cond.value, h1, h2, h3, h4, g1, g2, g3, g4, g5, g6]
def isCode : Jvm.Cond → Bool
  | .code _ _ _ _ => true
  | _ => false
theorem all_split {L : List Jvm.Cond} {P : Jvm.Cond → Bool} (h1 : L.all (fun c => isCode c || P c) = true) (h2 : ∀ c ∈ L.filter isCode, P c = true) : L.all P = true := by
  refine List.all_eq_true.mpr fun c hc => ?_
  have h := List.all_eq_true.mp h1 c hc
  rcases Bool.eq_false_or_eq_true (isCode c) with hi | hi
  · exact h2 c (List.mem_filter.mpr ⟨hc, hi⟩)
  · simpa [hi] using h
set_option maxRecDepth 65536 in
theorem w_c0 : (Jvm.Cond.code x code maxLocals ret).before args0 about1 = true := code_word (m := ⟨1, 2⟩) (meth := k1m2) (c := k1c2) (by decide +kernel) rfl rfl rfl (by decide +kernel)
set_option maxRecDepth 65536 in
theorem w_c1 : (Jvm.Cond.code ({ cls := "com/example/xylem/xylem/XmlChars", name := "isNameStartChar", desc := "(I)Z" } : Jvm.MethodName) prog_9_method_8_code (1 : Nat) (Option.some Jvm.ClassFile.FieldType.boolean)).before args0 about1 = true := code_word (m := ⟨2, 1⟩) (meth := k2m1) (c := k2c1) (by decide +kernel) rfl rfl rfl (by decide +kernel)
set_option maxRecDepth 65536 in
theorem w_c2 : (Jvm.Cond.code ({ cls := "com/example/xylem/xylem/XmlCharsIsNameStartCharPinLaw", name := "ref", desc := "(I)Z" } : Jvm.MethodName) method_2_code (1 : Nat) (Option.some Jvm.ClassFile.FieldType.boolean)).before args0 about1 = true := code_word (m := ⟨1, 1⟩) (meth := k1m1) (c := k1c1) (by decide +kernel) rfl rfl rfl (by decide +kernel)
def codes1 : List Jvm.Cond := [Jvm.Cond.code x code maxLocals ret, Jvm.Cond.code ({ cls := "com/example/xylem/xylem/XmlChars", name := "isNameStartChar", desc := "(I)Z" } : Jvm.MethodName) prog_9_method_8_code (1 : Nat) (Option.some Jvm.ClassFile.FieldType.boolean), Jvm.Cond.code ({ cls := "com/example/xylem/xylem/XmlCharsIsNameStartCharPinLaw", name := "ref", desc := "(I)Z" } : Jvm.MethodName) method_2_code (1 : Nat) (Option.some Jvm.ClassFile.FieldType.boolean)]
set_option maxRecDepth 65536 in
theorem codes_eq : words1.filter isCode = codes1 := rfl
theorem w_codes : ∀ c ∈ words1.filter isCode, c.before args0 about1 = true := by
  rw [codes_eq]
  intro c hc
  simp only [codes1, List.mem_cons, List.not_mem_nil, or_false] at hc
  rcases hc with rfl | rfl | rfl
  · exact w_c0
  · exact w_c1
  · exact w_c2
set_option maxRecDepth 65536 in
theorem w_t1 : (words1.take 24).all (fun c => isCode c || c.before args0 about1) = true := by decide +kernel
set_option maxRecDepth 65536 in
theorem w_t2 : (words1.drop 24).all (fun c => isCode c || c.before args0 about1) = true := by decide +kernel
theorem w_tables : (allAtoms (Jvm.Cond.code x code maxLocals ret :: tables_1)).before args0 about1 = true := by
  rw [allAtoms_all]
  show words1.all (fun c => c.before args0 about1) = true
  refine all_split ?_ w_codes
  rw [← List.take_append_drop 24 words1, List.all_append, w_t1, w_t2]
  rfl
set_option maxRecDepth 65536 in
theorem w_case : (Jvm.Cond.and given_1 narrow_1).before args0 about1 = true := by decide +kernel
theorem w_applies : (headSpec (Jvm.Cond.code x code maxLocals ret :: tables_1) room_1).applies x e0.platform about1 = true :=
  (Spec.applies_iff w_frames).mpr ⟨w_running, w_runnable, w_alone, w_named, w_hears, w_ripe, w_room, w_tables⟩
theorem atStart : AtStart classFile x code maxLocals ret World_1 tables_1 room_1 Calls_1 rest_1 Pre_1 launch0 p0 e0 about1 theMethod args0 below0 :=
  ⟨lists_1, trivial, launch0.admits_env _ _ _, launch0.least_env, fairChoices_fair.cas, fairChoices_fair.clock, w_frames, w_args, w_heap, w_applies, trivial, trivial, w_case⟩
end start1
theorem witness_1 : WitnessClaimed_1 := ⟨start1.p0, start1.e0, start1.about1, start1.theMethod, start1.args0, start1.below0, start1.atStart⟩
end Jvm.Pilot.@@N@@
