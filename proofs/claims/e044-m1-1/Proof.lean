import JvmDerived
import JvmDerived.Pilot.@@N@@Statement
import JvmDerived.Pilot.@@N@@Code
set_option linter.unusedVariables false
set_option linter.unusedSimpArgs false
namespace Jvm.Pilot.@@N@@
open Jvm Jvm.ClassFile Sem Op Lib Jvm.Free Jvm.Stand Jvm.LawKit Jvm.RoadKit Bundle Jvm.Pilot.@@N@@.Jvm.D
/-- from here the run comes to a return, and Q holds of what it returns, of the heap and of the places written -/
def own_Go (p : Program) (e : Env) (below : List Frame) (s : State) (kc ks : Nat) (Q : Option Value → Heap → List Loc → Prop) (T : State) (g : JFrame) : Prop :=
  ∃ s₂ o, Steps p.tables e below (T.setTop g) s₂ ∧ s₂.status = .running ∧ Ended s₂ below o ∧ ∃ v L, o = .returned v ∧ Q v s₂.heap L ∧ FrameEnd s o s₂ L kc ks
theorem own_step {p : Program} {e : Env} {below : List Frame} {s : State} {kc ks : Nat} {Q : Option Value → Heap → List Loc → Prop} {T T' : State} {g g' : JFrame}
    (h : ∀ t, Steps p.tables e below (T'.setTop g') t → Steps p.tables e below (T.setTop g) t) (k : own_Go p e below s kc ks Q T' g') : own_Go p e below s kc ks Q T g := by
  obtain ⟨s₂, o, h1, r⟩ := k
  exact ⟨s₂, o, h _ h1, r⟩
section Own
variable {p : Program} {l : Launch} {e : Env} {R : Room} {s : State} {m : MethodId} {args : Array Value} {below : List Frame} {meth : Method} {c : Code} {T : State} {locs : List Loc} {cells slots kc ks : Nat} {Q : Option Value → Heap → List Loc → Prop}
theorem own_ret (X : Stand p l e R s m args below meth c T locs cells slots) (hx : p.tables.exec = Jvm.exec) (hlk : meth.locks = false) {pc : Nat} {Ls : Array Slot} {w : Value} {t : FieldType} {i : Instr} {rest : List Value} (hret : meth.sig.returnType = some t) (hn : narrow t w = w)
    (hi : (i = .ireturn ∧ (t = .int ∨ t = .boolean ∨ t = .byte ∨ t = .char ∨ t = .short) ∧ ∃ z, w = .int z) ∨ (i = .lreturn ∧ t = .long ∧ ∃ z, w = .long z) ∨ (i = .dreturn ∧ t = .double ∧ ∃ z, w = .double z) ∨ (i = .freturn ∧ t = .float ∧ ∃ z, w = .float z) ∨ (i = .areturn ∧ t.isReference = true ∧ w.isRef = true))
    (hd : decode c.code pc = .ok (i, 1)) (hc : cells ≤ kc) (hs : slots ≤ ks) (hQ : Q (some w) T.heap locs) : own_Go p e below s kc ks Q T (mkF m pc Ls (w :: rest)) := by
  obtain ⟨fs, hr, hrun, hended, hW, hsame⟩ := X.leave (v := some w) (fun h => by rw [hret] at h; cases h) hlk
  exact ⟨_, _, retOut X hx hret hn hi hd hr, hrun, hended, _, _, rfl, hQ, ⟨_, rfl⟩, hW, hsame.mono hc hs⟩
theorem own_retV (X : Stand p l e R s m args below meth c T locs cells slots) (hx : p.tables.exec = Jvm.exec) (hlk : meth.locks = false) {pc : Nat} {Ls : Array Slot} (hret : meth.sig.returnType = none)
    (hd : decode c.code pc = .ok (.return_, 1)) (hc : cells ≤ kc) (hs : slots ≤ ks) (hQ : Q none T.heap locs) : own_Go p e below s kc ks Q T (mkF m pc Ls []) := by
  obtain ⟨fs, hr, hrun, hended, hW, hsame⟩ := X.leave (v := none) (fun _ => rfl) hlk
  exact ⟨_, _, X.returnOut hx hret hd hr, hrun, hended, _, _, rfl, hQ, ⟨_, rfl⟩, hW, hsame.mono hc hs⟩
theorem own_narZ {z : Int32} (hz : z = 0 ∨ z = 1) : narrow .boolean (.int z) = .int z := by rcases hz with rfl | rfl <;> rfl
end Own
theorem own_fitZ {z : Int32} (hz : z = 0 ∨ z = 1) : fits .boolean (.int z) = true := by rcases hz with rfl | rfl <;> rfl
theorem own_bit (f m : Int32) : (if f &&& m = 0 then (0 : Int32) else 1) = 0 ∨ (if f &&& m = 0 then (0 : Int32) else 1) = 1 := by split <;> simp
/-- C's chain does not meet K, which can be made (so it is an ordinary class) -/
theorem own_ns_root {Z : State} {a0 : Array Value} {O K : String} {n : Nat} (w : (Cond.noSuperclass O).before a0 Z = true) (wk : (Cond.instantiable K n).before a0 Z = true) (hn : O ≠ K) : NS Z O K := by
  obtain ⟨co, ko, q1, q2, q3, -, -⟩ := Cond.noSuperclass_spec w
  obtain ⟨ck, kk, r1, -⟩ := Cond.instantiable_spec wk
  have hne : co ≠ ck := ids_ne q1 r1 hn
  refine ⟨co, ck, q1, r1, ?_⟩
  intro fuel
  rcases fuel with _ | f
  · rfl
  · simp [Vm.isSubclassAux, hne, q2, q3]
theorem own_ns_no {Z : State} {a0 : Array Value} {C S K : String} {n : Nat} (w : (Cond.superclass C S).before a0 Z = true) (wk : (Cond.instantiable K n).before a0 Z = true) (N : NS Z C K) (hn : C ≠ K) : ∃ c t, Z.vm.findClass C = some c ∧ Z.vm.findClass K = some t ∧ Z.vm.assignable c t = false := by
  obtain ⟨c, t, q0, r0, far⟩ := N
  obtain ⟨_, kc, _, -, qk, -, -, qo, -, -⟩ := Cond.superclass_spec q0 w
  obtain ⟨t', kt, r1, r2, r3, r4, -⟩ := Cond.instantiable_spec wk
  cases r0.symm.trans r1
  have hne : c ≠ t := ids_ne q0 r0 hn
  have ri : kt.isInterface = false := by
    cases h : kt.isInterface <;> simp [h] at r4 ⊢
  refine ⟨c, t, q0, r0, ?_⟩
  show Z.vm.assignableAux (255 + 1) c t = false
  simp [Vm.assignableAux, hne, qk, r2, qo, r3, ri, Vm.isSubclass, far]
theorem own_sta_keep {Z : State} {h h' : Heap} {C n d : String} {w : Value} (F : Sta Z h C n d w) (K : Keep h h' []) : Sta Z h' C n d w := by
  obtain ⟨cf, i, k, f, st, cell, h1, h2, h3, h4, h5, r⟩ := F
  exact ⟨cf, i, k, f, st, cell, h1, h2, h3, h4, K.2.1 _ _ h5 nin0, r⟩
theorem own_arr_keep {Z : State} {h h' : Heap} {a : Addr} {c : Cell} {ty : FieldType} (F : Arr Z h a c ty) (K : Keep h h' []) : Arr Z h' a c ty := ⟨K.2.1 _ _ F.1 nin0, F.2⟩
def own_eqv (a b : Int64) (i : Int32) (c d : Int64) (j : Int32) : Int32 := if a = c then (if b = d then (if i = j then 1 else 0) else 0) else 0
theorem own_in {j : Int32} {n : Nat} (h0 : 0 ≤ j.toInt) (h1 : j.toInt < n) : ¬ (j < 0 ∨ n ≤ j.toNatClampNeg) := by
  simp only [Int32.lt_iff_toInt_lt, Int32.toNatClampNeg, Int32.reduceToInt]; omega
/-- the cache of boxed longs: 256 places, a Long in each -/
def own_Cache (Z : State) (h : Heap) (ca : Addr) (cl : Cell) : Prop := Arr Z h ca cl (.object "java/lang/Long") ∧ cl.slots.size = 256 ∧ ∀ j : Int32, 0 ≤ j.toInt → j.toInt < 256 → ∃ y : Addr, cl.slots[j.toNatClampNeg]? = some (.ref y) ∧ Exa Z h y "java/lang/Long"
theorem own_cache_keep {Z : State} {h h' : Heap} {ca : Addr} {cl : Cell} (F : own_Cache Z h ca cl) (K : Keep h h' []) : own_Cache Z h' ca cl := ⟨own_arr_keep F.1 K, F.2.1, fun j h0 h1 => by obtain ⟨y, a, b⟩ := F.2.2 j h0 h1; exact ⟨y, a, b.keep K⟩⟩
theorem own_cidx (q : Int64) (h1 : ¬ q < (-128 : Int64)) (h2 : ¬ (127 : Int64) < q) : 0 ≤ (q.toInt32 + (128 : Int32)).toInt ∧ (q.toInt32 + (128 : Int32)).toInt < 256 := by
  have a := c_l2i q
  have b := c_iadd q.toInt32 128
  have r := rng32 q.toInt32
  have r2 := rng32 (q.toInt32 + 128)
  have m1 : (-128 : Int64).toInt = -128 := by decide
  have m2 : (127 : Int64).toInt = 127 := by decide
  have m3 : (128 : Int32).toInt = 128 := by decide
  rw [Int64.lt_iff_toInt_lt, m1] at h1
  rw [Int64.lt_iff_toInt_lt, m2] at h2
  rw [m3] at b
  omega
theorem d1_0 : decode prog_115_method_1_code 0 = .ok (.aload_n 0, 1) := by decide +kernel
theorem d1_1 : decode prog_115_method_1_code 1 = .ok (.invokespecial 1, 3) := by decide +kernel
theorem d1_4 : decode prog_115_method_1_code 4 = .ok (.aload_n 0, 1) := by decide +kernel
theorem d1_5 : decode prog_115_method_1_code 5 = .ok (.lload_n 1, 1) := by decide +kernel
theorem d1_6 : decode prog_115_method_1_code 6 = .ok (.putfield 7, 3) := by decide +kernel
theorem d1_9 : decode prog_115_method_1_code 9 = .ok (.aload_n 0, 1) := by decide +kernel
theorem d1_10 : decode prog_115_method_1_code 10 = .ok (.lload_n 3, 1) := by decide +kernel
theorem d1_11 : decode prog_115_method_1_code 11 = .ok (.putfield 13, 3) := by decide +kernel
theorem d1_14 : decode prog_115_method_1_code 14 = .ok (.aload_n 0, 1) := by decide +kernel
theorem d1_15 : decode prog_115_method_1_code 15 = .ok (.iload 5, 2) := by decide +kernel
theorem d1_17 : decode prog_115_method_1_code 17 = .ok (.putfield 16, 3) := by decide +kernel
theorem d1_20 : decode prog_115_method_1_code 20 = .ok (.return_, 1) := by decide +kernel
theorem own_pn1 : plainName "com/example/corvid/corvid/Range" = true := by first | (simp [plainName, overriddenIn]; done) | decide +kernel
theorem own_ef1 (m : MethodId) (x0 : Addr) (x1 : Int64) (x2 : Int64) (x3 : Int32) : entryFrame m #[(.ref x0), (.long x1), (.long x2), (.int x3)] 6 = mkF m 0 #[.val (.ref x0), .val (.long x1), .second, .val (.long x2), .second, .val (.int x3)] [] := by first | (simp [entryFrame, mkF, argsToLocals, Value.category]; done) | rfl
def own_Q1 (Z : State) (a1 : Addr) (q1 : Int64) (q2 : Int64) (p3 : Int32) (h0 : Heap) (n0 : Nat) (v : Option Value) (h : Heap) (L : List Loc) : Prop := v = none ∧ Fr n0 L ∧ Keep h0 h [a1] ∧ Exa Z h a1 "com/example/corvid/corvid/Range" ∧ Fld Z h a1 "com/example/corvid/corvid/Range" "start" "J" (.long q1) ∧ Fld Z h a1 "com/example/corvid/corvid/Range" "end" "J" (.long q2) ∧ Fld Z h a1 "com/example/corvid/corvid/Range" "inclusive" "Z" (.int p3)
set_option maxRecDepth 65536 in
set_option maxHeartbeats 40000000 in
theorem own_rm1 (l : Launch) (Z : State) (a0 : Array Value) (hw : ∀ d ∈ tables_1, d.before a0 Z = true) (ws : List Jvm.Cond) (a1 : Addr) (q1 : Int64) (q2 : Int64) (p3 : Int32) (h0 : Heap) (n0 : Nat) (Z0 : n0 ≤ h0.size) (Fstart : Fld Z h0 a1 "com/example/corvid/corvid/Range" "start" "J" (.long (0 : Int64))) (Fend : Fld Z h0 a1 "com/example/corvid/corvid/Range" "end" "J" (.long (0 : Int64))) (Finclusive : Fld Z h0 a1 "com/example/corvid/corvid/Range" "inclusive" "Z" (.int (0 : Int32))) (EX : Exa Z h0 a1 "com/example/corvid/corvid/Range") (ga : n0 ≤ a1) (hb3 : p3 = 0 ∨ p3 = 1) :
    MetFree l (⟨"com/example/corvid/corvid/Range", "<init>", "(JJZ)V"⟩ : MethodName) (head1 (Jvm.Cond.code (⟨"com/example/corvid/corvid/Range", "<init>", "(JJZ)V"⟩ : MethodName) prog_115_method_1_code 6 none :: ws) ({ frames := 1, cells := 0, slots := 0, locals := 12 } : Room)) (fun a U => a = #[(.ref a1), (.long q1), (.long q2), (.int p3)] ∧ Z.Warmed39 U.vm ∧ U.heap = h0) (fun _ _ _ _ _ => True) (fun _ U o U' => ∃ v L, o = .returned v ∧ own_Q1 Z a1 q1 q2 p3 h0 n0 v U'.heap L ∧ FrameEnd U o U' L ({ frames := 1, cells := 0, slots := 0, locals := 12 } : Room).cells ({ frames := 1, cells := 0, slots := 0, locals := 12 } : Room).slots) := by
  refine MetFree.of_bodySF (plainFor_of_name own_pn1) hisR ?_
  intro p e s m args below meth c s₁ Bd hml0 hP hK
  obtain ⟨rfl, hZ, hh⟩ := hP
  have hx := Bd.exec
  have hby := Bd.bytes
  have hml : c.maxLocals = 6 := hml0
  have hlk : meth.locks = false := BodyLoose.notSynchronized Bd
  have hown : s.vm.findClass "com/example/corvid/corvid/Range" = some m.cls := findClass_of_methodNamed Bd.named
  have hnm := (name_of_methodNamed Bd.named Bd.method).1
  have X0 : Stand p l e ({ frames := 1, cells := 0, slots := 0, locals := 12 } : Room) s m #[(.ref a1), (.long q1), (.long q2), (.int p3)] below meth c s₁ [] 0 0 := Stand.of_body Bd
  have e0 : s₁.heap = h0 := by rw [← hh, Bd.state]; rfl
  have N0 := Fr.nil n0
  show own_Go p e below s ({ frames := 1, cells := 0, slots := 0, locals := 12 } : Room).cells ({ frames := 1, cells := 0, slots := 0, locals := 12 } : Room).slots (own_Q1 Z a1 q1 q2 p3 h0 n0) s₁ (entryFrame m #[(.ref a1), (.long q1), (.long q2), (.int p3)] 6)
  refine own_step (fun t k => castTop (own_ef1 m a1 q1 q2 p3) k) ?_
  show own_Go _ _ _ _ _ _ _ s₁ (mkF m 0 #[.val (.ref a1), .val (.long q1), .second, .val (.long q2), .second, .val (.int p3)] [])
  refine own_step (fun t k => XS.aloadN X0.here hx rfl (hb hby d1_0) rfl rfl k) ?_
  show own_Go _ _ _ _ _ _ _ s₁ (mkF m 1 #[.val (.ref a1), .val (.long q1), .second, .val (.long q2), .second, .val (.int p3)] [(.ref a1)])
  obtain ⟨T1, X1, e1, st1⟩ := initO X0 hx hZ hown (hw _ (List.mem_of_getElem? (i := 6) rfl)) (hw _ (List.mem_of_getElem? (i := 7) rfl)) (hw _ (List.mem_of_getElem? (i := 8) rfl)) e0 (g := (mkF m 1 #[.val (.ref a1), .val (.long q1), .second, .val (.long q2), .second, .val (.int p3)] [(.ref a1)])) rfl (by rw [hml]; rfl) rfl (hb hby d1_1) (by decide) (W := 0) (by show 2 * 0 + _ ≤ _; exact Nat.le_of_eq rfl) (by decide)
  refine own_step st1 ?_
  show own_Go _ _ _ _ _ _ _ T1 (mkF m 4 #[.val (.ref a1), .val (.long q1), .second, .val (.long q2), .second, .val (.int p3)] [])
  refine own_step (fun t k => XS.aloadN X1.here hx rfl (hb hby d1_4) rfl rfl k) ?_
  show own_Go _ _ _ _ _ _ _ T1 (mkF m 5 #[.val (.ref a1), .val (.long q1), .second, .val (.long q2), .second, .val (.int p3)] [(.ref a1)])
  refine own_step (fun t k => XS.lloadN X1.here hx rfl (hb hby d1_5) rfl k) ?_
  show own_Go _ _ _ _ _ _ _ T1 (mkF m 6 #[.val (.ref a1), .val (.long q1), .second, .val (.long q2), .second, .val (.int p3)] [(.long q1), (.ref a1)])
  obtain ⟨T2, h2, X2, e2, W2, st2⟩ := putF X1 hx hZ hown (host := "") (Or.inl (hw _ (List.mem_of_getElem? (i := 9) rfl))) Via.refl e1 Fstart EX (Or.inr ⟨(hw _ (List.mem_of_getElem? (i := 10) rfl)), rfl, hnm⟩) (hw _ (List.mem_of_getElem? (i := 1) rfl)) (ty := .long) (by decide) rfl rfl (g := (mkF m 6 #[.val (.ref a1), .val (.long q1), .second, .val (.long q2), .second, .val (.int p3)] [(.long q1), (.ref a1)])) rfl rfl (hb hby d1_6)
  have N2 := Fr.snoc X2 N0 ga
  have E2_a1 := EX.wr W2
  have F2_a1_start := Fstart.same W2
  have F2_a1_end := Fend.other W2 (Or.inr (slot_ne (Or.inr (hw _ (List.mem_of_getElem? (i := 12) rfl))) (Or.inr (hw _ (List.mem_of_getElem? (i := 10) rfl))) (by decide) (t := .long) (t' := .long) (by decide) (by decide)))
  have F2_a1_inclusive := Finclusive.other W2 (Or.inr (slot_ne (Or.inr (hw _ (List.mem_of_getElem? (i := 14) rfl))) (Or.inr (hw _ (List.mem_of_getElem? (i := 10) rfl))) (by decide) (t := .boolean) (t' := .long) (by decide) (by decide)))
  have K2 : Keep h0 h2 [a1] := (Keep.refl h0 [a1]).wr W2 (Or.inl (List.mem_of_getElem? (i := 0) rfl))
  refine own_step st2 ?_
  show own_Go _ _ _ _ _ _ _ T2 (mkF m 9 #[.val (.ref a1), .val (.long q1), .second, .val (.long q2), .second, .val (.int p3)] [])
  refine own_step (fun t k => XS.aloadN X2.here hx rfl (hb hby d1_9) rfl rfl k) ?_
  show own_Go _ _ _ _ _ _ _ T2 (mkF m 10 #[.val (.ref a1), .val (.long q1), .second, .val (.long q2), .second, .val (.int p3)] [(.ref a1)])
  refine own_step (fun t k => XS.lloadN X2.here hx rfl (hb hby d1_10) rfl k) ?_
  show own_Go _ _ _ _ _ _ _ T2 (mkF m 11 #[.val (.ref a1), .val (.long q1), .second, .val (.long q2), .second, .val (.int p3)] [(.long q2), (.ref a1)])
  obtain ⟨T3, h3, X3, e3, W3, st3⟩ := putF X2 hx hZ hown (host := "") (Or.inl (hw _ (List.mem_of_getElem? (i := 11) rfl))) Via.refl e2 F2_a1_end E2_a1 (Or.inr ⟨(hw _ (List.mem_of_getElem? (i := 12) rfl)), rfl, hnm⟩) (hw _ (List.mem_of_getElem? (i := 1) rfl)) (ty := .long) (by decide) rfl rfl (g := (mkF m 11 #[.val (.ref a1), .val (.long q1), .second, .val (.long q2), .second, .val (.int p3)] [(.long q2), (.ref a1)])) rfl rfl (hb hby d1_11)
  have N3 := Fr.snoc X3 N2 ga
  have E3_a1 := E2_a1.wr W3
  have F3_a1_start := F2_a1_start.other W3 (Or.inr (slot_ne (Or.inr (hw _ (List.mem_of_getElem? (i := 10) rfl))) (Or.inr (hw _ (List.mem_of_getElem? (i := 12) rfl))) (by decide) (t := .long) (t' := .long) (by decide) (by decide)))
  have F3_a1_end := F2_a1_end.same W3
  have F3_a1_inclusive := F2_a1_inclusive.other W3 (Or.inr (slot_ne (Or.inr (hw _ (List.mem_of_getElem? (i := 14) rfl))) (Or.inr (hw _ (List.mem_of_getElem? (i := 12) rfl))) (by decide) (t := .boolean) (t' := .long) (by decide) (by decide)))
  have K3 : Keep h0 h3 [a1] := K2.wr W3 (Or.inl (List.mem_of_getElem? (i := 0) rfl))
  refine own_step st3 ?_
  show own_Go _ _ _ _ _ _ _ T3 (mkF m 14 #[.val (.ref a1), .val (.long q1), .second, .val (.long q2), .second, .val (.int p3)] [])
  refine own_step (fun t k => XS.aloadN X3.here hx rfl (hb hby d1_14) rfl rfl k) ?_
  show own_Go _ _ _ _ _ _ _ T3 (mkF m 15 #[.val (.ref a1), .val (.long q1), .second, .val (.long q2), .second, .val (.int p3)] [(.ref a1)])
  refine own_step (fun t k => XS.iload X3.here hx rfl (hb hby d1_15) rfl k) ?_
  show own_Go _ _ _ _ _ _ _ T3 (mkF m 17 #[.val (.ref a1), .val (.long q1), .second, .val (.long q2), .second, .val (.int p3)] [(.int p3), (.ref a1)])
  obtain ⟨T4, h4, X4, e4, W4, st4⟩ := putF X3 hx hZ hown (host := "") (Or.inl (hw _ (List.mem_of_getElem? (i := 13) rfl))) Via.refl e3 F3_a1_inclusive E3_a1 (Or.inr ⟨(hw _ (List.mem_of_getElem? (i := 14) rfl)), rfl, hnm⟩) (hw _ (List.mem_of_getElem? (i := 1) rfl)) (ty := .boolean) (by decide) (own_narZ hb3) (own_fitZ hb3) (g := (mkF m 17 #[.val (.ref a1), .val (.long q1), .second, .val (.long q2), .second, .val (.int p3)] [(.int p3), (.ref a1)])) rfl rfl (hb hby d1_17)
  have N4 := Fr.snoc X4 N3 ga
  have E4_a1 := E3_a1.wr W4
  have F4_a1_start := F3_a1_start.other W4 (Or.inr (slot_ne (Or.inr (hw _ (List.mem_of_getElem? (i := 10) rfl))) (Or.inr (hw _ (List.mem_of_getElem? (i := 14) rfl))) (by decide) (t := .long) (t' := .boolean) (by decide) (by decide)))
  have F4_a1_end := F3_a1_end.other W4 (Or.inr (slot_ne (Or.inr (hw _ (List.mem_of_getElem? (i := 12) rfl))) (Or.inr (hw _ (List.mem_of_getElem? (i := 14) rfl))) (by decide) (t := .long) (t' := .boolean) (by decide) (by decide)))
  have F4_a1_inclusive := F3_a1_inclusive.same W4
  have K4 : Keep h0 h4 [a1] := K3.wr W4 (Or.inl (List.mem_of_getElem? (i := 0) rfl))
  refine own_step st4 ?_
  show own_Go _ _ _ _ _ _ _ T4 (mkF m 20 #[.val (.ref a1), .val (.long q1), .second, .val (.long q2), .second, .val (.int p3)] [])
  refine own_retV X4 hx hlk Bd.returns (hb hby d1_20) (by decide) (by decide) ?_
  show own_Q1 Z a1 q1 q2 p3 h0 n0 none T4.heap _
  rw [e4]
  exact ⟨rfl, N4, K4, E4_a1, F4_a1_start, F4_a1_end, F4_a1_inclusive⟩
theorem d6_0 : decode jdk_18_method_1_code 0 = .ok (.aload_n 0, 1) := by decide +kernel
theorem d6_1 : decode jdk_18_method_1_code 1 = .ok (.invokespecial 1, 3) := by decide +kernel
theorem d6_4 : decode jdk_18_method_1_code 4 = .ok (.return_, 1) := by decide +kernel
theorem own_pn6 : plainName "java/lang/Number" = true := by first | (simp [plainName, overriddenIn]; done) | decide +kernel
theorem own_ef6 (m : MethodId) (x0 : Addr) : entryFrame m #[(.ref x0)] 1 = mkF m 0 #[.val (.ref x0)] [] := by first | (simp [entryFrame, mkF, argsToLocals, Value.category]; done) | rfl
def own_Q6 (Z : State) (a1 : Addr) (h0 : Heap) (n0 : Nat) (v : Option Value) (h : Heap) (L : List Loc) : Prop := v = none ∧ Fr n0 L ∧ h = h0
set_option maxRecDepth 65536 in
set_option maxHeartbeats 40000000 in
theorem own_rm6 (l : Launch) (Z : State) (a0 : Array Value) (hw : ∀ d ∈ tables_1, d.before a0 Z = true) (ws : List Jvm.Cond) (a1 : Addr) (h0 : Heap) (n0 : Nat) (Z0 : n0 ≤ h0.size)  :
    MetFree l (⟨"java/lang/Number", "<init>", "()V"⟩ : MethodName) (head1 (Jvm.Cond.code (⟨"java/lang/Number", "<init>", "()V"⟩ : MethodName) jdk_18_method_1_code 1 none :: ws) ({ frames := 1, cells := 0, slots := 0, locals := 12 } : Room)) (fun a U => a = #[(.ref a1)] ∧ Z.Warmed39 U.vm ∧ U.heap = h0) (fun _ _ _ _ _ => True) (fun _ U o U' => ∃ v L, o = .returned v ∧ own_Q6 Z a1 h0 n0 v U'.heap L ∧ FrameEnd U o U' L ({ frames := 1, cells := 0, slots := 0, locals := 12 } : Room).cells ({ frames := 1, cells := 0, slots := 0, locals := 12 } : Room).slots) := by
  refine MetFree.of_bodySF (plainFor_of_name own_pn6) hisR ?_
  intro p e s m args below meth c s₁ Bd hml0 hP hK
  obtain ⟨rfl, hZ, hh⟩ := hP
  have hx := Bd.exec
  have hby := Bd.bytes
  have hml : c.maxLocals = 1 := hml0
  have hlk : meth.locks = false := BodyLoose.notSynchronized Bd
  have hown : s.vm.findClass "java/lang/Number" = some m.cls := findClass_of_methodNamed Bd.named
  have hnm := (name_of_methodNamed Bd.named Bd.method).1
  have X0 : Stand p l e ({ frames := 1, cells := 0, slots := 0, locals := 12 } : Room) s m #[(.ref a1)] below meth c s₁ [] 0 0 := Stand.of_body Bd
  have e0 : s₁.heap = h0 := by rw [← hh, Bd.state]; rfl
  have N0 := Fr.nil n0
  show own_Go p e below s ({ frames := 1, cells := 0, slots := 0, locals := 12 } : Room).cells ({ frames := 1, cells := 0, slots := 0, locals := 12 } : Room).slots (own_Q6 Z a1 h0 n0) s₁ (entryFrame m #[(.ref a1)] 1)
  refine own_step (fun t k => castTop (own_ef6 m a1) k) ?_
  show own_Go _ _ _ _ _ _ _ s₁ (mkF m 0 #[.val (.ref a1)] [])
  refine own_step (fun t k => XS.aloadN X0.here hx rfl (hb hby d6_0) rfl rfl k) ?_
  show own_Go _ _ _ _ _ _ _ s₁ (mkF m 1 #[.val (.ref a1)] [(.ref a1)])
  obtain ⟨T1, X1, e1, st1⟩ := initO X0 hx hZ hown (hw _ (List.mem_of_getElem? (i := 40) rfl)) (hw _ (List.mem_of_getElem? (i := 7) rfl)) (hw _ (List.mem_of_getElem? (i := 8) rfl)) e0 (g := (mkF m 1 #[.val (.ref a1)] [(.ref a1)])) rfl (by rw [hml]; rfl) rfl (hb hby d6_1) (by decide) (W := 0) (by show 2 * 0 + _ ≤ _; exact Nat.le_of_eq rfl) (by decide)
  refine own_step st1 ?_
  show own_Go _ _ _ _ _ _ _ T1 (mkF m 4 #[.val (.ref a1)] [])
  refine own_retV X1 hx hlk Bd.returns (hb hby d6_4) (by decide) (by decide) ?_
  show own_Q6 Z a1 h0 n0 none T1.heap _
  rw [e1]
  exact ⟨rfl, N0, rfl⟩
theorem d5_0 : decode jdk_35_method_26_code 0 = .ok (.aload_n 0, 1) := by decide +kernel
theorem d5_1 : decode jdk_35_method_26_code 1 = .ok (.invokespecial 270, 3) := by decide +kernel
theorem d5_4 : decode jdk_35_method_26_code 4 = .ok (.aload_n 0, 1) := by decide +kernel
theorem d5_5 : decode jdk_35_method_26_code 5 = .ok (.lload_n 1, 1) := by decide +kernel
theorem d5_6 : decode jdk_35_method_26_code 6 = .ok (.putfield 273, 3) := by decide +kernel
theorem d5_9 : decode jdk_35_method_26_code 9 = .ok (.return_, 1) := by decide +kernel
theorem own_pn5 : plainName "java/lang/Long" = true := by first | (simp [plainName, overriddenIn]; done) | decide +kernel
theorem own_pd5_0 : parseMethodDescriptor "()V" = some ⟨[], none⟩ := by decide +kernel
theorem own_ef5 (m : MethodId) (x0 : Addr) (x1 : Int64) : entryFrame m #[(.ref x0), (.long x1)] 3 = mkF m 0 #[.val (.ref x0), .val (.long x1), .second] [] := by first | (simp [entryFrame, mkF, argsToLocals, Value.category]; done) | rfl
def own_Q5 (Z : State) (a1 : Addr) (q1 : Int64) (h0 : Heap) (n0 : Nat) (v : Option Value) (h : Heap) (L : List Loc) : Prop := v = none ∧ Fr n0 L ∧ Keep h0 h [a1] ∧ Exa Z h a1 "java/lang/Long"
set_option maxRecDepth 65536 in
set_option maxHeartbeats 40000000 in
theorem own_rm5 (l : Launch) (Z : State) (a0 : Array Value) (hw : ∀ d ∈ tables_1, d.before a0 Z = true) (ws : List Jvm.Cond) (a1 : Addr) (q1 : Int64) (h0 : Heap) (n0 : Nat) (Z0 : n0 ≤ h0.size) (Fv : Fld Z h0 a1 "java/lang/Long" "value" "J" (.long (0 : Int64))) (EX : Exa Z h0 a1 "java/lang/Long") (ga : n0 ≤ a1) :
    MetFree l (⟨"java/lang/Long", "<init>", "(J)V"⟩ : MethodName) (head1 (Jvm.Cond.code (⟨"java/lang/Long", "<init>", "(J)V"⟩ : MethodName) jdk_35_method_26_code 3 none :: ws) ({ frames := 2, cells := 0, slots := 0, locals := 24 } : Room)) (fun a U => a = #[(.ref a1), (.long q1)] ∧ Z.Warmed39 U.vm ∧ U.heap = h0) (fun _ _ _ _ _ => True) (fun _ U o U' => ∃ v L, o = .returned v ∧ own_Q5 Z a1 q1 h0 n0 v U'.heap L ∧ FrameEnd U o U' L ({ frames := 2, cells := 0, slots := 0, locals := 24 } : Room).cells ({ frames := 2, cells := 0, slots := 0, locals := 24 } : Room).slots) := by
  refine MetFree.of_bodySF (plainFor_of_name own_pn5) hisR ?_
  intro p e s m args below meth c s₁ Bd hml0 hP hK
  obtain ⟨rfl, hZ, hh⟩ := hP
  have hx := Bd.exec
  have hby := Bd.bytes
  have hml : c.maxLocals = 3 := hml0
  have hlk : meth.locks = false := BodyLoose.notSynchronized Bd
  have hown : s.vm.findClass "java/lang/Long" = some m.cls := findClass_of_methodNamed Bd.named
  have hnm := (name_of_methodNamed Bd.named Bd.method).1
  have X0 : Stand p l e ({ frames := 2, cells := 0, slots := 0, locals := 24 } : Room) s m #[(.ref a1), (.long q1)] below meth c s₁ [] 0 0 := Stand.of_body Bd
  have e0 : s₁.heap = h0 := by rw [← hh, Bd.state]; rfl
  have N0 := Fr.nil n0
  show own_Go p e below s ({ frames := 2, cells := 0, slots := 0, locals := 24 } : Room).cells ({ frames := 2, cells := 0, slots := 0, locals := 24 } : Room).slots (own_Q5 Z a1 q1 h0 n0) s₁ (entryFrame m #[(.ref a1), (.long q1)] 3)
  refine own_step (fun t k => castTop (own_ef5 m a1 q1) k) ?_
  show own_Go _ _ _ _ _ _ _ s₁ (mkF m 0 #[.val (.ref a1), .val (.long q1), .second] [])
  refine own_step (fun t k => XS.aloadN X0.here hx rfl (hb hby d5_0) rfl rfl k) ?_
  show own_Go _ _ _ _ _ _ _ s₁ (mkF m 1 #[.val (.ref a1), .val (.long q1), .second] [(.ref a1)])
  obtain ⟨_, _, ⟨T1, L1, k1, n1⟩, -, X1, ⟨Lc1, hQ1, l1, y1, z1⟩, st1⟩ := X0.specialBack hx (y := (⟨"java/lang/Number", "<init>", "()V"⟩ : MethodName)) rfl hown (mvT hZ (hw _ (List.mem_of_getElem? (i := 34) rfl))) (mvT hZ (hw _ (List.mem_of_getElem? (i := 35) rfl))) (mvT hZ (hw _ (List.mem_of_getElem? (i := 39) rfl))) (by decide) (backOf (W := 0) (own_rm6 l Z a0 hw [] a1 h0 n0 Z0) hZ (hw _ (List.mem_of_getElem? (i := 39) rfl)) (hw _ (List.mem_of_getElem? (i := 38) rfl)) (by decide) (by decide)) (g := (mkF m 1 #[.val (.ref a1), .val (.long q1), .second] [(.ref a1)])) rfl (by rw [hml]; rfl) (Steps.refl _) (a := a1) (argsL := []) (rest := []) (lenOf own_pd5_0 rfl) rfl (by show 2 * 0 + _ ≤ _; exact Nat.le_of_eq rfl) (hb hby d5_1) (fun _ _ => ⟨rfl, e0, (by decide : 0 + 0 ≤ _), (by decide : 0 + 0 ≤ _)⟩)
  dsimp only [Pt.U, Pt.locs, Pt.cells, Pt.slots] at X1 l1 y1 z1 st1 hQ1
  subst l1 y1 z1
  obtain ⟨rfl, Nq1, e1⟩ := hQ1
  have N1 := Fr.app N0 Nq1
  refine own_step (fun t k => st1.trans k) ?_
  show own_Go _ _ _ _ _ _ _ T1 (mkF m 4 #[.val (.ref a1), .val (.long q1), .second] [])
  refine own_step (fun t k => XS.aloadN X1.here hx rfl (hb hby d5_4) rfl rfl k) ?_
  show own_Go _ _ _ _ _ _ _ T1 (mkF m 5 #[.val (.ref a1), .val (.long q1), .second] [(.ref a1)])
  refine own_step (fun t k => XS.lloadN X1.here hx rfl (hb hby d5_5) rfl k) ?_
  show own_Go _ _ _ _ _ _ _ T1 (mkF m 6 #[.val (.ref a1), .val (.long q1), .second] [(.long q1), (.ref a1)])
  obtain ⟨T2, h2, X2, e2, W2, st2⟩ := putF X1 hx hZ hown (host := "") (Or.inl (hw _ (List.mem_of_getElem? (i := 41) rfl))) Via.refl e1 Fv EX (Or.inr ⟨(hw _ (List.mem_of_getElem? (i := 42) rfl)), rfl, hnm⟩) (hw _ (List.mem_of_getElem? (i := 29) rfl)) (ty := .long) (by decide) rfl rfl (g := (mkF m 6 #[.val (.ref a1), .val (.long q1), .second] [(.long q1), (.ref a1)])) rfl rfl (hb hby d5_6)
  have N2 := Fr.snoc X2 N1 ga
  have E2_a1 := EX.wr W2
  have F2_a1_value := Fv.same W2
  have K2 : Keep h0 h2 [a1] := (Keep.refl h0 [a1]).wr W2 (Or.inl (List.mem_of_getElem? (i := 0) rfl))
  refine own_step st2 ?_
  show own_Go _ _ _ _ _ _ _ T2 (mkF m 9 #[.val (.ref a1), .val (.long q1), .second] [])
  refine own_retV X2 hx hlk Bd.returns (hb hby d5_9) (by decide) (by decide) ?_
  show own_Q5 Z a1 q1 h0 n0 none T2.heap _
  rw [e2]
  exact ⟨rfl, N2, K2, E2_a1⟩
theorem d4_0 : decode jdk_35_method_24_code 0 = .ok (.sipush 128, 3) := by decide +kernel
theorem d4_3 : decode jdk_35_method_24_code 3 = .ok (.istore_n 2, 1) := by decide +kernel
theorem d4_4 : decode jdk_35_method_24_code 4 = .ok (.lload_n 0, 1) := by decide +kernel
theorem d4_5 : decode jdk_35_method_24_code 5 = .ok (.ldc2_w 230, 3) := by decide +kernel
theorem d4_8 : decode jdk_35_method_24_code 8 = .ok (.lcmp, 1) := by decide +kernel
theorem d4_9 : decode jdk_35_method_24_code 9 = .ok (.ifCond .lt 22, 3) := by decide +kernel
theorem d4_12 : decode jdk_35_method_24_code 12 = .ok (.lload_n 0, 1) := by decide +kernel
theorem d4_13 : decode jdk_35_method_24_code 13 = .ok (.ldc2_w 232, 3) := by decide +kernel
theorem d4_16 : decode jdk_35_method_24_code 16 = .ok (.lcmp, 1) := by decide +kernel
theorem d4_17 : decode jdk_35_method_24_code 17 = .ok (.ifCond .gt 14, 3) := by decide +kernel
theorem d4_20 : decode jdk_35_method_24_code 20 = .ok (.getstatic 234, 3) := by decide +kernel
theorem d4_23 : decode jdk_35_method_24_code 23 = .ok (.lload_n 0, 1) := by decide +kernel
theorem d4_24 : decode jdk_35_method_24_code 24 = .ok (.l2i, 1) := by decide +kernel
theorem d4_25 : decode jdk_35_method_24_code 25 = .ok (.sipush 128, 3) := by decide +kernel
theorem d4_28 : decode jdk_35_method_24_code 28 = .ok (.iadd, 1) := by decide +kernel
theorem d4_29 : decode jdk_35_method_24_code 29 = .ok (.aaload, 1) := by decide +kernel
theorem d4_30 : decode jdk_35_method_24_code 30 = .ok (.areturn, 1) := by decide +kernel
theorem d4_31 : decode jdk_35_method_24_code 31 = .ok (.new 1, 3) := by decide +kernel
theorem d4_34 : decode jdk_35_method_24_code 34 = .ok (.dup, 1) := by decide +kernel
theorem d4_35 : decode jdk_35_method_24_code 35 = .ok (.lload_n 0, 1) := by decide +kernel
theorem d4_36 : decode jdk_35_method_24_code 36 = .ok (.invokespecial 240, 3) := by decide +kernel
theorem d4_39 : decode jdk_35_method_24_code 39 = .ok (.areturn, 1) := by decide +kernel
theorem own_pn4 : plainName "java/lang/Long" = true := by first | (simp [plainName, overriddenIn]; done) | decide +kernel
theorem own_pd4_0 : parseMethodDescriptor "(J)V" = some ⟨[.long], none⟩ := by decide +kernel
theorem own_ef4 (m : MethodId) (x0 : Int64) : entryFrame m #[(.long x0)] 3 = mkF m 0 #[.val (.long x0), .second, .unset] [] := by first | (simp [entryFrame, mkF, argsToLocals, Value.category]; done) | rfl
def own_Q4 (Z : State) (q1 : Int64) (ca : Addr) (cl : Cell) (h0 : Heap) (n0 : Nat) (v : Option Value) (h : Heap) (L : List Loc) : Prop := ∃ y : Addr, v = some (.ref y) ∧ Fr n0 L ∧ Keep h0 h [] ∧ Exa Z h y "java/lang/Long"
set_option maxRecDepth 65536 in
set_option maxHeartbeats 40000000 in
theorem own_rm4 (l : Launch) (Z : State) (a0 : Array Value) (hw : ∀ d ∈ tables_1, d.before a0 Z = true) (ws : List Jvm.Cond) (q1 : Int64) (ca : Addr) (cl : Cell) (h0 : Heap) (n0 : Nat) (Z0 : n0 ≤ h0.size) (SC : Sta Z h0 "java/lang/Long$LongCache" "cache" "[Ljava/lang/Long;" (.ref ca)) (HC : own_Cache Z h0 ca cl) :
    MetFree l (⟨"java/lang/Long", "valueOf", "(J)Ljava/lang/Long;"⟩ : MethodName) (head1 (Jvm.Cond.code (⟨"java/lang/Long", "valueOf", "(J)Ljava/lang/Long;"⟩ : MethodName) jdk_35_method_24_code 3 (some (.object "java/lang/Long")) :: ws) ({ frames := 3, cells := 1, slots := 1, locals := 40 } : Room)) (fun a U => a = #[(.long q1)] ∧ Z.Warmed39 U.vm ∧ U.heap = h0) (fun _ _ _ _ _ => True) (fun _ U o U' => ∃ v L, o = .returned v ∧ own_Q4 Z q1 ca cl h0 n0 v U'.heap L ∧ FrameEnd U o U' L ({ frames := 3, cells := 1, slots := 1, locals := 40 } : Room).cells ({ frames := 3, cells := 1, slots := 1, locals := 40 } : Room).slots) := by
  refine MetFree.of_bodySF (plainFor_of_name own_pn4) hisR ?_
  intro p e s m args below meth c s₁ Bd hml0 hP hK
  obtain ⟨rfl, hZ, hh⟩ := hP
  have hx := Bd.exec
  have hby := Bd.bytes
  have hml : c.maxLocals = 3 := hml0
  have hlk : meth.locks = false := BodyLoose.notSynchronized Bd
  have hown : s.vm.findClass "java/lang/Long" = some m.cls := findClass_of_methodNamed Bd.named
  have hnm := (name_of_methodNamed Bd.named Bd.method).1
  have X0 : Stand p l e ({ frames := 3, cells := 1, slots := 1, locals := 40 } : Room) s m #[(.long q1)] below meth c s₁ [] 0 0 := Stand.of_body Bd
  have e0 : s₁.heap = h0 := by rw [← hh, Bd.state]; rfl
  have N0 := Fr.nil n0
  show own_Go p e below s ({ frames := 3, cells := 1, slots := 1, locals := 40 } : Room).cells ({ frames := 3, cells := 1, slots := 1, locals := 40 } : Room).slots (own_Q4 Z q1 ca cl h0 n0) s₁ (entryFrame m #[(.long q1)] 3)
  refine own_step (fun t k => castTop (own_ef4 m q1) k) ?_
  show own_Go _ _ _ _ _ _ _ s₁ (mkF m 0 #[.val (.long q1), .second, .unset] [])
  refine own_step (fun t k => XS.sipush X0.here hx rfl (hb hby d4_0) k) ?_
  show own_Go _ _ _ _ _ _ _ s₁ (mkF m 3 #[.val (.long q1), .second, .unset] [(.int (128 : Int32))])
  refine own_step (fun t k => XS.istoreN X0.here hx rfl (hb hby d4_3) rfl (l' := #[.val (.long q1), .second, .val (.int (128 : Int32))]) rfl k) ?_
  show own_Go _ _ _ _ _ _ _ s₁ (mkF m 4 #[.val (.long q1), .second, .val (.int (128 : Int32))] [])
  refine own_step (fun t k => XS.lloadN X0.here hx rfl (hb hby d4_4) rfl k) ?_
  show own_Go _ _ _ _ _ _ _ s₁ (mkF m 5 #[.val (.long q1), .second, .val (.int (128 : Int32))] [(.long q1)])
  refine own_step (fun t k => X0.ldc2Long hx hown (mvT hZ (hw _ (List.mem_of_getElem? (i := 26) rfl))) (g := (mkF m 5 #[.val (.long q1), .second, .val (.int (128 : Int32))] [(.long q1)])) rfl (hb hby d4_5) t k) ?_
  show own_Go _ _ _ _ _ _ _ s₁ (mkF m 8 #[.val (.long q1), .second, .val (.int (128 : Int32))] [(.long (-128 : Int64)), (.long q1)])
  refine own_step (fun t k => XS.lcmp X0.here hx rfl (hb hby d4_8) rfl k) ?_
  rcases Classical.em ((lcmpW q1 (-128 : Int64)) < (0 : Int32)) with c9_1 | c9_1
  · show own_Go _ _ _ _ _ _ _ s₁ (mkF m 9 #[.val (.long q1), .second, .val (.int (128 : Int32))] [(.int (lcmpW q1 (-128 : Int64)))])
    refine own_step (fun t k => XS.ifYes X0.here hx rfl (pc0 := 9) (pc' := 31) rfl (hb hby d4_9) rfl ((if0 _ _).trans (tlt (c9_1)).1) (by decide) (by decide) k) ?_
    show own_Go _ _ _ _ _ _ _ s₁ (mkF m 31 #[.val (.long q1), .second, .val (.int (128 : Int32))] [])
    obtain ⟨T2, h2, X2, e2, E2, A2, D2, -, st2⟩ := newO X0 hx hZ hown (hw _ (List.mem_of_getElem? (i := 28) rfl)) (hw _ (List.mem_of_getElem? (i := 29) rfl)) (hw _ (List.mem_of_getElem? (i := 24) rfl)) e0 (g := (mkF m 31 #[.val (.long q1), .second, .val (.int (128 : Int32))] [])) rfl (hb hby d4_31) (by decide) (by decide)
    obtain ⟨b2, g2⟩ : ∃ z, z = h0.size := ⟨_, rfl⟩
    rw [← g2] at A2 D2 st2
    have F2_value : Fld Z h2 b2 "java/lang/Long" "value" "J" (.long (0 : Int64)) := D2 (Or.inr (hw _ (List.mem_of_getElem? (i := 42) rfl))) (ty := .long) (by decide)
    have nb2 : n0 ≤ b2 := by have := Nat.le_of_eq g2.symm; exact Nat.le_trans (Z0) this
    refine own_step st2 ?_
    show own_Go _ _ _ _ _ _ _ T2 (mkF m 34 #[.val (.long q1), .second, .val (.int (128 : Int32))] [(.ref b2)])
    refine own_step (fun t k => XS.dup X2.here hx rfl (hb hby d4_34) rfl rfl k) ?_
    show own_Go _ _ _ _ _ _ _ T2 (mkF m 35 #[.val (.long q1), .second, .val (.int (128 : Int32))] [(.ref b2), (.ref b2)])
    refine own_step (fun t k => XS.lloadN X2.here hx rfl (hb hby d4_35) rfl k) ?_
    show own_Go _ _ _ _ _ _ _ T2 (mkF m 36 #[.val (.long q1), .second, .val (.int (128 : Int32))] [(.long q1), (.ref b2), (.ref b2)])
    obtain ⟨_, _, ⟨T3, L3, k3, n3⟩, -, X3, ⟨Lc3, hQ3, l3, y3, z3⟩, st3⟩ := X2.specialBack hx (y := (⟨"java/lang/Long", "<init>", "(J)V"⟩ : MethodName)) rfl hown (mvT hZ (hw _ (List.mem_of_getElem? (i := 30) rfl))) (mvT hZ (hw _ (List.mem_of_getElem? (i := 31) rfl))) (mvT hZ (hw _ (List.mem_of_getElem? (i := 33) rfl))) (by decide) (backOf (W := 1) (own_rm5 l Z a0 hw [] b2 q1 h2 n0 (Nat.le_trans (Z0) E2.1) F2_value A2 nb2) hZ (hw _ (List.mem_of_getElem? (i := 33) rfl)) (hw _ (List.mem_of_getElem? (i := 24) rfl)) (by decide) (by decide)) (g := (mkF m 36 #[.val (.long q1), .second, .val (.int (128 : Int32))] [(.long q1), (.ref b2), (.ref b2)])) rfl (by rw [hml]; rfl) (Steps.refl _) (a := b2) (argsL := [(.long q1)]) (rest := [(.ref b2)]) (lenOf own_pd4_0 rfl) rfl (by show 2 * 0 + _ ≤ _; exact Nat.le_of_eq rfl) (hb hby d4_36) (fun _ _ => ⟨rfl, e2, (by decide : 1 + 0 ≤ _), (by decide : 1 + 0 ≤ _)⟩)
    dsimp only [Pt.U, Pt.locs, Pt.cells, Pt.slots] at X3 l3 y3 z3 st3 hQ3
    subst l3 y3 z3
    obtain ⟨rfl, Nq3, K3, EE3⟩ := hQ3
    have N3 := Fr.app N0 Nq3
    refine own_step (fun t k => st3.trans k) ?_
    have KK : Keep h0 T3.heap [] := ((Keep.refl h0 []).ext E2).trans K3 (allS (Or.inr (Nat.le_of_eq g2.symm)) all0)
    show own_Go _ _ _ _ _ _ _ T3 (mkF m 39 #[.val (.long q1), .second, .val (.int (128 : Int32))] [(.ref b2)])
    refine own_ret X3 hx hlk Bd.returns rfl (Or.inr (Or.inr (Or.inr (Or.inr ⟨rfl, rfl, rfl⟩)))) (hb hby d4_39) (by decide) (by decide) ?_
    show own_Q4 Z q1 ca cl h0 n0 (some (.ref b2)) T3.heap _
    exact ⟨_, rfl, N3, KK, EE3⟩
  · show own_Go _ _ _ _ _ _ _ s₁ (mkF m 9 #[.val (.long q1), .second, .val (.int (128 : Int32))] [(.int (lcmpW q1 (-128 : Int64)))])
    refine own_step (fun t k => XS.ifNo X0.here hx rfl (hb hby d4_9) rfl ((if0 _ _).trans (flt (c9_1)).1) k) ?_
    show own_Go _ _ _ _ _ _ _ s₁ (mkF m 12 #[.val (.long q1), .second, .val (.int (128 : Int32))] [])
    refine own_step (fun t k => XS.lloadN X0.here hx rfl (hb hby d4_12) rfl k) ?_
    show own_Go _ _ _ _ _ _ _ s₁ (mkF m 13 #[.val (.long q1), .second, .val (.int (128 : Int32))] [(.long q1)])
    refine own_step (fun t k => X0.ldc2Long hx hown (mvT hZ (hw _ (List.mem_of_getElem? (i := 27) rfl))) (g := (mkF m 13 #[.val (.long q1), .second, .val (.int (128 : Int32))] [(.long q1)])) rfl (hb hby d4_13) t k) ?_
    show own_Go _ _ _ _ _ _ _ s₁ (mkF m 16 #[.val (.long q1), .second, .val (.int (128 : Int32))] [(.long (127 : Int64)), (.long q1)])
    refine own_step (fun t k => XS.lcmp X0.here hx rfl (hb hby d4_16) rfl k) ?_
    rcases Classical.em ((0 : Int32) < (lcmpW q1 (127 : Int64))) with c17_4 | c17_4
    · show own_Go _ _ _ _ _ _ _ s₁ (mkF m 17 #[.val (.long q1), .second, .val (.int (128 : Int32))] [(.int (lcmpW q1 (127 : Int64)))])
      refine own_step (fun t k => XS.ifYes X0.here hx rfl (pc0 := 17) (pc' := 31) rfl (hb hby d4_17) rfl ((if0 _ _).trans (tlt (c17_4)).2.2.1) (by decide) (by decide) k) ?_
      show own_Go _ _ _ _ _ _ _ s₁ (mkF m 31 #[.val (.long q1), .second, .val (.int (128 : Int32))] [])
      obtain ⟨T5, h5, X5, e5, E5, A5, D5, -, st5⟩ := newO X0 hx hZ hown (hw _ (List.mem_of_getElem? (i := 28) rfl)) (hw _ (List.mem_of_getElem? (i := 29) rfl)) (hw _ (List.mem_of_getElem? (i := 24) rfl)) e0 (g := (mkF m 31 #[.val (.long q1), .second, .val (.int (128 : Int32))] [])) rfl (hb hby d4_31) (by decide) (by decide)
      obtain ⟨b5, g5⟩ : ∃ z, z = h0.size := ⟨_, rfl⟩
      rw [← g5] at A5 D5 st5
      have F5_value : Fld Z h5 b5 "java/lang/Long" "value" "J" (.long (0 : Int64)) := D5 (Or.inr (hw _ (List.mem_of_getElem? (i := 42) rfl))) (ty := .long) (by decide)
      have nb5 : n0 ≤ b5 := by have := Nat.le_of_eq g5.symm; exact Nat.le_trans (Z0) this
      refine own_step st5 ?_
      show own_Go _ _ _ _ _ _ _ T5 (mkF m 34 #[.val (.long q1), .second, .val (.int (128 : Int32))] [(.ref b5)])
      refine own_step (fun t k => XS.dup X5.here hx rfl (hb hby d4_34) rfl rfl k) ?_
      show own_Go _ _ _ _ _ _ _ T5 (mkF m 35 #[.val (.long q1), .second, .val (.int (128 : Int32))] [(.ref b5), (.ref b5)])
      refine own_step (fun t k => XS.lloadN X5.here hx rfl (hb hby d4_35) rfl k) ?_
      show own_Go _ _ _ _ _ _ _ T5 (mkF m 36 #[.val (.long q1), .second, .val (.int (128 : Int32))] [(.long q1), (.ref b5), (.ref b5)])
      obtain ⟨_, _, ⟨T6, L6, k6, n6⟩, -, X6, ⟨Lc6, hQ6, l6, y6, z6⟩, st6⟩ := X5.specialBack hx (y := (⟨"java/lang/Long", "<init>", "(J)V"⟩ : MethodName)) rfl hown (mvT hZ (hw _ (List.mem_of_getElem? (i := 30) rfl))) (mvT hZ (hw _ (List.mem_of_getElem? (i := 31) rfl))) (mvT hZ (hw _ (List.mem_of_getElem? (i := 33) rfl))) (by decide) (backOf (W := 1) (own_rm5 l Z a0 hw [] b5 q1 h5 n0 (Nat.le_trans (Z0) E5.1) F5_value A5 nb5) hZ (hw _ (List.mem_of_getElem? (i := 33) rfl)) (hw _ (List.mem_of_getElem? (i := 24) rfl)) (by decide) (by decide)) (g := (mkF m 36 #[.val (.long q1), .second, .val (.int (128 : Int32))] [(.long q1), (.ref b5), (.ref b5)])) rfl (by rw [hml]; rfl) (Steps.refl _) (a := b5) (argsL := [(.long q1)]) (rest := [(.ref b5)]) (lenOf own_pd4_0 rfl) rfl (by show 2 * 0 + _ ≤ _; exact Nat.le_of_eq rfl) (hb hby d4_36) (fun _ _ => ⟨rfl, e5, (by decide : 1 + 0 ≤ _), (by decide : 1 + 0 ≤ _)⟩)
      dsimp only [Pt.U, Pt.locs, Pt.cells, Pt.slots] at X6 l6 y6 z6 st6 hQ6
      subst l6 y6 z6
      obtain ⟨rfl, Nq6, K6, EE6⟩ := hQ6
      have N6 := Fr.app N0 Nq6
      refine own_step (fun t k => st6.trans k) ?_
      have KK : Keep h0 T6.heap [] := ((Keep.refl h0 []).ext E5).trans K6 (allS (Or.inr (Nat.le_of_eq g5.symm)) all0)
      show own_Go _ _ _ _ _ _ _ T6 (mkF m 39 #[.val (.long q1), .second, .val (.int (128 : Int32))] [(.ref b5)])
      refine own_ret X6 hx hlk Bd.returns rfl (Or.inr (Or.inr (Or.inr (Or.inr ⟨rfl, rfl, rfl⟩)))) (hb hby d4_39) (by decide) (by decide) ?_
      show own_Q4 Z q1 ca cl h0 n0 (some (.ref b5)) T6.heap _
      exact ⟨_, rfl, N6, KK, EE6⟩
    · show own_Go _ _ _ _ _ _ _ s₁ (mkF m 17 #[.val (.long q1), .second, .val (.int (128 : Int32))] [(.int (lcmpW q1 (127 : Int64)))])
      refine own_step (fun t k => XS.ifNo X0.here hx rfl (hb hby d4_17) rfl ((if0 _ _).trans (flt (c17_4)).2.2.1) k) ?_
      rw [lw_lt] at c9_1
      rw [lw_gt] at c17_4
      show own_Go _ _ _ _ _ _ _ s₁ (mkF m 20 #[.val (.long q1), .second, .val (.int (128 : Int32))] [])
      obtain ⟨T7, X7, e7, st7⟩ := getS2 X0 hx hZ hown (host := "") (Or.inl (hw _ (List.mem_of_getElem? (i := 46) rfl))) Via.refl e0 SC (g := (mkF m 20 #[.val (.long q1), .second, .val (.int (128 : Int32))] [])) rfl (hb hby d4_20)
      refine own_step st7 ?_
      show own_Go _ _ _ _ _ _ _ T7 (mkF m 23 #[.val (.long q1), .second, .val (.int (128 : Int32))] [(.ref ca)])
      refine own_step (fun t k => XS.lloadN X7.here hx rfl (hb hby d4_23) rfl k) ?_
      show own_Go _ _ _ _ _ _ _ T7 (mkF m 24 #[.val (.long q1), .second, .val (.int (128 : Int32))] [(.long q1), (.ref ca)])
      refine own_step (fun t k => XS.l2i X7.here hx rfl (hb hby d4_24) rfl k) ?_
      show own_Go _ _ _ _ _ _ _ T7 (mkF m 25 #[.val (.long q1), .second, .val (.int (128 : Int32))] [(.int (q1).toInt32), (.ref ca)])
      refine own_step (fun t k => XS.sipush X7.here hx rfl (hb hby d4_25) k) ?_
      show own_Go _ _ _ _ _ _ _ T7 (mkF m 28 #[.val (.long q1), .second, .val (.int (128 : Int32))] [(.int (128 : Int32)), (.int (q1).toInt32), (.ref ca)])
      refine own_step (fun t k => XS.iadd X7.here hx rfl (hb hby d4_28) rfl k) ?_
      have ci := own_cidx q1 c9_1 c17_4
      obtain ⟨y, hy, Ey⟩ := HC.2.2 ((q1).toInt32 + (128 : Int32)) ci.1 ci.2
      show own_Go _ _ _ _ _ _ _ T7 (mkF m 29 #[.val (.long q1), .second, .val (.int (128 : Int32))] [(.int ((q1).toInt32 + (128 : Int32))), (.ref ca)])
      refine own_step (fun t k => X7.aaload hx (by rw [e7]; exact HC.1.1) (State.isArrayOf_alike hZ.alike HC.1.2.1) rfl HC.1.2.2 (by rw [HC.2.1]; exact own_in ci.1 ci.2) hy (g := (mkF m 29 #[.val (.long q1), .second, .val (.int (128 : Int32))] [(.int ((q1).toInt32 + (128 : Int32))), (.ref ca)])) rfl rfl (hb hby d4_29) t k) ?_
      show own_Go _ _ _ _ _ _ _ T7 (mkF m 30 #[.val (.long q1), .second, .val (.int (128 : Int32))] [(.ref y)])
      refine own_ret X7 hx hlk Bd.returns rfl (Or.inr (Or.inr (Or.inr (Or.inr ⟨rfl, rfl, rfl⟩)))) (hb hby d4_30) (by decide) (by decide) ?_
      show own_Q4 Z q1 ca cl h0 n0 (some (.ref y)) T7.heap _
      rw [e7]
      exact ⟨_, rfl, N0, Keep.refl _ _, Ey⟩
theorem d3_0 : decode prog_115_method_5_code 0 = .ok (.aload_n 1, 1) := by decide +kernel
theorem d3_1 : decode prog_115_method_5_code 1 = .ok (.instanceof 8, 3) := by decide +kernel
theorem d3_4 : decode prog_115_method_5_code 4 = .ok (.ifCond .eq 47, 3) := by decide +kernel
theorem d3_51 : decode prog_115_method_5_code 51 = .ok (.iconst 0, 1) := by decide +kernel
theorem d3_52 : decode prog_115_method_5_code 52 = .ok (.ireturn, 1) := by decide +kernel
theorem own_pneN : plainName "com/example/corvid/corvid/Range" = true := by first | (simp [plainName, overriddenIn]; done) | decide +kernel
theorem own_efeN (m : MethodId) (x0 : Addr) : entryFrame m #[(.ref x0), .null] 3 = mkF m 0 #[.val (.ref x0), .val .null, .unset] [] := by first | (simp [entryFrame, mkF, argsToLocals, Value.category]; done) | rfl
def own_QeN (Z : State) (a1 : Addr) (h0 : Heap) (n0 : Nat) (v : Option Value) (h : Heap) (L : List Loc) : Prop := v = some (.int 0) ∧ Fr n0 L ∧ h = h0
set_option maxRecDepth 65536 in
set_option maxHeartbeats 40000000 in
theorem own_rmeN (l : Launch) (Z : State) (a0 : Array Value) (hw : ∀ d ∈ tables_1, d.before a0 Z = true) (ws : List Jvm.Cond) (a1 : Addr) (h0 : Heap) (n0 : Nat) (Z0 : n0 ≤ h0.size)  :
    MetFree l (⟨"com/example/corvid/corvid/Range", "equals", "(Ljava/lang/Object;)Z"⟩ : MethodName) (head1 (Jvm.Cond.code (⟨"com/example/corvid/corvid/Range", "equals", "(Ljava/lang/Object;)Z"⟩ : MethodName) prog_115_method_5_code 3 (some .boolean) :: ws) ({ frames := 0, cells := 0, slots := 0, locals := 0 } : Room)) (fun a U => a = #[(.ref a1), .null] ∧ Z.Warmed39 U.vm ∧ U.heap = h0) (fun _ _ _ _ _ => True) (fun _ U o U' => ∃ v L, o = .returned v ∧ own_QeN Z a1 h0 n0 v U'.heap L ∧ FrameEnd U o U' L ({ frames := 0, cells := 0, slots := 0, locals := 0 } : Room).cells ({ frames := 0, cells := 0, slots := 0, locals := 0 } : Room).slots) := by
  refine MetFree.of_bodySF (plainFor_of_name own_pneN) hisR ?_
  intro p e s m args below meth c s₁ Bd hml0 hP hK
  obtain ⟨rfl, hZ, hh⟩ := hP
  have hx := Bd.exec
  have hby := Bd.bytes
  have hml : c.maxLocals = 3 := hml0
  have hlk : meth.locks = false := BodyLoose.notSynchronized Bd
  have hown : s.vm.findClass "com/example/corvid/corvid/Range" = some m.cls := findClass_of_methodNamed Bd.named
  have hnm := (name_of_methodNamed Bd.named Bd.method).1
  have X0 : Stand p l e ({ frames := 0, cells := 0, slots := 0, locals := 0 } : Room) s m #[(.ref a1), .null] below meth c s₁ [] 0 0 := Stand.of_body Bd
  have e0 : s₁.heap = h0 := by rw [← hh, Bd.state]; rfl
  have N0 := Fr.nil n0
  show own_Go p e below s ({ frames := 0, cells := 0, slots := 0, locals := 0 } : Room).cells ({ frames := 0, cells := 0, slots := 0, locals := 0 } : Room).slots (own_QeN Z a1 h0 n0) s₁ (entryFrame m #[(.ref a1), .null] 3)
  refine own_step (fun t k => castTop (own_efeN m a1) k) ?_
  show own_Go _ _ _ _ _ _ _ s₁ (mkF m 0 #[.val (.ref a1), .val .null, .unset] [])
  refine own_step (fun t k => XS.aloadN X0.here hx rfl (hb hby d3_0) rfl rfl k) ?_
  show own_Go _ _ _ _ _ _ _ s₁ (mkF m 1 #[.val (.ref a1), .val .null, .unset] [.null])
  refine own_step (fun t k => X0.instanceofNull hx (g := (mkF m 1 #[.val (.ref a1), .val .null, .unset] [.null])) rfl (rest := []) rfl (hb hby d3_1) t k) ?_
  show own_Go _ _ _ _ _ _ _ s₁ (mkF m 4 #[.val (.ref a1), .val .null, .unset] [(.int (0 : Int32))])
  refine own_step (fun t k => XS.ifYes X0.here hx rfl (pc0 := 4) (pc' := 51) rfl (hb hby d3_4) rfl ((if0 _ _).trans (teq (rfl)).1) (by decide) (by decide) k) ?_
  show own_Go _ _ _ _ _ _ _ s₁ (mkF m 51 #[.val (.ref a1), .val .null, .unset] [])
  refine own_step (fun t k => XS.iconst X0.here hx rfl (hb hby d3_51) k) ?_
  show own_Go _ _ _ _ _ _ _ s₁ (mkF m 52 #[.val (.ref a1), .val .null, .unset] [(.int (0 : Int32))])
  refine own_ret X0 hx hlk Bd.returns rfl (Or.inl ⟨rfl, Or.inr (Or.inl rfl), _, rfl⟩) (hb hby d3_52) (by decide) (by decide) ?_
  show own_QeN Z a1 h0 n0 (some (.int (0 : Int32))) s₁.heap _
  rw [e0]
  exact ⟨rfl, N0, rfl⟩
theorem own_pneL : plainName "com/example/corvid/corvid/Range" = true := by first | (simp [plainName, overriddenIn]; done) | decide +kernel
theorem own_efeL (m : MethodId) (x0 : Addr) (x1 : Addr) : entryFrame m #[(.ref x0), (.ref x1)] 3 = mkF m 0 #[.val (.ref x0), .val (.ref x1), .unset] [] := by first | (simp [entryFrame, mkF, argsToLocals, Value.category]; done) | rfl
def own_QeL (Z : State) (a1 : Addr) (a2 : Addr) (h0 : Heap) (n0 : Nat) (v : Option Value) (h : Heap) (L : List Loc) : Prop := v = some (.int 0) ∧ Fr n0 L ∧ h = h0
set_option maxRecDepth 65536 in
set_option maxHeartbeats 40000000 in
theorem own_rmeL (l : Launch) (Z : State) (a0 : Array Value) (hw : ∀ d ∈ tables_1, d.before a0 Z = true) (ws : List Jvm.Cond) (a1 : Addr) (a2 : Addr) (h0 : Heap) (n0 : Nat) (Z0 : n0 ≤ h0.size) (EL : Exa Z h0 a2 "java/lang/Long") :
    MetFree l (⟨"com/example/corvid/corvid/Range", "equals", "(Ljava/lang/Object;)Z"⟩ : MethodName) (head1 (Jvm.Cond.code (⟨"com/example/corvid/corvid/Range", "equals", "(Ljava/lang/Object;)Z"⟩ : MethodName) prog_115_method_5_code 3 (some .boolean) :: ws) ({ frames := 0, cells := 0, slots := 0, locals := 0 } : Room)) (fun a U => a = #[(.ref a1), (.ref a2)] ∧ Z.Warmed39 U.vm ∧ U.heap = h0) (fun _ _ _ _ _ => True) (fun _ U o U' => ∃ v L, o = .returned v ∧ own_QeL Z a1 a2 h0 n0 v U'.heap L ∧ FrameEnd U o U' L ({ frames := 0, cells := 0, slots := 0, locals := 0 } : Room).cells ({ frames := 0, cells := 0, slots := 0, locals := 0 } : Room).slots) := by
  refine MetFree.of_bodySF (plainFor_of_name own_pneL) hisR ?_
  intro p e s m args below meth c s₁ Bd hml0 hP hK
  obtain ⟨rfl, hZ, hh⟩ := hP
  have hx := Bd.exec
  have hby := Bd.bytes
  have hml : c.maxLocals = 3 := hml0
  have hlk : meth.locks = false := BodyLoose.notSynchronized Bd
  have hown : s.vm.findClass "com/example/corvid/corvid/Range" = some m.cls := findClass_of_methodNamed Bd.named
  have hnm := (name_of_methodNamed Bd.named Bd.method).1
  have X0 : Stand p l e ({ frames := 0, cells := 0, slots := 0, locals := 0 } : Room) s m #[(.ref a1), (.ref a2)] below meth c s₁ [] 0 0 := Stand.of_body Bd
  have e0 : s₁.heap = h0 := by rw [← hh, Bd.state]; rfl
  have N0 := Fr.nil n0
  show own_Go p e below s ({ frames := 0, cells := 0, slots := 0, locals := 0 } : Room).cells ({ frames := 0, cells := 0, slots := 0, locals := 0 } : Room).slots (own_QeL Z a1 a2 h0 n0) s₁ (entryFrame m #[(.ref a1), (.ref a2)] 3)
  refine own_step (fun t k => castTop (own_efeL m a1 a2) k) ?_
  have far := own_ns_no (hw _ (List.mem_of_getElem? (i := 43) rfl)) (hw _ (List.mem_of_getElem? (i := 1) rfl)) (NS.step (hw _ (List.mem_of_getElem? (i := 43) rfl)) (NS.step (hw _ (List.mem_of_getElem? (i := 44) rfl)) (own_ns_root (hw _ (List.mem_of_getElem? (i := 45) rfl)) (hw _ (List.mem_of_getElem? (i := 1) rfl)) (by decide)) (by decide)) (by decide)) (by decide)
  show own_Go _ _ _ _ _ _ _ s₁ (mkF m 0 #[.val (.ref a1), .val (.ref a2), .unset] [])
  refine own_step (fun t k => XS.aloadN X0.here hx rfl (hb hby d3_0) rfl rfl k) ?_
  show own_Go _ _ _ _ _ _ _ s₁ (mkF m 1 #[.val (.ref a1), .val (.ref a2), .unset] [(.ref a2)])
  obtain ⟨T1, X1, e1, st1⟩ := instNo X0 hx hZ hown (hw _ (List.mem_of_getElem? (i := 20) rfl)) e0 EL far (g := (mkF m 1 #[.val (.ref a1), .val (.ref a2), .unset] [(.ref a2)])) rfl rfl (hb hby d3_1)
  refine own_step st1 ?_
  show own_Go _ _ _ _ _ _ _ T1 (mkF m 4 #[.val (.ref a1), .val (.ref a2), .unset] [(.int (0 : Int32))])
  refine own_step (fun t k => XS.ifYes X1.here hx rfl (pc0 := 4) (pc' := 51) rfl (hb hby d3_4) rfl ((if0 _ _).trans (teq (rfl)).1) (by decide) (by decide) k) ?_
  show own_Go _ _ _ _ _ _ _ T1 (mkF m 51 #[.val (.ref a1), .val (.ref a2), .unset] [])
  refine own_step (fun t k => XS.iconst X1.here hx rfl (hb hby d3_51) k) ?_
  show own_Go _ _ _ _ _ _ _ T1 (mkF m 52 #[.val (.ref a1), .val (.ref a2), .unset] [(.int (0 : Int32))])
  refine own_ret X1 hx hlk Bd.returns rfl (Or.inl ⟨rfl, Or.inr (Or.inl rfl), _, rfl⟩) (hb hby d3_52) (by decide) (by decide) ?_
  show own_QeL Z a1 a2 h0 n0 (some (.int (0 : Int32))) T1.heap _
  rw [e1]
  exact ⟨rfl, N0, rfl⟩
theorem d3_7 : decode prog_115_method_5_code 7 = .ok (.aload_n 1, 1) := by decide +kernel
theorem d3_8 : decode prog_115_method_5_code 8 = .ok (.checkcast 8, 3) := by decide +kernel
theorem d3_11 : decode prog_115_method_5_code 11 = .ok (.astore_n 2, 1) := by decide +kernel
theorem d3_12 : decode prog_115_method_5_code 12 = .ok (.aload_n 0, 1) := by decide +kernel
theorem d3_13 : decode prog_115_method_5_code 13 = .ok (.getfield 7, 3) := by decide +kernel
theorem d3_16 : decode prog_115_method_5_code 16 = .ok (.aload_n 2, 1) := by decide +kernel
theorem d3_17 : decode prog_115_method_5_code 17 = .ok (.getfield 7, 3) := by decide +kernel
theorem d3_20 : decode prog_115_method_5_code 20 = .ok (.lcmp, 1) := by decide +kernel
theorem d3_21 : decode prog_115_method_5_code 21 = .ok (.ifCond .ne 30, 3) := by decide +kernel
theorem d3_24 : decode prog_115_method_5_code 24 = .ok (.aload_n 0, 1) := by decide +kernel
theorem d3_25 : decode prog_115_method_5_code 25 = .ok (.getfield 13, 3) := by decide +kernel
theorem d3_28 : decode prog_115_method_5_code 28 = .ok (.aload_n 2, 1) := by decide +kernel
theorem d3_29 : decode prog_115_method_5_code 29 = .ok (.getfield 13, 3) := by decide +kernel
theorem d3_32 : decode prog_115_method_5_code 32 = .ok (.lcmp, 1) := by decide +kernel
theorem d3_33 : decode prog_115_method_5_code 33 = .ok (.ifCond .ne 18, 3) := by decide +kernel
theorem d3_36 : decode prog_115_method_5_code 36 = .ok (.aload_n 0, 1) := by decide +kernel
theorem d3_37 : decode prog_115_method_5_code 37 = .ok (.getfield 16, 3) := by decide +kernel
theorem d3_40 : decode prog_115_method_5_code 40 = .ok (.aload_n 2, 1) := by decide +kernel
theorem d3_41 : decode prog_115_method_5_code 41 = .ok (.getfield 16, 3) := by decide +kernel
theorem d3_44 : decode prog_115_method_5_code 44 = .ok (.if_icmp .ne 7, 3) := by decide +kernel
theorem d3_47 : decode prog_115_method_5_code 47 = .ok (.iconst 1, 1) := by decide +kernel
theorem d3_48 : decode prog_115_method_5_code 48 = .ok (.goto 4, 3) := by decide +kernel
theorem own_pneR : plainName "com/example/corvid/corvid/Range" = true := by first | (simp [plainName, overriddenIn]; done) | decide +kernel
theorem own_efeR (m : MethodId) (x0 : Addr) (x1 : Addr) : entryFrame m #[(.ref x0), (.ref x1)] 3 = mkF m 0 #[.val (.ref x0), .val (.ref x1), .unset] [] := by first | (simp [entryFrame, mkF, argsToLocals, Value.category]; done) | rfl
def own_QeR (Z : State) (a1 : Addr) (a2 : Addr) (q1 : Int64) (q2 : Int64) (p3 : Int32) (r1 : Int64) (r2 : Int64) (r3 : Int32) (h0 : Heap) (n0 : Nat) (v : Option Value) (h : Heap) (L : List Loc) : Prop := v = some (.int (own_eqv q1 q2 p3 r1 r2 r3)) ∧ Fr n0 L ∧ h = h0
set_option maxRecDepth 65536 in
set_option maxHeartbeats 40000000 in
theorem own_rmeR (l : Launch) (Z : State) (a0 : Array Value) (hw : ∀ d ∈ tables_1, d.before a0 Z = true) (ws : List Jvm.Cond) (a1 : Addr) (a2 : Addr) (q1 : Int64) (q2 : Int64) (p3 : Int32) (r1 : Int64) (r2 : Int64) (r3 : Int32) (h0 : Heap) (n0 : Nat) (Z0 : n0 ≤ h0.size) (Fstart : Fld Z h0 a1 "com/example/corvid/corvid/Range" "start" "J" (.long q1)) (Fend : Fld Z h0 a1 "com/example/corvid/corvid/Range" "end" "J" (.long q2)) (Finclusive : Fld Z h0 a1 "com/example/corvid/corvid/Range" "inclusive" "Z" (.int p3)) (Gstart : Fld Z h0 a2 "com/example/corvid/corvid/Range" "start" "J" (.long r1)) (Gend : Fld Z h0 a2 "com/example/corvid/corvid/Range" "end" "J" (.long r2)) (Ginclusive : Fld Z h0 a2 "com/example/corvid/corvid/Range" "inclusive" "Z" (.int r3)) (EL : Exa Z h0 a2 "com/example/corvid/corvid/Range") :
    MetFree l (⟨"com/example/corvid/corvid/Range", "equals", "(Ljava/lang/Object;)Z"⟩ : MethodName) (head1 (Jvm.Cond.code (⟨"com/example/corvid/corvid/Range", "equals", "(Ljava/lang/Object;)Z"⟩ : MethodName) prog_115_method_5_code 3 (some .boolean) :: ws) ({ frames := 0, cells := 0, slots := 0, locals := 0 } : Room)) (fun a U => a = #[(.ref a1), (.ref a2)] ∧ Z.Warmed39 U.vm ∧ U.heap = h0) (fun _ _ _ _ _ => True) (fun _ U o U' => ∃ v L, o = .returned v ∧ own_QeR Z a1 a2 q1 q2 p3 r1 r2 r3 h0 n0 v U'.heap L ∧ FrameEnd U o U' L ({ frames := 0, cells := 0, slots := 0, locals := 0 } : Room).cells ({ frames := 0, cells := 0, slots := 0, locals := 0 } : Room).slots) := by
  refine MetFree.of_bodySF (plainFor_of_name own_pneR) hisR ?_
  intro p e s m args below meth c s₁ Bd hml0 hP hK
  obtain ⟨rfl, hZ, hh⟩ := hP
  have hx := Bd.exec
  have hby := Bd.bytes
  have hml : c.maxLocals = 3 := hml0
  have hlk : meth.locks = false := BodyLoose.notSynchronized Bd
  have hown : s.vm.findClass "com/example/corvid/corvid/Range" = some m.cls := findClass_of_methodNamed Bd.named
  have hnm := (name_of_methodNamed Bd.named Bd.method).1
  have X0 : Stand p l e ({ frames := 0, cells := 0, slots := 0, locals := 0 } : Room) s m #[(.ref a1), (.ref a2)] below meth c s₁ [] 0 0 := Stand.of_body Bd
  have e0 : s₁.heap = h0 := by rw [← hh, Bd.state]; rfl
  have N0 := Fr.nil n0
  show own_Go p e below s ({ frames := 0, cells := 0, slots := 0, locals := 0 } : Room).cells ({ frames := 0, cells := 0, slots := 0, locals := 0 } : Room).slots (own_QeR Z a1 a2 q1 q2 p3 r1 r2 r3 h0 n0) s₁ (entryFrame m #[(.ref a1), (.ref a2)] 3)
  refine own_step (fun t k => castTop (own_efeR m a1 a2) k) ?_
  show own_Go _ _ _ _ _ _ _ s₁ (mkF m 0 #[.val (.ref a1), .val (.ref a2), .unset] [])
  refine own_step (fun t k => XS.aloadN X0.here hx rfl (hb hby d3_0) rfl rfl k) ?_
  show own_Go _ _ _ _ _ _ _ s₁ (mkF m 1 #[.val (.ref a1), .val (.ref a2), .unset] [(.ref a2)])
  obtain ⟨T1, X1, e1, st1⟩ := instY X0 hx hZ hown (hw _ (List.mem_of_getElem? (i := 20) rfl)) e0 (Ins.self EL) (g := (mkF m 1 #[.val (.ref a1), .val (.ref a2), .unset] [(.ref a2)])) rfl rfl (hb hby d3_1)
  refine own_step st1 ?_
  show own_Go _ _ _ _ _ _ _ T1 (mkF m 4 #[.val (.ref a1), .val (.ref a2), .unset] [(.int (1 : Int32))])
  refine own_step (fun t k => XS.ifNo X1.here hx rfl (hb hby d3_4) rfl ((if0 _ _).trans (feq (by decide)).1) k) ?_
  show own_Go _ _ _ _ _ _ _ T1 (mkF m 7 #[.val (.ref a1), .val (.ref a2), .unset] [])
  refine own_step (fun t k => XS.aloadN X1.here hx rfl (hb hby d3_7) rfl rfl k) ?_
  show own_Go _ _ _ _ _ _ _ T1 (mkF m 8 #[.val (.ref a1), .val (.ref a2), .unset] [(.ref a2)])
  obtain ⟨T2, X2, e2, st2⟩ := castY X1 hx hZ hown (hw _ (List.mem_of_getElem? (i := 20) rfl)) e1 (Ins.self EL) (g := (mkF m 8 #[.val (.ref a1), .val (.ref a2), .unset] [(.ref a2)])) rfl rfl (hb hby d3_8)
  refine own_step st2 ?_
  show own_Go _ _ _ _ _ _ _ T2 (mkF m 11 #[.val (.ref a1), .val (.ref a2), .unset] [(.ref a2)])
  refine own_step (fun t k => XS.astoreN X2.here hx rfl (hb hby d3_11) rfl rfl (l' := #[.val (.ref a1), .val (.ref a2), .val (.ref a2)]) rfl k) ?_
  show own_Go _ _ _ _ _ _ _ T2 (mkF m 12 #[.val (.ref a1), .val (.ref a2), .val (.ref a2)] [])
  refine own_step (fun t k => XS.aloadN X2.here hx rfl (hb hby d3_12) rfl rfl k) ?_
  show own_Go _ _ _ _ _ _ _ T2 (mkF m 13 #[.val (.ref a1), .val (.ref a2), .val (.ref a2)] [(.ref a1)])
  obtain ⟨T3, X3, e3, st3⟩ := getF X2 hx hZ hown (host := "") (Or.inl (hw _ (List.mem_of_getElem? (i := 9) rfl))) Via.refl e2 Fstart (g := (mkF m 13 #[.val (.ref a1), .val (.ref a2), .val (.ref a2)] [(.ref a1)])) rfl rfl (hb hby d3_13)
  refine own_step st3 ?_
  show own_Go _ _ _ _ _ _ _ T3 (mkF m 16 #[.val (.ref a1), .val (.ref a2), .val (.ref a2)] [(.long q1)])
  refine own_step (fun t k => XS.aloadN X3.here hx rfl (hb hby d3_16) rfl rfl k) ?_
  show own_Go _ _ _ _ _ _ _ T3 (mkF m 17 #[.val (.ref a1), .val (.ref a2), .val (.ref a2)] [(.ref a2), (.long q1)])
  obtain ⟨T4, X4, e4, st4⟩ := getF X3 hx hZ hown (host := "") (Or.inl (hw _ (List.mem_of_getElem? (i := 9) rfl))) Via.refl e3 Gstart (g := (mkF m 17 #[.val (.ref a1), .val (.ref a2), .val (.ref a2)] [(.ref a2), (.long q1)])) rfl rfl (hb hby d3_17)
  refine own_step st4 ?_
  show own_Go _ _ _ _ _ _ _ T4 (mkF m 20 #[.val (.ref a1), .val (.ref a2), .val (.ref a2)] [(.long r1), (.long q1)])
  refine own_step (fun t k => XS.lcmp X4.here hx rfl (hb hby d3_20) rfl k) ?_
  rcases Classical.em ((lcmpW q1 r1) = (0 : Int32)) with c21_5 | c21_5
  · show own_Go _ _ _ _ _ _ _ T4 (mkF m 21 #[.val (.ref a1), .val (.ref a2), .val (.ref a2)] [(.int (lcmpW q1 r1))])
    refine own_step (fun t k => XS.ifNo X4.here hx rfl (hb hby d3_21) rfl ((if0 _ _).trans (teq (c21_5)).2) k) ?_
    show own_Go _ _ _ _ _ _ _ T4 (mkF m 24 #[.val (.ref a1), .val (.ref a2), .val (.ref a2)] [])
    refine own_step (fun t k => XS.aloadN X4.here hx rfl (hb hby d3_24) rfl rfl k) ?_
    show own_Go _ _ _ _ _ _ _ T4 (mkF m 25 #[.val (.ref a1), .val (.ref a2), .val (.ref a2)] [(.ref a1)])
    obtain ⟨T6, X6, e6, st6⟩ := getF X4 hx hZ hown (host := "") (Or.inl (hw _ (List.mem_of_getElem? (i := 11) rfl))) Via.refl e4 Fend (g := (mkF m 25 #[.val (.ref a1), .val (.ref a2), .val (.ref a2)] [(.ref a1)])) rfl rfl (hb hby d3_25)
    refine own_step st6 ?_
    show own_Go _ _ _ _ _ _ _ T6 (mkF m 28 #[.val (.ref a1), .val (.ref a2), .val (.ref a2)] [(.long q2)])
    refine own_step (fun t k => XS.aloadN X6.here hx rfl (hb hby d3_28) rfl rfl k) ?_
    show own_Go _ _ _ _ _ _ _ T6 (mkF m 29 #[.val (.ref a1), .val (.ref a2), .val (.ref a2)] [(.ref a2), (.long q2)])
    obtain ⟨T7, X7, e7, st7⟩ := getF X6 hx hZ hown (host := "") (Or.inl (hw _ (List.mem_of_getElem? (i := 11) rfl))) Via.refl e6 Gend (g := (mkF m 29 #[.val (.ref a1), .val (.ref a2), .val (.ref a2)] [(.ref a2), (.long q2)])) rfl rfl (hb hby d3_29)
    refine own_step st7 ?_
    show own_Go _ _ _ _ _ _ _ T7 (mkF m 32 #[.val (.ref a1), .val (.ref a2), .val (.ref a2)] [(.long r2), (.long q2)])
    refine own_step (fun t k => XS.lcmp X7.here hx rfl (hb hby d3_32) rfl k) ?_
    rcases Classical.em ((lcmpW q2 r2) = (0 : Int32)) with c33_8 | c33_8
    · show own_Go _ _ _ _ _ _ _ T7 (mkF m 33 #[.val (.ref a1), .val (.ref a2), .val (.ref a2)] [(.int (lcmpW q2 r2))])
      refine own_step (fun t k => XS.ifNo X7.here hx rfl (hb hby d3_33) rfl ((if0 _ _).trans (teq (c33_8)).2) k) ?_
      show own_Go _ _ _ _ _ _ _ T7 (mkF m 36 #[.val (.ref a1), .val (.ref a2), .val (.ref a2)] [])
      refine own_step (fun t k => XS.aloadN X7.here hx rfl (hb hby d3_36) rfl rfl k) ?_
      show own_Go _ _ _ _ _ _ _ T7 (mkF m 37 #[.val (.ref a1), .val (.ref a2), .val (.ref a2)] [(.ref a1)])
      obtain ⟨T9, X9, e9, st9⟩ := getF X7 hx hZ hown (host := "") (Or.inl (hw _ (List.mem_of_getElem? (i := 13) rfl))) Via.refl e7 Finclusive (g := (mkF m 37 #[.val (.ref a1), .val (.ref a2), .val (.ref a2)] [(.ref a1)])) rfl rfl (hb hby d3_37)
      refine own_step st9 ?_
      show own_Go _ _ _ _ _ _ _ T9 (mkF m 40 #[.val (.ref a1), .val (.ref a2), .val (.ref a2)] [(.int p3)])
      refine own_step (fun t k => XS.aloadN X9.here hx rfl (hb hby d3_40) rfl rfl k) ?_
      show own_Go _ _ _ _ _ _ _ T9 (mkF m 41 #[.val (.ref a1), .val (.ref a2), .val (.ref a2)] [(.ref a2), (.int p3)])
      obtain ⟨T10, X10, e10, st10⟩ := getF X9 hx hZ hown (host := "") (Or.inl (hw _ (List.mem_of_getElem? (i := 13) rfl))) Via.refl e9 Ginclusive (g := (mkF m 41 #[.val (.ref a1), .val (.ref a2), .val (.ref a2)] [(.ref a2), (.int p3)])) rfl rfl (hb hby d3_41)
      refine own_step st10 ?_
      rcases Classical.em (p3 = r3) with c44_11 | c44_11
      · show own_Go _ _ _ _ _ _ _ T10 (mkF m 44 #[.val (.ref a1), .val (.ref a2), .val (.ref a2)] [(.int r3), (.int p3)])
        refine own_step (fun t k => XS.icmpNo X10.here hx rfl (hb hby d3_44) rfl (teq (c44_11)).2 k) ?_
        show own_Go _ _ _ _ _ _ _ T10 (mkF m 47 #[.val (.ref a1), .val (.ref a2), .val (.ref a2)] [])
        refine own_step (fun t k => XS.iconst X10.here hx rfl (hb hby d3_47) k) ?_
        show own_Go _ _ _ _ _ _ _ T10 (mkF m 48 #[.val (.ref a1), .val (.ref a2), .val (.ref a2)] [(.int (1 : Int32))])
        refine own_step (fun t k => XS.goto X10.here hx rfl (pc0 := 48) (pc' := 52) rfl (hb hby d3_48) (by decide) (by decide) k) ?_
        simp only [lw_eq] at c21_5 c33_8
        show own_Go _ _ _ _ _ _ _ T10 (mkF m 52 #[.val (.ref a1), .val (.ref a2), .val (.ref a2)] [(.int (1 : Int32))])
        refine own_ret X10 hx hlk Bd.returns rfl (Or.inl ⟨rfl, Or.inr (Or.inl rfl), _, rfl⟩) (hb hby d3_52) (by decide) (by decide) ?_
        show own_QeR Z a1 a2 q1 q2 p3 r1 r2 r3 h0 n0 (some (.int (1 : Int32))) T10.heap _
        rw [e10]
        exact ⟨by simp [own_eqv, c21_5, c33_8, c44_11], N0, rfl⟩
      · show own_Go _ _ _ _ _ _ _ T10 (mkF m 44 #[.val (.ref a1), .val (.ref a2), .val (.ref a2)] [(.int r3), (.int p3)])
        refine own_step (fun t k => XS.icmpYes X10.here hx rfl (pc0 := 44) (pc' := 51) rfl (hb hby d3_44) rfl (feq (c44_11)).2 (by decide) (by decide) k) ?_
        show own_Go _ _ _ _ _ _ _ T10 (mkF m 51 #[.val (.ref a1), .val (.ref a2), .val (.ref a2)] [])
        refine own_step (fun t k => XS.iconst X10.here hx rfl (hb hby d3_51) k) ?_
        simp only [lw_eq] at c21_5 c33_8
        show own_Go _ _ _ _ _ _ _ T10 (mkF m 52 #[.val (.ref a1), .val (.ref a2), .val (.ref a2)] [(.int (0 : Int32))])
        refine own_ret X10 hx hlk Bd.returns rfl (Or.inl ⟨rfl, Or.inr (Or.inl rfl), _, rfl⟩) (hb hby d3_52) (by decide) (by decide) ?_
        show own_QeR Z a1 a2 q1 q2 p3 r1 r2 r3 h0 n0 (some (.int (0 : Int32))) T10.heap _
        rw [e10]
        exact ⟨by simp [own_eqv, c21_5, c33_8, c44_11], N0, rfl⟩
    · show own_Go _ _ _ _ _ _ _ T7 (mkF m 33 #[.val (.ref a1), .val (.ref a2), .val (.ref a2)] [(.int (lcmpW q2 r2))])
      refine own_step (fun t k => XS.ifYes X7.here hx rfl (pc0 := 33) (pc' := 51) rfl (hb hby d3_33) rfl ((if0 _ _).trans (feq (c33_8)).2) (by decide) (by decide) k) ?_
      show own_Go _ _ _ _ _ _ _ T7 (mkF m 51 #[.val (.ref a1), .val (.ref a2), .val (.ref a2)] [])
      refine own_step (fun t k => XS.iconst X7.here hx rfl (hb hby d3_51) k) ?_
      simp only [lw_eq] at c21_5 c33_8
      show own_Go _ _ _ _ _ _ _ T7 (mkF m 52 #[.val (.ref a1), .val (.ref a2), .val (.ref a2)] [(.int (0 : Int32))])
      refine own_ret X7 hx hlk Bd.returns rfl (Or.inl ⟨rfl, Or.inr (Or.inl rfl), _, rfl⟩) (hb hby d3_52) (by decide) (by decide) ?_
      show own_QeR Z a1 a2 q1 q2 p3 r1 r2 r3 h0 n0 (some (.int (0 : Int32))) T7.heap _
      rw [e7]
      exact ⟨by simp [own_eqv, c21_5, c33_8], N0, rfl⟩
  · show own_Go _ _ _ _ _ _ _ T4 (mkF m 21 #[.val (.ref a1), .val (.ref a2), .val (.ref a2)] [(.int (lcmpW q1 r1))])
    refine own_step (fun t k => XS.ifYes X4.here hx rfl (pc0 := 21) (pc' := 51) rfl (hb hby d3_21) rfl ((if0 _ _).trans (feq (c21_5)).2) (by decide) (by decide) k) ?_
    show own_Go _ _ _ _ _ _ _ T4 (mkF m 51 #[.val (.ref a1), .val (.ref a2), .val (.ref a2)] [])
    refine own_step (fun t k => XS.iconst X4.here hx rfl (hb hby d3_51) k) ?_
    simp only [lw_eq] at c21_5
    show own_Go _ _ _ _ _ _ _ T4 (mkF m 52 #[.val (.ref a1), .val (.ref a2), .val (.ref a2)] [(.int (0 : Int32))])
    refine own_ret X4 hx hlk Bd.returns rfl (Or.inl ⟨rfl, Or.inr (Or.inl rfl), _, rfl⟩) (hb hby d3_52) (by decide) (by decide) ?_
    show own_QeR Z a1 a2 q1 q2 p3 r1 r2 r3 h0 n0 (some (.int (0 : Int32))) T4.heap _
    rw [e4]
    exact ⟨by simp [own_eqv, c21_5], N0, rfl⟩
theorem own_pn0 : plainName "com/example/corvid/corvid/RangeEqualsPinLaw" = true := by first | (simp [plainName, overriddenIn]; done) | decide +kernel
theorem own_pd0_0 : parseMethodDescriptor "(JJZ)V" = some ⟨[.long, .long, .boolean], none⟩ := by decide +kernel
theorem own_pd0_1 : parseMethodDescriptor "(Ljava/lang/Object;)Z" = some ⟨[(.object "java/lang/Object")], some .boolean⟩ := by decide +kernel
theorem own_pd0_2 : parseMethodDescriptor "(J)Ljava/lang/Long;" = some ⟨[.long], some (.object "java/lang/Long")⟩ := by decide +kernel
theorem own_ef0 (m : MethodId) (x0 : Int64) (x1 : Int64) (x2 : Int64) (x3 : Int64) (x4 : Int32) : entryFrame m #[(.long x0), (.long x1), (.long x2), (.long x3), (.int x4)] maxLocals = mkF m 0 #[.val (.long x0), .second, .val (.long x1), .second, .val (.long x2), .second, .val (.long x3), .second, .val (.int x4), .unset, .unset, .unset, .unset, .unset, .unset, .unset, .unset, .unset, .unset] [] := by first | (simp [entryFrame, mkF, argsToLocals, Value.category, maxLocals]; done) | rfl
def own_Q0 (Z : State) (q1 : Int64) (q2 : Int64) (q3 : Int64) (q4 : Int64) (p5 : Int32) (ca : Addr) (cl : Cell) (h0 : Heap) (n0 : Nat) (v : Option Value) (h : Heap) (L : List Loc) : Prop := v = some (.int 1) ∧ Fr n0 L
set_option maxRecDepth 65536 in
set_option maxHeartbeats 40000000 in
theorem own_rm0 (l : Launch) (Z : State) (a0 : Array Value) (hw : ∀ d ∈ tables_1, d.before a0 Z = true) (ws : List Jvm.Cond) (q1 : Int64) (q2 : Int64) (q3 : Int64) (q4 : Int64) (p5 : Int32) (ca : Addr) (cl : Cell) (h0 : Heap) (n0 : Nat) (Z0 : n0 ≤ h0.size) (SC : Sta Z h0 "java/lang/Long$LongCache" "cache" "[Ljava/lang/Long;" (.ref ca)) (HC : own_Cache Z h0 ca cl) :
    MetFree l x (head1 (Jvm.Cond.code x code maxLocals ret :: ws) room_1) (fun a U => a = #[(.long q1), (.long q2), (.long q3), (.long q4), (.int p5)] ∧ Z.Warmed39 U.vm ∧ U.heap = h0) (fun _ _ _ _ _ => True) (fun _ U o U' => ∃ v L, o = .returned v ∧ own_Q0 Z q1 q2 q3 q4 p5 ca cl h0 n0 v U'.heap L ∧ FrameEnd U o U' L room_1.cells room_1.slots) := by
  refine MetFree.of_bodySF (plainFor_of_name own_pn0) hisR ?_
  intro p e s m args below meth c s₁ Bd hml0 hP hK
  obtain ⟨rfl, hZ, hh⟩ := hP
  have hx := Bd.exec
  have hby := Bd.bytes
  have hml : c.maxLocals = 19 := hml0
  have hlk : meth.locks = false := BodyLoose.notSynchronized Bd
  have hown : s.vm.findClass "com/example/corvid/corvid/RangeEqualsPinLaw" = some m.cls := findClass_of_methodNamed Bd.named
  have hnm := (name_of_methodNamed Bd.named Bd.method).1
  have X0 : Stand p l e room_1 s m #[(.long q1), (.long q2), (.long q3), (.long q4), (.int p5)] below meth c s₁ [] 0 0 := Stand.of_body Bd
  have e0 : s₁.heap = h0 := by rw [← hh, Bd.state]; rfl
  have N0 := Fr.nil n0
  show own_Go p e below s room_1.cells room_1.slots (own_Q0 Z q1 q2 q3 q4 p5 ca cl h0 n0) s₁ (entryFrame m #[(.long q1), (.long q2), (.long q3), (.long q4), (.int p5)] maxLocals)
  refine own_step (fun t k => castTop (own_ef0 m q1 q2 q3 q4 p5) k) ?_
  show own_Go _ _ _ _ _ _ _ s₁ (mkF m 0 #[.val (.long q1), .second, .val (.long q2), .second, .val (.long q3), .second, .val (.long q4), .second, .val (.int p5), .unset, .unset, .unset, .unset, .unset, .unset, .unset, .unset, .unset, .unset] [])
  refine own_step (fun t k => XS.iload X0.here hx rfl (hb hby at_0) rfl k) ?_
  show own_Go _ _ _ _ _ _ _ s₁ (mkF m 2 #[.val (.long q1), .second, .val (.long q2), .second, .val (.long q3), .second, .val (.long q4), .second, .val (.int p5), .unset, .unset, .unset, .unset, .unset, .unset, .unset, .unset, .unset, .unset] [(.int p5)])
  refine own_step (fun t k => XS.iconst X0.here hx rfl (hb hby at_2) k) ?_
  show own_Go _ _ _ _ _ _ _ s₁ (mkF m 3 #[.val (.long q1), .second, .val (.long q2), .second, .val (.long q3), .second, .val (.long q4), .second, .val (.int p5), .unset, .unset, .unset, .unset, .unset, .unset, .unset, .unset, .unset, .unset] [(.int (1 : Int32)), (.int p5)])
  refine own_step (fun t k => XS.iand X0.here hx rfl (hb hby at_3) rfl k) ?_
  have J12 : ∀ i1 : Int32, (i1 = 0 ∨ i1 = 1) → own_Go p e below s room_1.cells room_1.slots (own_Q0 Z q1 q2 q3 q4 p5 ca cl h0 n0) s₁ (mkF m 12 #[.val (.long q1), .second, .val (.long q2), .second, .val (.long q3), .second, .val (.long q4), .second, .val (.int p5), .unset, .unset, .unset, .unset, .unset, .unset, .unset, .unset, .unset, .unset] [(.int i1)]) := by
    intro i1 hi1
    show own_Go _ _ _ _ _ _ _ s₁ (mkF m 12 #[.val (.long q1), .second, .val (.long q2), .second, .val (.long q3), .second, .val (.long q4), .second, .val (.int p5), .unset, .unset, .unset, .unset, .unset, .unset, .unset, .unset, .unset, .unset] [(.int i1)])
    refine own_step (fun t k => XS.istore X0.here hx rfl (hb hby at_12) rfl (l' := #[.val (.long q1), .second, .val (.long q2), .second, .val (.long q3), .second, .val (.long q4), .second, .val (.int p5), .val (.int i1), .unset, .unset, .unset, .unset, .unset, .unset, .unset, .unset, .unset]) rfl k) ?_
    show own_Go _ _ _ _ _ _ _ s₁ (mkF m 14 #[.val (.long q1), .second, .val (.long q2), .second, .val (.long q3), .second, .val (.long q4), .second, .val (.int p5), .val (.int i1), .unset, .unset, .unset, .unset, .unset, .unset, .unset, .unset, .unset] [])
    refine own_step (fun t k => XS.iload X0.here hx rfl (hb hby at_14) rfl k) ?_
    show own_Go _ _ _ _ _ _ _ s₁ (mkF m 16 #[.val (.long q1), .second, .val (.long q2), .second, .val (.long q3), .second, .val (.long q4), .second, .val (.int p5), .val (.int i1), .unset, .unset, .unset, .unset, .unset, .unset, .unset, .unset, .unset] [(.int p5)])
    refine own_step (fun t k => XS.iconst X0.here hx rfl (hb hby at_16) k) ?_
    show own_Go _ _ _ _ _ _ _ s₁ (mkF m 17 #[.val (.long q1), .second, .val (.long q2), .second, .val (.long q3), .second, .val (.long q4), .second, .val (.int p5), .val (.int i1), .unset, .unset, .unset, .unset, .unset, .unset, .unset, .unset, .unset] [(.int (2 : Int32)), (.int p5)])
    refine own_step (fun t k => XS.iand X0.here hx rfl (hb hby at_17) rfl k) ?_
    have J26 : ∀ i2 : Int32, (i2 = 0 ∨ i2 = 1) → own_Go p e below s room_1.cells room_1.slots (own_Q0 Z q1 q2 q3 q4 p5 ca cl h0 n0) s₁ (mkF m 26 #[.val (.long q1), .second, .val (.long q2), .second, .val (.long q3), .second, .val (.long q4), .second, .val (.int p5), .val (.int i1), .unset, .unset, .unset, .unset, .unset, .unset, .unset, .unset, .unset] [(.int i2)]) := by
      intro i2 hi2
      show own_Go _ _ _ _ _ _ _ s₁ (mkF m 26 #[.val (.long q1), .second, .val (.long q2), .second, .val (.long q3), .second, .val (.long q4), .second, .val (.int p5), .val (.int i1), .unset, .unset, .unset, .unset, .unset, .unset, .unset, .unset, .unset] [(.int i2)])
      refine own_step (fun t k => XS.istore X0.here hx rfl (hb hby at_26) rfl (l' := #[.val (.long q1), .second, .val (.long q2), .second, .val (.long q3), .second, .val (.long q4), .second, .val (.int p5), .val (.int i1), .val (.int i2), .unset, .unset, .unset, .unset, .unset, .unset, .unset, .unset]) rfl k) ?_
      show own_Go _ _ _ _ _ _ _ s₁ (mkF m 28 #[.val (.long q1), .second, .val (.long q2), .second, .val (.long q3), .second, .val (.long q4), .second, .val (.int p5), .val (.int i1), .val (.int i2), .unset, .unset, .unset, .unset, .unset, .unset, .unset, .unset] [])
      refine own_step (fun t k => XS.iload X0.here hx rfl (hb hby at_28) rfl k) ?_
      show own_Go _ _ _ _ _ _ _ s₁ (mkF m 30 #[.val (.long q1), .second, .val (.long q2), .second, .val (.long q3), .second, .val (.long q4), .second, .val (.int p5), .val (.int i1), .val (.int i2), .unset, .unset, .unset, .unset, .unset, .unset, .unset, .unset] [(.int p5)])
      refine own_step (fun t k => XS.iconst X0.here hx rfl (hb hby at_30) k) ?_
      show own_Go _ _ _ _ _ _ _ s₁ (mkF m 31 #[.val (.long q1), .second, .val (.long q2), .second, .val (.long q3), .second, .val (.long q4), .second, .val (.int p5), .val (.int i1), .val (.int i2), .unset, .unset, .unset, .unset, .unset, .unset, .unset, .unset] [(.int (4 : Int32)), (.int p5)])
      refine own_step (fun t k => XS.iand X0.here hx rfl (hb hby at_31) rfl k) ?_
      have J41 : ∀ s2 : Int64, own_Go p e below s room_1.cells room_1.slots (own_Q0 Z q1 q2 q3 q4 p5 ca cl h0 n0) s₁ (mkF m 41 #[.val (.long q1), .second, .val (.long q2), .second, .val (.long q3), .second, .val (.long q4), .second, .val (.int p5), .val (.int i1), .val (.int i2), .unset, .unset, .unset, .unset, .unset, .unset, .unset, .unset] [(.long s2)]) := by
        intro s2
        show own_Go _ _ _ _ _ _ _ s₁ (mkF m 41 #[.val (.long q1), .second, .val (.long q2), .second, .val (.long q3), .second, .val (.long q4), .second, .val (.int p5), .val (.int i1), .val (.int i2), .unset, .unset, .unset, .unset, .unset, .unset, .unset, .unset] [(.long s2)])
        refine own_step (fun t k => XS.lstore X0.here hx rfl (hb hby at_41) rfl (l' := #[.val (.long q1), .second, .val (.long q2), .second, .val (.long q3), .second, .val (.long q4), .second, .val (.int p5), .val (.int i1), .val (.int i2), .val (.long s2), .second, .unset, .unset, .unset, .unset, .unset, .unset]) rfl k) ?_
        show own_Go _ _ _ _ _ _ _ s₁ (mkF m 43 #[.val (.long q1), .second, .val (.long q2), .second, .val (.long q3), .second, .val (.long q4), .second, .val (.int p5), .val (.int i1), .val (.int i2), .val (.long s2), .second, .unset, .unset, .unset, .unset, .unset, .unset] [])
        refine own_step (fun t k => XS.iload X0.here hx rfl (hb hby at_43) rfl k) ?_
        show own_Go _ _ _ _ _ _ _ s₁ (mkF m 45 #[.val (.long q1), .second, .val (.long q2), .second, .val (.long q3), .second, .val (.long q4), .second, .val (.int p5), .val (.int i1), .val (.int i2), .val (.long s2), .second, .unset, .unset, .unset, .unset, .unset, .unset] [(.int p5)])
        refine own_step (fun t k => XS.bipush X0.here hx rfl (hb hby at_45) k) ?_
        show own_Go _ _ _ _ _ _ _ s₁ (mkF m 47 #[.val (.long q1), .second, .val (.long q2), .second, .val (.long q3), .second, .val (.long q4), .second, .val (.int p5), .val (.int i1), .val (.int i2), .val (.long s2), .second, .unset, .unset, .unset, .unset, .unset, .unset] [(.int (8 : Int32)), (.int p5)])
        refine own_step (fun t k => XS.iand X0.here hx rfl (hb hby at_47) rfl k) ?_
        have J57 : ∀ e2 : Int64, own_Go p e below s room_1.cells room_1.slots (own_Q0 Z q1 q2 q3 q4 p5 ca cl h0 n0) s₁ (mkF m 57 #[.val (.long q1), .second, .val (.long q2), .second, .val (.long q3), .second, .val (.long q4), .second, .val (.int p5), .val (.int i1), .val (.int i2), .val (.long s2), .second, .unset, .unset, .unset, .unset, .unset, .unset] [(.long e2)]) := by
          intro e2
          show own_Go _ _ _ _ _ _ _ s₁ (mkF m 57 #[.val (.long q1), .second, .val (.long q2), .second, .val (.long q3), .second, .val (.long q4), .second, .val (.int p5), .val (.int i1), .val (.int i2), .val (.long s2), .second, .unset, .unset, .unset, .unset, .unset, .unset] [(.long e2)])
          refine own_step (fun t k => XS.lstore X0.here hx rfl (hb hby at_57) rfl (l' := #[.val (.long q1), .second, .val (.long q2), .second, .val (.long q3), .second, .val (.long q4), .second, .val (.int p5), .val (.int i1), .val (.int i2), .val (.long s2), .second, .val (.long e2), .second, .unset, .unset, .unset, .unset]) rfl k) ?_
          show own_Go _ _ _ _ _ _ _ s₁ (mkF m 59 #[.val (.long q1), .second, .val (.long q2), .second, .val (.long q3), .second, .val (.long q4), .second, .val (.int p5), .val (.int i1), .val (.int i2), .val (.long s2), .second, .val (.long e2), .second, .unset, .unset, .unset, .unset] [])
          obtain ⟨T1, h1, X1, e1, E1, A1, D1, -, st1⟩ := newO X0 hx hZ hown (hw _ (List.mem_of_getElem? (i := 0) rfl)) (hw _ (List.mem_of_getElem? (i := 1) rfl)) (hw _ (List.mem_of_getElem? (i := 2) rfl)) e0 (g := (mkF m 59 #[.val (.long q1), .second, .val (.long q2), .second, .val (.long q3), .second, .val (.long q4), .second, .val (.int p5), .val (.int i1), .val (.int i2), .val (.long s2), .second, .val (.long e2), .second, .unset, .unset, .unset, .unset] [])) rfl (hb hby at_59) (by decide) (by decide)
          obtain ⟨b1, g1⟩ : ∃ z, z = h0.size := ⟨_, rfl⟩
          rw [← g1] at A1 D1 st1
          have F1_start : Fld Z h1 b1 "com/example/corvid/corvid/Range" "start" "J" (.long (0 : Int64)) := D1 (Or.inr (hw _ (List.mem_of_getElem? (i := 10) rfl))) (ty := .long) (by decide)
          have F1_end : Fld Z h1 b1 "com/example/corvid/corvid/Range" "end" "J" (.long (0 : Int64)) := D1 (Or.inr (hw _ (List.mem_of_getElem? (i := 12) rfl))) (ty := .long) (by decide)
          have F1_inclusive : Fld Z h1 b1 "com/example/corvid/corvid/Range" "inclusive" "Z" (.int (0 : Int32)) := D1 (Or.inr (hw _ (List.mem_of_getElem? (i := 14) rfl))) (ty := .boolean) (by decide)
          have nb1 : n0 ≤ b1 := by have := Nat.le_of_eq g1.symm; exact Nat.le_trans (Z0) this
          refine own_step st1 ?_
          show own_Go _ _ _ _ _ _ _ T1 (mkF m 62 #[.val (.long q1), .second, .val (.long q2), .second, .val (.long q3), .second, .val (.long q4), .second, .val (.int p5), .val (.int i1), .val (.int i2), .val (.long s2), .second, .val (.long e2), .second, .unset, .unset, .unset, .unset] [(.ref b1)])
          refine own_step (fun t k => XS.dup X1.here hx rfl (hb hby at_62) rfl rfl k) ?_
          show own_Go _ _ _ _ _ _ _ T1 (mkF m 63 #[.val (.long q1), .second, .val (.long q2), .second, .val (.long q3), .second, .val (.long q4), .second, .val (.int p5), .val (.int i1), .val (.int i2), .val (.long s2), .second, .val (.long e2), .second, .unset, .unset, .unset, .unset] [(.ref b1), (.ref b1)])
          refine own_step (fun t k => XS.lloadN X1.here hx rfl (hb hby at_63) rfl k) ?_
          show own_Go _ _ _ _ _ _ _ T1 (mkF m 64 #[.val (.long q1), .second, .val (.long q2), .second, .val (.long q3), .second, .val (.long q4), .second, .val (.int p5), .val (.int i1), .val (.int i2), .val (.long s2), .second, .val (.long e2), .second, .unset, .unset, .unset, .unset] [(.long q1), (.ref b1), (.ref b1)])
          refine own_step (fun t k => XS.lloadN X1.here hx rfl (hb hby at_64) rfl k) ?_
          show own_Go _ _ _ _ _ _ _ T1 (mkF m 65 #[.val (.long q1), .second, .val (.long q2), .second, .val (.long q3), .second, .val (.long q4), .second, .val (.int p5), .val (.int i1), .val (.int i2), .val (.long s2), .second, .val (.long e2), .second, .unset, .unset, .unset, .unset] [(.long q2), (.long q1), (.ref b1), (.ref b1)])
          refine own_step (fun t k => XS.iload X1.here hx rfl (hb hby at_65) rfl k) ?_
          show own_Go _ _ _ _ _ _ _ T1 (mkF m 67 #[.val (.long q1), .second, .val (.long q2), .second, .val (.long q3), .second, .val (.long q4), .second, .val (.int p5), .val (.int i1), .val (.int i2), .val (.long s2), .second, .val (.long e2), .second, .unset, .unset, .unset, .unset] [(.int i1), (.long q2), (.long q1), (.ref b1), (.ref b1)])
          obtain ⟨_, _, ⟨T2, L2, k2, n2⟩, -, X2, ⟨Lc2, hQ2, l2, y2, z2⟩, st2⟩ := X1.specialBack hx (y := (⟨"com/example/corvid/corvid/Range", "<init>", "(JJZ)V"⟩ : MethodName)) rfl hown (mvT hZ (hw _ (List.mem_of_getElem? (i := 3) rfl))) (mvT hZ (hw _ (List.mem_of_getElem? (i := 4) rfl))) (mvT hZ (hw _ (List.mem_of_getElem? (i := 5) rfl))) (by decide) (backOf (W := 1) (own_rm1 l Z a0 hw [] b1 q1 q2 i1 h1 n0 (Nat.le_trans (Z0) E1.1) F1_start F1_end F1_inclusive A1 nb1 hi1) hZ (hw _ (List.mem_of_getElem? (i := 5) rfl)) (hw _ (List.mem_of_getElem? (i := 2) rfl)) (by decide) (by decide)) (g := (mkF m 67 #[.val (.long q1), .second, .val (.long q2), .second, .val (.long q3), .second, .val (.long q4), .second, .val (.int p5), .val (.int i1), .val (.int i2), .val (.long s2), .second, .val (.long e2), .second, .unset, .unset, .unset, .unset] [(.int i1), (.long q2), (.long q1), (.ref b1), (.ref b1)])) rfl (by rw [hml]; rfl) (Steps.refl _) (a := b1) (argsL := [(.long q1), (.long q2), (.int i1)]) (rest := [(.ref b1)]) (lenOf own_pd0_0 rfl) rfl (by show 2 * 0 + _ ≤ _; exact Nat.le_of_eq rfl) (hb hby at_67) (fun _ _ => ⟨rfl, e1, (by decide : 1 + 0 ≤ _), (by decide : 3 + 0 ≤ _)⟩)
          dsimp only [Pt.U, Pt.locs, Pt.cells, Pt.slots] at X2 l2 y2 z2 st2 hQ2
          subst l2 y2 z2
          obtain ⟨rfl, Nq2, K2, E2_b1, F2_b1_start, F2_b1_end, F2_b1_inclusive⟩ := hQ2
          have N2 := Fr.app N0 Nq2
          refine own_step (fun t k => st2.trans k) ?_
          have KA : Keep h0 T2.heap [] := ((Keep.refl h0 []).ext E1).trans K2 (allS (Or.inr (Nat.le_of_eq g1.symm)) all0)
          show own_Go _ _ _ _ _ _ _ T2 (mkF m 70 #[.val (.long q1), .second, .val (.long q2), .second, .val (.long q3), .second, .val (.long q4), .second, .val (.int p5), .val (.int i1), .val (.int i2), .val (.long s2), .second, .val (.long e2), .second, .unset, .unset, .unset, .unset] [(.ref b1)])
          refine own_step (fun t k => XS.astore X2.here hx rfl (hb hby at_70) rfl rfl (l' := #[.val (.long q1), .second, .val (.long q2), .second, .val (.long q3), .second, .val (.long q4), .second, .val (.int p5), .val (.int i1), .val (.int i2), .val (.long s2), .second, .val (.long e2), .second, .val (.ref b1), .unset, .unset, .unset]) rfl k) ?_
          show own_Go _ _ _ _ _ _ _ T2 (mkF m 72 #[.val (.long q1), .second, .val (.long q2), .second, .val (.long q3), .second, .val (.long q4), .second, .val (.int p5), .val (.int i1), .val (.int i2), .val (.long s2), .second, .val (.long e2), .second, .val (.ref b1), .unset, .unset, .unset] [])
          refine own_step (fun t k => XS.iload X2.here hx rfl (hb hby at_72) rfl k) ?_
          show own_Go _ _ _ _ _ _ _ T2 (mkF m 74 #[.val (.long q1), .second, .val (.long q2), .second, .val (.long q3), .second, .val (.long q4), .second, .val (.int p5), .val (.int i1), .val (.int i2), .val (.long s2), .second, .val (.long e2), .second, .val (.ref b1), .unset, .unset, .unset] [(.int p5)])
          refine own_step (fun t k => XS.iconst X2.here hx rfl (hb hby at_74) k) ?_
          show own_Go _ _ _ _ _ _ _ T2 (mkF m 75 #[.val (.long q1), .second, .val (.long q2), .second, .val (.long q3), .second, .val (.long q4), .second, .val (.int p5), .val (.int i1), .val (.int i2), .val (.long s2), .second, .val (.long e2), .second, .val (.ref b1), .unset, .unset, .unset] [(.int (4 : Int32)), (.int p5)])
          refine own_step (fun t k => XS.iushr X2.here hx rfl (hb hby at_75) rfl k) ?_
          show own_Go _ _ _ _ _ _ _ T2 (mkF m 76 #[.val (.long q1), .second, .val (.long q2), .second, .val (.long q3), .second, .val (.long q4), .second, .val (.int p5), .val (.int i1), .val (.int i2), .val (.long s2), .second, .val (.long e2), .second, .val (.ref b1), .unset, .unset, .unset] [(.int ((p5.toUInt32 >>> ((4 : Int32) &&& 31).toUInt32).toInt32))])
          refine own_step (fun t k => XS.iconst X2.here hx rfl (hb hby at_76) k) ?_
          show own_Go _ _ _ _ _ _ _ T2 (mkF m 77 #[.val (.long q1), .second, .val (.long q2), .second, .val (.long q3), .second, .val (.long q4), .second, .val (.int p5), .val (.int i1), .val (.int i2), .val (.long s2), .second, .val (.long e2), .second, .val (.ref b1), .unset, .unset, .unset] [(.int (3 : Int32)), (.int ((p5.toUInt32 >>> ((4 : Int32) &&& 31).toUInt32).toInt32))])
          refine own_step (fun t k => XS.iand X2.here hx rfl (hb hby at_77) rfl k) ?_
          show own_Go _ _ _ _ _ _ _ T2 (mkF m 78 #[.val (.long q1), .second, .val (.long q2), .second, .val (.long q3), .second, .val (.long q4), .second, .val (.int p5), .val (.int i1), .val (.int i2), .val (.long s2), .second, .val (.long e2), .second, .val (.ref b1), .unset, .unset, .unset] [(.int (((p5.toUInt32 >>> ((4 : Int32) &&& 31).toUInt32).toInt32) &&& (3 : Int32)))])
          refine own_step (fun t k => XS.istore X2.here hx rfl (hb hby at_78) rfl (l' := #[.val (.long q1), .second, .val (.long q2), .second, .val (.long q3), .second, .val (.long q4), .second, .val (.int p5), .val (.int i1), .val (.int i2), .val (.long s2), .second, .val (.long e2), .second, .val (.ref b1), .val (.int (((p5.toUInt32 >>> ((4 : Int32) &&& 31).toUInt32).toInt32) &&& (3 : Int32))), .unset, .unset]) rfl k) ?_
          show own_Go _ _ _ _ _ _ _ T2 (mkF m 80 #[.val (.long q1), .second, .val (.long q2), .second, .val (.long q3), .second, .val (.long q4), .second, .val (.int p5), .val (.int i1), .val (.int i2), .val (.long s2), .second, .val (.long e2), .second, .val (.ref b1), .val (.int (((p5.toUInt32 >>> ((4 : Int32) &&& 31).toUInt32).toInt32) &&& (3 : Int32))), .unset, .unset] [])
          refine own_step (fun t k => XS.iload X2.here hx rfl (hb hby at_80) rfl k) ?_
          obtain ⟨kd, hkd⟩ : ∃ z, z = (((p5.toUInt32 >>> ((4 : Int32) &&& 31).toUInt32).toInt32) &&& (3 : Int32)) := ⟨_, rfl⟩
          show own_Go _ _ _ _ _ _ _ T2 (mkF m 82 #[.val (.long q1), .second, .val (.long q2), .second, .val (.long q3), .second, .val (.long q4), .second, .val (.int p5), .val (.int i1), .val (.int i2), .val (.long s2), .second, .val (.long e2), .second, .val (.ref b1), .val (.int (((p5.toUInt32 >>> ((4 : Int32) &&& 31).toUInt32).toInt32) &&& (3 : Int32))), .unset, .unset] [(.int (((p5.toUInt32 >>> ((4 : Int32) &&& 31).toUInt32).toInt32) &&& (3 : Int32)))])
          rw [← hkd]
          rcases Classical.em (kd = (0 : Int32)) with c82_3 | c82_3
          · show own_Go _ _ _ _ _ _ _ T2 (mkF m 82 #[.val (.long q1), .second, .val (.long q2), .second, .val (.long q3), .second, .val (.long q4), .second, .val (.int p5), .val (.int i1), .val (.int i2), .val (.long s2), .second, .val (.long e2), .second, .val (.ref b1), .val (.int kd), .unset, .unset] [(.int kd)])
            refine own_step (fun t k => XS.ifNo X2.here hx rfl (hb hby at_82) rfl ((if0 _ _).trans (teq (c82_3)).2) k) ?_
            show own_Go _ _ _ _ _ _ _ T2 (mkF m 85 #[.val (.long q1), .second, .val (.long q2), .second, .val (.long q3), .second, .val (.long q4), .second, .val (.int p5), .val (.int i1), .val (.int i2), .val (.long s2), .second, .val (.long e2), .second, .val (.ref b1), .val (.int kd), .unset, .unset] [])
            refine own_step (fun t k => XS.aconstNull X2.here hx rfl (hb hby at_85) k) ?_
            show own_Go _ _ _ _ _ _ _ T2 (mkF m 86 #[.val (.long q1), .second, .val (.long q2), .second, .val (.long q3), .second, .val (.long q4), .second, .val (.int p5), .val (.int i1), .val (.int i2), .val (.long s2), .second, .val (.long e2), .second, .val (.ref b1), .val (.int kd), .unset, .unset] [.null])
            refine own_step (fun t k => XS.astore X2.here hx rfl (hb hby at_86) rfl rfl (l' := #[.val (.long q1), .second, .val (.long q2), .second, .val (.long q3), .second, .val (.long q4), .second, .val (.int p5), .val (.int i1), .val (.int i2), .val (.long s2), .second, .val (.long e2), .second, .val (.ref b1), .val (.int kd), .val .null, .unset]) rfl k) ?_
            show own_Go _ _ _ _ _ _ _ T2 (mkF m 88 #[.val (.long q1), .second, .val (.long q2), .second, .val (.long q3), .second, .val (.long q4), .second, .val (.int p5), .val (.int i1), .val (.int i2), .val (.long s2), .second, .val (.long e2), .second, .val (.ref b1), .val (.int kd), .val .null, .unset] [])
            refine own_step (fun t k => XS.iconst X2.here hx rfl (hb hby at_88) k) ?_
            show own_Go _ _ _ _ _ _ _ T2 (mkF m 89 #[.val (.long q1), .second, .val (.long q2), .second, .val (.long q3), .second, .val (.long q4), .second, .val (.int p5), .val (.int i1), .val (.int i2), .val (.long s2), .second, .val (.long e2), .second, .val (.ref b1), .val (.int kd), .val .null, .unset] [(.int (0 : Int32))])
            refine own_step (fun t k => XS.istore X2.here hx rfl (hb hby at_89) rfl (l' := #[.val (.long q1), .second, .val (.long q2), .second, .val (.long q3), .second, .val (.long q4), .second, .val (.int p5), .val (.int i1), .val (.int i2), .val (.long s2), .second, .val (.long e2), .second, .val (.ref b1), .val (.int kd), .val .null, .val (.int (0 : Int32))]) rfl k) ?_
            show own_Go _ _ _ _ _ _ _ T2 (mkF m 91 #[.val (.long q1), .second, .val (.long q2), .second, .val (.long q3), .second, .val (.long q4), .second, .val (.int p5), .val (.int i1), .val (.int i2), .val (.long s2), .second, .val (.long e2), .second, .val (.ref b1), .val (.int kd), .val .null, .val (.int (0 : Int32))] [])
            refine own_step (fun t k => XS.goto X2.here hx rfl (pc0 := 91) (pc' := 155) rfl (hb hby at_91) (by decide) (by decide) k) ?_
            show own_Go _ _ _ _ _ _ _ T2 (mkF m 155 #[.val (.long q1), .second, .val (.long q2), .second, .val (.long q3), .second, .val (.long q4), .second, .val (.int p5), .val (.int i1), .val (.int i2), .val (.long s2), .second, .val (.long e2), .second, .val (.ref b1), .val (.int kd), .val .null, .val (.int (0 : Int32))] [])
            refine own_step (fun t k => XS.aload X2.here hx rfl (hb hby at_155) rfl rfl k) ?_
            show own_Go _ _ _ _ _ _ _ T2 (mkF m 157 #[.val (.long q1), .second, .val (.long q2), .second, .val (.long q3), .second, .val (.long q4), .second, .val (.int p5), .val (.int i1), .val (.int i2), .val (.long s2), .second, .val (.long e2), .second, .val (.ref b1), .val (.int kd), .val .null, .val (.int (0 : Int32))] [(.ref b1)])
            refine own_step (fun t k => XS.aload X2.here hx rfl (hb hby at_157) rfl rfl k) ?_
            show own_Go _ _ _ _ _ _ _ T2 (mkF m 159 #[.val (.long q1), .second, .val (.long q2), .second, .val (.long q3), .second, .val (.long q4), .second, .val (.int p5), .val (.int i1), .val (.int i2), .val (.long s2), .second, .val (.long e2), .second, .val (.ref b1), .val (.int kd), .val .null, .val (.int (0 : Int32))] [.null, (.ref b1)])
            obtain ⟨cq4, kq4, q4a, q4b, q4c⟩ := isOf hZ rfl E2_b1
            obtain ⟨_, _, ⟨T4, L4, k4, n4⟩, -, X4, ⟨Lc4, hQ4, l4, y4, z4⟩, st4⟩ := X2.virtualBack hx (y := (⟨"com/example/corvid/corvid/Range", "equals", "(Ljava/lang/Object;)Z"⟩ : MethodName)) (z := (⟨"com/example/corvid/corvid/Range", "equals", "(Ljava/lang/Object;)Z"⟩ : MethodName)) hown (mvT hZ (hw _ (List.mem_of_getElem? (i := 15) rfl))) (mvT hZ (hw _ (List.mem_of_getElem? (i := 16) rfl))) (notFace_of_selects (args := #[]) (mvT hZ (hw _ (List.mem_of_getElem? (i := 18) rfl)))) (mvT hZ (hw _ (List.mem_of_getElem? (i := 18) rfl))) (mvT hZ (hw _ (List.mem_of_getElem? (i := 17) rfl))) (by decide) (backOf (W := 0) (own_rmeN l Z a0 hw [] b1 T2.heap n0 (Nat.le_trans (Nat.le_trans (Z0) E1.1) K2.1)) hZ (hw _ (List.mem_of_getElem? (i := 19) rfl)) (hw _ (List.mem_of_getElem? (i := 2) rfl)) (by decide) (by decide)) q4a q4c (g := (mkF m 159 #[.val (.long q1), .second, .val (.long q2), .second, .val (.long q3), .second, .val (.long q4), .second, .val (.int p5), .val (.int i1), .val (.int i2), .val (.long s2), .second, .val (.long e2), .second, .val (.ref b1), .val (.int kd), .val .null, .val (.int (0 : Int32))] [.null, (.ref b1)])) rfl (by rw [hml]; rfl) (Steps.refl _) (argsL := [.null]) (rest := []) (lenOf own_pd0_1 rfl) rfl (by show 2 * 0 + _ ≤ _; exact Nat.le_of_eq rfl) (hb hby at_159) (fun _ _ => ⟨rfl, rfl, (by decide : 1 + 0 ≤ _), (by decide : 3 + 0 ≤ _)⟩)
            dsimp only [Pt.U, Pt.locs, Pt.cells, Pt.slots] at X4 l4 y4 z4 st4 hQ4
            subst l4 y4 z4
            obtain ⟨rfl, Nq4, e4⟩ := hQ4
            have N4 := Fr.app N2 Nq4
            refine own_step (fun t k => st4.trans k) ?_
            show own_Go _ _ _ _ _ _ _ T4 (mkF m 162 #[.val (.long q1), .second, .val (.long q2), .second, .val (.long q3), .second, .val (.long q4), .second, .val (.int p5), .val (.int i1), .val (.int i2), .val (.long s2), .second, .val (.long e2), .second, .val (.ref b1), .val (.int kd), .val .null, .val (.int (0 : Int32))] [(.int (0 : Int32))])
            refine own_step (fun t k => XS.iload X4.here hx rfl (hb hby at_162) rfl k) ?_
            show own_Go _ _ _ _ _ _ _ T4 (mkF m 164 #[.val (.long q1), .second, .val (.long q2), .second, .val (.long q3), .second, .val (.long q4), .second, .val (.int p5), .val (.int i1), .val (.int i2), .val (.long s2), .second, .val (.long e2), .second, .val (.ref b1), .val (.int kd), .val .null, .val (.int (0 : Int32))] [(.int (0 : Int32)), (.int (0 : Int32))])
            refine own_step (fun t k => XS.icmpNo X4.here hx rfl (hb hby at_164) rfl (teq (rfl)).2 k) ?_
            show own_Go _ _ _ _ _ _ _ T4 (mkF m 167 #[.val (.long q1), .second, .val (.long q2), .second, .val (.long q3), .second, .val (.long q4), .second, .val (.int p5), .val (.int i1), .val (.int i2), .val (.long s2), .second, .val (.long e2), .second, .val (.ref b1), .val (.int kd), .val .null, .val (.int (0 : Int32))] [])
            refine own_step (fun t k => XS.iconst X4.here hx rfl (hb hby at_167) k) ?_
            show own_Go _ _ _ _ _ _ _ T4 (mkF m 168 #[.val (.long q1), .second, .val (.long q2), .second, .val (.long q3), .second, .val (.long q4), .second, .val (.int p5), .val (.int i1), .val (.int i2), .val (.long s2), .second, .val (.long e2), .second, .val (.ref b1), .val (.int kd), .val .null, .val (.int (0 : Int32))] [(.int (1 : Int32))])
            refine own_step (fun t k => XS.goto X4.here hx rfl (pc0 := 168) (pc' := 172) rfl (hb hby at_168) (by decide) (by decide) k) ?_
            show own_Go _ _ _ _ _ _ _ T4 (mkF m 172 #[.val (.long q1), .second, .val (.long q2), .second, .val (.long q3), .second, .val (.long q4), .second, .val (.int p5), .val (.int i1), .val (.int i2), .val (.long s2), .second, .val (.long e2), .second, .val (.ref b1), .val (.int kd), .val .null, .val (.int (0 : Int32))] [(.int (1 : Int32))])
            refine own_ret X4 hx hlk Bd.returns rfl (Or.inl ⟨rfl, Or.inr (Or.inl rfl), _, rfl⟩) (hb hby at_172) (by decide) (by decide) ?_
            show own_Q0 Z q1 q2 q3 q4 p5 ca cl h0 n0 (some (.int (1 : Int32))) T4.heap _
            exact ⟨rfl, N4⟩
          · show own_Go _ _ _ _ _ _ _ T2 (mkF m 82 #[.val (.long q1), .second, .val (.long q2), .second, .val (.long q3), .second, .val (.long q4), .second, .val (.int p5), .val (.int i1), .val (.int i2), .val (.long s2), .second, .val (.long e2), .second, .val (.ref b1), .val (.int kd), .unset, .unset] [(.int kd)])
            refine own_step (fun t k => XS.ifYes X2.here hx rfl (pc0 := 82) (pc' := 94) rfl (hb hby at_82) rfl ((if0 _ _).trans (feq (c82_3)).2) (by decide) (by decide) k) ?_
            show own_Go _ _ _ _ _ _ _ T2 (mkF m 94 #[.val (.long q1), .second, .val (.long q2), .second, .val (.long q3), .second, .val (.long q4), .second, .val (.int p5), .val (.int i1), .val (.int i2), .val (.long s2), .second, .val (.long e2), .second, .val (.ref b1), .val (.int kd), .unset, .unset] [])
            refine own_step (fun t k => XS.iload X2.here hx rfl (hb hby at_94) rfl k) ?_
            show own_Go _ _ _ _ _ _ _ T2 (mkF m 96 #[.val (.long q1), .second, .val (.long q2), .second, .val (.long q3), .second, .val (.long q4), .second, .val (.int p5), .val (.int i1), .val (.int i2), .val (.long s2), .second, .val (.long e2), .second, .val (.ref b1), .val (.int kd), .unset, .unset] [(.int kd)])
            refine own_step (fun t k => XS.iconst X2.here hx rfl (hb hby at_96) k) ?_
            rcases Classical.em (kd = (1 : Int32)) with c97_5 | c97_5
            · show own_Go _ _ _ _ _ _ _ T2 (mkF m 97 #[.val (.long q1), .second, .val (.long q2), .second, .val (.long q3), .second, .val (.long q4), .second, .val (.int p5), .val (.int i1), .val (.int i2), .val (.long s2), .second, .val (.long e2), .second, .val (.ref b1), .val (.int kd), .unset, .unset] [(.int (1 : Int32)), (.int kd)])
              refine own_step (fun t k => XS.icmpNo X2.here hx rfl (hb hby at_97) rfl (teq (c97_5)).2 k) ?_
              show own_Go _ _ _ _ _ _ _ T2 (mkF m 100 #[.val (.long q1), .second, .val (.long q2), .second, .val (.long q3), .second, .val (.long q4), .second, .val (.int p5), .val (.int i1), .val (.int i2), .val (.long s2), .second, .val (.long e2), .second, .val (.ref b1), .val (.int kd), .unset, .unset] [])
              refine own_step (fun t k => XS.lloadN X2.here hx rfl (hb hby at_100) rfl k) ?_
              show own_Go _ _ _ _ _ _ _ T2 (mkF m 101 #[.val (.long q1), .second, .val (.long q2), .second, .val (.long q3), .second, .val (.long q4), .second, .val (.int p5), .val (.int i1), .val (.int i2), .val (.long s2), .second, .val (.long e2), .second, .val (.ref b1), .val (.int kd), .unset, .unset] [(.long q1)])
              obtain ⟨_, _, ⟨T6, L6, k6, n6⟩, -, X6, ⟨Lc6, hQ6, l6, y6, z6⟩, st6⟩ := Jvm.LawKit.callS X2 hx (y := (⟨"java/lang/Long", "valueOf", "(J)Ljava/lang/Long;"⟩ : MethodName)) hown (mvT hZ (hw _ (List.mem_of_getElem? (i := 22) rfl))) (mvT hZ (hw _ (List.mem_of_getElem? (i := 23) rfl))) (mvT hZ (hw _ (List.mem_of_getElem? (i := 24) rfl))) (mvT hZ (hw _ (List.mem_of_getElem? (i := 25) rfl))) (by decide) (backOf (W := 0) (own_rm4 l Z a0 hw [] q1 ca cl T2.heap n0 (Nat.le_trans (Nat.le_trans (Z0) E1.1) K2.1) (own_sta_keep SC KA) (own_cache_keep HC KA)) hZ (hw _ (List.mem_of_getElem? (i := 25) rfl)) (hw _ (List.mem_of_getElem? (i := 24) rfl)) (by decide) (by decide)) (g := (mkF m 101 #[.val (.long q1), .second, .val (.long q2), .second, .val (.long q3), .second, .val (.long q4), .second, .val (.int p5), .val (.int i1), .val (.int i2), .val (.long s2), .second, .val (.long e2), .second, .val (.ref b1), .val (.int kd), .unset, .unset] [(.long q1)])) rfl (by rw [hml]; rfl) (argsL := [(.long q1)]) (rest := []) (lenOf own_pd0_2 rfl) rfl (by show 2 * 0 + _ ≤ _; exact Nat.le_of_eq rfl) (hb hby at_101) (fun _ _ => ⟨rfl, rfl, (by decide : 1 + 1 ≤ _), (by decide : 3 + 1 ≤ _)⟩)
              dsimp only [Pt.U, Pt.locs, Pt.cells, Pt.slots] at X6 l6 y6 z6 st6 hQ6
              subst l6 y6 z6
              obtain ⟨y6, rfl, Nq6, K6, EL6⟩ := hQ6
              have N6 := Fr.app N2 Nq6
              refine own_step (fun t k => st6 t k) ?_
              have Er6 := E2_b1.keep K6
              show own_Go _ _ _ _ _ _ _ T6 (mkF m 104 #[.val (.long q1), .second, .val (.long q2), .second, .val (.long q3), .second, .val (.long q4), .second, .val (.int p5), .val (.int i1), .val (.int i2), .val (.long s2), .second, .val (.long e2), .second, .val (.ref b1), .val (.int kd), .unset, .unset] [(.ref y6)])
              refine own_step (fun t k => XS.astore X6.here hx rfl (hb hby at_104) rfl rfl (l' := #[.val (.long q1), .second, .val (.long q2), .second, .val (.long q3), .second, .val (.long q4), .second, .val (.int p5), .val (.int i1), .val (.int i2), .val (.long s2), .second, .val (.long e2), .second, .val (.ref b1), .val (.int kd), .val (.ref y6), .unset]) rfl k) ?_
              show own_Go _ _ _ _ _ _ _ T6 (mkF m 106 #[.val (.long q1), .second, .val (.long q2), .second, .val (.long q3), .second, .val (.long q4), .second, .val (.int p5), .val (.int i1), .val (.int i2), .val (.long s2), .second, .val (.long e2), .second, .val (.ref b1), .val (.int kd), .val (.ref y6), .unset] [])
              refine own_step (fun t k => XS.iconst X6.here hx rfl (hb hby at_106) k) ?_
              show own_Go _ _ _ _ _ _ _ T6 (mkF m 107 #[.val (.long q1), .second, .val (.long q2), .second, .val (.long q3), .second, .val (.long q4), .second, .val (.int p5), .val (.int i1), .val (.int i2), .val (.long s2), .second, .val (.long e2), .second, .val (.ref b1), .val (.int kd), .val (.ref y6), .unset] [(.int (0 : Int32))])
              refine own_step (fun t k => XS.istore X6.here hx rfl (hb hby at_107) rfl (l' := #[.val (.long q1), .second, .val (.long q2), .second, .val (.long q3), .second, .val (.long q4), .second, .val (.int p5), .val (.int i1), .val (.int i2), .val (.long s2), .second, .val (.long e2), .second, .val (.ref b1), .val (.int kd), .val (.ref y6), .val (.int (0 : Int32))]) rfl k) ?_
              show own_Go _ _ _ _ _ _ _ T6 (mkF m 109 #[.val (.long q1), .second, .val (.long q2), .second, .val (.long q3), .second, .val (.long q4), .second, .val (.int p5), .val (.int i1), .val (.int i2), .val (.long s2), .second, .val (.long e2), .second, .val (.ref b1), .val (.int kd), .val (.ref y6), .val (.int (0 : Int32))] [])
              refine own_step (fun t k => XS.goto X6.here hx rfl (pc0 := 109) (pc' := 155) rfl (hb hby at_109) (by decide) (by decide) k) ?_
              show own_Go _ _ _ _ _ _ _ T6 (mkF m 155 #[.val (.long q1), .second, .val (.long q2), .second, .val (.long q3), .second, .val (.long q4), .second, .val (.int p5), .val (.int i1), .val (.int i2), .val (.long s2), .second, .val (.long e2), .second, .val (.ref b1), .val (.int kd), .val (.ref y6), .val (.int (0 : Int32))] [])
              refine own_step (fun t k => XS.aload X6.here hx rfl (hb hby at_155) rfl rfl k) ?_
              show own_Go _ _ _ _ _ _ _ T6 (mkF m 157 #[.val (.long q1), .second, .val (.long q2), .second, .val (.long q3), .second, .val (.long q4), .second, .val (.int p5), .val (.int i1), .val (.int i2), .val (.long s2), .second, .val (.long e2), .second, .val (.ref b1), .val (.int kd), .val (.ref y6), .val (.int (0 : Int32))] [(.ref b1)])
              refine own_step (fun t k => XS.aload X6.here hx rfl (hb hby at_157) rfl rfl k) ?_
              show own_Go _ _ _ _ _ _ _ T6 (mkF m 159 #[.val (.long q1), .second, .val (.long q2), .second, .val (.long q3), .second, .val (.long q4), .second, .val (.int p5), .val (.int i1), .val (.int i2), .val (.long s2), .second, .val (.long e2), .second, .val (.ref b1), .val (.int kd), .val (.ref y6), .val (.int (0 : Int32))] [(.ref y6), (.ref b1)])
              obtain ⟨cq7, kq7, q7a, q7b, q7c⟩ := isOf hZ rfl Er6
              obtain ⟨_, _, ⟨T7, L7, k7, n7⟩, -, X7, ⟨Lc7, hQ7, l7, y7, z7⟩, st7⟩ := X6.virtualBack hx (y := (⟨"com/example/corvid/corvid/Range", "equals", "(Ljava/lang/Object;)Z"⟩ : MethodName)) (z := (⟨"com/example/corvid/corvid/Range", "equals", "(Ljava/lang/Object;)Z"⟩ : MethodName)) hown (mvT hZ (hw _ (List.mem_of_getElem? (i := 15) rfl))) (mvT hZ (hw _ (List.mem_of_getElem? (i := 16) rfl))) (notFace_of_selects (args := #[]) (mvT hZ (hw _ (List.mem_of_getElem? (i := 18) rfl)))) (mvT hZ (hw _ (List.mem_of_getElem? (i := 18) rfl))) (mvT hZ (hw _ (List.mem_of_getElem? (i := 17) rfl))) (by decide) (backOf (W := 0) (own_rmeL l Z a0 hw [] b1 y6 T6.heap n0 (Nat.le_trans (Nat.le_trans (Nat.le_trans (Z0) E1.1) K2.1) K6.1) EL6) hZ (hw _ (List.mem_of_getElem? (i := 19) rfl)) (hw _ (List.mem_of_getElem? (i := 2) rfl)) (by decide) (by decide)) q7a q7c (g := (mkF m 159 #[.val (.long q1), .second, .val (.long q2), .second, .val (.long q3), .second, .val (.long q4), .second, .val (.int p5), .val (.int i1), .val (.int i2), .val (.long s2), .second, .val (.long e2), .second, .val (.ref b1), .val (.int kd), .val (.ref y6), .val (.int (0 : Int32))] [(.ref y6), (.ref b1)])) rfl (by rw [hml]; rfl) (Steps.refl _) (argsL := [(.ref y6)]) (rest := []) (lenOf own_pd0_1 rfl) rfl (by show 2 * 0 + _ ≤ _; exact Nat.le_of_eq rfl) (hb hby at_159) (fun _ _ => ⟨rfl, rfl, (by decide : 2 + 0 ≤ _), (by decide : 4 + 0 ≤ _)⟩)
              dsimp only [Pt.U, Pt.locs, Pt.cells, Pt.slots] at X7 l7 y7 z7 st7 hQ7
              subst l7 y7 z7
              obtain ⟨rfl, Nq7, e7⟩ := hQ7
              have N7 := Fr.app N6 Nq7
              refine own_step (fun t k => st7.trans k) ?_
              show own_Go _ _ _ _ _ _ _ T7 (mkF m 162 #[.val (.long q1), .second, .val (.long q2), .second, .val (.long q3), .second, .val (.long q4), .second, .val (.int p5), .val (.int i1), .val (.int i2), .val (.long s2), .second, .val (.long e2), .second, .val (.ref b1), .val (.int kd), .val (.ref y6), .val (.int (0 : Int32))] [(.int (0 : Int32))])
              refine own_step (fun t k => XS.iload X7.here hx rfl (hb hby at_162) rfl k) ?_
              show own_Go _ _ _ _ _ _ _ T7 (mkF m 164 #[.val (.long q1), .second, .val (.long q2), .second, .val (.long q3), .second, .val (.long q4), .second, .val (.int p5), .val (.int i1), .val (.int i2), .val (.long s2), .second, .val (.long e2), .second, .val (.ref b1), .val (.int kd), .val (.ref y6), .val (.int (0 : Int32))] [(.int (0 : Int32)), (.int (0 : Int32))])
              refine own_step (fun t k => XS.icmpNo X7.here hx rfl (hb hby at_164) rfl (teq (rfl)).2 k) ?_
              show own_Go _ _ _ _ _ _ _ T7 (mkF m 167 #[.val (.long q1), .second, .val (.long q2), .second, .val (.long q3), .second, .val (.long q4), .second, .val (.int p5), .val (.int i1), .val (.int i2), .val (.long s2), .second, .val (.long e2), .second, .val (.ref b1), .val (.int kd), .val (.ref y6), .val (.int (0 : Int32))] [])
              refine own_step (fun t k => XS.iconst X7.here hx rfl (hb hby at_167) k) ?_
              show own_Go _ _ _ _ _ _ _ T7 (mkF m 168 #[.val (.long q1), .second, .val (.long q2), .second, .val (.long q3), .second, .val (.long q4), .second, .val (.int p5), .val (.int i1), .val (.int i2), .val (.long s2), .second, .val (.long e2), .second, .val (.ref b1), .val (.int kd), .val (.ref y6), .val (.int (0 : Int32))] [(.int (1 : Int32))])
              refine own_step (fun t k => XS.goto X7.here hx rfl (pc0 := 168) (pc' := 172) rfl (hb hby at_168) (by decide) (by decide) k) ?_
              show own_Go _ _ _ _ _ _ _ T7 (mkF m 172 #[.val (.long q1), .second, .val (.long q2), .second, .val (.long q3), .second, .val (.long q4), .second, .val (.int p5), .val (.int i1), .val (.int i2), .val (.long s2), .second, .val (.long e2), .second, .val (.ref b1), .val (.int kd), .val (.ref y6), .val (.int (0 : Int32))] [(.int (1 : Int32))])
              refine own_ret X7 hx hlk Bd.returns rfl (Or.inl ⟨rfl, Or.inr (Or.inl rfl), _, rfl⟩) (hb hby at_172) (by decide) (by decide) ?_
              show own_Q0 Z q1 q2 q3 q4 p5 ca cl h0 n0 (some (.int (1 : Int32))) T7.heap _
              exact ⟨rfl, N7⟩
            · show own_Go _ _ _ _ _ _ _ T2 (mkF m 97 #[.val (.long q1), .second, .val (.long q2), .second, .val (.long q3), .second, .val (.long q4), .second, .val (.int p5), .val (.int i1), .val (.int i2), .val (.long s2), .second, .val (.long e2), .second, .val (.ref b1), .val (.int kd), .unset, .unset] [(.int (1 : Int32)), (.int kd)])
              refine own_step (fun t k => XS.icmpYes X2.here hx rfl (pc0 := 97) (pc' := 112) rfl (hb hby at_97) rfl (feq (c97_5)).2 (by decide) (by decide) k) ?_
              show own_Go _ _ _ _ _ _ _ T2 (mkF m 112 #[.val (.long q1), .second, .val (.long q2), .second, .val (.long q3), .second, .val (.long q4), .second, .val (.int p5), .val (.int i1), .val (.int i2), .val (.long s2), .second, .val (.long e2), .second, .val (.ref b1), .val (.int kd), .unset, .unset] [])
              obtain ⟨T8, h8, X8, e8, E8, A8, D8, -, st8⟩ := newO X2 hx hZ hown (hw _ (List.mem_of_getElem? (i := 0) rfl)) (hw _ (List.mem_of_getElem? (i := 1) rfl)) (hw _ (List.mem_of_getElem? (i := 2) rfl)) rfl (g := (mkF m 112 #[.val (.long q1), .second, .val (.long q2), .second, .val (.long q3), .second, .val (.long q4), .second, .val (.int p5), .val (.int i1), .val (.int i2), .val (.long s2), .second, .val (.long e2), .second, .val (.ref b1), .val (.int kd), .unset, .unset] [])) rfl (hb hby at_112) (by decide) (by decide)
              obtain ⟨b8, g8⟩ : ∃ z, z = T2.heap.size := ⟨_, rfl⟩
              rw [← g8] at A8 D8 st8
              have F8_start : Fld Z h8 b8 "com/example/corvid/corvid/Range" "start" "J" (.long (0 : Int64)) := D8 (Or.inr (hw _ (List.mem_of_getElem? (i := 10) rfl))) (ty := .long) (by decide)
              have F8_end : Fld Z h8 b8 "com/example/corvid/corvid/Range" "end" "J" (.long (0 : Int64)) := D8 (Or.inr (hw _ (List.mem_of_getElem? (i := 12) rfl))) (ty := .long) (by decide)
              have F8_inclusive : Fld Z h8 b8 "com/example/corvid/corvid/Range" "inclusive" "Z" (.int (0 : Int32)) := D8 (Or.inr (hw _ (List.mem_of_getElem? (i := 14) rfl))) (ty := .boolean) (by decide)
              have nb8 : n0 ≤ b8 := by have := Nat.le_of_eq g8.symm; exact Nat.le_trans ((Nat.le_trans (Nat.le_trans (Z0) E1.1) K2.1)) this
              refine own_step st8 ?_
              show own_Go _ _ _ _ _ _ _ T8 (mkF m 115 #[.val (.long q1), .second, .val (.long q2), .second, .val (.long q3), .second, .val (.long q4), .second, .val (.int p5), .val (.int i1), .val (.int i2), .val (.long s2), .second, .val (.long e2), .second, .val (.ref b1), .val (.int kd), .unset, .unset] [(.ref b8)])
              refine own_step (fun t k => XS.dup X8.here hx rfl (hb hby at_115) rfl rfl k) ?_
              show own_Go _ _ _ _ _ _ _ T8 (mkF m 116 #[.val (.long q1), .second, .val (.long q2), .second, .val (.long q3), .second, .val (.long q4), .second, .val (.int p5), .val (.int i1), .val (.int i2), .val (.long s2), .second, .val (.long e2), .second, .val (.ref b1), .val (.int kd), .unset, .unset] [(.ref b8), (.ref b8)])
              refine own_step (fun t k => XS.lload X8.here hx rfl (hb hby at_116) rfl k) ?_
              show own_Go _ _ _ _ _ _ _ T8 (mkF m 118 #[.val (.long q1), .second, .val (.long q2), .second, .val (.long q3), .second, .val (.long q4), .second, .val (.int p5), .val (.int i1), .val (.int i2), .val (.long s2), .second, .val (.long e2), .second, .val (.ref b1), .val (.int kd), .unset, .unset] [(.long s2), (.ref b8), (.ref b8)])
              refine own_step (fun t k => XS.lload X8.here hx rfl (hb hby at_118) rfl k) ?_
              show own_Go _ _ _ _ _ _ _ T8 (mkF m 120 #[.val (.long q1), .second, .val (.long q2), .second, .val (.long q3), .second, .val (.long q4), .second, .val (.int p5), .val (.int i1), .val (.int i2), .val (.long s2), .second, .val (.long e2), .second, .val (.ref b1), .val (.int kd), .unset, .unset] [(.long e2), (.long s2), (.ref b8), (.ref b8)])
              refine own_step (fun t k => XS.iload X8.here hx rfl (hb hby at_120) rfl k) ?_
              show own_Go _ _ _ _ _ _ _ T8 (mkF m 122 #[.val (.long q1), .second, .val (.long q2), .second, .val (.long q3), .second, .val (.long q4), .second, .val (.int p5), .val (.int i1), .val (.int i2), .val (.long s2), .second, .val (.long e2), .second, .val (.ref b1), .val (.int kd), .unset, .unset] [(.int i2), (.long e2), (.long s2), (.ref b8), (.ref b8)])
              obtain ⟨_, _, ⟨T9, L9, k9, n9⟩, -, X9, ⟨Lc9, hQ9, l9, y9, z9⟩, st9⟩ := X8.specialBack hx (y := (⟨"com/example/corvid/corvid/Range", "<init>", "(JJZ)V"⟩ : MethodName)) rfl hown (mvT hZ (hw _ (List.mem_of_getElem? (i := 3) rfl))) (mvT hZ (hw _ (List.mem_of_getElem? (i := 4) rfl))) (mvT hZ (hw _ (List.mem_of_getElem? (i := 5) rfl))) (by decide) (backOf (W := 1) (own_rm1 l Z a0 hw [] b8 s2 e2 i2 h8 n0 (Nat.le_trans ((Nat.le_trans (Nat.le_trans (Z0) E1.1) K2.1)) E8.1) F8_start F8_end F8_inclusive A8 nb8 hi2) hZ (hw _ (List.mem_of_getElem? (i := 5) rfl)) (hw _ (List.mem_of_getElem? (i := 2) rfl)) (by decide) (by decide)) (g := (mkF m 122 #[.val (.long q1), .second, .val (.long q2), .second, .val (.long q3), .second, .val (.long q4), .second, .val (.int p5), .val (.int i1), .val (.int i2), .val (.long s2), .second, .val (.long e2), .second, .val (.ref b1), .val (.int kd), .unset, .unset] [(.int i2), (.long e2), (.long s2), (.ref b8), (.ref b8)])) rfl (by rw [hml]; rfl) (Steps.refl _) (a := b8) (argsL := [(.long s2), (.long e2), (.int i2)]) (rest := [(.ref b8)]) (lenOf own_pd0_0 rfl) rfl (by show 2 * 0 + _ ≤ _; exact Nat.le_of_eq rfl) (hb hby at_122) (fun _ _ => ⟨rfl, e8, (by decide : 2 + 0 ≤ _), (by decide : 6 + 0 ≤ _)⟩)
              dsimp only [Pt.U, Pt.locs, Pt.cells, Pt.slots] at X9 l9 y9 z9 st9 hQ9
              subst l9 y9 z9
              obtain ⟨rfl, Nq9, K9, E9_b8, F9_b8_start, F9_b8_end, F9_b8_inclusive⟩ := hQ9
              have N9 := Fr.app N2 Nq9
              refine own_step (fun t k => st9.trans k) ?_
              have ne2 : b1 ≠ b8 := Nat.ne_of_lt (by rw [g8]; exact E2_b1.lt)
              have H_start := (F2_b1_start.ext E8).keep K9 (ninS ne2 nin0)
              have H_end := (F2_b1_end.ext E8).keep K9 (ninS ne2 nin0)
              have H_inclusive := (F2_b1_inclusive.ext E8).keep K9 (ninS ne2 nin0)
              have H_E := (E2_b1.ext E8).keep K9
              show own_Go _ _ _ _ _ _ _ T9 (mkF m 125 #[.val (.long q1), .second, .val (.long q2), .second, .val (.long q3), .second, .val (.long q4), .second, .val (.int p5), .val (.int i1), .val (.int i2), .val (.long s2), .second, .val (.long e2), .second, .val (.ref b1), .val (.int kd), .unset, .unset] [(.ref b8)])
              refine own_step (fun t k => XS.astore X9.here hx rfl (hb hby at_125) rfl rfl (l' := #[.val (.long q1), .second, .val (.long q2), .second, .val (.long q3), .second, .val (.long q4), .second, .val (.int p5), .val (.int i1), .val (.int i2), .val (.long s2), .second, .val (.long e2), .second, .val (.ref b1), .val (.int kd), .val (.ref b8), .unset]) rfl k) ?_
              show own_Go _ _ _ _ _ _ _ T9 (mkF m 127 #[.val (.long q1), .second, .val (.long q2), .second, .val (.long q3), .second, .val (.long q4), .second, .val (.int p5), .val (.int i1), .val (.int i2), .val (.long s2), .second, .val (.long e2), .second, .val (.ref b1), .val (.int kd), .val (.ref b8), .unset] [])
              refine own_step (fun t k => XS.lloadN X9.here hx rfl (hb hby at_127) rfl k) ?_
              show own_Go _ _ _ _ _ _ _ T9 (mkF m 128 #[.val (.long q1), .second, .val (.long q2), .second, .val (.long q3), .second, .val (.long q4), .second, .val (.int p5), .val (.int i1), .val (.int i2), .val (.long s2), .second, .val (.long e2), .second, .val (.ref b1), .val (.int kd), .val (.ref b8), .unset] [(.long q1)])
              refine own_step (fun t k => XS.lload X9.here hx rfl (hb hby at_128) rfl k) ?_
              show own_Go _ _ _ _ _ _ _ T9 (mkF m 130 #[.val (.long q1), .second, .val (.long q2), .second, .val (.long q3), .second, .val (.long q4), .second, .val (.int p5), .val (.int i1), .val (.int i2), .val (.long s2), .second, .val (.long e2), .second, .val (.ref b1), .val (.int kd), .val (.ref b8), .unset] [(.long s2), (.long q1)])
              refine own_step (fun t k => XS.lcmp X9.here hx rfl (hb hby at_130) rfl k) ?_
              have J153 : ∀ x18 : Int32, x18 = own_eqv q1 q2 i1 s2 e2 i2 → own_Go p e below s room_1.cells room_1.slots (own_Q0 Z q1 q2 q3 q4 p5 ca cl h0 n0) T9 (mkF m 153 #[.val (.long q1), .second, .val (.long q2), .second, .val (.long q3), .second, .val (.long q4), .second, .val (.int p5), .val (.int i1), .val (.int i2), .val (.long s2), .second, .val (.long e2), .second, .val (.ref b1), .val (.int kd), .val (.ref b8), .unset] [(.int x18)]) := by
                intro x18 hx18
                show own_Go _ _ _ _ _ _ _ T9 (mkF m 153 #[.val (.long q1), .second, .val (.long q2), .second, .val (.long q3), .second, .val (.long q4), .second, .val (.int p5), .val (.int i1), .val (.int i2), .val (.long s2), .second, .val (.long e2), .second, .val (.ref b1), .val (.int kd), .val (.ref b8), .unset] [(.int x18)])
                refine own_step (fun t k => XS.istore X9.here hx rfl (hb hby at_153) rfl (l' := #[.val (.long q1), .second, .val (.long q2), .second, .val (.long q3), .second, .val (.long q4), .second, .val (.int p5), .val (.int i1), .val (.int i2), .val (.long s2), .second, .val (.long e2), .second, .val (.ref b1), .val (.int kd), .val (.ref b8), .val (.int x18)]) rfl k) ?_
                show own_Go _ _ _ _ _ _ _ T9 (mkF m 155 #[.val (.long q1), .second, .val (.long q2), .second, .val (.long q3), .second, .val (.long q4), .second, .val (.int p5), .val (.int i1), .val (.int i2), .val (.long s2), .second, .val (.long e2), .second, .val (.ref b1), .val (.int kd), .val (.ref b8), .val (.int x18)] [])
                refine own_step (fun t k => XS.aload X9.here hx rfl (hb hby at_155) rfl rfl k) ?_
                show own_Go _ _ _ _ _ _ _ T9 (mkF m 157 #[.val (.long q1), .second, .val (.long q2), .second, .val (.long q3), .second, .val (.long q4), .second, .val (.int p5), .val (.int i1), .val (.int i2), .val (.long s2), .second, .val (.long e2), .second, .val (.ref b1), .val (.int kd), .val (.ref b8), .val (.int x18)] [(.ref b1)])
                refine own_step (fun t k => XS.aload X9.here hx rfl (hb hby at_157) rfl rfl k) ?_
                show own_Go _ _ _ _ _ _ _ T9 (mkF m 159 #[.val (.long q1), .second, .val (.long q2), .second, .val (.long q3), .second, .val (.long q4), .second, .val (.int p5), .val (.int i1), .val (.int i2), .val (.long s2), .second, .val (.long e2), .second, .val (.ref b1), .val (.int kd), .val (.ref b8), .val (.int x18)] [(.ref b8), (.ref b1)])
                obtain ⟨cq10, kq10, q10a, q10b, q10c⟩ := isOf hZ rfl H_E
                obtain ⟨_, _, ⟨T10, L10, k10, n10⟩, -, X10, ⟨Lc10, hQ10, l10, y10, z10⟩, st10⟩ := X9.virtualBack hx (y := (⟨"com/example/corvid/corvid/Range", "equals", "(Ljava/lang/Object;)Z"⟩ : MethodName)) (z := (⟨"com/example/corvid/corvid/Range", "equals", "(Ljava/lang/Object;)Z"⟩ : MethodName)) hown (mvT hZ (hw _ (List.mem_of_getElem? (i := 15) rfl))) (mvT hZ (hw _ (List.mem_of_getElem? (i := 16) rfl))) (notFace_of_selects (args := #[]) (mvT hZ (hw _ (List.mem_of_getElem? (i := 18) rfl)))) (mvT hZ (hw _ (List.mem_of_getElem? (i := 18) rfl))) (mvT hZ (hw _ (List.mem_of_getElem? (i := 17) rfl))) (by decide) (backOf (W := 0) (own_rmeR l Z a0 hw [] b1 b8 q1 q2 i1 s2 e2 i2 T9.heap n0 (Nat.le_trans (Nat.le_trans ((Nat.le_trans (Nat.le_trans (Z0) E1.1) K2.1)) E8.1) K9.1) H_start H_end H_inclusive F9_b8_start F9_b8_end F9_b8_inclusive E9_b8) hZ (hw _ (List.mem_of_getElem? (i := 19) rfl)) (hw _ (List.mem_of_getElem? (i := 2) rfl)) (by decide) (by decide)) q10a q10c (g := (mkF m 159 #[.val (.long q1), .second, .val (.long q2), .second, .val (.long q3), .second, .val (.long q4), .second, .val (.int p5), .val (.int i1), .val (.int i2), .val (.long s2), .second, .val (.long e2), .second, .val (.ref b1), .val (.int kd), .val (.ref b8), .val (.int x18)] [(.ref b8), (.ref b1)])) rfl (by rw [hml]; rfl) (Steps.refl _) (argsL := [(.ref b8)]) (rest := []) (lenOf own_pd0_1 rfl) rfl (by show 2 * 0 + _ ≤ _; exact Nat.le_of_eq rfl) (hb hby at_159) (fun _ _ => ⟨rfl, rfl, (by decide : 2 + 0 ≤ _), (by decide : 6 + 0 ≤ _)⟩)
                dsimp only [Pt.U, Pt.locs, Pt.cells, Pt.slots] at X10 l10 y10 z10 st10 hQ10
                subst l10 y10 z10
                obtain ⟨rfl, Nq10, e10⟩ := hQ10
                have N10 := Fr.app N9 Nq10
                refine own_step (fun t k => st10.trans k) ?_
                show own_Go _ _ _ _ _ _ _ T10 (mkF m 162 #[.val (.long q1), .second, .val (.long q2), .second, .val (.long q3), .second, .val (.long q4), .second, .val (.int p5), .val (.int i1), .val (.int i2), .val (.long s2), .second, .val (.long e2), .second, .val (.ref b1), .val (.int kd), .val (.ref b8), .val (.int x18)] [(.int (own_eqv q1 q2 i1 s2 e2 i2))])
                refine own_step (fun t k => XS.iload X10.here hx rfl (hb hby at_162) rfl k) ?_
                show own_Go _ _ _ _ _ _ _ T10 (mkF m 164 #[.val (.long q1), .second, .val (.long q2), .second, .val (.long q3), .second, .val (.long q4), .second, .val (.int p5), .val (.int i1), .val (.int i2), .val (.long s2), .second, .val (.long e2), .second, .val (.ref b1), .val (.int kd), .val (.ref b8), .val (.int x18)] [(.int x18), (.int (own_eqv q1 q2 i1 s2 e2 i2))])
                refine own_step (fun t k => XS.icmpNo X10.here hx rfl (hb hby at_164) rfl (teq (hx18.symm)).2 k) ?_
                show own_Go _ _ _ _ _ _ _ T10 (mkF m 167 #[.val (.long q1), .second, .val (.long q2), .second, .val (.long q3), .second, .val (.long q4), .second, .val (.int p5), .val (.int i1), .val (.int i2), .val (.long s2), .second, .val (.long e2), .second, .val (.ref b1), .val (.int kd), .val (.ref b8), .val (.int x18)] [])
                refine own_step (fun t k => XS.iconst X10.here hx rfl (hb hby at_167) k) ?_
                show own_Go _ _ _ _ _ _ _ T10 (mkF m 168 #[.val (.long q1), .second, .val (.long q2), .second, .val (.long q3), .second, .val (.long q4), .second, .val (.int p5), .val (.int i1), .val (.int i2), .val (.long s2), .second, .val (.long e2), .second, .val (.ref b1), .val (.int kd), .val (.ref b8), .val (.int x18)] [(.int (1 : Int32))])
                refine own_step (fun t k => XS.goto X10.here hx rfl (pc0 := 168) (pc' := 172) rfl (hb hby at_168) (by decide) (by decide) k) ?_
                show own_Go _ _ _ _ _ _ _ T10 (mkF m 172 #[.val (.long q1), .second, .val (.long q2), .second, .val (.long q3), .second, .val (.long q4), .second, .val (.int p5), .val (.int i1), .val (.int i2), .val (.long s2), .second, .val (.long e2), .second, .val (.ref b1), .val (.int kd), .val (.ref b8), .val (.int x18)] [(.int (1 : Int32))])
                refine own_ret X10 hx hlk Bd.returns rfl (Or.inl ⟨rfl, Or.inr (Or.inl rfl), _, rfl⟩) (hb hby at_172) (by decide) (by decide) ?_
                show own_Q0 Z q1 q2 q3 q4 p5 ca cl h0 n0 (some (.int (1 : Int32))) T10.heap _
                exact ⟨rfl, N10⟩
              rcases Classical.em ((lcmpW q1 s2) = (0 : Int32)) with c131_11 | c131_11
              · show own_Go _ _ _ _ _ _ _ T9 (mkF m 131 #[.val (.long q1), .second, .val (.long q2), .second, .val (.long q3), .second, .val (.long q4), .second, .val (.int p5), .val (.int i1), .val (.int i2), .val (.long s2), .second, .val (.long e2), .second, .val (.ref b1), .val (.int kd), .val (.ref b8), .unset] [(.int (lcmpW q1 s2))])
                refine own_step (fun t k => XS.ifNo X9.here hx rfl (hb hby at_131) rfl ((if0 _ _).trans (teq (c131_11)).2) k) ?_
                show own_Go _ _ _ _ _ _ _ T9 (mkF m 134 #[.val (.long q1), .second, .val (.long q2), .second, .val (.long q3), .second, .val (.long q4), .second, .val (.int p5), .val (.int i1), .val (.int i2), .val (.long s2), .second, .val (.long e2), .second, .val (.ref b1), .val (.int kd), .val (.ref b8), .unset] [])
                refine own_step (fun t k => XS.lloadN X9.here hx rfl (hb hby at_134) rfl k) ?_
                show own_Go _ _ _ _ _ _ _ T9 (mkF m 135 #[.val (.long q1), .second, .val (.long q2), .second, .val (.long q3), .second, .val (.long q4), .second, .val (.int p5), .val (.int i1), .val (.int i2), .val (.long s2), .second, .val (.long e2), .second, .val (.ref b1), .val (.int kd), .val (.ref b8), .unset] [(.long q2)])
                refine own_step (fun t k => XS.lload X9.here hx rfl (hb hby at_135) rfl k) ?_
                show own_Go _ _ _ _ _ _ _ T9 (mkF m 137 #[.val (.long q1), .second, .val (.long q2), .second, .val (.long q3), .second, .val (.long q4), .second, .val (.int p5), .val (.int i1), .val (.int i2), .val (.long s2), .second, .val (.long e2), .second, .val (.ref b1), .val (.int kd), .val (.ref b8), .unset] [(.long e2), (.long q2)])
                refine own_step (fun t k => XS.lcmp X9.here hx rfl (hb hby at_137) rfl k) ?_
                rcases Classical.em ((lcmpW q2 e2) = (0 : Int32)) with c138_12 | c138_12
                · show own_Go _ _ _ _ _ _ _ T9 (mkF m 138 #[.val (.long q1), .second, .val (.long q2), .second, .val (.long q3), .second, .val (.long q4), .second, .val (.int p5), .val (.int i1), .val (.int i2), .val (.long s2), .second, .val (.long e2), .second, .val (.ref b1), .val (.int kd), .val (.ref b8), .unset] [(.int (lcmpW q2 e2))])
                  refine own_step (fun t k => XS.ifNo X9.here hx rfl (hb hby at_138) rfl ((if0 _ _).trans (teq (c138_12)).2) k) ?_
                  show own_Go _ _ _ _ _ _ _ T9 (mkF m 141 #[.val (.long q1), .second, .val (.long q2), .second, .val (.long q3), .second, .val (.long q4), .second, .val (.int p5), .val (.int i1), .val (.int i2), .val (.long s2), .second, .val (.long e2), .second, .val (.ref b1), .val (.int kd), .val (.ref b8), .unset] [])
                  refine own_step (fun t k => XS.iload X9.here hx rfl (hb hby at_141) rfl k) ?_
                  show own_Go _ _ _ _ _ _ _ T9 (mkF m 143 #[.val (.long q1), .second, .val (.long q2), .second, .val (.long q3), .second, .val (.long q4), .second, .val (.int p5), .val (.int i1), .val (.int i2), .val (.long s2), .second, .val (.long e2), .second, .val (.ref b1), .val (.int kd), .val (.ref b8), .unset] [(.int i1)])
                  refine own_step (fun t k => XS.iload X9.here hx rfl (hb hby at_143) rfl k) ?_
                  rcases Classical.em (i1 = i2) with c145_13 | c145_13
                  · show own_Go _ _ _ _ _ _ _ T9 (mkF m 145 #[.val (.long q1), .second, .val (.long q2), .second, .val (.long q3), .second, .val (.long q4), .second, .val (.int p5), .val (.int i1), .val (.int i2), .val (.long s2), .second, .val (.long e2), .second, .val (.ref b1), .val (.int kd), .val (.ref b8), .unset] [(.int i2), (.int i1)])
                    refine own_step (fun t k => XS.icmpNo X9.here hx rfl (hb hby at_145) rfl (teq (c145_13)).2 k) ?_
                    show own_Go _ _ _ _ _ _ _ T9 (mkF m 148 #[.val (.long q1), .second, .val (.long q2), .second, .val (.long q3), .second, .val (.long q4), .second, .val (.int p5), .val (.int i1), .val (.int i2), .val (.long s2), .second, .val (.long e2), .second, .val (.ref b1), .val (.int kd), .val (.ref b8), .unset] [])
                    refine own_step (fun t k => XS.iconst X9.here hx rfl (hb hby at_148) k) ?_
                    show own_Go _ _ _ _ _ _ _ T9 (mkF m 149 #[.val (.long q1), .second, .val (.long q2), .second, .val (.long q3), .second, .val (.long q4), .second, .val (.int p5), .val (.int i1), .val (.int i2), .val (.long s2), .second, .val (.long e2), .second, .val (.ref b1), .val (.int kd), .val (.ref b8), .unset] [(.int (1 : Int32))])
                    refine own_step (fun t k => XS.goto X9.here hx rfl (pc0 := 149) (pc' := 153) rfl (hb hby at_149) (by decide) (by decide) k) ?_
                    simp only [lw_eq] at c131_11 c138_12
                    show own_Go _ _ _ _ _ _ _ T9 (mkF m 153 #[.val (.long q1), .second, .val (.long q2), .second, .val (.long q3), .second, .val (.long q4), .second, .val (.int p5), .val (.int i1), .val (.int i2), .val (.long s2), .second, .val (.long e2), .second, .val (.ref b1), .val (.int kd), .val (.ref b8), .unset] [(.int (1 : Int32))])
                    exact J153 _ (by simp [own_eqv, c131_11, c138_12, c145_13])
                  · show own_Go _ _ _ _ _ _ _ T9 (mkF m 145 #[.val (.long q1), .second, .val (.long q2), .second, .val (.long q3), .second, .val (.long q4), .second, .val (.int p5), .val (.int i1), .val (.int i2), .val (.long s2), .second, .val (.long e2), .second, .val (.ref b1), .val (.int kd), .val (.ref b8), .unset] [(.int i2), (.int i1)])
                    refine own_step (fun t k => XS.icmpYes X9.here hx rfl (pc0 := 145) (pc' := 152) rfl (hb hby at_145) rfl (feq (c145_13)).2 (by decide) (by decide) k) ?_
                    show own_Go _ _ _ _ _ _ _ T9 (mkF m 152 #[.val (.long q1), .second, .val (.long q2), .second, .val (.long q3), .second, .val (.long q4), .second, .val (.int p5), .val (.int i1), .val (.int i2), .val (.long s2), .second, .val (.long e2), .second, .val (.ref b1), .val (.int kd), .val (.ref b8), .unset] [])
                    refine own_step (fun t k => XS.iconst X9.here hx rfl (hb hby at_152) k) ?_
                    simp only [lw_eq] at c131_11 c138_12
                    show own_Go _ _ _ _ _ _ _ T9 (mkF m 153 #[.val (.long q1), .second, .val (.long q2), .second, .val (.long q3), .second, .val (.long q4), .second, .val (.int p5), .val (.int i1), .val (.int i2), .val (.long s2), .second, .val (.long e2), .second, .val (.ref b1), .val (.int kd), .val (.ref b8), .unset] [(.int (0 : Int32))])
                    exact J153 _ (by simp [own_eqv, c131_11, c138_12, c145_13])
                · show own_Go _ _ _ _ _ _ _ T9 (mkF m 138 #[.val (.long q1), .second, .val (.long q2), .second, .val (.long q3), .second, .val (.long q4), .second, .val (.int p5), .val (.int i1), .val (.int i2), .val (.long s2), .second, .val (.long e2), .second, .val (.ref b1), .val (.int kd), .val (.ref b8), .unset] [(.int (lcmpW q2 e2))])
                  refine own_step (fun t k => XS.ifYes X9.here hx rfl (pc0 := 138) (pc' := 152) rfl (hb hby at_138) rfl ((if0 _ _).trans (feq (c138_12)).2) (by decide) (by decide) k) ?_
                  show own_Go _ _ _ _ _ _ _ T9 (mkF m 152 #[.val (.long q1), .second, .val (.long q2), .second, .val (.long q3), .second, .val (.long q4), .second, .val (.int p5), .val (.int i1), .val (.int i2), .val (.long s2), .second, .val (.long e2), .second, .val (.ref b1), .val (.int kd), .val (.ref b8), .unset] [])
                  refine own_step (fun t k => XS.iconst X9.here hx rfl (hb hby at_152) k) ?_
                  simp only [lw_eq] at c131_11 c138_12
                  show own_Go _ _ _ _ _ _ _ T9 (mkF m 153 #[.val (.long q1), .second, .val (.long q2), .second, .val (.long q3), .second, .val (.long q4), .second, .val (.int p5), .val (.int i1), .val (.int i2), .val (.long s2), .second, .val (.long e2), .second, .val (.ref b1), .val (.int kd), .val (.ref b8), .unset] [(.int (0 : Int32))])
                  exact J153 _ (by simp [own_eqv, c131_11, c138_12])
              · show own_Go _ _ _ _ _ _ _ T9 (mkF m 131 #[.val (.long q1), .second, .val (.long q2), .second, .val (.long q3), .second, .val (.long q4), .second, .val (.int p5), .val (.int i1), .val (.int i2), .val (.long s2), .second, .val (.long e2), .second, .val (.ref b1), .val (.int kd), .val (.ref b8), .unset] [(.int (lcmpW q1 s2))])
                refine own_step (fun t k => XS.ifYes X9.here hx rfl (pc0 := 131) (pc' := 152) rfl (hb hby at_131) rfl ((if0 _ _).trans (feq (c131_11)).2) (by decide) (by decide) k) ?_
                show own_Go _ _ _ _ _ _ _ T9 (mkF m 152 #[.val (.long q1), .second, .val (.long q2), .second, .val (.long q3), .second, .val (.long q4), .second, .val (.int p5), .val (.int i1), .val (.int i2), .val (.long s2), .second, .val (.long e2), .second, .val (.ref b1), .val (.int kd), .val (.ref b8), .unset] [])
                refine own_step (fun t k => XS.iconst X9.here hx rfl (hb hby at_152) k) ?_
                simp only [lw_eq] at c131_11
                show own_Go _ _ _ _ _ _ _ T9 (mkF m 153 #[.val (.long q1), .second, .val (.long q2), .second, .val (.long q3), .second, .val (.long q4), .second, .val (.int p5), .val (.int i1), .val (.int i2), .val (.long s2), .second, .val (.long e2), .second, .val (.ref b1), .val (.int kd), .val (.ref b8), .unset] [(.int (0 : Int32))])
                exact J153 _ (by simp [own_eqv, c131_11])
        rcases Classical.em ((p5 &&& (8 : Int32)) = (0 : Int32)) with c48_14 | c48_14
        · show own_Go _ _ _ _ _ _ _ s₁ (mkF m 48 #[.val (.long q1), .second, .val (.long q2), .second, .val (.long q3), .second, .val (.long q4), .second, .val (.int p5), .val (.int i1), .val (.int i2), .val (.long s2), .second, .unset, .unset, .unset, .unset, .unset, .unset] [(.int (p5 &&& (8 : Int32)))])
          refine own_step (fun t k => XS.ifYes X0.here hx rfl (pc0 := 48) (pc' := 55) rfl (hb hby at_48) rfl ((if0 _ _).trans (teq (c48_14)).1) (by decide) (by decide) k) ?_
          show own_Go _ _ _ _ _ _ _ s₁ (mkF m 55 #[.val (.long q1), .second, .val (.long q2), .second, .val (.long q3), .second, .val (.long q4), .second, .val (.int p5), .val (.int i1), .val (.int i2), .val (.long s2), .second, .unset, .unset, .unset, .unset, .unset, .unset] [])
          refine own_step (fun t k => XS.lload X0.here hx rfl (hb hby at_55) rfl k) ?_
          show own_Go _ _ _ _ _ _ _ s₁ (mkF m 57 #[.val (.long q1), .second, .val (.long q2), .second, .val (.long q3), .second, .val (.long q4), .second, .val (.int p5), .val (.int i1), .val (.int i2), .val (.long s2), .second, .unset, .unset, .unset, .unset, .unset, .unset] [(.long q4)])
          exact J57 _
        · show own_Go _ _ _ _ _ _ _ s₁ (mkF m 48 #[.val (.long q1), .second, .val (.long q2), .second, .val (.long q3), .second, .val (.long q4), .second, .val (.int p5), .val (.int i1), .val (.int i2), .val (.long s2), .second, .unset, .unset, .unset, .unset, .unset, .unset] [(.int (p5 &&& (8 : Int32)))])
          refine own_step (fun t k => XS.ifNo X0.here hx rfl (hb hby at_48) rfl ((if0 _ _).trans (feq (c48_14)).1) k) ?_
          show own_Go _ _ _ _ _ _ _ s₁ (mkF m 51 #[.val (.long q1), .second, .val (.long q2), .second, .val (.long q3), .second, .val (.long q4), .second, .val (.int p5), .val (.int i1), .val (.int i2), .val (.long s2), .second, .unset, .unset, .unset, .unset, .unset, .unset] [])
          refine own_step (fun t k => XS.lloadN X0.here hx rfl (hb hby at_51) rfl k) ?_
          show own_Go _ _ _ _ _ _ _ s₁ (mkF m 52 #[.val (.long q1), .second, .val (.long q2), .second, .val (.long q3), .second, .val (.long q4), .second, .val (.int p5), .val (.int i1), .val (.int i2), .val (.long s2), .second, .unset, .unset, .unset, .unset, .unset, .unset] [(.long q2)])
          refine own_step (fun t k => XS.goto X0.here hx rfl (pc0 := 52) (pc' := 57) rfl (hb hby at_52) (by decide) (by decide) k) ?_
          show own_Go _ _ _ _ _ _ _ s₁ (mkF m 57 #[.val (.long q1), .second, .val (.long q2), .second, .val (.long q3), .second, .val (.long q4), .second, .val (.int p5), .val (.int i1), .val (.int i2), .val (.long s2), .second, .unset, .unset, .unset, .unset, .unset, .unset] [(.long q2)])
          exact J57 _
      rcases Classical.em ((p5 &&& (4 : Int32)) = (0 : Int32)) with c32_15 | c32_15
      · show own_Go _ _ _ _ _ _ _ s₁ (mkF m 32 #[.val (.long q1), .second, .val (.long q2), .second, .val (.long q3), .second, .val (.long q4), .second, .val (.int p5), .val (.int i1), .val (.int i2), .unset, .unset, .unset, .unset, .unset, .unset, .unset, .unset] [(.int (p5 &&& (4 : Int32)))])
        refine own_step (fun t k => XS.ifYes X0.here hx rfl (pc0 := 32) (pc' := 39) rfl (hb hby at_32) rfl ((if0 _ _).trans (teq (c32_15)).1) (by decide) (by decide) k) ?_
        show own_Go _ _ _ _ _ _ _ s₁ (mkF m 39 #[.val (.long q1), .second, .val (.long q2), .second, .val (.long q3), .second, .val (.long q4), .second, .val (.int p5), .val (.int i1), .val (.int i2), .unset, .unset, .unset, .unset, .unset, .unset, .unset, .unset] [])
        refine own_step (fun t k => XS.lload X0.here hx rfl (hb hby at_39) rfl k) ?_
        show own_Go _ _ _ _ _ _ _ s₁ (mkF m 41 #[.val (.long q1), .second, .val (.long q2), .second, .val (.long q3), .second, .val (.long q4), .second, .val (.int p5), .val (.int i1), .val (.int i2), .unset, .unset, .unset, .unset, .unset, .unset, .unset, .unset] [(.long q3)])
        exact J41 _
      · show own_Go _ _ _ _ _ _ _ s₁ (mkF m 32 #[.val (.long q1), .second, .val (.long q2), .second, .val (.long q3), .second, .val (.long q4), .second, .val (.int p5), .val (.int i1), .val (.int i2), .unset, .unset, .unset, .unset, .unset, .unset, .unset, .unset] [(.int (p5 &&& (4 : Int32)))])
        refine own_step (fun t k => XS.ifNo X0.here hx rfl (hb hby at_32) rfl ((if0 _ _).trans (feq (c32_15)).1) k) ?_
        show own_Go _ _ _ _ _ _ _ s₁ (mkF m 35 #[.val (.long q1), .second, .val (.long q2), .second, .val (.long q3), .second, .val (.long q4), .second, .val (.int p5), .val (.int i1), .val (.int i2), .unset, .unset, .unset, .unset, .unset, .unset, .unset, .unset] [])
        refine own_step (fun t k => XS.lloadN X0.here hx rfl (hb hby at_35) rfl k) ?_
        show own_Go _ _ _ _ _ _ _ s₁ (mkF m 36 #[.val (.long q1), .second, .val (.long q2), .second, .val (.long q3), .second, .val (.long q4), .second, .val (.int p5), .val (.int i1), .val (.int i2), .unset, .unset, .unset, .unset, .unset, .unset, .unset, .unset] [(.long q1)])
        refine own_step (fun t k => XS.goto X0.here hx rfl (pc0 := 36) (pc' := 41) rfl (hb hby at_36) (by decide) (by decide) k) ?_
        show own_Go _ _ _ _ _ _ _ s₁ (mkF m 41 #[.val (.long q1), .second, .val (.long q2), .second, .val (.long q3), .second, .val (.long q4), .second, .val (.int p5), .val (.int i1), .val (.int i2), .unset, .unset, .unset, .unset, .unset, .unset, .unset, .unset] [(.long q1)])
        exact J41 _
    rcases Classical.em ((p5 &&& (2 : Int32)) = (0 : Int32)) with c18_16 | c18_16
    · show own_Go _ _ _ _ _ _ _ s₁ (mkF m 18 #[.val (.long q1), .second, .val (.long q2), .second, .val (.long q3), .second, .val (.long q4), .second, .val (.int p5), .val (.int i1), .unset, .unset, .unset, .unset, .unset, .unset, .unset, .unset, .unset] [(.int (p5 &&& (2 : Int32)))])
      refine own_step (fun t k => XS.ifYes X0.here hx rfl (pc0 := 18) (pc' := 25) rfl (hb hby at_18) rfl ((if0 _ _).trans (teq (c18_16)).1) (by decide) (by decide) k) ?_
      show own_Go _ _ _ _ _ _ _ s₁ (mkF m 25 #[.val (.long q1), .second, .val (.long q2), .second, .val (.long q3), .second, .val (.long q4), .second, .val (.int p5), .val (.int i1), .unset, .unset, .unset, .unset, .unset, .unset, .unset, .unset, .unset] [])
      refine own_step (fun t k => XS.iconst X0.here hx rfl (hb hby at_25) k) ?_
      show own_Go _ _ _ _ _ _ _ s₁ (mkF m 26 #[.val (.long q1), .second, .val (.long q2), .second, .val (.long q3), .second, .val (.long q4), .second, .val (.int p5), .val (.int i1), .unset, .unset, .unset, .unset, .unset, .unset, .unset, .unset, .unset] [(.int (0 : Int32))])
      exact J26 _ (Or.inl rfl)
    · show own_Go _ _ _ _ _ _ _ s₁ (mkF m 18 #[.val (.long q1), .second, .val (.long q2), .second, .val (.long q3), .second, .val (.long q4), .second, .val (.int p5), .val (.int i1), .unset, .unset, .unset, .unset, .unset, .unset, .unset, .unset, .unset] [(.int (p5 &&& (2 : Int32)))])
      refine own_step (fun t k => XS.ifNo X0.here hx rfl (hb hby at_18) rfl ((if0 _ _).trans (feq (c18_16)).1) k) ?_
      show own_Go _ _ _ _ _ _ _ s₁ (mkF m 21 #[.val (.long q1), .second, .val (.long q2), .second, .val (.long q3), .second, .val (.long q4), .second, .val (.int p5), .val (.int i1), .unset, .unset, .unset, .unset, .unset, .unset, .unset, .unset, .unset] [])
      refine own_step (fun t k => XS.iconst X0.here hx rfl (hb hby at_21) k) ?_
      show own_Go _ _ _ _ _ _ _ s₁ (mkF m 22 #[.val (.long q1), .second, .val (.long q2), .second, .val (.long q3), .second, .val (.long q4), .second, .val (.int p5), .val (.int i1), .unset, .unset, .unset, .unset, .unset, .unset, .unset, .unset, .unset] [(.int (1 : Int32))])
      refine own_step (fun t k => XS.goto X0.here hx rfl (pc0 := 22) (pc' := 26) rfl (hb hby at_22) (by decide) (by decide) k) ?_
      show own_Go _ _ _ _ _ _ _ s₁ (mkF m 26 #[.val (.long q1), .second, .val (.long q2), .second, .val (.long q3), .second, .val (.long q4), .second, .val (.int p5), .val (.int i1), .unset, .unset, .unset, .unset, .unset, .unset, .unset, .unset, .unset] [(.int (1 : Int32))])
      exact J26 _ (Or.inr rfl)
  rcases Classical.em ((p5 &&& (1 : Int32)) = (0 : Int32)) with c4_17 | c4_17
  · show own_Go _ _ _ _ _ _ _ s₁ (mkF m 4 #[.val (.long q1), .second, .val (.long q2), .second, .val (.long q3), .second, .val (.long q4), .second, .val (.int p5), .unset, .unset, .unset, .unset, .unset, .unset, .unset, .unset, .unset, .unset] [(.int (p5 &&& (1 : Int32)))])
    refine own_step (fun t k => XS.ifYes X0.here hx rfl (pc0 := 4) (pc' := 11) rfl (hb hby at_4) rfl ((if0 _ _).trans (teq (c4_17)).1) (by decide) (by decide) k) ?_
    show own_Go _ _ _ _ _ _ _ s₁ (mkF m 11 #[.val (.long q1), .second, .val (.long q2), .second, .val (.long q3), .second, .val (.long q4), .second, .val (.int p5), .unset, .unset, .unset, .unset, .unset, .unset, .unset, .unset, .unset, .unset] [])
    refine own_step (fun t k => XS.iconst X0.here hx rfl (hb hby at_11) k) ?_
    show own_Go _ _ _ _ _ _ _ s₁ (mkF m 12 #[.val (.long q1), .second, .val (.long q2), .second, .val (.long q3), .second, .val (.long q4), .second, .val (.int p5), .unset, .unset, .unset, .unset, .unset, .unset, .unset, .unset, .unset, .unset] [(.int (0 : Int32))])
    exact J12 _ (Or.inl rfl)
  · show own_Go _ _ _ _ _ _ _ s₁ (mkF m 4 #[.val (.long q1), .second, .val (.long q2), .second, .val (.long q3), .second, .val (.long q4), .second, .val (.int p5), .unset, .unset, .unset, .unset, .unset, .unset, .unset, .unset, .unset, .unset] [(.int (p5 &&& (1 : Int32)))])
    refine own_step (fun t k => XS.ifNo X0.here hx rfl (hb hby at_4) rfl ((if0 _ _).trans (feq (c4_17)).1) k) ?_
    show own_Go _ _ _ _ _ _ _ s₁ (mkF m 7 #[.val (.long q1), .second, .val (.long q2), .second, .val (.long q3), .second, .val (.long q4), .second, .val (.int p5), .unset, .unset, .unset, .unset, .unset, .unset, .unset, .unset, .unset, .unset] [])
    refine own_step (fun t k => XS.iconst X0.here hx rfl (hb hby at_7) k) ?_
    show own_Go _ _ _ _ _ _ _ s₁ (mkF m 8 #[.val (.long q1), .second, .val (.long q2), .second, .val (.long q3), .second, .val (.long q4), .second, .val (.int p5), .unset, .unset, .unset, .unset, .unset, .unset, .unset, .unset, .unset, .unset] [(.int (1 : Int32))])
    refine own_step (fun t k => XS.goto X0.here hx rfl (pc0 := 8) (pc' := 12) rfl (hb hby at_8) (by decide) (by decide) k) ?_
    show own_Go _ _ _ _ _ _ _ s₁ (mkF m 12 #[.val (.long q1), .second, .val (.long q2), .second, .val (.long q3), .second, .val (.long q4), .second, .val (.int p5), .unset, .unset, .unset, .unset, .unset, .unset, .unset, .unset, .unset, .unset] [(.int (1 : Int32))])
    exact J12 _ (Or.inr rfl)
theorem own_len_eq {s : State} {args : Array Value} {t : Term} {a : Addr} {cl : Cell} {n : Int32} (ev : t.eval args s none [] s = some (.ref a)) (hcl : s.arrayAt? a = some cl) (h : (Cond.eq (Term.length t) (Term.int n)).value args s none s [] = some true) : cl.slots.size < 2 ^ 31 ∧ cl.slots.size.toInt32 = n := by
  obtain ⟨v, y, hv, -, -, -⟩ := cmp_v (Or.inl h)
  by_cases q : cl.slots.size < 2 ^ 31
  · exact ⟨q, gotT (Cond.eq_ints (len_f ev hcl q) (Term.int_eval n)) h⟩
  · exfalso
    have z : (Term.length t).eval args s none [] s = none := by simp [Term.eval, ev, hcl, q]
    rw [z] at hv; cases hv
theorem own_exa_at {Z : State} {args : Array Value} {t : Term} {a : Addr} {C : String} {idx : List Nat} (ev : t.eval args Z none idx Z = some (.ref a)) (hx : (Cond.exactly t C).value args Z none Z idx = some true) : Exa Z Z.heap a C := by
  have h2 : (Cond.exactly (Term.arg 0) C).value #[.ref a] Z none Z [] = some true := by
    have q : (Term.arg 0).eval #[.ref a] Z none [] Z = some (.ref a) := rfl
    simpa only [Cond.value, ev, q] using hx
  exact Exa.start (args := #[.ref a]) (t := Term.arg 0) rfl h2
set_option maxRecDepth 65536 in
set_option maxHeartbeats 40000000 in
theorem own_comes_1 {Post : Tables → Env → Array Value → State → Outcome → State → Prop} (hpost : ∀ tb e args s v u, (limb_1_1.after args s (.returned v) u = true ∧ limb_1_2.after args s (.returned v) u = true ∧ True) → FrameEnd s (.returned v) u (Jvm.fieldLocs frame_1_writes args s ++ Jvm.arrayLocs frame_1_arrays args s ++ Jvm.staticLocs frame_1_statics s) 16 128 → Post tb e args s (.returned v) u) :
    ArmFor flags0 classFile x code maxLocals ret World_1 tables_1 room_1 Calls_1 rest_1 Pre_1 Post := by
  intro l hfl _ _ p e ha hc hk s m args below hf hA hF happ hP
  obtain ⟨hcalls, hrest, hpre⟩ := hP
  obtain ⟨-, -, -, hnamed, -, -, -, hat⟩ := (Spec.applies_iff hf).mp happ
  obtain ⟨hg, hn⟩ := and_e (Cond.before_iff.mp (show (Jvm.Cond.and given_1 narrow_1).before args s = true from hpre))
  obtain ⟨g0, r0⟩ := and_e hg
  obtain ⟨g1, r1⟩ := and_e r0
  obtain ⟨g2, r2⟩ := and_e r1
  obtain ⟨g3, r3⟩ := and_e r2
  obtain ⟨g4, r4⟩ := and_e r3
  have g5 := r4
  obtain ⟨w0, w1, w2, w3, w4, rfl⟩ : ∃ w0 w1 w2 w3 w4 : Value, args = #[w0, w1, w2, w3, w4] := by
    have hs : args.size = 5 := by simpa [Cond.value, given_1] using g0
    obtain ⟨L⟩ := args
    match L, hs with
    | [w0, w1, w2, w3, w4], _ => exact ⟨w0, w1, w2, w3, w4, rfl⟩
  have hw := fun d (hd : d ∈ tables_1) => atoms_spec (ws := Jvm.Cond.code x code maxLocals ret :: tables_1) hat d (List.mem_cons_of_mem _ hd)
  have hfit : Fit s := fun {y c} hc i hi => by
    obtain ⟨ha, rfl⟩ := Array.getElem?_eq_some_iff.mp hc
    have q := List.all_eq_true.mp ((Array.all_eq_true_iff_forall_mem.mp hF) _ (Array.getElem_mem ha)) i (List.mem_range.mpr hi)
    simpa [Array.getElem?_eq_getElem hi] using q
  obtain ⟨i0, ei0⟩ := isL_v g1
  obtain rfl : w0 = (.long i0) := Option.some.inj ei0
  obtain ⟨i1, ei1⟩ := isL_v g2
  obtain rfl : w1 = (.long i1) := Option.some.inj ei1
  obtain ⟨i2, ei2⟩ := isL_v g3
  obtain rfl : w2 = (.long i2) := Option.some.inj ei2
  obtain ⟨i3, ei3⟩ := isL_v g4
  obtain rfl : w3 = (.long i3) := Option.some.inj ei3
  obtain ⟨i4, ei4⟩ := is_v g5
  obtain rfl : w4 = (.int i4) := Option.some.inj ei4
  have hrc : rest_1_c.before #[(.long i0), (.long i1), (.long i2), (.long i3), (.int i4)] s = true := hrest
  rw [rest_1_c_eq] at hrc
  have hsets := (atoms_of jdkStatics_1 hrc).1
  -- hsets
  have cA := Cond.before_iff.mp (hsets _ (List.mem_of_getElem? (i := 2) rfl))
  have cL := Cond.before_iff.mp (hsets _ (List.mem_of_getElem? (i := 4) rfl))
  have cE := Cond.before_iff.mp (hsets _ (List.mem_of_getElem? (i := 5) rfl))
  obtain ⟨ca, ev⟩ := arr_v cA
  obtain ⟨cl, ARR⟩ := Arr.start ev cA
  have hcl : s.arrayAt? ca = some cl := ARR.fin (Vm.Alike.refl _)
  have SC := Sta.start ev (Or.inl (hsets _ (List.mem_of_getElem? (i := 1) rfl)))
  have hln := own_len_eq ev hcl cL
  have hsz : cl.slots.size = 256 := by
    have z1 : cl.slots.size.toInt32.toInt = cl.slots.size := len_toInt hln.1
    rw [hln.2] at z1
    have z2 : (256 : Int32).toInt = 256 := by decide
    rw [z2] at z1; omega
  have HC : own_Cache s s.heap ca cl := ⟨ARR, hsz, fun j h0 h1 => by
    have hin : ¬ (j < 0 ∨ cl.slots.size ≤ j.toNatClampNeg) := by rw [hsz]; exact own_in h0 h1
    have hn : ¬ j < 0 := fun q => hin (Or.inl q)
    have hall := Cond.all_elim ev hcl cE _ (Nat.lt_of_not_le fun q => hin (Or.inr q))
    obtain ⟨f1, -⟩ := and_e hall
    have ix : (Term.index 0).eval #[(.long i0), (.long i1), (.long i2), (.long i3), (.int i4)] s none [j.toNatClampNeg] s = some (.int j) := idx_at hn
    have el := elem_f (idx := [j.toNatClampNeg]) (t := (Term.static "java/lang/Long$LongCache" "cache" "[Ljava/lang/Long;")) (a := Term.index 0) ev ix hcl hn
    obtain ⟨y, hy⟩ := exa_v f1
    refine ⟨y, el.symm.trans hy, ?_⟩
    exact own_exa_at hy f1⟩
  obtain ⟨n, o, h1, h2, h3, _, L, rfl, ⟨rfl, N⟩, hq⟩ := own_rm0 l s _ hw tables_1 i0 i1 i2 i3 i4 ca cl s.heap s.heap.size (Nat.le_refl _) SC HC p e ha hc hk s m _ below hf ((Spec.applies_iff_loose hf).mp happ).1 ⟨rfl, State.Warmed39.refl s, rfl⟩ trivial
  refine ⟨n, _, h1, h2, h3, hpost _ _ _ _ _ _ ⟨Cond.after_iff.mpr rfl, Cond.after_iff.mpr (eq_i res_at (Term.int_eval (1)) rfl), trivial⟩ ⟨hq.1, hq.2.1, (hq.2.2.sift fun y hy => Or.inr (N y hy)).mono (by decide) (by decide)⟩⟩
theorem main_1_1 : Claimed_1_1 := own_comes_1 fun _ _ _ _ _ _ h hF => ⟨h.1, hF⟩
theorem main_1_2 : Claimed_1_2 := own_comes_1 fun _ _ _ _ _ _ h hF => ⟨h.2.1, hF⟩
end Jvm.Pilot.@@N@@
namespace Jvm.Pilot.@@N@@
open Jvm Jvm.ClassFile Sem Op Lib Jvm.Free Jvm.Stand Jvm.Pilot.@@N@@.Jvm.D
/-! MADE BY PROGRAM (witnessworld.py) out of the Statement's table words and the real class files: 16 classes; the members and pool entries that the words name. The judged class is class 1, her method 1. -/
namespace start1
open Jvm.ClassFile
def u (s : String) : CpInfo := .utf8 (stringToUtf16 s)
/-- a pool by its gaps: so many unusable entries, then the entry; so many at the end -/
def gap : Nat → List CpInfo → List CpInfo
  | 0, r => r
  | n + 1, r => .unusable :: gap n r
def poolList (es : List (Nat × CpInfo)) (last : Nat) : List CpInfo := es.foldr (fun e r => gap e.1 (e.2 :: r)) (gap last [])
def pool (es : List (Nat × CpInfo)) (last : Nat) : Array CpInfo := ⟨poolList es last⟩
def fileOf (pool : Array CpInfo) (this : Nat) (attrs : Array Attribute := #[]) (ms : Array MethodInfo := #[]) (fl : Nat := 33) (sup : Nat := 0) (ifs : Array Nat := #[]) (fds : Array FieldInfo := #[]) : ClassFile where
  minorVersion := 0
  majorVersion := 65
  constantPool := pool
  accessFlags := fl
  thisClass := this
  superClass := sup
  interfaces := ifs
  fields := fds
  methods := ms
  attributes := attrs
def plain (name : String) (sup : Option ClassId) : Class where
  name := name
  kind := .ordinary
  loader := none
  accessFlags := 33
  super := sup
  interfaces := #[]
  cf := none
  fields := #[]
  methods := #[]
  instanceTypes := #[]
  staticTypes := #[]
  resolved := #[]
  callSites := []
  init := .initialized
  statics := none
  mirror := none

def pool0 : Array CpInfo := pool [(5, u "<init>"), (0, u "()V"), (1, .class_ 10), (1, u "java/lang/Object")] 113

def k0c0 : Code := { maxStack := 0, maxLocals := 1, code := object_method_1_code, exceptionTable := #[], attributes := #[] }
def k0m0 : Method := { name := "<init>", desc := "()V", sig := { parameters := [], returnType := none }, accessFlags := 1, code := some k0c0 }
/-- java/lang/Object -/
def k0 : Class := { plain "java/lang/Object" none with
  accessFlags := 33
  interfaces := #[]
  cf := some (fileOf pool0 8 #[] #[{ accessFlags := 1, nameIndex := 5, descriptorIndex := 6, attributes := #[] }] 33 0 #[] #[])
  fields := #[]
  methods := #[k0m0]
  instanceTypes := #[]
  staticTypes := #[]
  resolved := Array.replicate 124 none
  statics := none }

def pool1 : Array CpInfo := pool [(2, .class_ 4), (1, u "java/lang/Object"), (0, u "<init>"), (0, u "()V"), (0, .class_ 8), (0, u "com/example/corvid/corvid/Range"), (0, .methodref 7 10), (0, .nameAndType 5 11), (0, u "(JJZ)V"), (0, .methodref 13 14), (0, .class_ 15), (0, .nameAndType 16 17), (0, u "java/lang/Long"), (0, u "valueOf"), (0, u "(J)Ljava/lang/Long;"), (0, .methodref 7 19), (0, .nameAndType 20 21), (0, u "equals"), (0, u "(Ljava/lang/Object;)Z"), (0, .class_ 23), (0, u "com/example/corvid/corvid/RangeEqualsPinLaw"), (2, u "law"), (0, u "(JJJJI)Z")] 3

def k1m0 : Method := { name := "<init>", desc := "()V", sig := { parameters := [], returnType := none }, accessFlags := 1, code := none }
def k1c1 : Code := { maxStack := 7, maxLocals := 19, code := code, exceptionTable := #[], attributes := #[] }
def k1m1 : Method := { name := "law", desc := "(JJJJI)Z", sig := { parameters := [.long, .long, .long, .long, .int], returnType := some .boolean }, accessFlags := 9, code := some k1c1 }
/-- com/example/corvid/corvid/RangeEqualsPinLaw -/
def k1 : Class := { plain "com/example/corvid/corvid/RangeEqualsPinLaw" (some 0) with
  accessFlags := 49
  interfaces := #[]
  cf := some (fileOf pool1 22 #[] #[{ accessFlags := 1, nameIndex := 5, descriptorIndex := 6, attributes := #[] }, { accessFlags := 9, nameIndex := 26, descriptorIndex := 27, attributes := #[] }] 49 2 #[] #[])
  fields := #[]
  methods := #[k1m0, k1m1]
  instanceTypes := #[]
  staticTypes := #[]
  resolved := Array.replicate 31 none
  statics := none }

def pool2 : Array CpInfo := pool [(1, .methodref 2 3), (0, .class_ 4), (0, .nameAndType 5 6), (0, u "java/lang/Object"), (0, u "<init>"), (0, u "()V"), (0, .fieldref 8 9), (0, .class_ 10), (0, .nameAndType 11 12), (0, u "com/example/corvid/corvid/Range"), (0, u "start"), (0, u "J"), (0, .fieldref 8 14), (0, .nameAndType 15 12), (0, u "end"), (0, .fieldref 8 17), (0, .nameAndType 18 19), (0, u "inclusive"), (0, u "Z"), (14, u "(JJZ)V"), (7, u "equals"), (0, u "(Ljava/lang/Object;)Z")] 22

def k2c0 : Code := { maxStack := 3, maxLocals := 6, code := prog_115_method_1_code, exceptionTable := #[], attributes := #[] }
def k2m0 : Method := { name := "<init>", desc := "(JJZ)V", sig := { parameters := [.long, .long, .boolean], returnType := none }, accessFlags := 0, code := some k2c0 }
def k2c1 : Code := { maxStack := 4, maxLocals := 3, code := prog_115_method_5_code, exceptionTable := #[], attributes := #[] }
def k2m1 : Method := { name := "equals", desc := "(Ljava/lang/Object;)Z", sig := { parameters := [(.object "java/lang/Object")], returnType := some .boolean }, accessFlags := 1, code := some k2c1 }
/-- com/example/corvid/corvid/Range -/
def k2 : Class := { plain "com/example/corvid/corvid/Range" (some 0) with
  accessFlags := 48
  interfaces := #[]
  cf := some (fileOf pool2 8 #[] #[{ accessFlags := 0, nameIndex := 5, descriptorIndex := 34, attributes := #[] }, { accessFlags := 1, nameIndex := 42, descriptorIndex := 43, attributes := #[] }] 48 2 #[] #[{ accessFlags := 18, nameIndex := 11, descriptorIndex := 12, attributes := #[] }, { accessFlags := 18, nameIndex := 15, descriptorIndex := 12, attributes := #[] }, { accessFlags := 18, nameIndex := 18, descriptorIndex := 19, attributes := #[] }])
  fields := #[{ name := "start", type := .long, accessFlags := 18, slot := 0, constantValue := 0 }, { name := "end", type := .long, accessFlags := 18, slot := 1, constantValue := 0 }, { name := "inclusive", type := .boolean, accessFlags := 18, slot := 2, constantValue := 0 }]
  methods := #[k2m0, k2m1]
  instanceTypes := #[.long, .long, .boolean]
  staticTypes := #[]
  resolved := Array.replicate 66 none
  statics := none }

def pool3 : Array CpInfo := pool [(1, .class_ 2), (0, u "java/io/Serializable"), (0, .class_ 4), (0, u "java/lang/Object")] 2

/-- java/io/Serializable -/
def k3 : Class := { plain "java/io/Serializable" (some 0) with
  accessFlags := 1537
  interfaces := #[]
  cf := some (fileOf pool3 1 #[] #[] 1537 3 #[] #[])
  fields := #[]
  methods := #[]
  instanceTypes := #[]
  staticTypes := #[]
  resolved := Array.replicate 7 none
  statics := none }

def pool4 : Array CpInfo := pool [(1, .methodref 2 3), (0, .class_ 4), (0, .nameAndType 5 6), (0, u "java/lang/Object"), (0, u "<init>"), (0, u "()V"), (1, .class_ 10), (1, u "java/lang/Number"), (2, .class_ 14), (0, u "java/io/Serializable"), (0, u "serialVersionUID"), (0, u "J")] 20

def k4c0 : Code := { maxStack := 1, maxLocals := 1, code := jdk_18_method_1_code, exceptionTable := #[], attributes := #[] }
def k4m0 : Method := { name := "<init>", desc := "()V", sig := { parameters := [], returnType := none }, accessFlags := 1, code := some k4c0 }
/-- java/lang/Number -/
def k4 : Class := { plain "java/lang/Number" (some 0) with
  accessFlags := 1057
  interfaces := #[3]
  cf := some (fileOf pool4 8 #[] #[{ accessFlags := 1, nameIndex := 5, descriptorIndex := 6, attributes := #[] }] 1057 2 #[13] #[{ accessFlags := 26, nameIndex := 15, descriptorIndex := 16, attributes := #[] }])
  fields := #[{ name := "serialVersionUID", type := .long, accessFlags := 26, slot := 0, constantValue := 0 }]
  methods := #[k4m0]
  instanceTypes := #[]
  staticTypes := #[.long]
  resolved := Array.replicate 37 none
  statics := none }

def pool5 : Array CpInfo := pool [(1, .class_ 2), (0, u "java/lang/Comparable"), (0, .class_ 4), (0, u "java/lang/Object")] 7

/-- java/lang/Comparable -/
def k5 : Class := { plain "java/lang/Comparable" (some 0) with
  accessFlags := 1537
  interfaces := #[]
  cf := some (fileOf pool5 1 #[] #[] 1537 3 #[] #[])
  fields := #[]
  methods := #[]
  instanceTypes := #[]
  staticTypes := #[]
  resolved := Array.replicate 12 none
  statics := none }

def pool6 : Array CpInfo := pool [(1, .class_ 2), (0, u "java/lang/constant/Constable"), (0, .class_ 4), (0, u "java/lang/Object")] 6

/-- java/lang/constant/Constable -/
def k6 : Class := { plain "java/lang/constant/Constable" (some 0) with
  accessFlags := 1537
  interfaces := #[]
  cf := some (fileOf pool6 1 #[] #[] 1537 3 #[] #[])
  fields := #[]
  methods := #[]
  instanceTypes := #[]
  staticTypes := #[]
  resolved := Array.replicate 11 none
  statics := none }

def pool7 : Array CpInfo := pool [(1, .class_ 2), (0, u "java/lang/constant/ConstantDesc"), (0, .class_ 4), (0, u "java/lang/Object")] 32

/-- java/lang/constant/ConstantDesc -/
def k7 : Class := { plain "java/lang/constant/ConstantDesc" (some 0) with
  accessFlags := 1537
  interfaces := #[]
  cf := some (fileOf pool7 1 #[] #[] 1537 3 #[] #[])
  fields := #[]
  methods := #[]
  instanceTypes := #[]
  staticTypes := #[]
  resolved := Array.replicate 37 none
  statics := none }

def pool8 : Array CpInfo := pool [(1, .class_ 2), (0, u "java/lang/Long"), (55, .nameAndType 59 60), (0, u "<init>"), (0, u "()V"), (24, u "valueOf"), (143, u "(J)Ljava/lang/Long;"), (0, .long 18446744073709551488), (1, .long 127), (1, .fieldref 235 236), (0, .class_ 237), (0, .nameAndType 238 239), (0, u "java/lang/Long$LongCache"), (0, u "cache"), (0, u "[Ljava/lang/Long;"), (0, .methodref 1 241), (0, .nameAndType 59 242), (0, u "(J)V"), (27, .methodref 271 58), (0, .class_ 272), (0, u "java/lang/Number"), (0, .fieldref 1 274), (0, .nameAndType 275 276), (0, u "value"), (0, u "J"), (84, u "TYPE"), (0, u "Ljava/lang/Class;"), (0, .class_ 364), (0, u "java/lang/Comparable"), (0, .class_ 366), (0, u "java/lang/constant/Constable"), (0, .class_ 368), (0, u "java/lang/constant/ConstantDesc"), (0, u "MIN_VALUE"), (1, u "MAX_VALUE"), (4, u "SIZE"), (0, u "I"), (1, u "BYTES"), (1, u "serialVersionUID")] 142

def k8c0 : Code := { maxStack := 4, maxLocals := 3, code := jdk_35_method_24_code, exceptionTable := #[], attributes := #[] }
def k8m0 : Method := { name := "valueOf", desc := "(J)Ljava/lang/Long;", sig := { parameters := [.long], returnType := some (.object "java/lang/Long") }, accessFlags := 9, code := some k8c0 }
def k8c1 : Code := { maxStack := 3, maxLocals := 3, code := jdk_35_method_26_code, exceptionTable := #[], attributes := #[] }
def k8m1 : Method := { name := "<init>", desc := "(J)V", sig := { parameters := [.long], returnType := none }, accessFlags := 1, code := some k8c1 }
/-- java/lang/Long -/
def k8 : Class := { plain "java/lang/Long" (some 4) with
  accessFlags := 49
  interfaces := #[5, 6, 7]
  cf := some (fileOf pool8 1 #[.nestMembers #[235]] #[{ accessFlags := 9, nameIndex := 85, descriptorIndex := 229, attributes := #[] }, { accessFlags := 1, nameIndex := 59, descriptorIndex := 242, attributes := #[] }] 49 271 #[363, 365, 367] #[{ accessFlags := 25, nameIndex := 369, descriptorIndex := 276, attributes := #[] }, { accessFlags := 25, nameIndex := 371, descriptorIndex := 276, attributes := #[] }, { accessFlags := 25, nameIndex := 361, descriptorIndex := 362, attributes := #[] }, { accessFlags := 18, nameIndex := 275, descriptorIndex := 276, attributes := #[] }, { accessFlags := 25, nameIndex := 376, descriptorIndex := 377, attributes := #[] }, { accessFlags := 25, nameIndex := 379, descriptorIndex := 377, attributes := #[] }, { accessFlags := 26, nameIndex := 381, descriptorIndex := 276, attributes := #[] }])
  fields := #[{ name := "MIN_VALUE", type := .long, accessFlags := 25, slot := 0, constantValue := 0 }, { name := "MAX_VALUE", type := .long, accessFlags := 25, slot := 1, constantValue := 0 }, { name := "TYPE", type := (.object "java/lang/Class"), accessFlags := 25, slot := 2, constantValue := 0 }, { name := "value", type := .long, accessFlags := 18, slot := 0, constantValue := 0 }, { name := "SIZE", type := .int, accessFlags := 25, slot := 3, constantValue := 0 }, { name := "BYTES", type := .int, accessFlags := 25, slot := 4, constantValue := 0 }, { name := "serialVersionUID", type := .long, accessFlags := 26, slot := 5, constantValue := 0 }]
  methods := #[k8m0, k8m1]
  instanceTypes := #[.long]
  staticTypes := #[.long, .long, (.object "java/lang/Class"), .int, .int, .long]
  resolved := Array.replicate 524 none
  statics := none }

def pool9 : Array CpInfo := pool [(2, .class_ 4), (1, u "java/lang/Object"), (0, u "<init>"), (0, u "()V"), (0, .class_ 8), (0, u "java/lang/Long"), (7, .class_ 18), (1, u "java/lang/Long$LongCache"), (0, u "$assertionsDisabled"), (0, u "Z"), (8, u "archivedCache"), (0, u "[Ljava/lang/Long;"), (7, u "cache")] 24

def k9m0 : Method := { name := "<init>", desc := "()V", sig := { parameters := [], returnType := none }, accessFlags := 2, code := none }
/-- java/lang/Long$LongCache -/
def k9 : Class := { plain "java/lang/Long$LongCache" (some 0) with
  accessFlags := 48
  interfaces := #[]
  cf := some (fileOf pool9 16 #[.nestHost 7] #[{ accessFlags := 2, nameIndex := 5, descriptorIndex := 6, attributes := #[] }] 48 2 #[] #[{ accessFlags := 24, nameIndex := 38, descriptorIndex := 30, attributes := #[] }, { accessFlags := 8, nameIndex := 29, descriptorIndex := 30, attributes := #[] }, { accessFlags := 4120, nameIndex := 19, descriptorIndex := 20, attributes := #[] }])
  fields := #[{ name := "cache", type := (.array (.object "java/lang/Long")), accessFlags := 24, slot := 0, constantValue := 0 }, { name := "archivedCache", type := (.array (.object "java/lang/Long")), accessFlags := 8, slot := 1, constantValue := 0 }, { name := "$assertionsDisabled", type := .boolean, accessFlags := 4120, slot := 2, constantValue := 0 }]
  methods := #[k9m0]
  instanceTypes := #[]
  staticTypes := #[(.array (.object "java/lang/Long")), (.array (.object "java/lang/Long")), .boolean]
  resolved := Array.replicate 63 none
  statics := some 0 }

def pool10 : Array CpInfo := pool [(1, u "java/lang/Cloneable"), (0, .class_ 1), (0, u "java/lang/Object"), (0, .class_ 3)] 3

/-- java/lang/Cloneable -/
def k10 : Class := { plain "java/lang/Cloneable" (some 0) with
  accessFlags := 1537
  interfaces := #[]
  cf := some (fileOf pool10 2 #[] #[] 1537 4 #[] #[])
  fields := #[]
  methods := #[]
  instanceTypes := #[]
  staticTypes := #[]
  resolved := Array.replicate 8 none
  statics := none }

/-- the primitive byte -/
def k11 : Class := { plain "byte" none with kind := .primitive 'B', accessFlags := 0x411 }
/-- [B -/
def k12 : Class := { plain "[B" (some 0) with kind := .array 11 .byte, interfaces := #[10, 3], accessFlags := 1041 }

/-- the primitive int -/
def k13 : Class := { plain "int" none with kind := .primitive 'I', accessFlags := 0x411 }
/-- [I -/
def k14 : Class := { plain "[I" (some 0) with kind := .array 13 .int, interfaces := #[10, 3], accessFlags := 1041 }

/-- [Ljava/lang/Long; -/
def k15 : Class := { plain "[Ljava/lang/Long;" (some 0) with kind := .array 8 (.object "java/lang/Long"), interfaces := #[10, 3], accessFlags := 1041 }

def heap : Heap := #[{ cls := 9, slots := #[.ref 1, .null, .int 0], vm := .statics 9 },
  { cls := 15, slots := #[.ref 2, .ref 3, .ref 4, .ref 5, .ref 6, .ref 7, .ref 8, .ref 9, .ref 10, .ref 11, .ref 12, .ref 13, .ref 14, .ref 15, .ref 16, .ref 17, .ref 18, .ref 19, .ref 20, .ref 21, .ref 22, .ref 23, .ref 24, .ref 25, .ref 26, .ref 27, .ref 28, .ref 29, .ref 30, .ref 31, .ref 32, .ref 33, .ref 34, .ref 35, .ref 36, .ref 37, .ref 38, .ref 39, .ref 40, .ref 41, .ref 42, .ref 43, .ref 44, .ref 45, .ref 46, .ref 47, .ref 48, .ref 49, .ref 50, .ref 51, .ref 52, .ref 53, .ref 54, .ref 55, .ref 56, .ref 57, .ref 58, .ref 59, .ref 60, .ref 61, .ref 62, .ref 63, .ref 64, .ref 65, .ref 66, .ref 67, .ref 68, .ref 69, .ref 70, .ref 71, .ref 72, .ref 73, .ref 74, .ref 75, .ref 76, .ref 77, .ref 78, .ref 79, .ref 80, .ref 81, .ref 82, .ref 83, .ref 84, .ref 85, .ref 86, .ref 87, .ref 88, .ref 89, .ref 90, .ref 91, .ref 92, .ref 93, .ref 94, .ref 95, .ref 96, .ref 97, .ref 98, .ref 99, .ref 100, .ref 101, .ref 102, .ref 103, .ref 104, .ref 105, .ref 106, .ref 107, .ref 108, .ref 109, .ref 110, .ref 111, .ref 112, .ref 113, .ref 114, .ref 115, .ref 116, .ref 117, .ref 118, .ref 119, .ref 120, .ref 121, .ref 122, .ref 123, .ref 124, .ref 125, .ref 126, .ref 127, .ref 128, .ref 129, .ref 130, .ref 131, .ref 132, .ref 133, .ref 134, .ref 135, .ref 136, .ref 137, .ref 138, .ref 139, .ref 140, .ref 141, .ref 142, .ref 143, .ref 144, .ref 145, .ref 146, .ref 147, .ref 148, .ref 149, .ref 150, .ref 151, .ref 152, .ref 153, .ref 154, .ref 155, .ref 156, .ref 157, .ref 158, .ref 159, .ref 160, .ref 161, .ref 162, .ref 163, .ref 164, .ref 165, .ref 166, .ref 167, .ref 168, .ref 169, .ref 170, .ref 171, .ref 172, .ref 173, .ref 174, .ref 175, .ref 176, .ref 177, .ref 178, .ref 179, .ref 180, .ref 181, .ref 182, .ref 183, .ref 184, .ref 185, .ref 186, .ref 187, .ref 188, .ref 189, .ref 190, .ref 191, .ref 192, .ref 193, .ref 194, .ref 195, .ref 196, .ref 197, .ref 198, .ref 199, .ref 200, .ref 201, .ref 202, .ref 203, .ref 204, .ref 205, .ref 206, .ref 207, .ref 208, .ref 209, .ref 210, .ref 211, .ref 212, .ref 213, .ref 214, .ref 215, .ref 216, .ref 217, .ref 218, .ref 219, .ref 220, .ref 221, .ref 222, .ref 223, .ref 224, .ref 225, .ref 226, .ref 227, .ref 228, .ref 229, .ref 230, .ref 231, .ref 232, .ref 233, .ref 234, .ref 235, .ref 236, .ref 237, .ref 238, .ref 239, .ref 240, .ref 241, .ref 242, .ref 243, .ref 244, .ref 245, .ref 246, .ref 247, .ref 248, .ref 249, .ref 250, .ref 251, .ref 252, .ref 253, .ref 254, .ref 255, .ref 256, .ref 257], vm := .none },
  { cls := 8, slots := #[.long (-128)], vm := .none },
  { cls := 8, slots := #[.long (-127)], vm := .none },
  { cls := 8, slots := #[.long (-126)], vm := .none },
  { cls := 8, slots := #[.long (-125)], vm := .none },
  { cls := 8, slots := #[.long (-124)], vm := .none },
  { cls := 8, slots := #[.long (-123)], vm := .none },
  { cls := 8, slots := #[.long (-122)], vm := .none },
  { cls := 8, slots := #[.long (-121)], vm := .none },
  { cls := 8, slots := #[.long (-120)], vm := .none },
  { cls := 8, slots := #[.long (-119)], vm := .none },
  { cls := 8, slots := #[.long (-118)], vm := .none },
  { cls := 8, slots := #[.long (-117)], vm := .none },
  { cls := 8, slots := #[.long (-116)], vm := .none },
  { cls := 8, slots := #[.long (-115)], vm := .none },
  { cls := 8, slots := #[.long (-114)], vm := .none },
  { cls := 8, slots := #[.long (-113)], vm := .none },
  { cls := 8, slots := #[.long (-112)], vm := .none },
  { cls := 8, slots := #[.long (-111)], vm := .none },
  { cls := 8, slots := #[.long (-110)], vm := .none },
  { cls := 8, slots := #[.long (-109)], vm := .none },
  { cls := 8, slots := #[.long (-108)], vm := .none },
  { cls := 8, slots := #[.long (-107)], vm := .none },
  { cls := 8, slots := #[.long (-106)], vm := .none },
  { cls := 8, slots := #[.long (-105)], vm := .none },
  { cls := 8, slots := #[.long (-104)], vm := .none },
  { cls := 8, slots := #[.long (-103)], vm := .none },
  { cls := 8, slots := #[.long (-102)], vm := .none },
  { cls := 8, slots := #[.long (-101)], vm := .none },
  { cls := 8, slots := #[.long (-100)], vm := .none },
  { cls := 8, slots := #[.long (-99)], vm := .none },
  { cls := 8, slots := #[.long (-98)], vm := .none },
  { cls := 8, slots := #[.long (-97)], vm := .none },
  { cls := 8, slots := #[.long (-96)], vm := .none },
  { cls := 8, slots := #[.long (-95)], vm := .none },
  { cls := 8, slots := #[.long (-94)], vm := .none },
  { cls := 8, slots := #[.long (-93)], vm := .none },
  { cls := 8, slots := #[.long (-92)], vm := .none },
  { cls := 8, slots := #[.long (-91)], vm := .none },
  { cls := 8, slots := #[.long (-90)], vm := .none },
  { cls := 8, slots := #[.long (-89)], vm := .none },
  { cls := 8, slots := #[.long (-88)], vm := .none },
  { cls := 8, slots := #[.long (-87)], vm := .none },
  { cls := 8, slots := #[.long (-86)], vm := .none },
  { cls := 8, slots := #[.long (-85)], vm := .none },
  { cls := 8, slots := #[.long (-84)], vm := .none },
  { cls := 8, slots := #[.long (-83)], vm := .none },
  { cls := 8, slots := #[.long (-82)], vm := .none },
  { cls := 8, slots := #[.long (-81)], vm := .none },
  { cls := 8, slots := #[.long (-80)], vm := .none },
  { cls := 8, slots := #[.long (-79)], vm := .none },
  { cls := 8, slots := #[.long (-78)], vm := .none },
  { cls := 8, slots := #[.long (-77)], vm := .none },
  { cls := 8, slots := #[.long (-76)], vm := .none },
  { cls := 8, slots := #[.long (-75)], vm := .none },
  { cls := 8, slots := #[.long (-74)], vm := .none },
  { cls := 8, slots := #[.long (-73)], vm := .none },
  { cls := 8, slots := #[.long (-72)], vm := .none },
  { cls := 8, slots := #[.long (-71)], vm := .none },
  { cls := 8, slots := #[.long (-70)], vm := .none },
  { cls := 8, slots := #[.long (-69)], vm := .none },
  { cls := 8, slots := #[.long (-68)], vm := .none },
  { cls := 8, slots := #[.long (-67)], vm := .none },
  { cls := 8, slots := #[.long (-66)], vm := .none },
  { cls := 8, slots := #[.long (-65)], vm := .none },
  { cls := 8, slots := #[.long (-64)], vm := .none },
  { cls := 8, slots := #[.long (-63)], vm := .none },
  { cls := 8, slots := #[.long (-62)], vm := .none },
  { cls := 8, slots := #[.long (-61)], vm := .none },
  { cls := 8, slots := #[.long (-60)], vm := .none },
  { cls := 8, slots := #[.long (-59)], vm := .none },
  { cls := 8, slots := #[.long (-58)], vm := .none },
  { cls := 8, slots := #[.long (-57)], vm := .none },
  { cls := 8, slots := #[.long (-56)], vm := .none },
  { cls := 8, slots := #[.long (-55)], vm := .none },
  { cls := 8, slots := #[.long (-54)], vm := .none },
  { cls := 8, slots := #[.long (-53)], vm := .none },
  { cls := 8, slots := #[.long (-52)], vm := .none },
  { cls := 8, slots := #[.long (-51)], vm := .none },
  { cls := 8, slots := #[.long (-50)], vm := .none },
  { cls := 8, slots := #[.long (-49)], vm := .none },
  { cls := 8, slots := #[.long (-48)], vm := .none },
  { cls := 8, slots := #[.long (-47)], vm := .none },
  { cls := 8, slots := #[.long (-46)], vm := .none },
  { cls := 8, slots := #[.long (-45)], vm := .none },
  { cls := 8, slots := #[.long (-44)], vm := .none },
  { cls := 8, slots := #[.long (-43)], vm := .none },
  { cls := 8, slots := #[.long (-42)], vm := .none },
  { cls := 8, slots := #[.long (-41)], vm := .none },
  { cls := 8, slots := #[.long (-40)], vm := .none },
  { cls := 8, slots := #[.long (-39)], vm := .none },
  { cls := 8, slots := #[.long (-38)], vm := .none },
  { cls := 8, slots := #[.long (-37)], vm := .none },
  { cls := 8, slots := #[.long (-36)], vm := .none },
  { cls := 8, slots := #[.long (-35)], vm := .none },
  { cls := 8, slots := #[.long (-34)], vm := .none },
  { cls := 8, slots := #[.long (-33)], vm := .none },
  { cls := 8, slots := #[.long (-32)], vm := .none },
  { cls := 8, slots := #[.long (-31)], vm := .none },
  { cls := 8, slots := #[.long (-30)], vm := .none },
  { cls := 8, slots := #[.long (-29)], vm := .none },
  { cls := 8, slots := #[.long (-28)], vm := .none },
  { cls := 8, slots := #[.long (-27)], vm := .none },
  { cls := 8, slots := #[.long (-26)], vm := .none },
  { cls := 8, slots := #[.long (-25)], vm := .none },
  { cls := 8, slots := #[.long (-24)], vm := .none },
  { cls := 8, slots := #[.long (-23)], vm := .none },
  { cls := 8, slots := #[.long (-22)], vm := .none },
  { cls := 8, slots := #[.long (-21)], vm := .none },
  { cls := 8, slots := #[.long (-20)], vm := .none },
  { cls := 8, slots := #[.long (-19)], vm := .none },
  { cls := 8, slots := #[.long (-18)], vm := .none },
  { cls := 8, slots := #[.long (-17)], vm := .none },
  { cls := 8, slots := #[.long (-16)], vm := .none },
  { cls := 8, slots := #[.long (-15)], vm := .none },
  { cls := 8, slots := #[.long (-14)], vm := .none },
  { cls := 8, slots := #[.long (-13)], vm := .none },
  { cls := 8, slots := #[.long (-12)], vm := .none },
  { cls := 8, slots := #[.long (-11)], vm := .none },
  { cls := 8, slots := #[.long (-10)], vm := .none },
  { cls := 8, slots := #[.long (-9)], vm := .none },
  { cls := 8, slots := #[.long (-8)], vm := .none },
  { cls := 8, slots := #[.long (-7)], vm := .none },
  { cls := 8, slots := #[.long (-6)], vm := .none },
  { cls := 8, slots := #[.long (-5)], vm := .none },
  { cls := 8, slots := #[.long (-4)], vm := .none },
  { cls := 8, slots := #[.long (-3)], vm := .none },
  { cls := 8, slots := #[.long (-2)], vm := .none },
  { cls := 8, slots := #[.long (-1)], vm := .none },
  { cls := 8, slots := #[.long 0], vm := .none },
  { cls := 8, slots := #[.long 1], vm := .none },
  { cls := 8, slots := #[.long 2], vm := .none },
  { cls := 8, slots := #[.long 3], vm := .none },
  { cls := 8, slots := #[.long 4], vm := .none },
  { cls := 8, slots := #[.long 5], vm := .none },
  { cls := 8, slots := #[.long 6], vm := .none },
  { cls := 8, slots := #[.long 7], vm := .none },
  { cls := 8, slots := #[.long 8], vm := .none },
  { cls := 8, slots := #[.long 9], vm := .none },
  { cls := 8, slots := #[.long 10], vm := .none },
  { cls := 8, slots := #[.long 11], vm := .none },
  { cls := 8, slots := #[.long 12], vm := .none },
  { cls := 8, slots := #[.long 13], vm := .none },
  { cls := 8, slots := #[.long 14], vm := .none },
  { cls := 8, slots := #[.long 15], vm := .none },
  { cls := 8, slots := #[.long 16], vm := .none },
  { cls := 8, slots := #[.long 17], vm := .none },
  { cls := 8, slots := #[.long 18], vm := .none },
  { cls := 8, slots := #[.long 19], vm := .none },
  { cls := 8, slots := #[.long 20], vm := .none },
  { cls := 8, slots := #[.long 21], vm := .none },
  { cls := 8, slots := #[.long 22], vm := .none },
  { cls := 8, slots := #[.long 23], vm := .none },
  { cls := 8, slots := #[.long 24], vm := .none },
  { cls := 8, slots := #[.long 25], vm := .none },
  { cls := 8, slots := #[.long 26], vm := .none },
  { cls := 8, slots := #[.long 27], vm := .none },
  { cls := 8, slots := #[.long 28], vm := .none },
  { cls := 8, slots := #[.long 29], vm := .none },
  { cls := 8, slots := #[.long 30], vm := .none },
  { cls := 8, slots := #[.long 31], vm := .none },
  { cls := 8, slots := #[.long 32], vm := .none },
  { cls := 8, slots := #[.long 33], vm := .none },
  { cls := 8, slots := #[.long 34], vm := .none },
  { cls := 8, slots := #[.long 35], vm := .none },
  { cls := 8, slots := #[.long 36], vm := .none },
  { cls := 8, slots := #[.long 37], vm := .none },
  { cls := 8, slots := #[.long 38], vm := .none },
  { cls := 8, slots := #[.long 39], vm := .none },
  { cls := 8, slots := #[.long 40], vm := .none },
  { cls := 8, slots := #[.long 41], vm := .none },
  { cls := 8, slots := #[.long 42], vm := .none },
  { cls := 8, slots := #[.long 43], vm := .none },
  { cls := 8, slots := #[.long 44], vm := .none },
  { cls := 8, slots := #[.long 45], vm := .none },
  { cls := 8, slots := #[.long 46], vm := .none },
  { cls := 8, slots := #[.long 47], vm := .none },
  { cls := 8, slots := #[.long 48], vm := .none },
  { cls := 8, slots := #[.long 49], vm := .none },
  { cls := 8, slots := #[.long 50], vm := .none },
  { cls := 8, slots := #[.long 51], vm := .none },
  { cls := 8, slots := #[.long 52], vm := .none },
  { cls := 8, slots := #[.long 53], vm := .none },
  { cls := 8, slots := #[.long 54], vm := .none },
  { cls := 8, slots := #[.long 55], vm := .none },
  { cls := 8, slots := #[.long 56], vm := .none },
  { cls := 8, slots := #[.long 57], vm := .none },
  { cls := 8, slots := #[.long 58], vm := .none },
  { cls := 8, slots := #[.long 59], vm := .none },
  { cls := 8, slots := #[.long 60], vm := .none },
  { cls := 8, slots := #[.long 61], vm := .none },
  { cls := 8, slots := #[.long 62], vm := .none },
  { cls := 8, slots := #[.long 63], vm := .none },
  { cls := 8, slots := #[.long 64], vm := .none },
  { cls := 8, slots := #[.long 65], vm := .none },
  { cls := 8, slots := #[.long 66], vm := .none },
  { cls := 8, slots := #[.long 67], vm := .none },
  { cls := 8, slots := #[.long 68], vm := .none },
  { cls := 8, slots := #[.long 69], vm := .none },
  { cls := 8, slots := #[.long 70], vm := .none },
  { cls := 8, slots := #[.long 71], vm := .none },
  { cls := 8, slots := #[.long 72], vm := .none },
  { cls := 8, slots := #[.long 73], vm := .none },
  { cls := 8, slots := #[.long 74], vm := .none },
  { cls := 8, slots := #[.long 75], vm := .none },
  { cls := 8, slots := #[.long 76], vm := .none },
  { cls := 8, slots := #[.long 77], vm := .none },
  { cls := 8, slots := #[.long 78], vm := .none },
  { cls := 8, slots := #[.long 79], vm := .none },
  { cls := 8, slots := #[.long 80], vm := .none },
  { cls := 8, slots := #[.long 81], vm := .none },
  { cls := 8, slots := #[.long 82], vm := .none },
  { cls := 8, slots := #[.long 83], vm := .none },
  { cls := 8, slots := #[.long 84], vm := .none },
  { cls := 8, slots := #[.long 85], vm := .none },
  { cls := 8, slots := #[.long 86], vm := .none },
  { cls := 8, slots := #[.long 87], vm := .none },
  { cls := 8, slots := #[.long 88], vm := .none },
  { cls := 8, slots := #[.long 89], vm := .none },
  { cls := 8, slots := #[.long 90], vm := .none },
  { cls := 8, slots := #[.long 91], vm := .none },
  { cls := 8, slots := #[.long 92], vm := .none },
  { cls := 8, slots := #[.long 93], vm := .none },
  { cls := 8, slots := #[.long 94], vm := .none },
  { cls := 8, slots := #[.long 95], vm := .none },
  { cls := 8, slots := #[.long 96], vm := .none },
  { cls := 8, slots := #[.long 97], vm := .none },
  { cls := 8, slots := #[.long 98], vm := .none },
  { cls := 8, slots := #[.long 99], vm := .none },
  { cls := 8, slots := #[.long 100], vm := .none },
  { cls := 8, slots := #[.long 101], vm := .none },
  { cls := 8, slots := #[.long 102], vm := .none },
  { cls := 8, slots := #[.long 103], vm := .none },
  { cls := 8, slots := #[.long 104], vm := .none },
  { cls := 8, slots := #[.long 105], vm := .none },
  { cls := 8, slots := #[.long 106], vm := .none },
  { cls := 8, slots := #[.long 107], vm := .none },
  { cls := 8, slots := #[.long 108], vm := .none },
  { cls := 8, slots := #[.long 109], vm := .none },
  { cls := 8, slots := #[.long 110], vm := .none },
  { cls := 8, slots := #[.long 111], vm := .none },
  { cls := 8, slots := #[.long 112], vm := .none },
  { cls := 8, slots := #[.long 113], vm := .none },
  { cls := 8, slots := #[.long 114], vm := .none },
  { cls := 8, slots := #[.long 115], vm := .none },
  { cls := 8, slots := #[.long 116], vm := .none },
  { cls := 8, slots := #[.long 117], vm := .none },
  { cls := 8, slots := #[.long 118], vm := .none },
  { cls := 8, slots := #[.long 119], vm := .none },
  { cls := 8, slots := #[.long 120], vm := .none },
  { cls := 8, slots := #[.long 121], vm := .none },
  { cls := 8, slots := #[.long 122], vm := .none },
  { cls := 8, slots := #[.long 123], vm := .none },
  { cls := 8, slots := #[.long 124], vm := .none },
  { cls := 8, slots := #[.long 125], vm := .none },
  { cls := 8, slots := #[.long 126], vm := .none },
  { cls := 8, slots := #[.long 127], vm := .none }]
def classes : Array Class := #[k0, k1, k2, k3, k4, k5, k6, k7, k8, k9, k10, k11, k12, k13, k14, k15]
def interned : List (Array UInt16 × Addr) := []
def slotsUsed : Nat := 515
def theMethod : MethodId := ⟨1, 1⟩
def args0 : Array Value := #[.long 5, .long 7, .long 6, .long 8, .int 1]
def aboutOver (below : List Frame) : State where
  vm := { classes := classes, interned := interned.toArray }
  heap := heap
  slotsUsed := slotsUsed
  threads := #[{ frames := .invoking theMethod args0 :: below }]
def below0 : List Frame := [.native { method := ⟨0, 0⟩, args := #[] }]
def about1 : State := aboutOver below0
def p0 : Program := .bare "" "" ""
def e0 : Env := launch0.env 0 0 0
theorem w_frames : about1.frames = Frame.invoking theMethod args0 :: below0 := rfl
set_option maxRecDepth 65536 in
theorem w_args : argsFit about1.vm theMethod args0 = true := by decide +kernel
set_option maxRecDepth 65536 in
theorem w_heap : heapFits about1 = true := by decide +kernel
set_option maxRecDepth 65536 in
theorem w_runnable : about1.curStatus? = some .runnable := by decide +kernel
set_option maxRecDepth 65536 in
theorem w_alone : about1.alone = true := by decide +kernel
set_option maxRecDepth 65536 in
theorem w_named : about1.methodNamed? x = some theMethod := by decide +kernel
set_option maxRecDepth 65536 in
theorem w_hears : about1.hears theMethod below0 = true := by decide +kernel
set_option maxRecDepth 65536 in
theorem w_ripe : about1.ripe theMethod args0 below0 = true := by decide +kernel
theorem w_running : about1.status = .running := rfl
set_option maxRecDepth 65536 in
theorem w_room : about1.hasRoom e0.platform room_1 = true :=
  launch0.hasRoom_least _ room_1 (by decide +kernel) (by decide +kernel) (by decide +kernel) (by decide +kernel) (by decide +kernel) (by decide +kernel)
theorem allAtoms_all (ts : List Jvm.Cond) (a : Array Jvm.Value) (st : Jvm.State) : (allAtoms ts).before a st = ts.all (fun c => c.before a st) := by
  induction ts with
  | nil => rfl
  | cons c t ih =>
    show (Jvm.Cond.and c (allAtoms t)).before a st = _
    rw [Jvm.Cond.before_and, ih, List.all_cons]
def words1 : List Jvm.Cond := Jvm.Cond.code x code maxLocals ret :: tables_1
/-- a 'code' word, met by the world's own term for the bytes: nothing is compared byte by byte -/
theorem code_word {y : MethodName} {bytes : ByteArray} {mx : Nat} {rt : Option FieldType} {a : Array Value} {s : State} {m : MethodId} {meth : Method} {c : Code} (h1 : s.methodNamed? y = some m) (h2 : s.vm.method? m = some meth) (h3 : meth.code = some c) (h4 : c.code = bytes)
    (h5 : (c.maxLocals == mx && c.exceptionTable.isEmpty && decide (c.maxStack ≤ mostOperands) && decide (meth.sig.returnType = rt) && !meth.locks && decide (parseMethodDescriptor y.desc = some meth.sig)) = true) : (Jvm.Cond.code y bytes mx rt).before a s = true := by
  simp only [Bool.and_eq_true, beq_iff_eq, Bool.not_eq_true', decide_eq_true_eq] at h5
  obtain ⟨⟨⟨⟨⟨g1, g2⟩, g3⟩, g4⟩, g5⟩, g6⟩ := h5
  simp [Cond.before, Cond.holds, Cond.value, h1, h2, h3, h4, g1, g2, g3, g4, g5, g6]
def isCode : Jvm.Cond → Bool
  | .code _ _ _ _ => true
  | _ => false
theorem all_split {L : List Jvm.Cond} {P : Jvm.Cond → Bool} (h1 : L.all (fun c => isCode c || P c) = true) (h2 : ∀ c ∈ L.filter isCode, P c = true) : L.all P = true := by
  refine List.all_eq_true.mpr fun c hc => ?_
  have h := List.all_eq_true.mp h1 c hc
  rcases Bool.eq_false_or_eq_true (isCode c) with hi | hi
  · exact h2 c (List.mem_filter.mpr ⟨hc, hi⟩)
  · simpa [hi] using h
set_option maxRecDepth 65536 in
theorem w_c0 : (Jvm.Cond.code x code maxLocals ret).before args0 about1 = true := code_word (m := ⟨1, 1⟩) (meth := k1m1) (c := k1c1) (by decide +kernel) rfl rfl rfl (by decide +kernel)
set_option maxRecDepth 65536 in
theorem w_c1 : (Jvm.Cond.code ({ cls := "com/example/corvid/corvid/Range", name := "<init>", desc := "(JJZ)V" } : Jvm.MethodName) prog_115_method_1_code (6 : Nat) (Option.none : Option Jvm.ClassFile.FieldType)).before args0 about1 = true := code_word (m := ⟨2, 0⟩) (meth := k2m0) (c := k2c0) (by decide +kernel) rfl rfl rfl (by decide +kernel)
set_option maxRecDepth 65536 in
theorem w_c2 : (Jvm.Cond.code ({ cls := "java/lang/Object", name := "<init>", desc := "()V" } : Jvm.MethodName) object_method_1_code (1 : Nat) (Option.none : Option Jvm.ClassFile.FieldType)).before args0 about1 = true := code_word (m := ⟨0, 0⟩) (meth := k0m0) (c := k0c0) (by decide +kernel) rfl rfl rfl (by decide +kernel)
set_option maxRecDepth 65536 in
theorem w_c3 : (Jvm.Cond.code ({ cls := "com/example/corvid/corvid/Range", name := "equals", desc := "(Ljava/lang/Object;)Z" } : Jvm.MethodName) prog_115_method_5_code (3 : Nat) (Option.some Jvm.ClassFile.FieldType.boolean)).before args0 about1 = true := code_word (m := ⟨2, 1⟩) (meth := k2m1) (c := k2c1) (by decide +kernel) rfl rfl rfl (by decide +kernel)
set_option maxRecDepth 65536 in
theorem w_c4 : (Jvm.Cond.code ({ cls := "java/lang/Long", name := "valueOf", desc := "(J)Ljava/lang/Long;" } : Jvm.MethodName) jdk_35_method_24_code (3 : Nat) (Option.some (Jvm.ClassFile.FieldType.object "java/lang/Long"))).before args0 about1 = true := code_word (m := ⟨8, 0⟩) (meth := k8m0) (c := k8c0) (by decide +kernel) rfl rfl rfl (by decide +kernel)
set_option maxRecDepth 65536 in
theorem w_c5 : (Jvm.Cond.code ({ cls := "java/lang/Long", name := "<init>", desc := "(J)V" } : Jvm.MethodName) jdk_35_method_26_code (3 : Nat) (Option.none : Option Jvm.ClassFile.FieldType)).before args0 about1 = true := code_word (m := ⟨8, 1⟩) (meth := k8m1) (c := k8c1) (by decide +kernel) rfl rfl rfl (by decide +kernel)
set_option maxRecDepth 65536 in
theorem w_c6 : (Jvm.Cond.code ({ cls := "java/lang/Number", name := "<init>", desc := "()V" } : Jvm.MethodName) jdk_18_method_1_code (1 : Nat) (Option.none : Option Jvm.ClassFile.FieldType)).before args0 about1 = true := code_word (m := ⟨4, 0⟩) (meth := k4m0) (c := k4c0) (by decide +kernel) rfl rfl rfl (by decide +kernel)
def codes1 : List Jvm.Cond := [Jvm.Cond.code x code maxLocals ret, Jvm.Cond.code ({ cls := "com/example/corvid/corvid/Range", name := "<init>", desc := "(JJZ)V" } : Jvm.MethodName) prog_115_method_1_code (6 : Nat) (Option.none : Option Jvm.ClassFile.FieldType), Jvm.Cond.code ({ cls := "java/lang/Object", name := "<init>", desc := "()V" } : Jvm.MethodName) object_method_1_code (1 : Nat) (Option.none : Option Jvm.ClassFile.FieldType), Jvm.Cond.code ({ cls := "com/example/corvid/corvid/Range", name := "equals", desc := "(Ljava/lang/Object;)Z" } : Jvm.MethodName) prog_115_method_5_code (3 : Nat) (Option.some Jvm.ClassFile.FieldType.boolean), Jvm.Cond.code ({ cls := "java/lang/Long", name := "valueOf", desc := "(J)Ljava/lang/Long;" } : Jvm.MethodName) jdk_35_method_24_code (3 : Nat) (Option.some (Jvm.ClassFile.FieldType.object "java/lang/Long")), Jvm.Cond.code ({ cls := "java/lang/Long", name := "<init>", desc := "(J)V" } : Jvm.MethodName) jdk_35_method_26_code (3 : Nat) (Option.none : Option Jvm.ClassFile.FieldType), Jvm.Cond.code ({ cls := "java/lang/Number", name := "<init>", desc := "()V" } : Jvm.MethodName) jdk_18_method_1_code (1 : Nat) (Option.none : Option Jvm.ClassFile.FieldType)]
set_option maxRecDepth 65536 in
theorem codes_eq : words1.filter isCode = codes1 := rfl
theorem w_codes : ∀ c ∈ words1.filter isCode, c.before args0 about1 = true := by
  rw [codes_eq]
  intro c hc
  simp only [codes1, List.mem_cons, List.not_mem_nil, or_false] at hc
  rcases hc with rfl | rfl | rfl | rfl | rfl | rfl | rfl
  · exact w_c0
  · exact w_c1
  · exact w_c2
  · exact w_c3
  · exact w_c4
  · exact w_c5
  · exact w_c6
set_option maxRecDepth 65536 in
theorem w_t1 : (words1.take 24).all (fun c => isCode c || c.before args0 about1) = true := by decide +kernel
set_option maxRecDepth 65536 in
theorem w_t2 : ((words1.drop 24).take 24).all (fun c => isCode c || c.before args0 about1) = true := by decide +kernel
set_option maxRecDepth 65536 in
theorem w_t3 : ((words1.drop 24).drop 24).all (fun c => isCode c || c.before args0 about1) = true := by decide +kernel
theorem w_tables : (allAtoms (Jvm.Cond.code x code maxLocals ret :: tables_1)).before args0 about1 = true := by
  rw [allAtoms_all]
  show words1.all (fun c => c.before args0 about1) = true
  refine all_split ?_ w_codes
  rw [← List.take_append_drop 24 words1, List.all_append, w_t1, ← List.take_append_drop 24 (words1.drop 24), List.all_append, w_t2, w_t3]
  rfl
set_option maxRecDepth 65536 in
theorem w_rest : rest_1_c.before args0 about1 = true := by decide +kernel
set_option maxRecDepth 65536 in
theorem w_case : (Jvm.Cond.and given_1 narrow_1).before args0 about1 = true := by decide +kernel
theorem w_applies : (headSpec (Jvm.Cond.code x code maxLocals ret :: tables_1) room_1).applies x e0.platform about1 = true :=
  (Spec.applies_iff w_frames).mpr ⟨w_running, w_runnable, w_alone, w_named, w_hears, w_ripe, w_room, w_tables⟩
theorem atStart : AtStart classFile x code maxLocals ret World_1 tables_1 room_1 Calls_1 rest_1 Pre_1 launch0 p0 e0 about1 theMethod args0 below0 :=
  ⟨lists_1, trivial, launch0.admits_env _ _ _, launch0.least_env, fairChoices_fair.cas, fairChoices_fair.clock, w_frames, w_args, w_heap, w_applies, trivial, w_rest, w_case⟩
end start1
theorem witness_1 : WitnessClaimed_1 := ⟨start1.p0, start1.e0, start1.about1, start1.theMethod, start1.args0, start1.below0, start1.atStart⟩
end Jvm.Pilot.@@N@@
