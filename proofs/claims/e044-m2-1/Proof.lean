import JvmDerived
import JvmDerived.Pilot.@@N@@Statement
import JvmDerived.Pilot.@@N@@Code
set_option linter.unusedVariables false
set_option linter.unusedSimpArgs false
namespace Jvm.Pilot.@@N@@
open Jvm Jvm.ClassFile Sem Op Lib Jvm.Free Jvm.Stand Jvm.LawKit Jvm.RoadKit Bundle Jvm.Pilot.@@N@@.Jvm.D
/-- from here the run comes to a return, and Q holds of what it returns, of the heap and of the places written -/
def own_Go (p : Program) (e : Env) (below : List Frame) (s : State) (kc ks : Nat) (Q : Option Value → Heap → List Loc → Prop) (T : State) (g : JFrame) : Prop :=
  ∃ s₂ o, Steps p.tables e below (T.setTop g) s₂ ∧ s₂.status = .running ∧ Ended s₂ below o ∧ ∃ v L, o = .returned v ∧ Q v s₂.heap L ∧ FrameEnd s o s₂ L kc ks
theorem own_step {p : Program} {e : Env} {below : List Frame} {s : State} {kc ks : Nat} {Q : Option Value → Heap → List Loc → Prop} {T T' : State} {g g' : JFrame}
    (h : ∀ t, Steps p.tables e below (T'.setTop g') t → Steps p.tables e below (T.setTop g) t) (k : own_Go p e below s kc ks Q T' g') : own_Go p e below s kc ks Q T g := by
  obtain ⟨s₂, o, h1, r⟩ := k
  exact ⟨s₂, o, h _ h1, r⟩
section Own
variable {p : Program} {l : Launch} {e : Env} {R : Room} {s : State} {m : MethodId} {args : Array Value} {below : List Frame} {meth : Method} {c : Code} {T : State} {locs : List Loc} {cells slots kc ks : Nat} {Q : Option Value → Heap → List Loc → Prop}
theorem own_ret (X : Stand p l e R s m args below meth c T locs cells slots) (hx : p.tables.exec = Jvm.exec) (hlk : meth.locks = false) {pc : Nat} {Ls : Array Slot} {w : Value} {t : FieldType} {i : Instr} {rest : List Value} (hret : meth.sig.returnType = some t) (hn : narrow t w = w)
    (hi : (i = .ireturn ∧ (t = .int ∨ t = .boolean ∨ t = .byte ∨ t = .char ∨ t = .short) ∧ ∃ z, w = .int z) ∨ (i = .lreturn ∧ t = .long ∧ ∃ z, w = .long z) ∨ (i = .dreturn ∧ t = .double ∧ ∃ z, w = .double z) ∨ (i = .freturn ∧ t = .float ∧ ∃ z, w = .float z) ∨ (i = .areturn ∧ t.isReference = true ∧ w.isRef = true))
    (hd : decode c.code pc = .ok (i, 1)) (hc : cells ≤ kc) (hs : slots ≤ ks) (hQ : Q (some w) T.heap locs) : own_Go p e below s kc ks Q T (mkF m pc Ls (w :: rest)) := by
  obtain ⟨fs, hr, hrun, hended, hW, hsame⟩ := X.leave (v := some w) (fun h => by rw [hret] at h; cases h) hlk
  exact ⟨_, _, retOut X hx hret hn hi hd hr, hrun, hended, _, _, rfl, hQ, ⟨_, rfl⟩, hW, hsame.mono hc hs⟩
theorem own_retV (X : Stand p l e R s m args below meth c T locs cells slots) (hx : p.tables.exec = Jvm.exec) (hlk : meth.locks = false) {pc : Nat} {Ls : Array Slot} (hret : meth.sig.returnType = none)
    (hd : decode c.code pc = .ok (.return_, 1)) (hc : cells ≤ kc) (hs : slots ≤ ks) (hQ : Q none T.heap locs) : own_Go p e below s kc ks Q T (mkF m pc Ls []) := by
  obtain ⟨fs, hr, hrun, hended, hW, hsame⟩ := X.leave (v := none) (fun _ => rfl) hlk
  exact ⟨_, _, X.returnOut hx hret hd hr, hrun, hended, _, _, rfl, hQ, ⟨_, rfl⟩, hW, hsame.mono hc hs⟩
theorem own_narZ {z : Int32} (hz : z = 0 ∨ z = 1) : narrow .boolean (.int z) = .int z := by rcases hz with rfl | rfl <;> rfl
end Own
theorem own_fitZ {z : Int32} (hz : z = 0 ∨ z = 1) : fits .boolean (.int z) = true := by rcases hz with rfl | rfl <;> rfl
theorem own_bit (f m : Int32) : (if f &&& m = 0 then (0 : Int32) else 1) = 0 ∨ (if f &&& m = 0 then (0 : Int32) else 1) = 1 := by split <;> simp
def own_emp (s e : Int64) (i : Int32) : Int32 := if i = 0 then (if s < e then 0 else 1) else (if e < s then 1 else 0)
def own_mem (s e : Int64) (i : Int32) (x : Int64) : Int32 := if x < s then 0 else if i = 0 then (if x < e then 1 else 0) else (if e < x then 0 else 1)
def own_last (e : Int64) (i : Int32) : Int64 := if i = 0 then e - 1 else e
theorem own_z1 {s e : Int64} {i : Int32} : own_emp s e i = 0 ∨ own_emp s e i = 1 := by unfold own_emp; split <;> split <;> simp
theorem d1_0 : decode prog_115_method_1_code 0 = .ok (.aload_n 0, 1) := by decide +kernel
theorem d1_1 : decode prog_115_method_1_code 1 = .ok (.invokespecial 1, 3) := by decide +kernel
theorem d1_4 : decode prog_115_method_1_code 4 = .ok (.aload_n 0, 1) := by decide +kernel
theorem d1_5 : decode prog_115_method_1_code 5 = .ok (.lload_n 1, 1) := by decide +kernel
theorem d1_6 : decode prog_115_method_1_code 6 = .ok (.putfield 7, 3) := by decide +kernel
theorem d1_9 : decode prog_115_method_1_code 9 = .ok (.aload_n 0, 1) := by decide +kernel
theorem d1_10 : decode prog_115_method_1_code 10 = .ok (.lload_n 3, 1) := by decide +kernel
theorem d1_11 : decode prog_115_method_1_code 11 = .ok (.putfield 13, 3) := by decide +kernel
theorem d1_14 : decode prog_115_method_1_code 14 = .ok (.aload_n 0, 1) := by decide +kernel
theorem d1_15 : decode prog_115_method_1_code 15 = .ok (.iload 5, 2) := by decide +kernel
theorem d1_17 : decode prog_115_method_1_code 17 = .ok (.putfield 16, 3) := by decide +kernel
theorem d1_20 : decode prog_115_method_1_code 20 = .ok (.return_, 1) := by decide +kernel
theorem own_pn1 : plainName "com/example/corvid/corvid/Range" = true := by first | (simp [plainName, overriddenIn]; done) | decide +kernel
theorem own_ef1 (m : MethodId) (x0 : Addr) (x1 : Int64) (x2 : Int64) (x3 : Int32) : entryFrame m #[(.ref x0), (.long x1), (.long x2), (.int x3)] 6 = mkF m 0 #[.val (.ref x0), .val (.long x1), .second, .val (.long x2), .second, .val (.int x3)] [] := by first | (simp [entryFrame, mkF, argsToLocals, Value.category]; done) | rfl
def own_Q1 (Z : State) (a1 : Addr) (q1 : Int64) (q2 : Int64) (p3 : Int32) (h0 : Heap) (n0 : Nat) (v : Option Value) (h : Heap) (L : List Loc) : Prop := v = none ∧ Fr n0 L ∧ Keep h0 h [a1] ∧ Exa Z h a1 "com/example/corvid/corvid/Range" ∧ Fld Z h a1 "com/example/corvid/corvid/Range" "start" "J" (.long q1) ∧ Fld Z h a1 "com/example/corvid/corvid/Range" "end" "J" (.long q2) ∧ Fld Z h a1 "com/example/corvid/corvid/Range" "inclusive" "Z" (.int p3)
set_option maxRecDepth 65536 in
set_option maxHeartbeats 40000000 in
theorem own_rm1 (l : Launch) (Z : State) (a0 : Array Value) (hw : ∀ d ∈ tables_1, d.before a0 Z = true) (ws : List Jvm.Cond) (a1 : Addr) (q1 : Int64) (q2 : Int64) (p3 : Int32) (h0 : Heap) (n0 : Nat) (Z0 : n0 ≤ h0.size) (Fstart : Fld Z h0 a1 "com/example/corvid/corvid/Range" "start" "J" (.long (0 : Int64))) (Fend : Fld Z h0 a1 "com/example/corvid/corvid/Range" "end" "J" (.long (0 : Int64))) (Finclusive : Fld Z h0 a1 "com/example/corvid/corvid/Range" "inclusive" "Z" (.int (0 : Int32))) (EX : Exa Z h0 a1 "com/example/corvid/corvid/Range") (ga : n0 ≤ a1) (hb3 : p3 = 0 ∨ p3 = 1) :
    MetFree l (⟨"com/example/corvid/corvid/Range", "<init>", "(JJZ)V"⟩ : MethodName) (head1 (Jvm.Cond.code (⟨"com/example/corvid/corvid/Range", "<init>", "(JJZ)V"⟩ : MethodName) prog_115_method_1_code 6 none :: ws) ({ frames := 1, cells := 0, slots := 0, locals := 12 } : Room)) (fun a U => a = #[(.ref a1), (.long q1), (.long q2), (.int p3)] ∧ Z.Warmed39 U.vm ∧ U.heap = h0) (fun _ _ _ _ _ => True) (fun _ U o U' => ∃ v L, o = .returned v ∧ own_Q1 Z a1 q1 q2 p3 h0 n0 v U'.heap L ∧ FrameEnd U o U' L ({ frames := 1, cells := 0, slots := 0, locals := 12 } : Room).cells ({ frames := 1, cells := 0, slots := 0, locals := 12 } : Room).slots) := by
  refine MetFree.of_bodySF (plainFor_of_name own_pn1) hisR ?_
  intro p e s m args below meth c s₁ Bd hml0 hP hK
  obtain ⟨rfl, hZ, hh⟩ := hP
  have hx := Bd.exec
  have hby := Bd.bytes
  have hml : c.maxLocals = 6 := hml0
  have hlk : meth.locks = false := BodyLoose.notSynchronized Bd
  have hown : s.vm.findClass "com/example/corvid/corvid/Range" = some m.cls := findClass_of_methodNamed Bd.named
  have hnm := (name_of_methodNamed Bd.named Bd.method).1
  have X0 : Stand p l e ({ frames := 1, cells := 0, slots := 0, locals := 12 } : Room) s m #[(.ref a1), (.long q1), (.long q2), (.int p3)] below meth c s₁ [] 0 0 := Stand.of_body Bd
  have e0 : s₁.heap = h0 := by rw [← hh, Bd.state]; rfl
  have N0 := Fr.nil n0
  show own_Go p e below s ({ frames := 1, cells := 0, slots := 0, locals := 12 } : Room).cells ({ frames := 1, cells := 0, slots := 0, locals := 12 } : Room).slots (own_Q1 Z a1 q1 q2 p3 h0 n0) s₁ (entryFrame m #[(.ref a1), (.long q1), (.long q2), (.int p3)] 6)
  refine own_step (fun t k => castTop (own_ef1 m a1 q1 q2 p3) k) ?_
  show own_Go _ _ _ _ _ _ _ s₁ (mkF m 0 #[.val (.ref a1), .val (.long q1), .second, .val (.long q2), .second, .val (.int p3)] [])
  refine own_step (fun t k => XS.aloadN X0.here hx rfl (hb hby d1_0) rfl rfl k) ?_
  show own_Go _ _ _ _ _ _ _ s₁ (mkF m 1 #[.val (.ref a1), .val (.long q1), .second, .val (.long q2), .second, .val (.int p3)] [(.ref a1)])
  obtain ⟨T1, X1, e1, st1⟩ := initO X0 hx hZ hown (hw _ (List.mem_of_getElem? (i := 6) rfl)) (hw _ (List.mem_of_getElem? (i := 7) rfl)) (hw _ (List.mem_of_getElem? (i := 8) rfl)) e0 (g := (mkF m 1 #[.val (.ref a1), .val (.long q1), .second, .val (.long q2), .second, .val (.int p3)] [(.ref a1)])) rfl (by rw [hml]; rfl) rfl (hb hby d1_1) (by decide) (W := 0) (by show 2 * 0 + _ ≤ _; exact Nat.le_of_eq rfl) (by decide)
  refine own_step st1 ?_
  show own_Go _ _ _ _ _ _ _ T1 (mkF m 4 #[.val (.ref a1), .val (.long q1), .second, .val (.long q2), .second, .val (.int p3)] [])
  refine own_step (fun t k => XS.aloadN X1.here hx rfl (hb hby d1_4) rfl rfl k) ?_
  show own_Go _ _ _ _ _ _ _ T1 (mkF m 5 #[.val (.ref a1), .val (.long q1), .second, .val (.long q2), .second, .val (.int p3)] [(.ref a1)])
  refine own_step (fun t k => XS.lloadN X1.here hx rfl (hb hby d1_5) rfl k) ?_
  show own_Go _ _ _ _ _ _ _ T1 (mkF m 6 #[.val (.ref a1), .val (.long q1), .second, .val (.long q2), .second, .val (.int p3)] [(.long q1), (.ref a1)])
  obtain ⟨T2, h2, X2, e2, W2, st2⟩ := putF X1 hx hZ hown (host := "") (Or.inl (hw _ (List.mem_of_getElem? (i := 9) rfl))) Via.refl e1 Fstart EX (Or.inr ⟨(hw _ (List.mem_of_getElem? (i := 10) rfl)), rfl, hnm⟩) (hw _ (List.mem_of_getElem? (i := 1) rfl)) (ty := .long) (by decide) rfl rfl (g := (mkF m 6 #[.val (.ref a1), .val (.long q1), .second, .val (.long q2), .second, .val (.int p3)] [(.long q1), (.ref a1)])) rfl rfl (hb hby d1_6)
  have N2 := Fr.snoc X2 N0 ga
  have E2_a1 := EX.wr W2
  have F2_a1_start := Fstart.same W2
  have F2_a1_end := Fend.other W2 (Or.inr (slot_ne (Or.inr (hw _ (List.mem_of_getElem? (i := 12) rfl))) (Or.inr (hw _ (List.mem_of_getElem? (i := 10) rfl))) (by decide) (t := .long) (t' := .long) (by decide) (by decide)))
  have F2_a1_inclusive := Finclusive.other W2 (Or.inr (slot_ne (Or.inr (hw _ (List.mem_of_getElem? (i := 14) rfl))) (Or.inr (hw _ (List.mem_of_getElem? (i := 10) rfl))) (by decide) (t := .boolean) (t' := .long) (by decide) (by decide)))
  have K2 : Keep h0 h2 [a1] := (Keep.refl h0 [a1]).wr W2 (Or.inl (List.mem_of_getElem? (i := 0) rfl))
  refine own_step st2 ?_
  show own_Go _ _ _ _ _ _ _ T2 (mkF m 9 #[.val (.ref a1), .val (.long q1), .second, .val (.long q2), .second, .val (.int p3)] [])
  refine own_step (fun t k => XS.aloadN X2.here hx rfl (hb hby d1_9) rfl rfl k) ?_
  show own_Go _ _ _ _ _ _ _ T2 (mkF m 10 #[.val (.ref a1), .val (.long q1), .second, .val (.long q2), .second, .val (.int p3)] [(.ref a1)])
  refine own_step (fun t k => XS.lloadN X2.here hx rfl (hb hby d1_10) rfl k) ?_
  show own_Go _ _ _ _ _ _ _ T2 (mkF m 11 #[.val (.ref a1), .val (.long q1), .second, .val (.long q2), .second, .val (.int p3)] [(.long q2), (.ref a1)])
  obtain ⟨T3, h3, X3, e3, W3, st3⟩ := putF X2 hx hZ hown (host := "") (Or.inl (hw _ (List.mem_of_getElem? (i := 11) rfl))) Via.refl e2 F2_a1_end E2_a1 (Or.inr ⟨(hw _ (List.mem_of_getElem? (i := 12) rfl)), rfl, hnm⟩) (hw _ (List.mem_of_getElem? (i := 1) rfl)) (ty := .long) (by decide) rfl rfl (g := (mkF m 11 #[.val (.ref a1), .val (.long q1), .second, .val (.long q2), .second, .val (.int p3)] [(.long q2), (.ref a1)])) rfl rfl (hb hby d1_11)
  have N3 := Fr.snoc X3 N2 ga
  have E3_a1 := E2_a1.wr W3
  have F3_a1_start := F2_a1_start.other W3 (Or.inr (slot_ne (Or.inr (hw _ (List.mem_of_getElem? (i := 10) rfl))) (Or.inr (hw _ (List.mem_of_getElem? (i := 12) rfl))) (by decide) (t := .long) (t' := .long) (by decide) (by decide)))
  have F3_a1_end := F2_a1_end.same W3
  have F3_a1_inclusive := F2_a1_inclusive.other W3 (Or.inr (slot_ne (Or.inr (hw _ (List.mem_of_getElem? (i := 14) rfl))) (Or.inr (hw _ (List.mem_of_getElem? (i := 12) rfl))) (by decide) (t := .boolean) (t' := .long) (by decide) (by decide)))
  have K3 : Keep h0 h3 [a1] := K2.wr W3 (Or.inl (List.mem_of_getElem? (i := 0) rfl))
  refine own_step st3 ?_
  show own_Go _ _ _ _ _ _ _ T3 (mkF m 14 #[.val (.ref a1), .val (.long q1), .second, .val (.long q2), .second, .val (.int p3)] [])
  refine own_step (fun t k => XS.aloadN X3.here hx rfl (hb hby d1_14) rfl rfl k) ?_
  show own_Go _ _ _ _ _ _ _ T3 (mkF m 15 #[.val (.ref a1), .val (.long q1), .second, .val (.long q2), .second, .val (.int p3)] [(.ref a1)])
  refine own_step (fun t k => XS.iload X3.here hx rfl (hb hby d1_15) rfl k) ?_
  show own_Go _ _ _ _ _ _ _ T3 (mkF m 17 #[.val (.ref a1), .val (.long q1), .second, .val (.long q2), .second, .val (.int p3)] [(.int p3), (.ref a1)])
  obtain ⟨T4, h4, X4, e4, W4, st4⟩ := putF X3 hx hZ hown (host := "") (Or.inl (hw _ (List.mem_of_getElem? (i := 13) rfl))) Via.refl e3 F3_a1_inclusive E3_a1 (Or.inr ⟨(hw _ (List.mem_of_getElem? (i := 14) rfl)), rfl, hnm⟩) (hw _ (List.mem_of_getElem? (i := 1) rfl)) (ty := .boolean) (by decide) (own_narZ hb3) (own_fitZ hb3) (g := (mkF m 17 #[.val (.ref a1), .val (.long q1), .second, .val (.long q2), .second, .val (.int p3)] [(.int p3), (.ref a1)])) rfl rfl (hb hby d1_17)
  have N4 := Fr.snoc X4 N3 ga
  have E4_a1 := E3_a1.wr W4
  have F4_a1_start := F3_a1_start.other W4 (Or.inr (slot_ne (Or.inr (hw _ (List.mem_of_getElem? (i := 10) rfl))) (Or.inr (hw _ (List.mem_of_getElem? (i := 14) rfl))) (by decide) (t := .long) (t' := .boolean) (by decide) (by decide)))
  have F4_a1_end := F3_a1_end.other W4 (Or.inr (slot_ne (Or.inr (hw _ (List.mem_of_getElem? (i := 12) rfl))) (Or.inr (hw _ (List.mem_of_getElem? (i := 14) rfl))) (by decide) (t := .long) (t' := .boolean) (by decide) (by decide)))
  have F4_a1_inclusive := F3_a1_inclusive.same W4
  have K4 : Keep h0 h4 [a1] := K3.wr W4 (Or.inl (List.mem_of_getElem? (i := 0) rfl))
  refine own_step st4 ?_
  show own_Go _ _ _ _ _ _ _ T4 (mkF m 20 #[.val (.ref a1), .val (.long q1), .second, .val (.long q2), .second, .val (.int p3)] [])
  refine own_retV X4 hx hlk Bd.returns (hb hby d1_20) (by decide) (by decide) ?_
  show own_Q1 Z a1 q1 q2 p3 h0 n0 none T4.heap _
  rw [e4]
  exact ⟨rfl, N4, K4, E4_a1, F4_a1_start, F4_a1_end, F4_a1_inclusive⟩
theorem d3_0 : decode prog_115_method_3_code 0 = .ok (.aload_n 0, 1) := by decide +kernel
theorem d3_1 : decode prog_115_method_3_code 1 = .ok (.getfield 16, 3) := by decide +kernel
theorem d3_4 : decode prog_115_method_3_code 4 = .ok (.ifCond .eq 23, 3) := by decide +kernel
theorem d3_7 : decode prog_115_method_3_code 7 = .ok (.aload_n 0, 1) := by decide +kernel
theorem d3_8 : decode prog_115_method_3_code 8 = .ok (.getfield 7, 3) := by decide +kernel
theorem d3_11 : decode prog_115_method_3_code 11 = .ok (.aload_n 0, 1) := by decide +kernel
theorem d3_12 : decode prog_115_method_3_code 12 = .ok (.getfield 13, 3) := by decide +kernel
theorem d3_15 : decode prog_115_method_3_code 15 = .ok (.lcmp, 1) := by decide +kernel
theorem d3_16 : decode prog_115_method_3_code 16 = .ok (.ifCond .le 7, 3) := by decide +kernel
theorem d3_19 : decode prog_115_method_3_code 19 = .ok (.iconst 1, 1) := by decide +kernel
theorem d3_20 : decode prog_115_method_3_code 20 = .ok (.goto 24, 3) := by decide +kernel
theorem d3_23 : decode prog_115_method_3_code 23 = .ok (.iconst 0, 1) := by decide +kernel
theorem d3_24 : decode prog_115_method_3_code 24 = .ok (.goto 20, 3) := by decide +kernel
theorem d3_27 : decode prog_115_method_3_code 27 = .ok (.aload_n 0, 1) := by decide +kernel
theorem d3_28 : decode prog_115_method_3_code 28 = .ok (.getfield 7, 3) := by decide +kernel
theorem d3_31 : decode prog_115_method_3_code 31 = .ok (.aload_n 0, 1) := by decide +kernel
theorem d3_32 : decode prog_115_method_3_code 32 = .ok (.getfield 13, 3) := by decide +kernel
theorem d3_35 : decode prog_115_method_3_code 35 = .ok (.lcmp, 1) := by decide +kernel
theorem d3_36 : decode prog_115_method_3_code 36 = .ok (.ifCond .lt 7, 3) := by decide +kernel
theorem d3_39 : decode prog_115_method_3_code 39 = .ok (.iconst 1, 1) := by decide +kernel
theorem d3_40 : decode prog_115_method_3_code 40 = .ok (.goto 4, 3) := by decide +kernel
theorem d3_43 : decode prog_115_method_3_code 43 = .ok (.iconst 0, 1) := by decide +kernel
theorem d3_44 : decode prog_115_method_3_code 44 = .ok (.ireturn, 1) := by decide +kernel
theorem own_pn3 : plainName "com/example/corvid/corvid/Range" = true := by first | (simp [plainName, overriddenIn]; done) | decide +kernel
theorem own_ef3 (m : MethodId) (x0 : Addr) : entryFrame m #[(.ref x0)] 1 = mkF m 0 #[.val (.ref x0)] [] := by first | (simp [entryFrame, mkF, argsToLocals, Value.category]; done) | rfl
def own_Q3 (Z : State) (a1 : Addr) (q1 : Int64) (q2 : Int64) (p3 : Int32) (h0 : Heap) (n0 : Nat) (v : Option Value) (h : Heap) (L : List Loc) : Prop := v = some (.int (own_emp q1 q2 p3)) ∧ Fr n0 L ∧ h = h0
set_option maxRecDepth 65536 in
set_option maxHeartbeats 40000000 in
theorem own_rm3 (l : Launch) (Z : State) (a0 : Array Value) (hw : ∀ d ∈ tables_1, d.before a0 Z = true) (ws : List Jvm.Cond) (a1 : Addr) (q1 : Int64) (q2 : Int64) (p3 : Int32) (h0 : Heap) (n0 : Nat) (Z0 : n0 ≤ h0.size) (Fstart : Fld Z h0 a1 "com/example/corvid/corvid/Range" "start" "J" (.long q1)) (Fend : Fld Z h0 a1 "com/example/corvid/corvid/Range" "end" "J" (.long q2)) (Finclusive : Fld Z h0 a1 "com/example/corvid/corvid/Range" "inclusive" "Z" (.int p3)) :
    MetFree l (⟨"com/example/corvid/corvid/Range", "isEmpty", "()Z"⟩ : MethodName) (head1 (Jvm.Cond.code (⟨"com/example/corvid/corvid/Range", "isEmpty", "()Z"⟩ : MethodName) prog_115_method_3_code 1 (some .boolean) :: ws) ({ frames := 0, cells := 0, slots := 0, locals := 0 } : Room)) (fun a U => a = #[(.ref a1)] ∧ Z.Warmed39 U.vm ∧ U.heap = h0) (fun _ _ _ _ _ => True) (fun _ U o U' => ∃ v L, o = .returned v ∧ own_Q3 Z a1 q1 q2 p3 h0 n0 v U'.heap L ∧ FrameEnd U o U' L ({ frames := 0, cells := 0, slots := 0, locals := 0 } : Room).cells ({ frames := 0, cells := 0, slots := 0, locals := 0 } : Room).slots) := by
  refine MetFree.of_bodySF (plainFor_of_name own_pn3) hisR ?_
  intro p e s m args below meth c s₁ Bd hml0 hP hK
  obtain ⟨rfl, hZ, hh⟩ := hP
  have hx := Bd.exec
  have hby := Bd.bytes
  have hml : c.maxLocals = 1 := hml0
  have hlk : meth.locks = false := BodyLoose.notSynchronized Bd
  have hown : s.vm.findClass "com/example/corvid/corvid/Range" = some m.cls := findClass_of_methodNamed Bd.named
  have hnm := (name_of_methodNamed Bd.named Bd.method).1
  have X0 : Stand p l e ({ frames := 0, cells := 0, slots := 0, locals := 0 } : Room) s m #[(.ref a1)] below meth c s₁ [] 0 0 := Stand.of_body Bd
  have e0 : s₁.heap = h0 := by rw [← hh, Bd.state]; rfl
  have N0 := Fr.nil n0
  show own_Go p e below s ({ frames := 0, cells := 0, slots := 0, locals := 0 } : Room).cells ({ frames := 0, cells := 0, slots := 0, locals := 0 } : Room).slots (own_Q3 Z a1 q1 q2 p3 h0 n0) s₁ (entryFrame m #[(.ref a1)] 1)
  refine own_step (fun t k => castTop (own_ef3 m a1) k) ?_
  show own_Go _ _ _ _ _ _ _ s₁ (mkF m 0 #[.val (.ref a1)] [])
  refine own_step (fun t k => XS.aloadN X0.here hx rfl (hb hby d3_0) rfl rfl k) ?_
  show own_Go _ _ _ _ _ _ _ s₁ (mkF m 1 #[.val (.ref a1)] [(.ref a1)])
  obtain ⟨T1, X1, e1, st1⟩ := getF X0 hx hZ hown (host := "") (Or.inl (hw _ (List.mem_of_getElem? (i := 13) rfl))) Via.refl e0 Finclusive (g := (mkF m 1 #[.val (.ref a1)] [(.ref a1)])) rfl rfl (hb hby d3_1)
  refine own_step st1 ?_
  rcases Classical.em (p3 = (0 : Int32)) with c4_2 | c4_2
  · show own_Go _ _ _ _ _ _ _ T1 (mkF m 4 #[.val (.ref a1)] [(.int p3)])
    refine own_step (fun t k => XS.ifYes X1.here hx rfl (pc0 := 4) (pc' := 27) rfl (hb hby d3_4) rfl ((if0 _ _).trans (teq (c4_2)).1) (by decide) (by decide) k) ?_
    show own_Go _ _ _ _ _ _ _ T1 (mkF m 27 #[.val (.ref a1)] [])
    refine own_step (fun t k => XS.aloadN X1.here hx rfl (hb hby d3_27) rfl rfl k) ?_
    show own_Go _ _ _ _ _ _ _ T1 (mkF m 28 #[.val (.ref a1)] [(.ref a1)])
    obtain ⟨T3, X3, e3, st3⟩ := getF X1 hx hZ hown (host := "") (Or.inl (hw _ (List.mem_of_getElem? (i := 9) rfl))) Via.refl e1 Fstart (g := (mkF m 28 #[.val (.ref a1)] [(.ref a1)])) rfl rfl (hb hby d3_28)
    refine own_step st3 ?_
    show own_Go _ _ _ _ _ _ _ T3 (mkF m 31 #[.val (.ref a1)] [(.long q1)])
    refine own_step (fun t k => XS.aloadN X3.here hx rfl (hb hby d3_31) rfl rfl k) ?_
    show own_Go _ _ _ _ _ _ _ T3 (mkF m 32 #[.val (.ref a1)] [(.ref a1), (.long q1)])
    obtain ⟨T4, X4, e4, st4⟩ := getF X3 hx hZ hown (host := "") (Or.inl (hw _ (List.mem_of_getElem? (i := 11) rfl))) Via.refl e3 Fend (g := (mkF m 32 #[.val (.ref a1)] [(.ref a1), (.long q1)])) rfl rfl (hb hby d3_32)
    refine own_step st4 ?_
    show own_Go _ _ _ _ _ _ _ T4 (mkF m 35 #[.val (.ref a1)] [(.long q2), (.long q1)])
    refine own_step (fun t k => XS.lcmp X4.here hx rfl (hb hby d3_35) rfl k) ?_
    rcases Classical.em ((lcmpW q1 q2) < (0 : Int32)) with c36_5 | c36_5
    · show own_Go _ _ _ _ _ _ _ T4 (mkF m 36 #[.val (.ref a1)] [(.int (lcmpW q1 q2))])
      refine own_step (fun t k => XS.ifYes X4.here hx rfl (pc0 := 36) (pc' := 43) rfl (hb hby d3_36) rfl ((if0 _ _).trans (tlt (c36_5)).1) (by decide) (by decide) k) ?_
      show own_Go _ _ _ _ _ _ _ T4 (mkF m 43 #[.val (.ref a1)] [])
      refine own_step (fun t k => XS.iconst X4.here hx rfl (hb hby d3_43) k) ?_
      try simp only [lw_lt, lw_gt, lw_eq] at c4_2 c36_5
      show own_Go _ _ _ _ _ _ _ T4 (mkF m 44 #[.val (.ref a1)] [(.int (0 : Int32))])
      refine own_ret X4 hx hlk Bd.returns rfl (Or.inl ⟨rfl, Or.inr (Or.inl rfl), _, rfl⟩) (hb hby d3_44) (by decide) (by decide) ?_
      show own_Q3 Z a1 q1 q2 p3 h0 n0 (some (.int (0 : Int32))) T4.heap _
      rw [e4]
      exact ⟨by simp [own_emp, c4_2, c36_5], N0, rfl⟩
    · show own_Go _ _ _ _ _ _ _ T4 (mkF m 36 #[.val (.ref a1)] [(.int (lcmpW q1 q2))])
      refine own_step (fun t k => XS.ifNo X4.here hx rfl (hb hby d3_36) rfl ((if0 _ _).trans (flt (c36_5)).1) k) ?_
      show own_Go _ _ _ _ _ _ _ T4 (mkF m 39 #[.val (.ref a1)] [])
      refine own_step (fun t k => XS.iconst X4.here hx rfl (hb hby d3_39) k) ?_
      show own_Go _ _ _ _ _ _ _ T4 (mkF m 40 #[.val (.ref a1)] [(.int (1 : Int32))])
      refine own_step (fun t k => XS.goto X4.here hx rfl (pc0 := 40) (pc' := 44) rfl (hb hby d3_40) (by decide) (by decide) k) ?_
      try simp only [lw_lt, lw_gt, lw_eq] at c4_2 c36_5
      show own_Go _ _ _ _ _ _ _ T4 (mkF m 44 #[.val (.ref a1)] [(.int (1 : Int32))])
      refine own_ret X4 hx hlk Bd.returns rfl (Or.inl ⟨rfl, Or.inr (Or.inl rfl), _, rfl⟩) (hb hby d3_44) (by decide) (by decide) ?_
      show own_Q3 Z a1 q1 q2 p3 h0 n0 (some (.int (1 : Int32))) T4.heap _
      rw [e4]
      exact ⟨by simp [own_emp, c4_2, c36_5], N0, rfl⟩
  · show own_Go _ _ _ _ _ _ _ T1 (mkF m 4 #[.val (.ref a1)] [(.int p3)])
    refine own_step (fun t k => XS.ifNo X1.here hx rfl (hb hby d3_4) rfl ((if0 _ _).trans (feq (c4_2)).1) k) ?_
    show own_Go _ _ _ _ _ _ _ T1 (mkF m 7 #[.val (.ref a1)] [])
    refine own_step (fun t k => XS.aloadN X1.here hx rfl (hb hby d3_7) rfl rfl k) ?_
    show own_Go _ _ _ _ _ _ _ T1 (mkF m 8 #[.val (.ref a1)] [(.ref a1)])
    obtain ⟨T6, X6, e6, st6⟩ := getF X1 hx hZ hown (host := "") (Or.inl (hw _ (List.mem_of_getElem? (i := 9) rfl))) Via.refl e1 Fstart (g := (mkF m 8 #[.val (.ref a1)] [(.ref a1)])) rfl rfl (hb hby d3_8)
    refine own_step st6 ?_
    show own_Go _ _ _ _ _ _ _ T6 (mkF m 11 #[.val (.ref a1)] [(.long q1)])
    refine own_step (fun t k => XS.aloadN X6.here hx rfl (hb hby d3_11) rfl rfl k) ?_
    show own_Go _ _ _ _ _ _ _ T6 (mkF m 12 #[.val (.ref a1)] [(.ref a1), (.long q1)])
    obtain ⟨T7, X7, e7, st7⟩ := getF X6 hx hZ hown (host := "") (Or.inl (hw _ (List.mem_of_getElem? (i := 11) rfl))) Via.refl e6 Fend (g := (mkF m 12 #[.val (.ref a1)] [(.ref a1), (.long q1)])) rfl rfl (hb hby d3_12)
    refine own_step st7 ?_
    show own_Go _ _ _ _ _ _ _ T7 (mkF m 15 #[.val (.ref a1)] [(.long q2), (.long q1)])
    refine own_step (fun t k => XS.lcmp X7.here hx rfl (hb hby d3_15) rfl k) ?_
    rcases Classical.em ((0 : Int32) < (lcmpW q1 q2)) with c16_8 | c16_8
    · show own_Go _ _ _ _ _ _ _ T7 (mkF m 16 #[.val (.ref a1)] [(.int (lcmpW q1 q2))])
      refine own_step (fun t k => XS.ifNo X7.here hx rfl (hb hby d3_16) rfl ((if0 _ _).trans (tlt (c16_8)).2.2.2) k) ?_
      show own_Go _ _ _ _ _ _ _ T7 (mkF m 19 #[.val (.ref a1)] [])
      refine own_step (fun t k => XS.iconst X7.here hx rfl (hb hby d3_19) k) ?_
      show own_Go _ _ _ _ _ _ _ T7 (mkF m 20 #[.val (.ref a1)] [(.int (1 : Int32))])
      refine own_step (fun t k => XS.goto X7.here hx rfl (pc0 := 20) (pc' := 44) rfl (hb hby d3_20) (by decide) (by decide) k) ?_
      try simp only [lw_lt, lw_gt, lw_eq] at c4_2 c16_8
      show own_Go _ _ _ _ _ _ _ T7 (mkF m 44 #[.val (.ref a1)] [(.int (1 : Int32))])
      refine own_ret X7 hx hlk Bd.returns rfl (Or.inl ⟨rfl, Or.inr (Or.inl rfl), _, rfl⟩) (hb hby d3_44) (by decide) (by decide) ?_
      show own_Q3 Z a1 q1 q2 p3 h0 n0 (some (.int (1 : Int32))) T7.heap _
      rw [e7]
      exact ⟨by simp [own_emp, c4_2, c16_8], N0, rfl⟩
    · show own_Go _ _ _ _ _ _ _ T7 (mkF m 16 #[.val (.ref a1)] [(.int (lcmpW q1 q2))])
      refine own_step (fun t k => XS.ifYes X7.here hx rfl (pc0 := 16) (pc' := 23) rfl (hb hby d3_16) rfl ((if0 _ _).trans (flt (c16_8)).2.2.2) (by decide) (by decide) k) ?_
      show own_Go _ _ _ _ _ _ _ T7 (mkF m 23 #[.val (.ref a1)] [])
      refine own_step (fun t k => XS.iconst X7.here hx rfl (hb hby d3_23) k) ?_
      show own_Go _ _ _ _ _ _ _ T7 (mkF m 24 #[.val (.ref a1)] [(.int (0 : Int32))])
      refine own_step (fun t k => XS.goto X7.here hx rfl (pc0 := 24) (pc' := 44) rfl (hb hby d3_24) (by decide) (by decide) k) ?_
      try simp only [lw_lt, lw_gt, lw_eq] at c4_2 c16_8
      show own_Go _ _ _ _ _ _ _ T7 (mkF m 44 #[.val (.ref a1)] [(.int (0 : Int32))])
      refine own_ret X7 hx hlk Bd.returns rfl (Or.inl ⟨rfl, Or.inr (Or.inl rfl), _, rfl⟩) (hb hby d3_44) (by decide) (by decide) ?_
      show own_Q3 Z a1 q1 q2 p3 h0 n0 (some (.int (0 : Int32))) T7.heap _
      rw [e7]
      exact ⟨by simp [own_emp, c4_2, c16_8], N0, rfl⟩
theorem d5_0 : decode prog_115_method_4_code 0 = .ok (.aload_n 0, 1) := by decide +kernel
theorem d5_1 : decode prog_115_method_4_code 1 = .ok (.getfield 16, 3) := by decide +kernel
theorem d5_4 : decode prog_115_method_4_code 4 = .ok (.ifCond .eq 10, 3) := by decide +kernel
theorem d5_7 : decode prog_115_method_4_code 7 = .ok (.aload_n 0, 1) := by decide +kernel
theorem d5_8 : decode prog_115_method_4_code 8 = .ok (.getfield 13, 3) := by decide +kernel
theorem d5_11 : decode prog_115_method_4_code 11 = .ok (.goto 9, 3) := by decide +kernel
theorem d5_14 : decode prog_115_method_4_code 14 = .ok (.aload_n 0, 1) := by decide +kernel
theorem d5_15 : decode prog_115_method_4_code 15 = .ok (.getfield 13, 3) := by decide +kernel
theorem d5_18 : decode prog_115_method_4_code 18 = .ok (.lconst 1, 1) := by decide +kernel
theorem d5_19 : decode prog_115_method_4_code 19 = .ok (.lsub, 1) := by decide +kernel
theorem d5_20 : decode prog_115_method_4_code 20 = .ok (.lreturn, 1) := by decide +kernel
theorem own_pn5 : plainName "com/example/corvid/corvid/Range" = true := by first | (simp [plainName, overriddenIn]; done) | decide +kernel
theorem own_ef5 (m : MethodId) (x0 : Addr) : entryFrame m #[(.ref x0)] 1 = mkF m 0 #[.val (.ref x0)] [] := by first | (simp [entryFrame, mkF, argsToLocals, Value.category]; done) | rfl
def own_Q5 (Z : State) (a1 : Addr) (q1 : Int64) (q2 : Int64) (p3 : Int32) (h0 : Heap) (n0 : Nat) (v : Option Value) (h : Heap) (L : List Loc) : Prop := v = some (.long (own_last q2 p3)) ∧ Fr n0 L ∧ h = h0
set_option maxRecDepth 65536 in
set_option maxHeartbeats 40000000 in
theorem own_rm5 (l : Launch) (Z : State) (a0 : Array Value) (hw : ∀ d ∈ tables_1, d.before a0 Z = true) (ws : List Jvm.Cond) (a1 : Addr) (q1 : Int64) (q2 : Int64) (p3 : Int32) (h0 : Heap) (n0 : Nat) (Z0 : n0 ≤ h0.size) (Fstart : Fld Z h0 a1 "com/example/corvid/corvid/Range" "start" "J" (.long q1)) (Fend : Fld Z h0 a1 "com/example/corvid/corvid/Range" "end" "J" (.long q2)) (Finclusive : Fld Z h0 a1 "com/example/corvid/corvid/Range" "inclusive" "Z" (.int p3)) :
    MetFree l (⟨"com/example/corvid/corvid/Range", "last", "()J"⟩ : MethodName) (head1 (Jvm.Cond.code (⟨"com/example/corvid/corvid/Range", "last", "()J"⟩ : MethodName) prog_115_method_4_code 1 (some .long) :: ws) ({ frames := 0, cells := 0, slots := 0, locals := 0 } : Room)) (fun a U => a = #[(.ref a1)] ∧ Z.Warmed39 U.vm ∧ U.heap = h0) (fun _ _ _ _ _ => True) (fun _ U o U' => ∃ v L, o = .returned v ∧ own_Q5 Z a1 q1 q2 p3 h0 n0 v U'.heap L ∧ FrameEnd U o U' L ({ frames := 0, cells := 0, slots := 0, locals := 0 } : Room).cells ({ frames := 0, cells := 0, slots := 0, locals := 0 } : Room).slots) := by
  refine MetFree.of_bodySF (plainFor_of_name own_pn5) hisR ?_
  intro p e s m args below meth c s₁ Bd hml0 hP hK
  obtain ⟨rfl, hZ, hh⟩ := hP
  have hx := Bd.exec
  have hby := Bd.bytes
  have hml : c.maxLocals = 1 := hml0
  have hlk : meth.locks = false := BodyLoose.notSynchronized Bd
  have hown : s.vm.findClass "com/example/corvid/corvid/Range" = some m.cls := findClass_of_methodNamed Bd.named
  have hnm := (name_of_methodNamed Bd.named Bd.method).1
  have X0 : Stand p l e ({ frames := 0, cells := 0, slots := 0, locals := 0 } : Room) s m #[(.ref a1)] below meth c s₁ [] 0 0 := Stand.of_body Bd
  have e0 : s₁.heap = h0 := by rw [← hh, Bd.state]; rfl
  have N0 := Fr.nil n0
  show own_Go p e below s ({ frames := 0, cells := 0, slots := 0, locals := 0 } : Room).cells ({ frames := 0, cells := 0, slots := 0, locals := 0 } : Room).slots (own_Q5 Z a1 q1 q2 p3 h0 n0) s₁ (entryFrame m #[(.ref a1)] 1)
  refine own_step (fun t k => castTop (own_ef5 m a1) k) ?_
  show own_Go _ _ _ _ _ _ _ s₁ (mkF m 0 #[.val (.ref a1)] [])
  refine own_step (fun t k => XS.aloadN X0.here hx rfl (hb hby d5_0) rfl rfl k) ?_
  show own_Go _ _ _ _ _ _ _ s₁ (mkF m 1 #[.val (.ref a1)] [(.ref a1)])
  obtain ⟨T1, X1, e1, st1⟩ := getF X0 hx hZ hown (host := "") (Or.inl (hw _ (List.mem_of_getElem? (i := 13) rfl))) Via.refl e0 Finclusive (g := (mkF m 1 #[.val (.ref a1)] [(.ref a1)])) rfl rfl (hb hby d5_1)
  refine own_step st1 ?_
  rcases Classical.em (p3 = (0 : Int32)) with c4_2 | c4_2
  · show own_Go _ _ _ _ _ _ _ T1 (mkF m 4 #[.val (.ref a1)] [(.int p3)])
    refine own_step (fun t k => XS.ifYes X1.here hx rfl (pc0 := 4) (pc' := 14) rfl (hb hby d5_4) rfl ((if0 _ _).trans (teq (c4_2)).1) (by decide) (by decide) k) ?_
    show own_Go _ _ _ _ _ _ _ T1 (mkF m 14 #[.val (.ref a1)] [])
    refine own_step (fun t k => XS.aloadN X1.here hx rfl (hb hby d5_14) rfl rfl k) ?_
    show own_Go _ _ _ _ _ _ _ T1 (mkF m 15 #[.val (.ref a1)] [(.ref a1)])
    obtain ⟨T3, X3, e3, st3⟩ := getF X1 hx hZ hown (host := "") (Or.inl (hw _ (List.mem_of_getElem? (i := 11) rfl))) Via.refl e1 Fend (g := (mkF m 15 #[.val (.ref a1)] [(.ref a1)])) rfl rfl (hb hby d5_15)
    refine own_step st3 ?_
    show own_Go _ _ _ _ _ _ _ T3 (mkF m 18 #[.val (.ref a1)] [(.long q2)])
    refine own_step (fun t k => XS.lconst X3.here hx rfl (hb hby d5_18) k) ?_
    show own_Go _ _ _ _ _ _ _ T3 (mkF m 19 #[.val (.ref a1)] [(.long (1 : Int64)), (.long q2)])
    refine own_step (fun t k => XS.lsub X3.here hx rfl (hb hby d5_19) rfl k) ?_
    try simp only [lw_lt, lw_gt, lw_eq] at c4_2
    show own_Go _ _ _ _ _ _ _ T3 (mkF m 20 #[.val (.ref a1)] [(.long (q2 - (1 : Int64)))])
    refine own_ret X3 hx hlk Bd.returns rfl (Or.inr (Or.inl ⟨rfl, rfl, _, rfl⟩)) (hb hby d5_20) (by decide) (by decide) ?_
    show own_Q5 Z a1 q1 q2 p3 h0 n0 (some (.long (q2 - (1 : Int64)))) T3.heap _
    rw [e3]
    exact ⟨by simp [own_last, c4_2], N0, rfl⟩
  · show own_Go _ _ _ _ _ _ _ T1 (mkF m 4 #[.val (.ref a1)] [(.int p3)])
    refine own_step (fun t k => XS.ifNo X1.here hx rfl (hb hby d5_4) rfl ((if0 _ _).trans (feq (c4_2)).1) k) ?_
    show own_Go _ _ _ _ _ _ _ T1 (mkF m 7 #[.val (.ref a1)] [])
    refine own_step (fun t k => XS.aloadN X1.here hx rfl (hb hby d5_7) rfl rfl k) ?_
    show own_Go _ _ _ _ _ _ _ T1 (mkF m 8 #[.val (.ref a1)] [(.ref a1)])
    obtain ⟨T4, X4, e4, st4⟩ := getF X1 hx hZ hown (host := "") (Or.inl (hw _ (List.mem_of_getElem? (i := 11) rfl))) Via.refl e1 Fend (g := (mkF m 8 #[.val (.ref a1)] [(.ref a1)])) rfl rfl (hb hby d5_8)
    refine own_step st4 ?_
    show own_Go _ _ _ _ _ _ _ T4 (mkF m 11 #[.val (.ref a1)] [(.long q2)])
    refine own_step (fun t k => XS.goto X4.here hx rfl (pc0 := 11) (pc' := 20) rfl (hb hby d5_11) (by decide) (by decide) k) ?_
    try simp only [lw_lt, lw_gt, lw_eq] at c4_2
    show own_Go _ _ _ _ _ _ _ T4 (mkF m 20 #[.val (.ref a1)] [(.long q2)])
    refine own_ret X4 hx hlk Bd.returns rfl (Or.inr (Or.inl ⟨rfl, rfl, _, rfl⟩)) (hb hby d5_20) (by decide) (by decide) ?_
    show own_Q5 Z a1 q1 q2 p3 h0 n0 (some (.long q2)) T4.heap _
    rw [e4]
    exact ⟨by simp [own_last, c4_2], N0, rfl⟩
theorem d6_0 : decode prog_115_method_2_code 0 = .ok (.aload_n 0, 1) := by decide +kernel
theorem d6_1 : decode prog_115_method_2_code 1 = .ok (.getfield 7, 3) := by decide +kernel
theorem d6_4 : decode prog_115_method_2_code 4 = .ok (.lreturn, 1) := by decide +kernel
theorem own_pn6 : plainName "com/example/corvid/corvid/Range" = true := by first | (simp [plainName, overriddenIn]; done) | decide +kernel
theorem own_ef6 (m : MethodId) (x0 : Addr) : entryFrame m #[(.ref x0)] 1 = mkF m 0 #[.val (.ref x0)] [] := by first | (simp [entryFrame, mkF, argsToLocals, Value.category]; done) | rfl
def own_Q6 (Z : State) (a1 : Addr) (q1 : Int64) (q2 : Int64) (p3 : Int32) (h0 : Heap) (n0 : Nat) (v : Option Value) (h : Heap) (L : List Loc) : Prop := v = some (.long q1) ∧ Fr n0 L ∧ h = h0
set_option maxRecDepth 65536 in
set_option maxHeartbeats 40000000 in
theorem own_rm6 (l : Launch) (Z : State) (a0 : Array Value) (hw : ∀ d ∈ tables_1, d.before a0 Z = true) (ws : List Jvm.Cond) (a1 : Addr) (q1 : Int64) (q2 : Int64) (p3 : Int32) (h0 : Heap) (n0 : Nat) (Z0 : n0 ≤ h0.size) (Fstart : Fld Z h0 a1 "com/example/corvid/corvid/Range" "start" "J" (.long q1)) (Fend : Fld Z h0 a1 "com/example/corvid/corvid/Range" "end" "J" (.long q2)) (Finclusive : Fld Z h0 a1 "com/example/corvid/corvid/Range" "inclusive" "Z" (.int p3)) :
    MetFree l (⟨"com/example/corvid/corvid/Range", "start", "()J"⟩ : MethodName) (head1 (Jvm.Cond.code (⟨"com/example/corvid/corvid/Range", "start", "()J"⟩ : MethodName) prog_115_method_2_code 1 (some .long) :: ws) ({ frames := 0, cells := 0, slots := 0, locals := 0 } : Room)) (fun a U => a = #[(.ref a1)] ∧ Z.Warmed39 U.vm ∧ U.heap = h0) (fun _ _ _ _ _ => True) (fun _ U o U' => ∃ v L, o = .returned v ∧ own_Q6 Z a1 q1 q2 p3 h0 n0 v U'.heap L ∧ FrameEnd U o U' L ({ frames := 0, cells := 0, slots := 0, locals := 0 } : Room).cells ({ frames := 0, cells := 0, slots := 0, locals := 0 } : Room).slots) := by
  refine MetFree.of_bodySF (plainFor_of_name own_pn6) hisR ?_
  intro p e s m args below meth c s₁ Bd hml0 hP hK
  obtain ⟨rfl, hZ, hh⟩ := hP
  have hx := Bd.exec
  have hby := Bd.bytes
  have hml : c.maxLocals = 1 := hml0
  have hlk : meth.locks = false := BodyLoose.notSynchronized Bd
  have hown : s.vm.findClass "com/example/corvid/corvid/Range" = some m.cls := findClass_of_methodNamed Bd.named
  have hnm := (name_of_methodNamed Bd.named Bd.method).1
  have X0 : Stand p l e ({ frames := 0, cells := 0, slots := 0, locals := 0 } : Room) s m #[(.ref a1)] below meth c s₁ [] 0 0 := Stand.of_body Bd
  have e0 : s₁.heap = h0 := by rw [← hh, Bd.state]; rfl
  have N0 := Fr.nil n0
  show own_Go p e below s ({ frames := 0, cells := 0, slots := 0, locals := 0 } : Room).cells ({ frames := 0, cells := 0, slots := 0, locals := 0 } : Room).slots (own_Q6 Z a1 q1 q2 p3 h0 n0) s₁ (entryFrame m #[(.ref a1)] 1)
  refine own_step (fun t k => castTop (own_ef6 m a1) k) ?_
  show own_Go _ _ _ _ _ _ _ s₁ (mkF m 0 #[.val (.ref a1)] [])
  refine own_step (fun t k => XS.aloadN X0.here hx rfl (hb hby d6_0) rfl rfl k) ?_
  show own_Go _ _ _ _ _ _ _ s₁ (mkF m 1 #[.val (.ref a1)] [(.ref a1)])
  obtain ⟨T1, X1, e1, st1⟩ := getF X0 hx hZ hown (host := "") (Or.inl (hw _ (List.mem_of_getElem? (i := 9) rfl))) Via.refl e0 Fstart (g := (mkF m 1 #[.val (.ref a1)] [(.ref a1)])) rfl rfl (hb hby d6_1)
  refine own_step st1 ?_
  show own_Go _ _ _ _ _ _ _ T1 (mkF m 4 #[.val (.ref a1)] [(.long q1)])
  refine own_ret X1 hx hlk Bd.returns rfl (Or.inr (Or.inl ⟨rfl, rfl, _, rfl⟩)) (hb hby d6_4) (by decide) (by decide) ?_
  show own_Q6 Z a1 q1 q2 p3 h0 n0 (some (.long q1)) T1.heap _
  rw [e1]
  exact ⟨rfl, N0, rfl⟩
theorem d4_0 : decode method_2_code 0 = .ok (.lload 5, 2) := by decide +kernel
theorem d4_2 : decode method_2_code 2 = .ok (.lload_n 0, 1) := by decide +kernel
theorem d4_3 : decode method_2_code 3 = .ok (.lcmp, 1) := by decide +kernel
theorem d4_4 : decode method_2_code 4 = .ok (.ifCond .ge 5, 3) := by decide +kernel
theorem d4_7 : decode method_2_code 7 = .ok (.iconst 0, 1) := by decide +kernel
theorem d4_8 : decode method_2_code 8 = .ok (.ireturn, 1) := by decide +kernel
theorem d4_9 : decode method_2_code 9 = .ok (.iload 4, 2) := by decide +kernel
theorem d4_11 : decode method_2_code 11 = .ok (.ifCond .eq 16, 3) := by decide +kernel
theorem d4_14 : decode method_2_code 14 = .ok (.lload 5, 2) := by decide +kernel
theorem d4_16 : decode method_2_code 16 = .ok (.lload_n 2, 1) := by decide +kernel
theorem d4_17 : decode method_2_code 17 = .ok (.lcmp, 1) := by decide +kernel
theorem d4_18 : decode method_2_code 18 = .ok (.ifCond .gt 7, 3) := by decide +kernel
theorem d4_21 : decode method_2_code 21 = .ok (.iconst 1, 1) := by decide +kernel
theorem d4_22 : decode method_2_code 22 = .ok (.goto 4, 3) := by decide +kernel
theorem d4_25 : decode method_2_code 25 = .ok (.iconst 0, 1) := by decide +kernel
theorem d4_26 : decode method_2_code 26 = .ok (.ireturn, 1) := by decide +kernel
theorem d4_27 : decode method_2_code 27 = .ok (.lload 5, 2) := by decide +kernel
theorem d4_29 : decode method_2_code 29 = .ok (.lload_n 2, 1) := by decide +kernel
theorem d4_30 : decode method_2_code 30 = .ok (.lcmp, 1) := by decide +kernel
theorem d4_31 : decode method_2_code 31 = .ok (.ifCond .ge 7, 3) := by decide +kernel
theorem d4_34 : decode method_2_code 34 = .ok (.iconst 1, 1) := by decide +kernel
theorem d4_35 : decode method_2_code 35 = .ok (.goto 4, 3) := by decide +kernel
theorem d4_38 : decode method_2_code 38 = .ok (.iconst 0, 1) := by decide +kernel
theorem d4_39 : decode method_2_code 39 = .ok (.ireturn, 1) := by decide +kernel
theorem own_pn4 : plainName "com/example/corvid/corvid/RangeIsEmptyPinLaw" = true := by first | (simp [plainName, overriddenIn]; done) | decide +kernel
theorem own_ef4 (m : MethodId) (x0 : Int64) (x1 : Int64) (x2 : Int32) (x3 : Int64) : entryFrame m #[(.long x0), (.long x1), (.int x2), (.long x3)] 7 = mkF m 0 #[.val (.long x0), .second, .val (.long x1), .second, .val (.int x2), .val (.long x3), .second] [] := by first | (simp [entryFrame, mkF, argsToLocals, Value.category]; done) | rfl
def own_Q4 (Z : State) (q1 : Int64) (q2 : Int64) (p3 : Int32) (q4 : Int64) (h0 : Heap) (n0 : Nat) (v : Option Value) (h : Heap) (L : List Loc) : Prop := v = some (.int (own_mem q1 q2 p3 q4)) ∧ Fr n0 L ∧ h = h0
set_option maxRecDepth 65536 in
set_option maxHeartbeats 40000000 in
theorem own_rm4 (l : Launch) (Z : State) (a0 : Array Value) (hw : ∀ d ∈ tables_1, d.before a0 Z = true) (ws : List Jvm.Cond) (q1 : Int64) (q2 : Int64) (p3 : Int32) (q4 : Int64) (h0 : Heap) (n0 : Nat) (Z0 : n0 ≤ h0.size)  :
    MetFree l (⟨"com/example/corvid/corvid/RangeIsEmptyPinLaw", "member", "(JJZJ)Z"⟩ : MethodName) (head1 (Jvm.Cond.code (⟨"com/example/corvid/corvid/RangeIsEmptyPinLaw", "member", "(JJZJ)Z"⟩ : MethodName) method_2_code 7 (some .boolean) :: ws) ({ frames := 0, cells := 0, slots := 0, locals := 0 } : Room)) (fun a U => a = #[(.long q1), (.long q2), (.int p3), (.long q4)] ∧ Z.Warmed39 U.vm ∧ U.heap = h0) (fun _ _ _ _ _ => True) (fun _ U o U' => ∃ v L, o = .returned v ∧ own_Q4 Z q1 q2 p3 q4 h0 n0 v U'.heap L ∧ FrameEnd U o U' L ({ frames := 0, cells := 0, slots := 0, locals := 0 } : Room).cells ({ frames := 0, cells := 0, slots := 0, locals := 0 } : Room).slots) := by
  refine MetFree.of_bodySF (plainFor_of_name own_pn4) hisR ?_
  intro p e s m args below meth c s₁ Bd hml0 hP hK
  obtain ⟨rfl, hZ, hh⟩ := hP
  have hx := Bd.exec
  have hby := Bd.bytes
  have hml : c.maxLocals = 7 := hml0
  have hlk : meth.locks = false := BodyLoose.notSynchronized Bd
  have hown : s.vm.findClass "com/example/corvid/corvid/RangeIsEmptyPinLaw" = some m.cls := findClass_of_methodNamed Bd.named
  have hnm := (name_of_methodNamed Bd.named Bd.method).1
  have X0 : Stand p l e ({ frames := 0, cells := 0, slots := 0, locals := 0 } : Room) s m #[(.long q1), (.long q2), (.int p3), (.long q4)] below meth c s₁ [] 0 0 := Stand.of_body Bd
  have e0 : s₁.heap = h0 := by rw [← hh, Bd.state]; rfl
  have N0 := Fr.nil n0
  show own_Go p e below s ({ frames := 0, cells := 0, slots := 0, locals := 0 } : Room).cells ({ frames := 0, cells := 0, slots := 0, locals := 0 } : Room).slots (own_Q4 Z q1 q2 p3 q4 h0 n0) s₁ (entryFrame m #[(.long q1), (.long q2), (.int p3), (.long q4)] 7)
  refine own_step (fun t k => castTop (own_ef4 m q1 q2 p3 q4) k) ?_
  show own_Go _ _ _ _ _ _ _ s₁ (mkF m 0 #[.val (.long q1), .second, .val (.long q2), .second, .val (.int p3), .val (.long q4), .second] [])
  refine own_step (fun t k => XS.lload X0.here hx rfl (hb hby d4_0) rfl k) ?_
  show own_Go _ _ _ _ _ _ _ s₁ (mkF m 2 #[.val (.long q1), .second, .val (.long q2), .second, .val (.int p3), .val (.long q4), .second] [(.long q4)])
  refine own_step (fun t k => XS.lloadN X0.here hx rfl (hb hby d4_2) rfl k) ?_
  show own_Go _ _ _ _ _ _ _ s₁ (mkF m 3 #[.val (.long q1), .second, .val (.long q2), .second, .val (.int p3), .val (.long q4), .second] [(.long q1), (.long q4)])
  refine own_step (fun t k => XS.lcmp X0.here hx rfl (hb hby d4_3) rfl k) ?_
  rcases Classical.em ((lcmpW q4 q1) < (0 : Int32)) with c4_1 | c4_1
  · show own_Go _ _ _ _ _ _ _ s₁ (mkF m 4 #[.val (.long q1), .second, .val (.long q2), .second, .val (.int p3), .val (.long q4), .second] [(.int (lcmpW q4 q1))])
    refine own_step (fun t k => XS.ifNo X0.here hx rfl (hb hby d4_4) rfl ((if0 _ _).trans (tlt (c4_1)).2.1) k) ?_
    show own_Go _ _ _ _ _ _ _ s₁ (mkF m 7 #[.val (.long q1), .second, .val (.long q2), .second, .val (.int p3), .val (.long q4), .second] [])
    refine own_step (fun t k => XS.iconst X0.here hx rfl (hb hby d4_7) k) ?_
    simp only [lw_lt, lw_gt, lw_eq] at c4_1
    show own_Go _ _ _ _ _ _ _ s₁ (mkF m 8 #[.val (.long q1), .second, .val (.long q2), .second, .val (.int p3), .val (.long q4), .second] [(.int (0 : Int32))])
    refine own_ret X0 hx hlk Bd.returns rfl (Or.inl ⟨rfl, Or.inr (Or.inl rfl), _, rfl⟩) (hb hby d4_8) (by decide) (by decide) ?_
    show own_Q4 Z q1 q2 p3 q4 h0 n0 (some (.int (0 : Int32))) s₁.heap _
    rw [e0]
    exact ⟨by simp [own_mem, c4_1], N0, rfl⟩
  · show own_Go _ _ _ _ _ _ _ s₁ (mkF m 4 #[.val (.long q1), .second, .val (.long q2), .second, .val (.int p3), .val (.long q4), .second] [(.int (lcmpW q4 q1))])
    refine own_step (fun t k => XS.ifYes X0.here hx rfl (pc0 := 4) (pc' := 9) rfl (hb hby d4_4) rfl ((if0 _ _).trans (flt (c4_1)).2.1) (by decide) (by decide) k) ?_
    show own_Go _ _ _ _ _ _ _ s₁ (mkF m 9 #[.val (.long q1), .second, .val (.long q2), .second, .val (.int p3), .val (.long q4), .second] [])
    refine own_step (fun t k => XS.iload X0.here hx rfl (hb hby d4_9) rfl k) ?_
    rcases Classical.em (p3 = (0 : Int32)) with c11_2 | c11_2
    · show own_Go _ _ _ _ _ _ _ s₁ (mkF m 11 #[.val (.long q1), .second, .val (.long q2), .second, .val (.int p3), .val (.long q4), .second] [(.int p3)])
      refine own_step (fun t k => XS.ifYes X0.here hx rfl (pc0 := 11) (pc' := 27) rfl (hb hby d4_11) rfl ((if0 _ _).trans (teq (c11_2)).1) (by decide) (by decide) k) ?_
      show own_Go _ _ _ _ _ _ _ s₁ (mkF m 27 #[.val (.long q1), .second, .val (.long q2), .second, .val (.int p3), .val (.long q4), .second] [])
      refine own_step (fun t k => XS.lload X0.here hx rfl (hb hby d4_27) rfl k) ?_
      show own_Go _ _ _ _ _ _ _ s₁ (mkF m 29 #[.val (.long q1), .second, .val (.long q2), .second, .val (.int p3), .val (.long q4), .second] [(.long q4)])
      refine own_step (fun t k => XS.lloadN X0.here hx rfl (hb hby d4_29) rfl k) ?_
      show own_Go _ _ _ _ _ _ _ s₁ (mkF m 30 #[.val (.long q1), .second, .val (.long q2), .second, .val (.int p3), .val (.long q4), .second] [(.long q2), (.long q4)])
      refine own_step (fun t k => XS.lcmp X0.here hx rfl (hb hby d4_30) rfl k) ?_
      rcases Classical.em ((lcmpW q4 q2) < (0 : Int32)) with c31_3 | c31_3
      · show own_Go _ _ _ _ _ _ _ s₁ (mkF m 31 #[.val (.long q1), .second, .val (.long q2), .second, .val (.int p3), .val (.long q4), .second] [(.int (lcmpW q4 q2))])
        refine own_step (fun t k => XS.ifNo X0.here hx rfl (hb hby d4_31) rfl ((if0 _ _).trans (tlt (c31_3)).2.1) k) ?_
        show own_Go _ _ _ _ _ _ _ s₁ (mkF m 34 #[.val (.long q1), .second, .val (.long q2), .second, .val (.int p3), .val (.long q4), .second] [])
        refine own_step (fun t k => XS.iconst X0.here hx rfl (hb hby d4_34) k) ?_
        show own_Go _ _ _ _ _ _ _ s₁ (mkF m 35 #[.val (.long q1), .second, .val (.long q2), .second, .val (.int p3), .val (.long q4), .second] [(.int (1 : Int32))])
        refine own_step (fun t k => XS.goto X0.here hx rfl (pc0 := 35) (pc' := 39) rfl (hb hby d4_35) (by decide) (by decide) k) ?_
        simp only [lw_lt, lw_gt, lw_eq] at c4_1 c11_2 c31_3
        show own_Go _ _ _ _ _ _ _ s₁ (mkF m 39 #[.val (.long q1), .second, .val (.long q2), .second, .val (.int p3), .val (.long q4), .second] [(.int (1 : Int32))])
        refine own_ret X0 hx hlk Bd.returns rfl (Or.inl ⟨rfl, Or.inr (Or.inl rfl), _, rfl⟩) (hb hby d4_39) (by decide) (by decide) ?_
        show own_Q4 Z q1 q2 p3 q4 h0 n0 (some (.int (1 : Int32))) s₁.heap _
        rw [e0]
        exact ⟨by simp [own_mem, c4_1, c11_2, c31_3], N0, rfl⟩
      · show own_Go _ _ _ _ _ _ _ s₁ (mkF m 31 #[.val (.long q1), .second, .val (.long q2), .second, .val (.int p3), .val (.long q4), .second] [(.int (lcmpW q4 q2))])
        refine own_step (fun t k => XS.ifYes X0.here hx rfl (pc0 := 31) (pc' := 38) rfl (hb hby d4_31) rfl ((if0 _ _).trans (flt (c31_3)).2.1) (by decide) (by decide) k) ?_
        show own_Go _ _ _ _ _ _ _ s₁ (mkF m 38 #[.val (.long q1), .second, .val (.long q2), .second, .val (.int p3), .val (.long q4), .second] [])
        refine own_step (fun t k => XS.iconst X0.here hx rfl (hb hby d4_38) k) ?_
        simp only [lw_lt, lw_gt, lw_eq] at c4_1 c11_2 c31_3
        show own_Go _ _ _ _ _ _ _ s₁ (mkF m 39 #[.val (.long q1), .second, .val (.long q2), .second, .val (.int p3), .val (.long q4), .second] [(.int (0 : Int32))])
        refine own_ret X0 hx hlk Bd.returns rfl (Or.inl ⟨rfl, Or.inr (Or.inl rfl), _, rfl⟩) (hb hby d4_39) (by decide) (by decide) ?_
        show own_Q4 Z q1 q2 p3 q4 h0 n0 (some (.int (0 : Int32))) s₁.heap _
        rw [e0]
        exact ⟨by simp [own_mem, c4_1, c11_2, c31_3], N0, rfl⟩
    · show own_Go _ _ _ _ _ _ _ s₁ (mkF m 11 #[.val (.long q1), .second, .val (.long q2), .second, .val (.int p3), .val (.long q4), .second] [(.int p3)])
      refine own_step (fun t k => XS.ifNo X0.here hx rfl (hb hby d4_11) rfl ((if0 _ _).trans (feq (c11_2)).1) k) ?_
      show own_Go _ _ _ _ _ _ _ s₁ (mkF m 14 #[.val (.long q1), .second, .val (.long q2), .second, .val (.int p3), .val (.long q4), .second] [])
      refine own_step (fun t k => XS.lload X0.here hx rfl (hb hby d4_14) rfl k) ?_
      show own_Go _ _ _ _ _ _ _ s₁ (mkF m 16 #[.val (.long q1), .second, .val (.long q2), .second, .val (.int p3), .val (.long q4), .second] [(.long q4)])
      refine own_step (fun t k => XS.lloadN X0.here hx rfl (hb hby d4_16) rfl k) ?_
      show own_Go _ _ _ _ _ _ _ s₁ (mkF m 17 #[.val (.long q1), .second, .val (.long q2), .second, .val (.int p3), .val (.long q4), .second] [(.long q2), (.long q4)])
      refine own_step (fun t k => XS.lcmp X0.here hx rfl (hb hby d4_17) rfl k) ?_
      rcases Classical.em ((0 : Int32) < (lcmpW q4 q2)) with c18_4 | c18_4
      · show own_Go _ _ _ _ _ _ _ s₁ (mkF m 18 #[.val (.long q1), .second, .val (.long q2), .second, .val (.int p3), .val (.long q4), .second] [(.int (lcmpW q4 q2))])
        refine own_step (fun t k => XS.ifYes X0.here hx rfl (pc0 := 18) (pc' := 25) rfl (hb hby d4_18) rfl ((if0 _ _).trans (tlt (c18_4)).2.2.1) (by decide) (by decide) k) ?_
        show own_Go _ _ _ _ _ _ _ s₁ (mkF m 25 #[.val (.long q1), .second, .val (.long q2), .second, .val (.int p3), .val (.long q4), .second] [])
        refine own_step (fun t k => XS.iconst X0.here hx rfl (hb hby d4_25) k) ?_
        simp only [lw_lt, lw_gt, lw_eq] at c4_1 c11_2 c18_4
        show own_Go _ _ _ _ _ _ _ s₁ (mkF m 26 #[.val (.long q1), .second, .val (.long q2), .second, .val (.int p3), .val (.long q4), .second] [(.int (0 : Int32))])
        refine own_ret X0 hx hlk Bd.returns rfl (Or.inl ⟨rfl, Or.inr (Or.inl rfl), _, rfl⟩) (hb hby d4_26) (by decide) (by decide) ?_
        show own_Q4 Z q1 q2 p3 q4 h0 n0 (some (.int (0 : Int32))) s₁.heap _
        rw [e0]
        exact ⟨by simp [own_mem, c4_1, c11_2, c18_4], N0, rfl⟩
      · show own_Go _ _ _ _ _ _ _ s₁ (mkF m 18 #[.val (.long q1), .second, .val (.long q2), .second, .val (.int p3), .val (.long q4), .second] [(.int (lcmpW q4 q2))])
        refine own_step (fun t k => XS.ifNo X0.here hx rfl (hb hby d4_18) rfl ((if0 _ _).trans (flt (c18_4)).2.2.1) k) ?_
        show own_Go _ _ _ _ _ _ _ s₁ (mkF m 21 #[.val (.long q1), .second, .val (.long q2), .second, .val (.int p3), .val (.long q4), .second] [])
        refine own_step (fun t k => XS.iconst X0.here hx rfl (hb hby d4_21) k) ?_
        show own_Go _ _ _ _ _ _ _ s₁ (mkF m 22 #[.val (.long q1), .second, .val (.long q2), .second, .val (.int p3), .val (.long q4), .second] [(.int (1 : Int32))])
        refine own_step (fun t k => XS.goto X0.here hx rfl (pc0 := 22) (pc' := 26) rfl (hb hby d4_22) (by decide) (by decide) k) ?_
        simp only [lw_lt, lw_gt, lw_eq] at c4_1 c11_2 c18_4
        show own_Go _ _ _ _ _ _ _ s₁ (mkF m 26 #[.val (.long q1), .second, .val (.long q2), .second, .val (.int p3), .val (.long q4), .second] [(.int (1 : Int32))])
        refine own_ret X0 hx hlk Bd.returns rfl (Or.inl ⟨rfl, Or.inr (Or.inl rfl), _, rfl⟩) (hb hby d4_26) (by decide) (by decide) ?_
        show own_Q4 Z q1 q2 p3 q4 h0 n0 (some (.int (1 : Int32))) s₁.heap _
        rw [e0]
        exact ⟨by simp [own_mem, c4_1, c11_2, c18_4], N0, rfl⟩
theorem own_l1 (s e : Int64) (i : Int32) (x : Int64) (h : own_mem s e i x = 1) : own_emp s e i = 0 := by
  unfold own_mem at h; unfold own_emp
  rcases Classical.em (i = 0) with hi | hi <;> simp only [hi, if_true, if_false] at h ⊢
  · by_cases a : x < s
    · simp [a] at h
    · by_cases b : x < e
      · have q : s < e := by rw [Int64.lt_iff_toInt_lt] at a b ⊢; omega
        simp [q]
      · simp [a, b] at h
  · by_cases a : x < s
    · simp [a] at h
    · by_cases b : e < x
      · simp [a, b] at h
      · have q : ¬ e < s := by rw [Int64.lt_iff_toInt_lt] at a b ⊢; omega
        simp [q]
theorem own_l2 (s e : Int64) (i : Int32) : own_emp s e i ≠ own_mem s e i s := by
  unfold own_mem own_emp
  have a : ¬ s < s := by rw [Int64.lt_iff_toInt_lt]; omega
  rcases Classical.em (i = 0) with hi | hi <;> simp only [hi, a, if_true, if_false]
  · by_cases b : s < e <;> simp [b]
  · by_cases b : e < s <;> simp [b]
theorem own_l3 (s e : Int64) (i : Int32) (h : own_emp s e i = 0) : ¬ own_last e i < s := by
  unfold own_emp at h; unfold own_last
  rcases Classical.em (i = 0) with hi | hi <;> simp only [hi, if_true, if_false] at h ⊢
  · by_cases b : s < e
    · have := c_lsub e 1
      have r1 := rng64 e; have r2 := rng64 s; have r3 := rng64 (e - 1)
      have q : (1 : Int64).toInt = 1 := by decide
      rw [Int64.lt_iff_toInt_lt] at b ⊢
      rw [q] at this; omega
    · simp [b] at h
  · by_cases b : e < s
    · simp [b] at h
    · exact b
theorem own_l4 (s e : Int64) (h : ¬ e = (-9223372036854775808 : Int64)) : own_emp s (e - 1) 1 = own_emp s e 0 := by
  have := c_lsub e 1
  have r1 := rng64 e; have r2 := rng64 s; have r3 := rng64 (e - 1)
  have q : (1 : Int64).toInt = 1 := by decide
  have m : (-9223372036854775808 : Int64).toInt = -9223372036854775808 := by decide
  have h' : ¬ e.toInt = -9223372036854775808 := fun z => h (Int64.toInt_inj.mp (z.trans m.symm))
  rw [q] at this
  unfold own_emp
  by_cases b : s < e
  · have k : ¬ (e - 1) < s := by rw [Int64.lt_iff_toInt_lt] at b ⊢; omega
    simp [b, k]
  · have k : (e - 1) < s := by rw [Int64.lt_iff_toInt_lt] at b ⊢; omega
    simp [b, k]
theorem own_l5 (s e : Int64) (i : Int32) (x : Int64) : own_mem s e i x = 0 ∨ own_mem s e i x = 1 := by
  unfold own_mem; split
  · simp
  · split <;> split <;> simp
theorem own_pn0 : plainName "com/example/corvid/corvid/RangeIsEmptyPinLaw" = true := by first | (simp [plainName, overriddenIn]; done) | decide +kernel
theorem own_pd0_0 : parseMethodDescriptor "(JJZ)V" = some ⟨[.long, .long, .boolean], none⟩ := by decide +kernel
theorem own_pd0_1 : parseMethodDescriptor "()Z" = some ⟨[], some .boolean⟩ := by decide +kernel
theorem own_pd0_2 : parseMethodDescriptor "(JJZJ)Z" = some ⟨[.long, .long, .boolean, .long], some .boolean⟩ := by decide +kernel
theorem own_pd0_3 : parseMethodDescriptor "()J" = some ⟨[], some .long⟩ := by decide +kernel
theorem own_ef0 (m : MethodId) (x0 : Int64) (x1 : Int64) (x2 : Int64) (x3 : Int32) : entryFrame m #[(.long x0), (.long x1), (.long x2), (.int x3)] maxLocals = mkF m 0 #[.val (.long x0), .second, .val (.long x1), .second, .val (.long x2), .second, .val (.int x3), .unset, .unset, .unset, .unset, .unset, .unset] [] := by first | (simp [entryFrame, mkF, argsToLocals, Value.category, maxLocals]; done) | rfl
def own_Q0 (Z : State) (q1 : Int64) (q2 : Int64) (q3 : Int64) (p4 : Int32) (h0 : Heap) (n0 : Nat) (v : Option Value) (h : Heap) (L : List Loc) : Prop := v = some (.int 1) ∧ Fr n0 L
set_option maxRecDepth 65536 in
set_option maxHeartbeats 40000000 in
theorem own_rm0 (l : Launch) (Z : State) (a0 : Array Value) (hw : ∀ d ∈ tables_1, d.before a0 Z = true) (ws : List Jvm.Cond) (q1 : Int64) (q2 : Int64) (q3 : Int64) (p4 : Int32) (h0 : Heap) (n0 : Nat) (Z0 : n0 ≤ h0.size)  :
    MetFree l x (head1 (Jvm.Cond.code x code maxLocals ret :: ws) room_1) (fun a U => a = #[(.long q1), (.long q2), (.long q3), (.int p4)] ∧ Z.Warmed39 U.vm ∧ U.heap = h0) (fun _ _ _ _ _ => True) (fun _ U o U' => ∃ v L, o = .returned v ∧ own_Q0 Z q1 q2 q3 p4 h0 n0 v U'.heap L ∧ FrameEnd U o U' L room_1.cells room_1.slots) := by
  refine MetFree.of_bodySF (plainFor_of_name own_pn0) hisR ?_
  intro p e s m args below meth c s₁ Bd hml0 hP hK
  obtain ⟨rfl, hZ, hh⟩ := hP
  have hx := Bd.exec
  have hby := Bd.bytes
  have hml : c.maxLocals = 13 := hml0
  have hlk : meth.locks = false := BodyLoose.notSynchronized Bd
  have hown : s.vm.findClass "com/example/corvid/corvid/RangeIsEmptyPinLaw" = some m.cls := findClass_of_methodNamed Bd.named
  have hnm := (name_of_methodNamed Bd.named Bd.method).1
  have X0 : Stand p l e room_1 s m #[(.long q1), (.long q2), (.long q3), (.int p4)] below meth c s₁ [] 0 0 := Stand.of_body Bd
  have e0 : s₁.heap = h0 := by rw [← hh, Bd.state]; rfl
  have N0 := Fr.nil n0
  show own_Go p e below s room_1.cells room_1.slots (own_Q0 Z q1 q2 q3 p4 h0 n0) s₁ (entryFrame m #[(.long q1), (.long q2), (.long q3), (.int p4)] maxLocals)
  refine own_step (fun t k => castTop (own_ef0 m q1 q2 q3 p4) k) ?_
  show own_Go _ _ _ _ _ _ _ s₁ (mkF m 0 #[.val (.long q1), .second, .val (.long q2), .second, .val (.long q3), .second, .val (.int p4), .unset, .unset, .unset, .unset, .unset, .unset] [])
  refine own_step (fun t k => XS.iload X0.here hx rfl (hb hby at_0) rfl k) ?_
  show own_Go _ _ _ _ _ _ _ s₁ (mkF m 2 #[.val (.long q1), .second, .val (.long q2), .second, .val (.long q3), .second, .val (.int p4), .unset, .unset, .unset, .unset, .unset, .unset] [(.int p4)])
  refine own_step (fun t k => XS.iconst X0.here hx rfl (hb hby at_2) k) ?_
  show own_Go _ _ _ _ _ _ _ s₁ (mkF m 3 #[.val (.long q1), .second, .val (.long q2), .second, .val (.long q3), .second, .val (.int p4), .unset, .unset, .unset, .unset, .unset, .unset] [(.int (1 : Int32)), (.int p4)])
  refine own_step (fun t k => XS.iand X0.here hx rfl (hb hby at_3) rfl k) ?_
  have J12 : ∀ i : Int32, (i = 0 ∨ i = 1) → own_Go p e below s room_1.cells room_1.slots (own_Q0 Z q1 q2 q3 p4 h0 n0) s₁ (mkF m 12 #[.val (.long q1), .second, .val (.long q2), .second, .val (.long q3), .second, .val (.int p4), .unset, .unset, .unset, .unset, .unset, .unset] [(.int i)]) := by
    intro i hi
    show own_Go _ _ _ _ _ _ _ s₁ (mkF m 12 #[.val (.long q1), .second, .val (.long q2), .second, .val (.long q3), .second, .val (.int p4), .unset, .unset, .unset, .unset, .unset, .unset] [(.int i)])
    refine own_step (fun t k => XS.istore X0.here hx rfl (hb hby at_12) rfl (l' := #[.val (.long q1), .second, .val (.long q2), .second, .val (.long q3), .second, .val (.int p4), .val (.int i), .unset, .unset, .unset, .unset, .unset]) rfl k) ?_
    show own_Go _ _ _ _ _ _ _ s₁ (mkF m 14 #[.val (.long q1), .second, .val (.long q2), .second, .val (.long q3), .second, .val (.int p4), .val (.int i), .unset, .unset, .unset, .unset, .unset] [])
    obtain ⟨T1, h1, X1, e1, E1, A1, D1, -, st1⟩ := newO X0 hx hZ hown (hw _ (List.mem_of_getElem? (i := 0) rfl)) (hw _ (List.mem_of_getElem? (i := 1) rfl)) (hw _ (List.mem_of_getElem? (i := 2) rfl)) e0 (g := (mkF m 14 #[.val (.long q1), .second, .val (.long q2), .second, .val (.long q3), .second, .val (.int p4), .val (.int i), .unset, .unset, .unset, .unset, .unset] [])) rfl (hb hby at_14) (by decide) (by decide)
    obtain ⟨b1, g1⟩ : ∃ z, z = h0.size := ⟨_, rfl⟩
    rw [← g1] at A1 D1 st1
    have F1_start : Fld Z h1 b1 "com/example/corvid/corvid/Range" "start" "J" (.long (0 : Int64)) := D1 (Or.inr (hw _ (List.mem_of_getElem? (i := 10) rfl))) (ty := .long) (by decide)
    have F1_end : Fld Z h1 b1 "com/example/corvid/corvid/Range" "end" "J" (.long (0 : Int64)) := D1 (Or.inr (hw _ (List.mem_of_getElem? (i := 12) rfl))) (ty := .long) (by decide)
    have F1_inclusive : Fld Z h1 b1 "com/example/corvid/corvid/Range" "inclusive" "Z" (.int (0 : Int32)) := D1 (Or.inr (hw _ (List.mem_of_getElem? (i := 14) rfl))) (ty := .boolean) (by decide)
    have nb1 : n0 ≤ b1 := by have := Nat.le_of_eq g1.symm; exact Nat.le_trans (Z0) this
    refine own_step st1 ?_
    show own_Go _ _ _ _ _ _ _ T1 (mkF m 17 #[.val (.long q1), .second, .val (.long q2), .second, .val (.long q3), .second, .val (.int p4), .val (.int i), .unset, .unset, .unset, .unset, .unset] [(.ref b1)])
    refine own_step (fun t k => XS.dup X1.here hx rfl (hb hby at_17) rfl rfl k) ?_
    show own_Go _ _ _ _ _ _ _ T1 (mkF m 18 #[.val (.long q1), .second, .val (.long q2), .second, .val (.long q3), .second, .val (.int p4), .val (.int i), .unset, .unset, .unset, .unset, .unset] [(.ref b1), (.ref b1)])
    refine own_step (fun t k => XS.lloadN X1.here hx rfl (hb hby at_18) rfl k) ?_
    show own_Go _ _ _ _ _ _ _ T1 (mkF m 19 #[.val (.long q1), .second, .val (.long q2), .second, .val (.long q3), .second, .val (.int p4), .val (.int i), .unset, .unset, .unset, .unset, .unset] [(.long q1), (.ref b1), (.ref b1)])
    refine own_step (fun t k => XS.lloadN X1.here hx rfl (hb hby at_19) rfl k) ?_
    show own_Go _ _ _ _ _ _ _ T1 (mkF m 20 #[.val (.long q1), .second, .val (.long q2), .second, .val (.long q3), .second, .val (.int p4), .val (.int i), .unset, .unset, .unset, .unset, .unset] [(.long q2), (.long q1), (.ref b1), (.ref b1)])
    refine own_step (fun t k => XS.iload X1.here hx rfl (hb hby at_20) rfl k) ?_
    show own_Go _ _ _ _ _ _ _ T1 (mkF m 22 #[.val (.long q1), .second, .val (.long q2), .second, .val (.long q3), .second, .val (.int p4), .val (.int i), .unset, .unset, .unset, .unset, .unset] [(.int i), (.long q2), (.long q1), (.ref b1), (.ref b1)])
    obtain ⟨_, _, ⟨T2, L2, k2, n2⟩, -, X2, ⟨Lc2, hQ2, l2, y2, z2⟩, st2⟩ := X1.specialBack hx (y := (⟨"com/example/corvid/corvid/Range", "<init>", "(JJZ)V"⟩ : MethodName)) rfl hown (mvT hZ (hw _ (List.mem_of_getElem? (i := 3) rfl))) (mvT hZ (hw _ (List.mem_of_getElem? (i := 4) rfl))) (mvT hZ (hw _ (List.mem_of_getElem? (i := 5) rfl))) (by decide) (backOf (W := 1) (own_rm1 l Z a0 hw [] b1 q1 q2 i h1 n0 (Nat.le_trans (Z0) E1.1) F1_start F1_end F1_inclusive A1 nb1 hi) hZ (hw _ (List.mem_of_getElem? (i := 5) rfl)) (hw _ (List.mem_of_getElem? (i := 2) rfl)) (by decide) (by decide)) (g := (mkF m 22 #[.val (.long q1), .second, .val (.long q2), .second, .val (.long q3), .second, .val (.int p4), .val (.int i), .unset, .unset, .unset, .unset, .unset] [(.int i), (.long q2), (.long q1), (.ref b1), (.ref b1)])) rfl (by rw [hml]; rfl) (Steps.refl _) (a := b1) (argsL := [(.long q1), (.long q2), (.int i)]) (rest := [(.ref b1)]) (lenOf own_pd0_0 rfl) rfl (by show 2 * 0 + _ ≤ _; exact Nat.le_of_eq rfl) (hb hby at_22) (fun _ _ => ⟨rfl, e1, (by decide : 1 + 0 ≤ _), (by decide : 3 + 0 ≤ _)⟩)
    dsimp only [Pt.U, Pt.locs, Pt.cells, Pt.slots] at X2 l2 y2 z2 st2 hQ2
    subst l2 y2 z2
    obtain ⟨rfl, Nq2, K2, E2_b1, F2_b1_start, F2_b1_end, F2_b1_inclusive⟩ := hQ2
    have N2 := Fr.app N0 Nq2
    refine own_step (fun t k => st2.trans k) ?_
    show own_Go _ _ _ _ _ _ _ T2 (mkF m 25 #[.val (.long q1), .second, .val (.long q2), .second, .val (.long q3), .second, .val (.int p4), .val (.int i), .unset, .unset, .unset, .unset, .unset] [(.ref b1)])
    refine own_step (fun t k => XS.astore X2.here hx rfl (hb hby at_25) rfl rfl (l' := #[.val (.long q1), .second, .val (.long q2), .second, .val (.long q3), .second, .val (.int p4), .val (.int i), .val (.ref b1), .unset, .unset, .unset, .unset]) rfl k) ?_
    show own_Go _ _ _ _ _ _ _ T2 (mkF m 27 #[.val (.long q1), .second, .val (.long q2), .second, .val (.long q3), .second, .val (.int p4), .val (.int i), .val (.ref b1), .unset, .unset, .unset, .unset] [])
    refine own_step (fun t k => XS.aload X2.here hx rfl (hb hby at_27) rfl rfl k) ?_
    show own_Go _ _ _ _ _ _ _ T2 (mkF m 29 #[.val (.long q1), .second, .val (.long q2), .second, .val (.long q3), .second, .val (.int p4), .val (.int i), .val (.ref b1), .unset, .unset, .unset, .unset] [(.ref b1)])
    obtain ⟨cq3, kq3, q3a, q3b, q3c⟩ := isOf hZ rfl E2_b1
    obtain ⟨_, _, ⟨T3, L3, k3, n3⟩, -, X3, ⟨Lc3, hQ3, l3, y3, z3⟩, st3⟩ := X2.virtualBack hx (y := (⟨"com/example/corvid/corvid/Range", "isEmpty", "()Z"⟩ : MethodName)) (z := (⟨"com/example/corvid/corvid/Range", "isEmpty", "()Z"⟩ : MethodName)) hown (mvT hZ (hw _ (List.mem_of_getElem? (i := 15) rfl))) (mvT hZ (hw _ (List.mem_of_getElem? (i := 16) rfl))) (notFace_of_selects (args := #[]) (mvT hZ (hw _ (List.mem_of_getElem? (i := 18) rfl)))) (mvT hZ (hw _ (List.mem_of_getElem? (i := 18) rfl))) (mvT hZ (hw _ (List.mem_of_getElem? (i := 17) rfl))) (by decide) (backOf (W := 0) (own_rm3 l Z a0 hw [] b1 q1 q2 i T2.heap n0 (Nat.le_trans (Nat.le_trans (Z0) E1.1) K2.1) F2_b1_start F2_b1_end F2_b1_inclusive) hZ (hw _ (List.mem_of_getElem? (i := 19) rfl)) (hw _ (List.mem_of_getElem? (i := 2) rfl)) (by decide) (by decide)) q3a q3c (g := (mkF m 29 #[.val (.long q1), .second, .val (.long q2), .second, .val (.long q3), .second, .val (.int p4), .val (.int i), .val (.ref b1), .unset, .unset, .unset, .unset] [(.ref b1)])) rfl (by rw [hml]; rfl) (Steps.refl _) (argsL := []) (rest := []) (lenOf own_pd0_1 rfl) rfl (by show 2 * 0 + _ ≤ _; exact Nat.le_of_eq rfl) (hb hby at_29) (fun _ _ => ⟨rfl, rfl, (by decide : 1 + 0 ≤ _), (by decide : 3 + 0 ≤ _)⟩)
    dsimp only [Pt.U, Pt.locs, Pt.cells, Pt.slots] at X3 l3 y3 z3 st3 hQ3
    subst l3 y3 z3
    obtain ⟨rfl, Nq3, e3⟩ := hQ3
    have N3 := Fr.app N2 Nq3
    refine own_step (fun t k => st3.trans k) ?_
    show own_Go _ _ _ _ _ _ _ T3 (mkF m 32 #[.val (.long q1), .second, .val (.long q2), .second, .val (.long q3), .second, .val (.int p4), .val (.int i), .val (.ref b1), .unset, .unset, .unset, .unset] [(.int (own_emp q1 q2 i))])
    refine own_step (fun t k => XS.istore X3.here hx rfl (hb hby at_32) rfl (l' := #[.val (.long q1), .second, .val (.long q2), .second, .val (.long q3), .second, .val (.int p4), .val (.int i), .val (.ref b1), .val (.int (own_emp q1 q2 i)), .unset, .unset, .unset]) rfl k) ?_
    show own_Go _ _ _ _ _ _ _ T3 (mkF m 34 #[.val (.long q1), .second, .val (.long q2), .second, .val (.long q3), .second, .val (.int p4), .val (.int i), .val (.ref b1), .val (.int (own_emp q1 q2 i)), .unset, .unset, .unset] [])
    refine own_step (fun t k => XS.lloadN X3.here hx rfl (hb hby at_34) rfl k) ?_
    show own_Go _ _ _ _ _ _ _ T3 (mkF m 35 #[.val (.long q1), .second, .val (.long q2), .second, .val (.long q3), .second, .val (.int p4), .val (.int i), .val (.ref b1), .val (.int (own_emp q1 q2 i)), .unset, .unset, .unset] [(.long q1)])
    refine own_step (fun t k => XS.lloadN X3.here hx rfl (hb hby at_35) rfl k) ?_
    show own_Go _ _ _ _ _ _ _ T3 (mkF m 36 #[.val (.long q1), .second, .val (.long q2), .second, .val (.long q3), .second, .val (.int p4), .val (.int i), .val (.ref b1), .val (.int (own_emp q1 q2 i)), .unset, .unset, .unset] [(.long q2), (.long q1)])
    refine own_step (fun t k => XS.iload X3.here hx rfl (hb hby at_36) rfl k) ?_
    show own_Go _ _ _ _ _ _ _ T3 (mkF m 38 #[.val (.long q1), .second, .val (.long q2), .second, .val (.long q3), .second, .val (.int p4), .val (.int i), .val (.ref b1), .val (.int (own_emp q1 q2 i)), .unset, .unset, .unset] [(.int i), (.long q2), (.long q1)])
    refine own_step (fun t k => XS.lloadN X3.here hx rfl (hb hby at_38) rfl k) ?_
    show own_Go _ _ _ _ _ _ _ T3 (mkF m 39 #[.val (.long q1), .second, .val (.long q2), .second, .val (.long q3), .second, .val (.int p4), .val (.int i), .val (.ref b1), .val (.int (own_emp q1 q2 i)), .unset, .unset, .unset] [(.long q1), (.int i), (.long q2), (.long q1)])
    obtain ⟨_, _, ⟨T4, L4, k4, n4⟩, -, X4, ⟨Lc4, hQ4, l4, y4, z4⟩, st4⟩ := Jvm.LawKit.callS X3 hx (y := (⟨"com/example/corvid/corvid/RangeIsEmptyPinLaw", "member", "(JJZJ)Z"⟩ : MethodName)) hown (mvT hZ (hw _ (List.mem_of_getElem? (i := 20) rfl))) (mvT hZ (hw _ (List.mem_of_getElem? (i := 21) rfl))) (mvT hZ (hw _ (List.mem_of_getElem? (i := 22) rfl))) (mvT hZ (hw _ (List.mem_of_getElem? (i := 23) rfl))) (by decide) (backOf (W := 0) (own_rm4 l Z a0 hw [] q1 q2 i q1 T2.heap n0 (Nat.le_trans (Nat.le_trans (Z0) E1.1) K2.1)) hZ (hw _ (List.mem_of_getElem? (i := 23) rfl)) (hw _ (List.mem_of_getElem? (i := 22) rfl)) (by decide) (by decide)) (g := (mkF m 39 #[.val (.long q1), .second, .val (.long q2), .second, .val (.long q3), .second, .val (.int p4), .val (.int i), .val (.ref b1), .val (.int (own_emp q1 q2 i)), .unset, .unset, .unset] [(.long q1), (.int i), (.long q2), (.long q1)])) rfl (by rw [hml]; rfl) (argsL := [(.long q1), (.long q2), (.int i), (.long q1)]) (rest := []) (lenOf own_pd0_2 rfl) rfl (by show 2 * 0 + _ ≤ _; exact Nat.le_of_eq rfl) (hb hby at_39) (fun _ _ => ⟨rfl, e3, (by decide : 1 + 0 ≤ _), (by decide : 3 + 0 ≤ _)⟩)
    dsimp only [Pt.U, Pt.locs, Pt.cells, Pt.slots] at X4 l4 y4 z4 st4 hQ4
    subst l4 y4 z4
    obtain ⟨rfl, Nq4, e4⟩ := hQ4
    have N4 := Fr.app N3 Nq4
    refine own_step (fun t k => st4 t k) ?_
    show own_Go _ _ _ _ _ _ _ T4 (mkF m 42 #[.val (.long q1), .second, .val (.long q2), .second, .val (.long q3), .second, .val (.int p4), .val (.int i), .val (.ref b1), .val (.int (own_emp q1 q2 i)), .unset, .unset, .unset] [(.int (own_mem q1 q2 i q1))])
    refine own_step (fun t k => XS.istore X4.here hx rfl (hb hby at_42) rfl (l' := #[.val (.long q1), .second, .val (.long q2), .second, .val (.long q3), .second, .val (.int p4), .val (.int i), .val (.ref b1), .val (.int (own_emp q1 q2 i)), .val (.int (own_mem q1 q2 i q1)), .unset, .unset]) rfl k) ?_
    show own_Go _ _ _ _ _ _ _ T4 (mkF m 44 #[.val (.long q1), .second, .val (.long q2), .second, .val (.long q3), .second, .val (.int p4), .val (.int i), .val (.ref b1), .val (.int (own_emp q1 q2 i)), .val (.int (own_mem q1 q2 i q1)), .unset, .unset] [])
    refine own_step (fun t k => XS.lloadN X4.here hx rfl (hb hby at_44) rfl k) ?_
    show own_Go _ _ _ _ _ _ _ T4 (mkF m 45 #[.val (.long q1), .second, .val (.long q2), .second, .val (.long q3), .second, .val (.int p4), .val (.int i), .val (.ref b1), .val (.int (own_emp q1 q2 i)), .val (.int (own_mem q1 q2 i q1)), .unset, .unset] [(.long q1)])
    refine own_step (fun t k => XS.lloadN X4.here hx rfl (hb hby at_45) rfl k) ?_
    show own_Go _ _ _ _ _ _ _ T4 (mkF m 46 #[.val (.long q1), .second, .val (.long q2), .second, .val (.long q3), .second, .val (.int p4), .val (.int i), .val (.ref b1), .val (.int (own_emp q1 q2 i)), .val (.int (own_mem q1 q2 i q1)), .unset, .unset] [(.long q2), (.long q1)])
    refine own_step (fun t k => XS.iload X4.here hx rfl (hb hby at_46) rfl k) ?_
    show own_Go _ _ _ _ _ _ _ T4 (mkF m 48 #[.val (.long q1), .second, .val (.long q2), .second, .val (.long q3), .second, .val (.int p4), .val (.int i), .val (.ref b1), .val (.int (own_emp q1 q2 i)), .val (.int (own_mem q1 q2 i q1)), .unset, .unset] [(.int i), (.long q2), (.long q1)])
    refine own_step (fun t k => XS.lload X4.here hx rfl (hb hby at_48) rfl k) ?_
    show own_Go _ _ _ _ _ _ _ T4 (mkF m 50 #[.val (.long q1), .second, .val (.long q2), .second, .val (.long q3), .second, .val (.int p4), .val (.int i), .val (.ref b1), .val (.int (own_emp q1 q2 i)), .val (.int (own_mem q1 q2 i q1)), .unset, .unset] [(.long q3), (.int i), (.long q2), (.long q1)])
    obtain ⟨_, _, ⟨T5, L5, k5, n5⟩, -, X5, ⟨Lc5, hQ5, l5, y5, z5⟩, st5⟩ := Jvm.LawKit.callS X4 hx (y := (⟨"com/example/corvid/corvid/RangeIsEmptyPinLaw", "member", "(JJZJ)Z"⟩ : MethodName)) hown (mvT hZ (hw _ (List.mem_of_getElem? (i := 20) rfl))) (mvT hZ (hw _ (List.mem_of_getElem? (i := 21) rfl))) (mvT hZ (hw _ (List.mem_of_getElem? (i := 22) rfl))) (mvT hZ (hw _ (List.mem_of_getElem? (i := 23) rfl))) (by decide) (backOf (W := 0) (own_rm4 l Z a0 hw [] q1 q2 i q3 T2.heap n0 (Nat.le_trans (Nat.le_trans (Z0) E1.1) K2.1)) hZ (hw _ (List.mem_of_getElem? (i := 23) rfl)) (hw _ (List.mem_of_getElem? (i := 22) rfl)) (by decide) (by decide)) (g := (mkF m 50 #[.val (.long q1), .second, .val (.long q2), .second, .val (.long q3), .second, .val (.int p4), .val (.int i), .val (.ref b1), .val (.int (own_emp q1 q2 i)), .val (.int (own_mem q1 q2 i q1)), .unset, .unset] [(.long q3), (.int i), (.long q2), (.long q1)])) rfl (by rw [hml]; rfl) (argsL := [(.long q1), (.long q2), (.int i), (.long q3)]) (rest := []) (lenOf own_pd0_2 rfl) rfl (by show 2 * 0 + _ ≤ _; exact Nat.le_of_eq rfl) (hb hby at_50) (fun _ _ => ⟨rfl, e4, (by decide : 1 + 0 ≤ _), (by decide : 3 + 0 ≤ _)⟩)
    dsimp only [Pt.U, Pt.locs, Pt.cells, Pt.slots] at X5 l5 y5 z5 st5 hQ5
    subst l5 y5 z5
    obtain ⟨rfl, Nq5, e5⟩ := hQ5
    have N5 := Fr.app N4 Nq5
    refine own_step (fun t k => st5 t k) ?_
    show own_Go _ _ _ _ _ _ _ T5 (mkF m 53 #[.val (.long q1), .second, .val (.long q2), .second, .val (.long q3), .second, .val (.int p4), .val (.int i), .val (.ref b1), .val (.int (own_emp q1 q2 i)), .val (.int (own_mem q1 q2 i q1)), .unset, .unset] [(.int (own_mem q1 q2 i q3))])
    refine own_step (fun t k => XS.istore X5.here hx rfl (hb hby at_53) rfl (l' := #[.val (.long q1), .second, .val (.long q2), .second, .val (.long q3), .second, .val (.int p4), .val (.int i), .val (.ref b1), .val (.int (own_emp q1 q2 i)), .val (.int (own_mem q1 q2 i q1)), .val (.int (own_mem q1 q2 i q3)), .unset]) rfl k) ?_
    show own_Go _ _ _ _ _ _ _ T5 (mkF m 55 #[.val (.long q1), .second, .val (.long q2), .second, .val (.long q3), .second, .val (.int p4), .val (.int i), .val (.ref b1), .val (.int (own_emp q1 q2 i)), .val (.int (own_mem q1 q2 i q1)), .val (.int (own_mem q1 q2 i q3)), .unset] [])
    refine own_step (fun t k => XS.iload X5.here hx rfl (hb hby at_55) rfl k) ?_
    have J67 : own_Go p e below s room_1.cells room_1.slots (own_Q0 Z q1 q2 q3 p4 h0 n0) T5 (mkF m 67 #[.val (.long q1), .second, .val (.long q2), .second, .val (.long q3), .second, .val (.int p4), .val (.int i), .val (.ref b1), .val (.int (own_emp q1 q2 i)), .val (.int (own_mem q1 q2 i q1)), .val (.int (own_mem q1 q2 i q3)), .unset] []) := by
      show own_Go _ _ _ _ _ _ _ T5 (mkF m 67 #[.val (.long q1), .second, .val (.long q2), .second, .val (.long q3), .second, .val (.int p4), .val (.int i), .val (.ref b1), .val (.int (own_emp q1 q2 i)), .val (.int (own_mem q1 q2 i q1)), .val (.int (own_mem q1 q2 i q3)), .unset] [])
      refine own_step (fun t k => XS.iload X5.here hx rfl (hb hby at_67) rfl k) ?_
      show own_Go _ _ _ _ _ _ _ T5 (mkF m 69 #[.val (.long q1), .second, .val (.long q2), .second, .val (.long q3), .second, .val (.int p4), .val (.int i), .val (.ref b1), .val (.int (own_emp q1 q2 i)), .val (.int (own_mem q1 q2 i q1)), .val (.int (own_mem q1 q2 i q3)), .unset] [(.int (own_emp q1 q2 i))])
      refine own_step (fun t k => XS.iload X5.here hx rfl (hb hby at_69) rfl k) ?_
      show own_Go _ _ _ _ _ _ _ T5 (mkF m 71 #[.val (.long q1), .second, .val (.long q2), .second, .val (.long q3), .second, .val (.int p4), .val (.int i), .val (.ref b1), .val (.int (own_emp q1 q2 i)), .val (.int (own_mem q1 q2 i q1)), .val (.int (own_mem q1 q2 i q3)), .unset] [(.int (own_mem q1 q2 i q1)), (.int (own_emp q1 q2 i))])
      refine own_step (fun t k => XS.icmpYes X5.here hx rfl (pc0 := 71) (pc' := 76) rfl (hb hby at_71) rfl (feq (own_l2 q1 q2 i)).2 (by decide) (by decide) k) ?_
      show own_Go _ _ _ _ _ _ _ T5 (mkF m 76 #[.val (.long q1), .second, .val (.long q2), .second, .val (.long q3), .second, .val (.int p4), .val (.int i), .val (.ref b1), .val (.int (own_emp q1 q2 i)), .val (.int (own_mem q1 q2 i q1)), .val (.int (own_mem q1 q2 i q3)), .unset] [])
      refine own_step (fun t k => XS.iload X5.here hx rfl (hb hby at_76) rfl k) ?_
      have J97 : own_Go p e below s room_1.cells room_1.slots (own_Q0 Z q1 q2 q3 p4 h0 n0) T5 (mkF m 97 #[.val (.long q1), .second, .val (.long q2), .second, .val (.long q3), .second, .val (.int p4), .val (.int i), .val (.ref b1), .val (.int (own_emp q1 q2 i)), .val (.int (own_mem q1 q2 i q1)), .val (.int (own_mem q1 q2 i q3)), .unset] []) := by
        show own_Go _ _ _ _ _ _ _ T5 (mkF m 97 #[.val (.long q1), .second, .val (.long q2), .second, .val (.long q3), .second, .val (.int p4), .val (.int i), .val (.ref b1), .val (.int (own_emp q1 q2 i)), .val (.int (own_mem q1 q2 i q1)), .val (.int (own_mem q1 q2 i q3)), .unset] [])
        refine own_step (fun t k => XS.iload X5.here hx rfl (hb hby at_97) rfl k) ?_
        rcases Classical.em (i = (0 : Int32)) with c99_6 | c99_6
        · show own_Go _ _ _ _ _ _ _ T5 (mkF m 99 #[.val (.long q1), .second, .val (.long q2), .second, .val (.long q3), .second, .val (.int p4), .val (.int i), .val (.ref b1), .val (.int (own_emp q1 q2 i)), .val (.int (own_mem q1 q2 i q1)), .val (.int (own_mem q1 q2 i q3)), .unset] [(.int i)])
          refine own_step (fun t k => XS.ifNo X5.here hx rfl (hb hby at_99) rfl ((if0 _ _).trans (teq (c99_6)).2) k) ?_
          show own_Go _ _ _ _ _ _ _ T5 (mkF m 102 #[.val (.long q1), .second, .val (.long q2), .second, .val (.long q3), .second, .val (.int p4), .val (.int i), .val (.ref b1), .val (.int (own_emp q1 q2 i)), .val (.int (own_mem q1 q2 i q1)), .val (.int (own_mem q1 q2 i q3)), .unset] [])
          refine own_step (fun t k => XS.lloadN X5.here hx rfl (hb hby at_102) rfl k) ?_
          show own_Go _ _ _ _ _ _ _ T5 (mkF m 103 #[.val (.long q1), .second, .val (.long q2), .second, .val (.long q3), .second, .val (.int p4), .val (.int i), .val (.ref b1), .val (.int (own_emp q1 q2 i)), .val (.int (own_mem q1 q2 i q1)), .val (.int (own_mem q1 q2 i q3)), .unset] [(.long q2)])
          refine own_step (fun t k => X5.ldc2Long hx hown (mvT hZ (hw _ (List.mem_of_getElem? (i := 24) rfl))) (g := (mkF m 103 #[.val (.long q1), .second, .val (.long q2), .second, .val (.long q3), .second, .val (.int p4), .val (.int i), .val (.ref b1), .val (.int (own_emp q1 q2 i)), .val (.int (own_mem q1 q2 i q1)), .val (.int (own_mem q1 q2 i q3)), .unset] [(.long q2)])) rfl (hb hby at_103) t k) ?_
          show own_Go _ _ _ _ _ _ _ T5 (mkF m 106 #[.val (.long q1), .second, .val (.long q2), .second, .val (.long q3), .second, .val (.int p4), .val (.int i), .val (.ref b1), .val (.int (own_emp q1 q2 i)), .val (.int (own_mem q1 q2 i q1)), .val (.int (own_mem q1 q2 i q3)), .unset] [(.long (-9223372036854775808 : Int64)), (.long q2)])
          refine own_step (fun t k => XS.lcmp X5.here hx rfl (hb hby at_106) rfl k) ?_
          rcases Classical.em ((lcmpW q2 (-9223372036854775808 : Int64)) = (0 : Int32)) with c107_7 | c107_7
          · show own_Go _ _ _ _ _ _ _ T5 (mkF m 107 #[.val (.long q1), .second, .val (.long q2), .second, .val (.long q3), .second, .val (.int p4), .val (.int i), .val (.ref b1), .val (.int (own_emp q1 q2 i)), .val (.int (own_mem q1 q2 i q1)), .val (.int (own_mem q1 q2 i q3)), .unset] [(.int (lcmpW q2 (-9223372036854775808 : Int64)))])
            refine own_step (fun t k => XS.ifYes X5.here hx rfl (pc0 := 107) (pc' := 136) rfl (hb hby at_107) rfl ((if0 _ _).trans (teq (c107_7)).1) (by decide) (by decide) k) ?_
            show own_Go _ _ _ _ _ _ _ T5 (mkF m 136 #[.val (.long q1), .second, .val (.long q2), .second, .val (.long q3), .second, .val (.int p4), .val (.int i), .val (.ref b1), .val (.int (own_emp q1 q2 i)), .val (.int (own_mem q1 q2 i q1)), .val (.int (own_mem q1 q2 i q3)), .unset] [])
            refine own_step (fun t k => XS.iconst X5.here hx rfl (hb hby at_136) k) ?_
            show own_Go _ _ _ _ _ _ _ T5 (mkF m 137 #[.val (.long q1), .second, .val (.long q2), .second, .val (.long q3), .second, .val (.int p4), .val (.int i), .val (.ref b1), .val (.int (own_emp q1 q2 i)), .val (.int (own_mem q1 q2 i q1)), .val (.int (own_mem q1 q2 i q3)), .unset] [(.int (1 : Int32))])
            refine own_ret X5 hx hlk Bd.returns rfl (Or.inl ⟨rfl, Or.inr (Or.inl rfl), _, rfl⟩) (hb hby at_137) (by decide) (by decide) ?_
            show own_Q0 Z q1 q2 q3 p4 h0 n0 (some (.int (1 : Int32))) T5.heap _
            exact ⟨rfl, N5⟩
          · show own_Go _ _ _ _ _ _ _ T5 (mkF m 107 #[.val (.long q1), .second, .val (.long q2), .second, .val (.long q3), .second, .val (.int p4), .val (.int i), .val (.ref b1), .val (.int (own_emp q1 q2 i)), .val (.int (own_mem q1 q2 i q1)), .val (.int (own_mem q1 q2 i q3)), .unset] [(.int (lcmpW q2 (-9223372036854775808 : Int64)))])
            refine own_step (fun t k => XS.ifNo X5.here hx rfl (hb hby at_107) rfl ((if0 _ _).trans (feq (c107_7)).1) k) ?_
            rw [lw_eq] at c107_7
            have hi0 : (1 : Int32) = 0 ∨ (1 : Int32) = 1 := Or.inr rfl
            show own_Go _ _ _ _ _ _ _ T5 (mkF m 110 #[.val (.long q1), .second, .val (.long q2), .second, .val (.long q3), .second, .val (.int p4), .val (.int i), .val (.ref b1), .val (.int (own_emp q1 q2 i)), .val (.int (own_mem q1 q2 i q1)), .val (.int (own_mem q1 q2 i q3)), .unset] [])
            obtain ⟨T8, h8, X8, e8, E8, A8, D8, -, st8⟩ := newO X5 hx hZ hown (hw _ (List.mem_of_getElem? (i := 0) rfl)) (hw _ (List.mem_of_getElem? (i := 1) rfl)) (hw _ (List.mem_of_getElem? (i := 2) rfl)) e5 (g := (mkF m 110 #[.val (.long q1), .second, .val (.long q2), .second, .val (.long q3), .second, .val (.int p4), .val (.int i), .val (.ref b1), .val (.int (own_emp q1 q2 i)), .val (.int (own_mem q1 q2 i q1)), .val (.int (own_mem q1 q2 i q3)), .unset] [])) rfl (hb hby at_110) (by decide) (by decide)
            obtain ⟨b8, g8⟩ : ∃ z, z = T2.heap.size := ⟨_, rfl⟩
            rw [← g8] at A8 D8 st8
            have F8_start : Fld Z h8 b8 "com/example/corvid/corvid/Range" "start" "J" (.long (0 : Int64)) := D8 (Or.inr (hw _ (List.mem_of_getElem? (i := 10) rfl))) (ty := .long) (by decide)
            have F8_end : Fld Z h8 b8 "com/example/corvid/corvid/Range" "end" "J" (.long (0 : Int64)) := D8 (Or.inr (hw _ (List.mem_of_getElem? (i := 12) rfl))) (ty := .long) (by decide)
            have F8_inclusive : Fld Z h8 b8 "com/example/corvid/corvid/Range" "inclusive" "Z" (.int (0 : Int32)) := D8 (Or.inr (hw _ (List.mem_of_getElem? (i := 14) rfl))) (ty := .boolean) (by decide)
            have nb8 : n0 ≤ b8 := by have := Nat.le_of_eq g8.symm; exact Nat.le_trans ((Nat.le_trans (Nat.le_trans (Z0) E1.1) K2.1)) this
            refine own_step st8 ?_
            show own_Go _ _ _ _ _ _ _ T8 (mkF m 113 #[.val (.long q1), .second, .val (.long q2), .second, .val (.long q3), .second, .val (.int p4), .val (.int i), .val (.ref b1), .val (.int (own_emp q1 q2 i)), .val (.int (own_mem q1 q2 i q1)), .val (.int (own_mem q1 q2 i q3)), .unset] [(.ref b8)])
            refine own_step (fun t k => XS.dup X8.here hx rfl (hb hby at_113) rfl rfl k) ?_
            show own_Go _ _ _ _ _ _ _ T8 (mkF m 114 #[.val (.long q1), .second, .val (.long q2), .second, .val (.long q3), .second, .val (.int p4), .val (.int i), .val (.ref b1), .val (.int (own_emp q1 q2 i)), .val (.int (own_mem q1 q2 i q1)), .val (.int (own_mem q1 q2 i q3)), .unset] [(.ref b8), (.ref b8)])
            refine own_step (fun t k => XS.lloadN X8.here hx rfl (hb hby at_114) rfl k) ?_
            show own_Go _ _ _ _ _ _ _ T8 (mkF m 115 #[.val (.long q1), .second, .val (.long q2), .second, .val (.long q3), .second, .val (.int p4), .val (.int i), .val (.ref b1), .val (.int (own_emp q1 q2 i)), .val (.int (own_mem q1 q2 i q1)), .val (.int (own_mem q1 q2 i q3)), .unset] [(.long q1), (.ref b8), (.ref b8)])
            refine own_step (fun t k => XS.lloadN X8.here hx rfl (hb hby at_115) rfl k) ?_
            show own_Go _ _ _ _ _ _ _ T8 (mkF m 116 #[.val (.long q1), .second, .val (.long q2), .second, .val (.long q3), .second, .val (.int p4), .val (.int i), .val (.ref b1), .val (.int (own_emp q1 q2 i)), .val (.int (own_mem q1 q2 i q1)), .val (.int (own_mem q1 q2 i q3)), .unset] [(.long q2), (.long q1), (.ref b8), (.ref b8)])
            refine own_step (fun t k => XS.lconst X8.here hx rfl (hb hby at_116) k) ?_
            show own_Go _ _ _ _ _ _ _ T8 (mkF m 117 #[.val (.long q1), .second, .val (.long q2), .second, .val (.long q3), .second, .val (.int p4), .val (.int i), .val (.ref b1), .val (.int (own_emp q1 q2 i)), .val (.int (own_mem q1 q2 i q1)), .val (.int (own_mem q1 q2 i q3)), .unset] [(.long (1 : Int64)), (.long q2), (.long q1), (.ref b8), (.ref b8)])
            refine own_step (fun t k => XS.lsub X8.here hx rfl (hb hby at_117) rfl k) ?_
            show own_Go _ _ _ _ _ _ _ T8 (mkF m 118 #[.val (.long q1), .second, .val (.long q2), .second, .val (.long q3), .second, .val (.int p4), .val (.int i), .val (.ref b1), .val (.int (own_emp q1 q2 i)), .val (.int (own_mem q1 q2 i q1)), .val (.int (own_mem q1 q2 i q3)), .unset] [(.long (q2 - (1 : Int64))), (.long q1), (.ref b8), (.ref b8)])
            refine own_step (fun t k => XS.iconst X8.here hx rfl (hb hby at_118) k) ?_
            show own_Go _ _ _ _ _ _ _ T8 (mkF m 119 #[.val (.long q1), .second, .val (.long q2), .second, .val (.long q3), .second, .val (.int p4), .val (.int i), .val (.ref b1), .val (.int (own_emp q1 q2 i)), .val (.int (own_mem q1 q2 i q1)), .val (.int (own_mem q1 q2 i q3)), .unset] [(.int (1 : Int32)), (.long (q2 - (1 : Int64))), (.long q1), (.ref b8), (.ref b8)])
            obtain ⟨_, _, ⟨T9, L9, k9, n9⟩, -, X9, ⟨Lc9, hQ9, l9, y9, z9⟩, st9⟩ := X8.specialBack hx (y := (⟨"com/example/corvid/corvid/Range", "<init>", "(JJZ)V"⟩ : MethodName)) rfl hown (mvT hZ (hw _ (List.mem_of_getElem? (i := 3) rfl))) (mvT hZ (hw _ (List.mem_of_getElem? (i := 4) rfl))) (mvT hZ (hw _ (List.mem_of_getElem? (i := 5) rfl))) (by decide) (backOf (W := 1) (own_rm1 l Z a0 hw [] b8 q1 (q2 - (1 : Int64)) (1 : Int32) h8 n0 (Nat.le_trans ((Nat.le_trans (Nat.le_trans (Z0) E1.1) K2.1)) E8.1) F8_start F8_end F8_inclusive A8 nb8 hi0) hZ (hw _ (List.mem_of_getElem? (i := 5) rfl)) (hw _ (List.mem_of_getElem? (i := 2) rfl)) (by decide) (by decide)) (g := (mkF m 119 #[.val (.long q1), .second, .val (.long q2), .second, .val (.long q3), .second, .val (.int p4), .val (.int i), .val (.ref b1), .val (.int (own_emp q1 q2 i)), .val (.int (own_mem q1 q2 i q1)), .val (.int (own_mem q1 q2 i q3)), .unset] [(.int (1 : Int32)), (.long (q2 - (1 : Int64))), (.long q1), (.ref b8), (.ref b8)])) rfl (by rw [hml]; rfl) (Steps.refl _) (a := b8) (argsL := [(.long q1), (.long (q2 - (1 : Int64))), (.int (1 : Int32))]) (rest := [(.ref b8)]) (lenOf own_pd0_0 rfl) rfl (by show 2 * 0 + _ ≤ _; exact Nat.le_of_eq rfl) (hb hby at_119) (fun _ _ => ⟨rfl, e8, (by decide : 2 + 0 ≤ _), (by decide : 6 + 0 ≤ _)⟩)
            dsimp only [Pt.U, Pt.locs, Pt.cells, Pt.slots] at X9 l9 y9 z9 st9 hQ9
            subst l9 y9 z9
            obtain ⟨rfl, Nq9, K9, E9_b8, F9_b8_start, F9_b8_end, F9_b8_inclusive⟩ := hQ9
            have N9 := Fr.app N5 Nq9
            refine own_step (fun t k => st9.trans k) ?_
            show own_Go _ _ _ _ _ _ _ T9 (mkF m 122 #[.val (.long q1), .second, .val (.long q2), .second, .val (.long q3), .second, .val (.int p4), .val (.int i), .val (.ref b1), .val (.int (own_emp q1 q2 i)), .val (.int (own_mem q1 q2 i q1)), .val (.int (own_mem q1 q2 i q3)), .unset] [(.ref b8)])
            refine own_step (fun t k => XS.astore X9.here hx rfl (hb hby at_122) rfl rfl (l' := #[.val (.long q1), .second, .val (.long q2), .second, .val (.long q3), .second, .val (.int p4), .val (.int i), .val (.ref b1), .val (.int (own_emp q1 q2 i)), .val (.int (own_mem q1 q2 i q1)), .val (.int (own_mem q1 q2 i q3)), .val (.ref b8)]) rfl k) ?_
            show own_Go _ _ _ _ _ _ _ T9 (mkF m 124 #[.val (.long q1), .second, .val (.long q2), .second, .val (.long q3), .second, .val (.int p4), .val (.int i), .val (.ref b1), .val (.int (own_emp q1 q2 i)), .val (.int (own_mem q1 q2 i q1)), .val (.int (own_mem q1 q2 i q3)), .val (.ref b8)] [])
            refine own_step (fun t k => XS.aload X9.here hx rfl (hb hby at_124) rfl rfl k) ?_
            show own_Go _ _ _ _ _ _ _ T9 (mkF m 126 #[.val (.long q1), .second, .val (.long q2), .second, .val (.long q3), .second, .val (.int p4), .val (.int i), .val (.ref b1), .val (.int (own_emp q1 q2 i)), .val (.int (own_mem q1 q2 i q1)), .val (.int (own_mem q1 q2 i q3)), .val (.ref b8)] [(.ref b8)])
            obtain ⟨cq10, kq10, q10a, q10b, q10c⟩ := isOf hZ rfl E9_b8
            obtain ⟨_, _, ⟨T10, L10, k10, n10⟩, -, X10, ⟨Lc10, hQ10, l10, y10, z10⟩, st10⟩ := X9.virtualBack hx (y := (⟨"com/example/corvid/corvid/Range", "isEmpty", "()Z"⟩ : MethodName)) (z := (⟨"com/example/corvid/corvid/Range", "isEmpty", "()Z"⟩ : MethodName)) hown (mvT hZ (hw _ (List.mem_of_getElem? (i := 15) rfl))) (mvT hZ (hw _ (List.mem_of_getElem? (i := 16) rfl))) (notFace_of_selects (args := #[]) (mvT hZ (hw _ (List.mem_of_getElem? (i := 18) rfl)))) (mvT hZ (hw _ (List.mem_of_getElem? (i := 18) rfl))) (mvT hZ (hw _ (List.mem_of_getElem? (i := 17) rfl))) (by decide) (backOf (W := 0) (own_rm3 l Z a0 hw [] b8 q1 (q2 - (1 : Int64)) (1 : Int32) T9.heap n0 (Nat.le_trans (Nat.le_trans ((Nat.le_trans (Nat.le_trans (Z0) E1.1) K2.1)) E8.1) K9.1) F9_b8_start F9_b8_end F9_b8_inclusive) hZ (hw _ (List.mem_of_getElem? (i := 19) rfl)) (hw _ (List.mem_of_getElem? (i := 2) rfl)) (by decide) (by decide)) q10a q10c (g := (mkF m 126 #[.val (.long q1), .second, .val (.long q2), .second, .val (.long q3), .second, .val (.int p4), .val (.int i), .val (.ref b1), .val (.int (own_emp q1 q2 i)), .val (.int (own_mem q1 q2 i q1)), .val (.int (own_mem q1 q2 i q3)), .val (.ref b8)] [(.ref b8)])) rfl (by rw [hml]; rfl) (Steps.refl _) (argsL := []) (rest := []) (lenOf own_pd0_1 rfl) rfl (by show 2 * 0 + _ ≤ _; exact Nat.le_of_eq rfl) (hb hby at_126) (fun _ _ => ⟨rfl, rfl, (by decide : 2 + 0 ≤ _), (by decide : 6 + 0 ≤ _)⟩)
            dsimp only [Pt.U, Pt.locs, Pt.cells, Pt.slots] at X10 l10 y10 z10 st10 hQ10
            subst l10 y10 z10
            obtain ⟨rfl, Nq10, e10⟩ := hQ10
            have N10 := Fr.app N9 Nq10
            refine own_step (fun t k => st10.trans k) ?_
            show own_Go _ _ _ _ _ _ _ T10 (mkF m 129 #[.val (.long q1), .second, .val (.long q2), .second, .val (.long q3), .second, .val (.int p4), .val (.int i), .val (.ref b1), .val (.int (own_emp q1 q2 i)), .val (.int (own_mem q1 q2 i q1)), .val (.int (own_mem q1 q2 i q3)), .val (.ref b8)] [(.int (own_emp q1 (q2 - (1 : Int64)) (1 : Int32)))])
            refine own_step (fun t k => XS.iload X10.here hx rfl (hb hby at_129) rfl k) ?_
            have l4 : own_emp q1 (q2 - (1 : Int64)) (1 : Int32) = own_emp q1 q2 i := by rw [c99_6]; exact own_l4 q1 q2 c107_7
            show own_Go _ _ _ _ _ _ _ T10 (mkF m 131 #[.val (.long q1), .second, .val (.long q2), .second, .val (.long q3), .second, .val (.int p4), .val (.int i), .val (.ref b1), .val (.int (own_emp q1 q2 i)), .val (.int (own_mem q1 q2 i q1)), .val (.int (own_mem q1 q2 i q3)), .val (.ref b8)] [(.int (own_emp q1 q2 i)), (.int (own_emp q1 (q2 - (1 : Int64)) (1 : Int32)))])
            refine own_step (fun t k => XS.icmpYes X10.here hx rfl (pc0 := 131) (pc' := 136) rfl (hb hby at_131) rfl (teq (l4)).1 (by decide) (by decide) k) ?_
            show own_Go _ _ _ _ _ _ _ T10 (mkF m 136 #[.val (.long q1), .second, .val (.long q2), .second, .val (.long q3), .second, .val (.int p4), .val (.int i), .val (.ref b1), .val (.int (own_emp q1 q2 i)), .val (.int (own_mem q1 q2 i q1)), .val (.int (own_mem q1 q2 i q3)), .val (.ref b8)] [])
            refine own_step (fun t k => XS.iconst X10.here hx rfl (hb hby at_136) k) ?_
            show own_Go _ _ _ _ _ _ _ T10 (mkF m 137 #[.val (.long q1), .second, .val (.long q2), .second, .val (.long q3), .second, .val (.int p4), .val (.int i), .val (.ref b1), .val (.int (own_emp q1 q2 i)), .val (.int (own_mem q1 q2 i q1)), .val (.int (own_mem q1 q2 i q3)), .val (.ref b8)] [(.int (1 : Int32))])
            refine own_ret X10 hx hlk Bd.returns rfl (Or.inl ⟨rfl, Or.inr (Or.inl rfl), _, rfl⟩) (hb hby at_137) (by decide) (by decide) ?_
            show own_Q0 Z q1 q2 q3 p4 h0 n0 (some (.int (1 : Int32))) T10.heap _
            exact ⟨rfl, N10⟩
        · show own_Go _ _ _ _ _ _ _ T5 (mkF m 99 #[.val (.long q1), .second, .val (.long q2), .second, .val (.long q3), .second, .val (.int p4), .val (.int i), .val (.ref b1), .val (.int (own_emp q1 q2 i)), .val (.int (own_mem q1 q2 i q1)), .val (.int (own_mem q1 q2 i q3)), .unset] [(.int i)])
          refine own_step (fun t k => XS.ifYes X5.here hx rfl (pc0 := 99) (pc' := 136) rfl (hb hby at_99) rfl ((if0 _ _).trans (feq (c99_6)).2) (by decide) (by decide) k) ?_
          show own_Go _ _ _ _ _ _ _ T5 (mkF m 136 #[.val (.long q1), .second, .val (.long q2), .second, .val (.long q3), .second, .val (.int p4), .val (.int i), .val (.ref b1), .val (.int (own_emp q1 q2 i)), .val (.int (own_mem q1 q2 i q1)), .val (.int (own_mem q1 q2 i q3)), .unset] [])
          refine own_step (fun t k => XS.iconst X5.here hx rfl (hb hby at_136) k) ?_
          show own_Go _ _ _ _ _ _ _ T5 (mkF m 137 #[.val (.long q1), .second, .val (.long q2), .second, .val (.long q3), .second, .val (.int p4), .val (.int i), .val (.ref b1), .val (.int (own_emp q1 q2 i)), .val (.int (own_mem q1 q2 i q1)), .val (.int (own_mem q1 q2 i q3)), .unset] [(.int (1 : Int32))])
          refine own_ret X5 hx hlk Bd.returns rfl (Or.inl ⟨rfl, Or.inr (Or.inl rfl), _, rfl⟩) (hb hby at_137) (by decide) (by decide) ?_
          show own_Q0 Z q1 q2 q3 p4 h0 n0 (some (.int (1 : Int32))) T5.heap _
          exact ⟨rfl, N5⟩
      rcases Classical.em ((own_emp q1 q2 i) = (0 : Int32)) with c78_11 | c78_11
      · show own_Go _ _ _ _ _ _ _ T5 (mkF m 78 #[.val (.long q1), .second, .val (.long q2), .second, .val (.long q3), .second, .val (.int p4), .val (.int i), .val (.ref b1), .val (.int (own_emp q1 q2 i)), .val (.int (own_mem q1 q2 i q1)), .val (.int (own_mem q1 q2 i q3)), .unset] [(.int (own_emp q1 q2 i))])
        refine own_step (fun t k => XS.ifNo X5.here hx rfl (hb hby at_78) rfl ((if0 _ _).trans (teq (c78_11)).2) k) ?_
        show own_Go _ _ _ _ _ _ _ T5 (mkF m 81 #[.val (.long q1), .second, .val (.long q2), .second, .val (.long q3), .second, .val (.int p4), .val (.int i), .val (.ref b1), .val (.int (own_emp q1 q2 i)), .val (.int (own_mem q1 q2 i q1)), .val (.int (own_mem q1 q2 i q3)), .unset] [])
        refine own_step (fun t k => XS.aload X5.here hx rfl (hb hby at_81) rfl rfl k) ?_
        show own_Go _ _ _ _ _ _ _ T5 (mkF m 83 #[.val (.long q1), .second, .val (.long q2), .second, .val (.long q3), .second, .val (.int p4), .val (.int i), .val (.ref b1), .val (.int (own_emp q1 q2 i)), .val (.int (own_mem q1 q2 i q1)), .val (.int (own_mem q1 q2 i q3)), .unset] [(.ref b1)])
        obtain ⟨cq12, kq12, q12a, q12b, q12c⟩ := isOf hZ e5 E2_b1
        obtain ⟨_, _, ⟨T12, L12, k12, n12⟩, -, X12, ⟨Lc12, hQ12, l12, y12, z12⟩, st12⟩ := X5.virtualBack hx (y := (⟨"com/example/corvid/corvid/Range", "last", "()J"⟩ : MethodName)) (z := (⟨"com/example/corvid/corvid/Range", "last", "()J"⟩ : MethodName)) hown (mvT hZ (hw _ (List.mem_of_getElem? (i := 25) rfl))) (mvT hZ (hw _ (List.mem_of_getElem? (i := 26) rfl))) (notFace_of_selects (args := #[]) (mvT hZ (hw _ (List.mem_of_getElem? (i := 28) rfl)))) (mvT hZ (hw _ (List.mem_of_getElem? (i := 28) rfl))) (mvT hZ (hw _ (List.mem_of_getElem? (i := 27) rfl))) (by decide) (backOf (W := 0) (own_rm5 l Z a0 hw [] b1 q1 q2 i T2.heap n0 (Nat.le_trans (Nat.le_trans (Z0) E1.1) K2.1) F2_b1_start F2_b1_end F2_b1_inclusive) hZ (hw _ (List.mem_of_getElem? (i := 29) rfl)) (hw _ (List.mem_of_getElem? (i := 2) rfl)) (by decide) (by decide)) q12a q12c (g := (mkF m 83 #[.val (.long q1), .second, .val (.long q2), .second, .val (.long q3), .second, .val (.int p4), .val (.int i), .val (.ref b1), .val (.int (own_emp q1 q2 i)), .val (.int (own_mem q1 q2 i q1)), .val (.int (own_mem q1 q2 i q3)), .unset] [(.ref b1)])) rfl (by rw [hml]; rfl) (Steps.refl _) (argsL := []) (rest := []) (lenOf own_pd0_3 rfl) rfl (by show 2 * 0 + _ ≤ _; exact Nat.le_of_eq rfl) (hb hby at_83) (fun _ _ => ⟨rfl, e5, (by decide : 1 + 0 ≤ _), (by decide : 3 + 0 ≤ _)⟩)
        dsimp only [Pt.U, Pt.locs, Pt.cells, Pt.slots] at X12 l12 y12 z12 st12 hQ12
        subst l12 y12 z12
        obtain ⟨rfl, Nq12, e12⟩ := hQ12
        have N12 := Fr.app N5 Nq12
        refine own_step (fun t k => st12.trans k) ?_
        show own_Go _ _ _ _ _ _ _ T12 (mkF m 86 #[.val (.long q1), .second, .val (.long q2), .second, .val (.long q3), .second, .val (.int p4), .val (.int i), .val (.ref b1), .val (.int (own_emp q1 q2 i)), .val (.int (own_mem q1 q2 i q1)), .val (.int (own_mem q1 q2 i q3)), .unset] [(.long (own_last q2 i))])
        refine own_step (fun t k => XS.aload X12.here hx rfl (hb hby at_86) rfl rfl k) ?_
        show own_Go _ _ _ _ _ _ _ T12 (mkF m 88 #[.val (.long q1), .second, .val (.long q2), .second, .val (.long q3), .second, .val (.int p4), .val (.int i), .val (.ref b1), .val (.int (own_emp q1 q2 i)), .val (.int (own_mem q1 q2 i q1)), .val (.int (own_mem q1 q2 i q3)), .unset] [(.ref b1), (.long (own_last q2 i))])
        obtain ⟨cq13, kq13, q13a, q13b, q13c⟩ := isOf hZ e12 E2_b1
        obtain ⟨_, _, ⟨T13, L13, k13, n13⟩, -, X13, ⟨Lc13, hQ13, l13, y13, z13⟩, st13⟩ := X12.virtualBack hx (y := (⟨"com/example/corvid/corvid/Range", "start", "()J"⟩ : MethodName)) (z := (⟨"com/example/corvid/corvid/Range", "start", "()J"⟩ : MethodName)) hown (mvT hZ (hw _ (List.mem_of_getElem? (i := 30) rfl))) (mvT hZ (hw _ (List.mem_of_getElem? (i := 31) rfl))) (notFace_of_selects (args := #[]) (mvT hZ (hw _ (List.mem_of_getElem? (i := 33) rfl)))) (mvT hZ (hw _ (List.mem_of_getElem? (i := 33) rfl))) (mvT hZ (hw _ (List.mem_of_getElem? (i := 32) rfl))) (by decide) (backOf (W := 2) (own_rm6 l Z a0 hw [] b1 q1 q2 i T2.heap n0 (Nat.le_trans (Nat.le_trans (Z0) E1.1) K2.1) F2_b1_start F2_b1_end F2_b1_inclusive) hZ (hw _ (List.mem_of_getElem? (i := 34) rfl)) (hw _ (List.mem_of_getElem? (i := 2) rfl)) (by decide) (by decide)) q13a q13c (g := (mkF m 88 #[.val (.long q1), .second, .val (.long q2), .second, .val (.long q3), .second, .val (.int p4), .val (.int i), .val (.ref b1), .val (.int (own_emp q1 q2 i)), .val (.int (own_mem q1 q2 i q1)), .val (.int (own_mem q1 q2 i q3)), .unset] [(.ref b1), (.long (own_last q2 i))])) rfl (by rw [hml]; rfl) (Steps.refl _) (argsL := []) (rest := [(.long (own_last q2 i))]) (lenOf own_pd0_3 rfl) rfl (by show 2 * 0 + _ ≤ _; exact Nat.le_of_eq rfl) (hb hby at_88) (fun _ _ => ⟨rfl, e12, (by decide : 1 + 0 ≤ _), (by decide : 3 + 0 ≤ _)⟩)
        dsimp only [Pt.U, Pt.locs, Pt.cells, Pt.slots] at X13 l13 y13 z13 st13 hQ13
        subst l13 y13 z13
        obtain ⟨rfl, Nq13, e13⟩ := hQ13
        have N13 := Fr.app N12 Nq13
        refine own_step (fun t k => st13.trans k) ?_
        show own_Go _ _ _ _ _ _ _ T13 (mkF m 91 #[.val (.long q1), .second, .val (.long q2), .second, .val (.long q3), .second, .val (.int p4), .val (.int i), .val (.ref b1), .val (.int (own_emp q1 q2 i)), .val (.int (own_mem q1 q2 i q1)), .val (.int (own_mem q1 q2 i q3)), .unset] [(.long q1), (.long (own_last q2 i))])
        refine own_step (fun t k => XS.lcmp X13.here hx rfl (hb hby at_91) rfl k) ?_
        have l3 : ¬ lcmpW (own_last q2 i) q1 < 0 := by rw [lw_lt]; exact own_l3 q1 q2 i c78_11
        show own_Go _ _ _ _ _ _ _ T13 (mkF m 92 #[.val (.long q1), .second, .val (.long q2), .second, .val (.long q3), .second, .val (.int p4), .val (.int i), .val (.ref b1), .val (.int (own_emp q1 q2 i)), .val (.int (own_mem q1 q2 i q1)), .val (.int (own_mem q1 q2 i q3)), .unset] [(.int (lcmpW (own_last q2 i) q1))])
        refine own_step (fun t k => XS.ifYes X13.here hx rfl (pc0 := 92) (pc' := 97) rfl (hb hby at_92) rfl ((if0 _ _).trans (flt (l3)).2.1) (by decide) (by decide) k) ?_
        show own_Go _ _ _ _ _ _ _ T13 (mkF m 97 #[.val (.long q1), .second, .val (.long q2), .second, .val (.long q3), .second, .val (.int p4), .val (.int i), .val (.ref b1), .val (.int (own_emp q1 q2 i)), .val (.int (own_mem q1 q2 i q1)), .val (.int (own_mem q1 q2 i q3)), .unset] [])
        show own_Go _ _ _ _ _ _ _ T13 (mkF m 97 #[.val (.long q1), .second, .val (.long q2), .second, .val (.long q3), .second, .val (.int p4), .val (.int i), .val (.ref b1), .val (.int (own_emp q1 q2 i)), .val (.int (own_mem q1 q2 i q1)), .val (.int (own_mem q1 q2 i q3)), .unset] [])
        refine own_step (fun t k => XS.iload X13.here hx rfl (hb hby at_97) rfl k) ?_
        rcases Classical.em (i = (0 : Int32)) with c99_14 | c99_14
        · show own_Go _ _ _ _ _ _ _ T13 (mkF m 99 #[.val (.long q1), .second, .val (.long q2), .second, .val (.long q3), .second, .val (.int p4), .val (.int i), .val (.ref b1), .val (.int (own_emp q1 q2 i)), .val (.int (own_mem q1 q2 i q1)), .val (.int (own_mem q1 q2 i q3)), .unset] [(.int i)])
          refine own_step (fun t k => XS.ifNo X13.here hx rfl (hb hby at_99) rfl ((if0 _ _).trans (teq (c99_14)).2) k) ?_
          show own_Go _ _ _ _ _ _ _ T13 (mkF m 102 #[.val (.long q1), .second, .val (.long q2), .second, .val (.long q3), .second, .val (.int p4), .val (.int i), .val (.ref b1), .val (.int (own_emp q1 q2 i)), .val (.int (own_mem q1 q2 i q1)), .val (.int (own_mem q1 q2 i q3)), .unset] [])
          refine own_step (fun t k => XS.lloadN X13.here hx rfl (hb hby at_102) rfl k) ?_
          show own_Go _ _ _ _ _ _ _ T13 (mkF m 103 #[.val (.long q1), .second, .val (.long q2), .second, .val (.long q3), .second, .val (.int p4), .val (.int i), .val (.ref b1), .val (.int (own_emp q1 q2 i)), .val (.int (own_mem q1 q2 i q1)), .val (.int (own_mem q1 q2 i q3)), .unset] [(.long q2)])
          refine own_step (fun t k => X13.ldc2Long hx hown (mvT hZ (hw _ (List.mem_of_getElem? (i := 24) rfl))) (g := (mkF m 103 #[.val (.long q1), .second, .val (.long q2), .second, .val (.long q3), .second, .val (.int p4), .val (.int i), .val (.ref b1), .val (.int (own_emp q1 q2 i)), .val (.int (own_mem q1 q2 i q1)), .val (.int (own_mem q1 q2 i q3)), .unset] [(.long q2)])) rfl (hb hby at_103) t k) ?_
          show own_Go _ _ _ _ _ _ _ T13 (mkF m 106 #[.val (.long q1), .second, .val (.long q2), .second, .val (.long q3), .second, .val (.int p4), .val (.int i), .val (.ref b1), .val (.int (own_emp q1 q2 i)), .val (.int (own_mem q1 q2 i q1)), .val (.int (own_mem q1 q2 i q3)), .unset] [(.long (-9223372036854775808 : Int64)), (.long q2)])
          refine own_step (fun t k => XS.lcmp X13.here hx rfl (hb hby at_106) rfl k) ?_
          rcases Classical.em ((lcmpW q2 (-9223372036854775808 : Int64)) = (0 : Int32)) with c107_15 | c107_15
          · show own_Go _ _ _ _ _ _ _ T13 (mkF m 107 #[.val (.long q1), .second, .val (.long q2), .second, .val (.long q3), .second, .val (.int p4), .val (.int i), .val (.ref b1), .val (.int (own_emp q1 q2 i)), .val (.int (own_mem q1 q2 i q1)), .val (.int (own_mem q1 q2 i q3)), .unset] [(.int (lcmpW q2 (-9223372036854775808 : Int64)))])
            refine own_step (fun t k => XS.ifYes X13.here hx rfl (pc0 := 107) (pc' := 136) rfl (hb hby at_107) rfl ((if0 _ _).trans (teq (c107_15)).1) (by decide) (by decide) k) ?_
            show own_Go _ _ _ _ _ _ _ T13 (mkF m 136 #[.val (.long q1), .second, .val (.long q2), .second, .val (.long q3), .second, .val (.int p4), .val (.int i), .val (.ref b1), .val (.int (own_emp q1 q2 i)), .val (.int (own_mem q1 q2 i q1)), .val (.int (own_mem q1 q2 i q3)), .unset] [])
            refine own_step (fun t k => XS.iconst X13.here hx rfl (hb hby at_136) k) ?_
            show own_Go _ _ _ _ _ _ _ T13 (mkF m 137 #[.val (.long q1), .second, .val (.long q2), .second, .val (.long q3), .second, .val (.int p4), .val (.int i), .val (.ref b1), .val (.int (own_emp q1 q2 i)), .val (.int (own_mem q1 q2 i q1)), .val (.int (own_mem q1 q2 i q3)), .unset] [(.int (1 : Int32))])
            refine own_ret X13 hx hlk Bd.returns rfl (Or.inl ⟨rfl, Or.inr (Or.inl rfl), _, rfl⟩) (hb hby at_137) (by decide) (by decide) ?_
            show own_Q0 Z q1 q2 q3 p4 h0 n0 (some (.int (1 : Int32))) T13.heap _
            exact ⟨rfl, N13⟩
          · show own_Go _ _ _ _ _ _ _ T13 (mkF m 107 #[.val (.long q1), .second, .val (.long q2), .second, .val (.long q3), .second, .val (.int p4), .val (.int i), .val (.ref b1), .val (.int (own_emp q1 q2 i)), .val (.int (own_mem q1 q2 i q1)), .val (.int (own_mem q1 q2 i q3)), .unset] [(.int (lcmpW q2 (-9223372036854775808 : Int64)))])
            refine own_step (fun t k => XS.ifNo X13.here hx rfl (hb hby at_107) rfl ((if0 _ _).trans (feq (c107_15)).1) k) ?_
            rw [lw_eq] at c107_15
            have hi0 : (1 : Int32) = 0 ∨ (1 : Int32) = 1 := Or.inr rfl
            show own_Go _ _ _ _ _ _ _ T13 (mkF m 110 #[.val (.long q1), .second, .val (.long q2), .second, .val (.long q3), .second, .val (.int p4), .val (.int i), .val (.ref b1), .val (.int (own_emp q1 q2 i)), .val (.int (own_mem q1 q2 i q1)), .val (.int (own_mem q1 q2 i q3)), .unset] [])
            obtain ⟨T16, h16, X16, e16, E16, A16, D16, -, st16⟩ := newO X13 hx hZ hown (hw _ (List.mem_of_getElem? (i := 0) rfl)) (hw _ (List.mem_of_getElem? (i := 1) rfl)) (hw _ (List.mem_of_getElem? (i := 2) rfl)) e13 (g := (mkF m 110 #[.val (.long q1), .second, .val (.long q2), .second, .val (.long q3), .second, .val (.int p4), .val (.int i), .val (.ref b1), .val (.int (own_emp q1 q2 i)), .val (.int (own_mem q1 q2 i q1)), .val (.int (own_mem q1 q2 i q3)), .unset] [])) rfl (hb hby at_110) (by decide) (by decide)
            obtain ⟨b16, g16⟩ : ∃ z, z = T2.heap.size := ⟨_, rfl⟩
            rw [← g16] at A16 D16 st16
            have F16_start : Fld Z h16 b16 "com/example/corvid/corvid/Range" "start" "J" (.long (0 : Int64)) := D16 (Or.inr (hw _ (List.mem_of_getElem? (i := 10) rfl))) (ty := .long) (by decide)
            have F16_end : Fld Z h16 b16 "com/example/corvid/corvid/Range" "end" "J" (.long (0 : Int64)) := D16 (Or.inr (hw _ (List.mem_of_getElem? (i := 12) rfl))) (ty := .long) (by decide)
            have F16_inclusive : Fld Z h16 b16 "com/example/corvid/corvid/Range" "inclusive" "Z" (.int (0 : Int32)) := D16 (Or.inr (hw _ (List.mem_of_getElem? (i := 14) rfl))) (ty := .boolean) (by decide)
            have nb16 : n0 ≤ b16 := by have := Nat.le_of_eq g16.symm; exact Nat.le_trans ((Nat.le_trans (Nat.le_trans (Z0) E1.1) K2.1)) this
            refine own_step st16 ?_
            show own_Go _ _ _ _ _ _ _ T16 (mkF m 113 #[.val (.long q1), .second, .val (.long q2), .second, .val (.long q3), .second, .val (.int p4), .val (.int i), .val (.ref b1), .val (.int (own_emp q1 q2 i)), .val (.int (own_mem q1 q2 i q1)), .val (.int (own_mem q1 q2 i q3)), .unset] [(.ref b16)])
            refine own_step (fun t k => XS.dup X16.here hx rfl (hb hby at_113) rfl rfl k) ?_
            show own_Go _ _ _ _ _ _ _ T16 (mkF m 114 #[.val (.long q1), .second, .val (.long q2), .second, .val (.long q3), .second, .val (.int p4), .val (.int i), .val (.ref b1), .val (.int (own_emp q1 q2 i)), .val (.int (own_mem q1 q2 i q1)), .val (.int (own_mem q1 q2 i q3)), .unset] [(.ref b16), (.ref b16)])
            refine own_step (fun t k => XS.lloadN X16.here hx rfl (hb hby at_114) rfl k) ?_
            show own_Go _ _ _ _ _ _ _ T16 (mkF m 115 #[.val (.long q1), .second, .val (.long q2), .second, .val (.long q3), .second, .val (.int p4), .val (.int i), .val (.ref b1), .val (.int (own_emp q1 q2 i)), .val (.int (own_mem q1 q2 i q1)), .val (.int (own_mem q1 q2 i q3)), .unset] [(.long q1), (.ref b16), (.ref b16)])
            refine own_step (fun t k => XS.lloadN X16.here hx rfl (hb hby at_115) rfl k) ?_
            show own_Go _ _ _ _ _ _ _ T16 (mkF m 116 #[.val (.long q1), .second, .val (.long q2), .second, .val (.long q3), .second, .val (.int p4), .val (.int i), .val (.ref b1), .val (.int (own_emp q1 q2 i)), .val (.int (own_mem q1 q2 i q1)), .val (.int (own_mem q1 q2 i q3)), .unset] [(.long q2), (.long q1), (.ref b16), (.ref b16)])
            refine own_step (fun t k => XS.lconst X16.here hx rfl (hb hby at_116) k) ?_
            show own_Go _ _ _ _ _ _ _ T16 (mkF m 117 #[.val (.long q1), .second, .val (.long q2), .second, .val (.long q3), .second, .val (.int p4), .val (.int i), .val (.ref b1), .val (.int (own_emp q1 q2 i)), .val (.int (own_mem q1 q2 i q1)), .val (.int (own_mem q1 q2 i q3)), .unset] [(.long (1 : Int64)), (.long q2), (.long q1), (.ref b16), (.ref b16)])
            refine own_step (fun t k => XS.lsub X16.here hx rfl (hb hby at_117) rfl k) ?_
            show own_Go _ _ _ _ _ _ _ T16 (mkF m 118 #[.val (.long q1), .second, .val (.long q2), .second, .val (.long q3), .second, .val (.int p4), .val (.int i), .val (.ref b1), .val (.int (own_emp q1 q2 i)), .val (.int (own_mem q1 q2 i q1)), .val (.int (own_mem q1 q2 i q3)), .unset] [(.long (q2 - (1 : Int64))), (.long q1), (.ref b16), (.ref b16)])
            refine own_step (fun t k => XS.iconst X16.here hx rfl (hb hby at_118) k) ?_
            show own_Go _ _ _ _ _ _ _ T16 (mkF m 119 #[.val (.long q1), .second, .val (.long q2), .second, .val (.long q3), .second, .val (.int p4), .val (.int i), .val (.ref b1), .val (.int (own_emp q1 q2 i)), .val (.int (own_mem q1 q2 i q1)), .val (.int (own_mem q1 q2 i q3)), .unset] [(.int (1 : Int32)), (.long (q2 - (1 : Int64))), (.long q1), (.ref b16), (.ref b16)])
            obtain ⟨_, _, ⟨T17, L17, k17, n17⟩, -, X17, ⟨Lc17, hQ17, l17, y17, z17⟩, st17⟩ := X16.specialBack hx (y := (⟨"com/example/corvid/corvid/Range", "<init>", "(JJZ)V"⟩ : MethodName)) rfl hown (mvT hZ (hw _ (List.mem_of_getElem? (i := 3) rfl))) (mvT hZ (hw _ (List.mem_of_getElem? (i := 4) rfl))) (mvT hZ (hw _ (List.mem_of_getElem? (i := 5) rfl))) (by decide) (backOf (W := 1) (own_rm1 l Z a0 hw [] b16 q1 (q2 - (1 : Int64)) (1 : Int32) h16 n0 (Nat.le_trans ((Nat.le_trans (Nat.le_trans (Z0) E1.1) K2.1)) E16.1) F16_start F16_end F16_inclusive A16 nb16 hi0) hZ (hw _ (List.mem_of_getElem? (i := 5) rfl)) (hw _ (List.mem_of_getElem? (i := 2) rfl)) (by decide) (by decide)) (g := (mkF m 119 #[.val (.long q1), .second, .val (.long q2), .second, .val (.long q3), .second, .val (.int p4), .val (.int i), .val (.ref b1), .val (.int (own_emp q1 q2 i)), .val (.int (own_mem q1 q2 i q1)), .val (.int (own_mem q1 q2 i q3)), .unset] [(.int (1 : Int32)), (.long (q2 - (1 : Int64))), (.long q1), (.ref b16), (.ref b16)])) rfl (by rw [hml]; rfl) (Steps.refl _) (a := b16) (argsL := [(.long q1), (.long (q2 - (1 : Int64))), (.int (1 : Int32))]) (rest := [(.ref b16)]) (lenOf own_pd0_0 rfl) rfl (by show 2 * 0 + _ ≤ _; exact Nat.le_of_eq rfl) (hb hby at_119) (fun _ _ => ⟨rfl, e16, (by decide : 2 + 0 ≤ _), (by decide : 6 + 0 ≤ _)⟩)
            dsimp only [Pt.U, Pt.locs, Pt.cells, Pt.slots] at X17 l17 y17 z17 st17 hQ17
            subst l17 y17 z17
            obtain ⟨rfl, Nq17, K17, E17_b16, F17_b16_start, F17_b16_end, F17_b16_inclusive⟩ := hQ17
            have N17 := Fr.app N13 Nq17
            refine own_step (fun t k => st17.trans k) ?_
            show own_Go _ _ _ _ _ _ _ T17 (mkF m 122 #[.val (.long q1), .second, .val (.long q2), .second, .val (.long q3), .second, .val (.int p4), .val (.int i), .val (.ref b1), .val (.int (own_emp q1 q2 i)), .val (.int (own_mem q1 q2 i q1)), .val (.int (own_mem q1 q2 i q3)), .unset] [(.ref b16)])
            refine own_step (fun t k => XS.astore X17.here hx rfl (hb hby at_122) rfl rfl (l' := #[.val (.long q1), .second, .val (.long q2), .second, .val (.long q3), .second, .val (.int p4), .val (.int i), .val (.ref b1), .val (.int (own_emp q1 q2 i)), .val (.int (own_mem q1 q2 i q1)), .val (.int (own_mem q1 q2 i q3)), .val (.ref b16)]) rfl k) ?_
            show own_Go _ _ _ _ _ _ _ T17 (mkF m 124 #[.val (.long q1), .second, .val (.long q2), .second, .val (.long q3), .second, .val (.int p4), .val (.int i), .val (.ref b1), .val (.int (own_emp q1 q2 i)), .val (.int (own_mem q1 q2 i q1)), .val (.int (own_mem q1 q2 i q3)), .val (.ref b16)] [])
            refine own_step (fun t k => XS.aload X17.here hx rfl (hb hby at_124) rfl rfl k) ?_
            show own_Go _ _ _ _ _ _ _ T17 (mkF m 126 #[.val (.long q1), .second, .val (.long q2), .second, .val (.long q3), .second, .val (.int p4), .val (.int i), .val (.ref b1), .val (.int (own_emp q1 q2 i)), .val (.int (own_mem q1 q2 i q1)), .val (.int (own_mem q1 q2 i q3)), .val (.ref b16)] [(.ref b16)])
            obtain ⟨cq18, kq18, q18a, q18b, q18c⟩ := isOf hZ rfl E17_b16
            obtain ⟨_, _, ⟨T18, L18, k18, n18⟩, -, X18, ⟨Lc18, hQ18, l18, y18, z18⟩, st18⟩ := X17.virtualBack hx (y := (⟨"com/example/corvid/corvid/Range", "isEmpty", "()Z"⟩ : MethodName)) (z := (⟨"com/example/corvid/corvid/Range", "isEmpty", "()Z"⟩ : MethodName)) hown (mvT hZ (hw _ (List.mem_of_getElem? (i := 15) rfl))) (mvT hZ (hw _ (List.mem_of_getElem? (i := 16) rfl))) (notFace_of_selects (args := #[]) (mvT hZ (hw _ (List.mem_of_getElem? (i := 18) rfl)))) (mvT hZ (hw _ (List.mem_of_getElem? (i := 18) rfl))) (mvT hZ (hw _ (List.mem_of_getElem? (i := 17) rfl))) (by decide) (backOf (W := 0) (own_rm3 l Z a0 hw [] b16 q1 (q2 - (1 : Int64)) (1 : Int32) T17.heap n0 (Nat.le_trans (Nat.le_trans ((Nat.le_trans (Nat.le_trans (Z0) E1.1) K2.1)) E16.1) K17.1) F17_b16_start F17_b16_end F17_b16_inclusive) hZ (hw _ (List.mem_of_getElem? (i := 19) rfl)) (hw _ (List.mem_of_getElem? (i := 2) rfl)) (by decide) (by decide)) q18a q18c (g := (mkF m 126 #[.val (.long q1), .second, .val (.long q2), .second, .val (.long q3), .second, .val (.int p4), .val (.int i), .val (.ref b1), .val (.int (own_emp q1 q2 i)), .val (.int (own_mem q1 q2 i q1)), .val (.int (own_mem q1 q2 i q3)), .val (.ref b16)] [(.ref b16)])) rfl (by rw [hml]; rfl) (Steps.refl _) (argsL := []) (rest := []) (lenOf own_pd0_1 rfl) rfl (by show 2 * 0 + _ ≤ _; exact Nat.le_of_eq rfl) (hb hby at_126) (fun _ _ => ⟨rfl, rfl, (by decide : 2 + 0 ≤ _), (by decide : 6 + 0 ≤ _)⟩)
            dsimp only [Pt.U, Pt.locs, Pt.cells, Pt.slots] at X18 l18 y18 z18 st18 hQ18
            subst l18 y18 z18
            obtain ⟨rfl, Nq18, e18⟩ := hQ18
            have N18 := Fr.app N17 Nq18
            refine own_step (fun t k => st18.trans k) ?_
            show own_Go _ _ _ _ _ _ _ T18 (mkF m 129 #[.val (.long q1), .second, .val (.long q2), .second, .val (.long q3), .second, .val (.int p4), .val (.int i), .val (.ref b1), .val (.int (own_emp q1 q2 i)), .val (.int (own_mem q1 q2 i q1)), .val (.int (own_mem q1 q2 i q3)), .val (.ref b16)] [(.int (own_emp q1 (q2 - (1 : Int64)) (1 : Int32)))])
            refine own_step (fun t k => XS.iload X18.here hx rfl (hb hby at_129) rfl k) ?_
            have l4 : own_emp q1 (q2 - (1 : Int64)) (1 : Int32) = own_emp q1 q2 i := by rw [c99_14]; exact own_l4 q1 q2 c107_15
            show own_Go _ _ _ _ _ _ _ T18 (mkF m 131 #[.val (.long q1), .second, .val (.long q2), .second, .val (.long q3), .second, .val (.int p4), .val (.int i), .val (.ref b1), .val (.int (own_emp q1 q2 i)), .val (.int (own_mem q1 q2 i q1)), .val (.int (own_mem q1 q2 i q3)), .val (.ref b16)] [(.int (own_emp q1 q2 i)), (.int (own_emp q1 (q2 - (1 : Int64)) (1 : Int32)))])
            refine own_step (fun t k => XS.icmpYes X18.here hx rfl (pc0 := 131) (pc' := 136) rfl (hb hby at_131) rfl (teq (l4)).1 (by decide) (by decide) k) ?_
            show own_Go _ _ _ _ _ _ _ T18 (mkF m 136 #[.val (.long q1), .second, .val (.long q2), .second, .val (.long q3), .second, .val (.int p4), .val (.int i), .val (.ref b1), .val (.int (own_emp q1 q2 i)), .val (.int (own_mem q1 q2 i q1)), .val (.int (own_mem q1 q2 i q3)), .val (.ref b16)] [])
            refine own_step (fun t k => XS.iconst X18.here hx rfl (hb hby at_136) k) ?_
            show own_Go _ _ _ _ _ _ _ T18 (mkF m 137 #[.val (.long q1), .second, .val (.long q2), .second, .val (.long q3), .second, .val (.int p4), .val (.int i), .val (.ref b1), .val (.int (own_emp q1 q2 i)), .val (.int (own_mem q1 q2 i q1)), .val (.int (own_mem q1 q2 i q3)), .val (.ref b16)] [(.int (1 : Int32))])
            refine own_ret X18 hx hlk Bd.returns rfl (Or.inl ⟨rfl, Or.inr (Or.inl rfl), _, rfl⟩) (hb hby at_137) (by decide) (by decide) ?_
            show own_Q0 Z q1 q2 q3 p4 h0 n0 (some (.int (1 : Int32))) T18.heap _
            exact ⟨rfl, N18⟩
        · show own_Go _ _ _ _ _ _ _ T13 (mkF m 99 #[.val (.long q1), .second, .val (.long q2), .second, .val (.long q3), .second, .val (.int p4), .val (.int i), .val (.ref b1), .val (.int (own_emp q1 q2 i)), .val (.int (own_mem q1 q2 i q1)), .val (.int (own_mem q1 q2 i q3)), .unset] [(.int i)])
          refine own_step (fun t k => XS.ifYes X13.here hx rfl (pc0 := 99) (pc' := 136) rfl (hb hby at_99) rfl ((if0 _ _).trans (feq (c99_14)).2) (by decide) (by decide) k) ?_
          show own_Go _ _ _ _ _ _ _ T13 (mkF m 136 #[.val (.long q1), .second, .val (.long q2), .second, .val (.long q3), .second, .val (.int p4), .val (.int i), .val (.ref b1), .val (.int (own_emp q1 q2 i)), .val (.int (own_mem q1 q2 i q1)), .val (.int (own_mem q1 q2 i q3)), .unset] [])
          refine own_step (fun t k => XS.iconst X13.here hx rfl (hb hby at_136) k) ?_
          show own_Go _ _ _ _ _ _ _ T13 (mkF m 137 #[.val (.long q1), .second, .val (.long q2), .second, .val (.long q3), .second, .val (.int p4), .val (.int i), .val (.ref b1), .val (.int (own_emp q1 q2 i)), .val (.int (own_mem q1 q2 i q1)), .val (.int (own_mem q1 q2 i q3)), .unset] [(.int (1 : Int32))])
          refine own_ret X13 hx hlk Bd.returns rfl (Or.inl ⟨rfl, Or.inr (Or.inl rfl), _, rfl⟩) (hb hby at_137) (by decide) (by decide) ?_
          show own_Q0 Z q1 q2 q3 p4 h0 n0 (some (.int (1 : Int32))) T13.heap _
          exact ⟨rfl, N13⟩
      · show own_Go _ _ _ _ _ _ _ T5 (mkF m 78 #[.val (.long q1), .second, .val (.long q2), .second, .val (.long q3), .second, .val (.int p4), .val (.int i), .val (.ref b1), .val (.int (own_emp q1 q2 i)), .val (.int (own_mem q1 q2 i q1)), .val (.int (own_mem q1 q2 i q3)), .unset] [(.int (own_emp q1 q2 i))])
        refine own_step (fun t k => XS.ifYes X5.here hx rfl (pc0 := 78) (pc' := 97) rfl (hb hby at_78) rfl ((if0 _ _).trans (feq (c78_11)).2) (by decide) (by decide) k) ?_
        show own_Go _ _ _ _ _ _ _ T5 (mkF m 97 #[.val (.long q1), .second, .val (.long q2), .second, .val (.long q3), .second, .val (.int p4), .val (.int i), .val (.ref b1), .val (.int (own_emp q1 q2 i)), .val (.int (own_mem q1 q2 i q1)), .val (.int (own_mem q1 q2 i q3)), .unset] [])
        exact J97
    rcases Classical.em ((own_mem q1 q2 i q3) = (0 : Int32)) with c57_19 | c57_19
    · show own_Go _ _ _ _ _ _ _ T5 (mkF m 57 #[.val (.long q1), .second, .val (.long q2), .second, .val (.long q3), .second, .val (.int p4), .val (.int i), .val (.ref b1), .val (.int (own_emp q1 q2 i)), .val (.int (own_mem q1 q2 i q1)), .val (.int (own_mem q1 q2 i q3)), .unset] [(.int (own_mem q1 q2 i q3))])
      refine own_step (fun t k => XS.ifYes X5.here hx rfl (pc0 := 57) (pc' := 67) rfl (hb hby at_57) rfl ((if0 _ _).trans (teq (c57_19)).1) (by decide) (by decide) k) ?_
      show own_Go _ _ _ _ _ _ _ T5 (mkF m 67 #[.val (.long q1), .second, .val (.long q2), .second, .val (.long q3), .second, .val (.int p4), .val (.int i), .val (.ref b1), .val (.int (own_emp q1 q2 i)), .val (.int (own_mem q1 q2 i q1)), .val (.int (own_mem q1 q2 i q3)), .unset] [])
      exact J67
    · show own_Go _ _ _ _ _ _ _ T5 (mkF m 57 #[.val (.long q1), .second, .val (.long q2), .second, .val (.long q3), .second, .val (.int p4), .val (.int i), .val (.ref b1), .val (.int (own_emp q1 q2 i)), .val (.int (own_mem q1 q2 i q1)), .val (.int (own_mem q1 q2 i q3)), .unset] [(.int (own_mem q1 q2 i q3))])
      refine own_step (fun t k => XS.ifNo X5.here hx rfl (hb hby at_57) rfl ((if0 _ _).trans (feq (c57_19)).1) k) ?_
      show own_Go _ _ _ _ _ _ _ T5 (mkF m 60 #[.val (.long q1), .second, .val (.long q2), .second, .val (.long q3), .second, .val (.int p4), .val (.int i), .val (.ref b1), .val (.int (own_emp q1 q2 i)), .val (.int (own_mem q1 q2 i q1)), .val (.int (own_mem q1 q2 i q3)), .unset] [])
      refine own_step (fun t k => XS.iload X5.here hx rfl (hb hby at_60) rfl k) ?_
      have m1 : own_mem q1 q2 i q3 = 1 := (own_l5 q1 q2 i q3).resolve_left c57_19
      show own_Go _ _ _ _ _ _ _ T5 (mkF m 62 #[.val (.long q1), .second, .val (.long q2), .second, .val (.long q3), .second, .val (.int p4), .val (.int i), .val (.ref b1), .val (.int (own_emp q1 q2 i)), .val (.int (own_mem q1 q2 i q1)), .val (.int (own_mem q1 q2 i q3)), .unset] [(.int (own_emp q1 q2 i))])
      refine own_step (fun t k => XS.ifYes X5.here hx rfl (pc0 := 62) (pc' := 67) rfl (hb hby at_62) rfl ((if0 _ _).trans (teq (own_l1 q1 q2 i q3 m1)).1) (by decide) (by decide) k) ?_
      show own_Go _ _ _ _ _ _ _ T5 (mkF m 67 #[.val (.long q1), .second, .val (.long q2), .second, .val (.long q3), .second, .val (.int p4), .val (.int i), .val (.ref b1), .val (.int (own_emp q1 q2 i)), .val (.int (own_mem q1 q2 i q1)), .val (.int (own_mem q1 q2 i q3)), .unset] [])
      exact J67
  rcases Classical.em ((p4 &&& (1 : Int32)) = (0 : Int32)) with c4_20 | c4_20
  · show own_Go _ _ _ _ _ _ _ s₁ (mkF m 4 #[.val (.long q1), .second, .val (.long q2), .second, .val (.long q3), .second, .val (.int p4), .unset, .unset, .unset, .unset, .unset, .unset] [(.int (p4 &&& (1 : Int32)))])
    refine own_step (fun t k => XS.ifYes X0.here hx rfl (pc0 := 4) (pc' := 11) rfl (hb hby at_4) rfl ((if0 _ _).trans (teq (c4_20)).1) (by decide) (by decide) k) ?_
    show own_Go _ _ _ _ _ _ _ s₁ (mkF m 11 #[.val (.long q1), .second, .val (.long q2), .second, .val (.long q3), .second, .val (.int p4), .unset, .unset, .unset, .unset, .unset, .unset] [])
    refine own_step (fun t k => XS.iconst X0.here hx rfl (hb hby at_11) k) ?_
    show own_Go _ _ _ _ _ _ _ s₁ (mkF m 12 #[.val (.long q1), .second, .val (.long q2), .second, .val (.long q3), .second, .val (.int p4), .unset, .unset, .unset, .unset, .unset, .unset] [(.int (0 : Int32))])
    exact J12 _ (Or.inl rfl)
  · show own_Go _ _ _ _ _ _ _ s₁ (mkF m 4 #[.val (.long q1), .second, .val (.long q2), .second, .val (.long q3), .second, .val (.int p4), .unset, .unset, .unset, .unset, .unset, .unset] [(.int (p4 &&& (1 : Int32)))])
    refine own_step (fun t k => XS.ifNo X0.here hx rfl (hb hby at_4) rfl ((if0 _ _).trans (feq (c4_20)).1) k) ?_
    show own_Go _ _ _ _ _ _ _ s₁ (mkF m 7 #[.val (.long q1), .second, .val (.long q2), .second, .val (.long q3), .second, .val (.int p4), .unset, .unset, .unset, .unset, .unset, .unset] [])
    refine own_step (fun t k => XS.iconst X0.here hx rfl (hb hby at_7) k) ?_
    show own_Go _ _ _ _ _ _ _ s₁ (mkF m 8 #[.val (.long q1), .second, .val (.long q2), .second, .val (.long q3), .second, .val (.int p4), .unset, .unset, .unset, .unset, .unset, .unset] [(.int (1 : Int32))])
    refine own_step (fun t k => XS.goto X0.here hx rfl (pc0 := 8) (pc' := 12) rfl (hb hby at_8) (by decide) (by decide) k) ?_
    show own_Go _ _ _ _ _ _ _ s₁ (mkF m 12 #[.val (.long q1), .second, .val (.long q2), .second, .val (.long q3), .second, .val (.int p4), .unset, .unset, .unset, .unset, .unset, .unset] [(.int (1 : Int32))])
    exact J12 _ (Or.inr rfl)
set_option maxRecDepth 65536 in
set_option maxHeartbeats 40000000 in
theorem own_comes_1 {Post : Tables → Env → Array Value → State → Outcome → State → Prop} (hpost : ∀ tb e args s v u, (limb_1_1.after args s (.returned v) u = true ∧ limb_1_2.after args s (.returned v) u = true ∧ True) → FrameEnd s (.returned v) u (Jvm.fieldLocs frame_1_writes args s ++ Jvm.arrayLocs frame_1_arrays args s ++ Jvm.staticLocs frame_1_statics s) 16 128 → Post tb e args s (.returned v) u) :
    ArmFor flags0 classFile x code maxLocals ret World_1 tables_1 room_1 Calls_1 rest_1 Pre_1 Post := by
  intro l hfl _ _ p e ha hc hk s m args below hf hA hF happ hP
  obtain ⟨hcalls, hrest, hpre⟩ := hP
  obtain ⟨-, -, -, hnamed, -, -, -, hat⟩ := (Spec.applies_iff hf).mp happ
  obtain ⟨hg, hn⟩ := and_e (Cond.before_iff.mp (show (Jvm.Cond.and given_1 narrow_1).before args s = true from hpre))
  obtain ⟨g0, r0⟩ := and_e hg
  obtain ⟨g1, r1⟩ := and_e r0
  obtain ⟨g2, r2⟩ := and_e r1
  obtain ⟨g3, r3⟩ := and_e r2
  have g4 := r3
  obtain ⟨w0, w1, w2, w3, rfl⟩ : ∃ w0 w1 w2 w3 : Value, args = #[w0, w1, w2, w3] := by
    have hs : args.size = 4 := by simpa [Cond.value, given_1] using g0
    obtain ⟨L⟩ := args
    match L, hs with
    | [w0, w1, w2, w3], _ => exact ⟨w0, w1, w2, w3, rfl⟩
  have hw := fun d (hd : d ∈ tables_1) => atoms_spec (ws := Jvm.Cond.code x code maxLocals ret :: tables_1) hat d (List.mem_cons_of_mem _ hd)
  have hfit : Fit s := fun {y c} hc i hi => by
    obtain ⟨ha, rfl⟩ := Array.getElem?_eq_some_iff.mp hc
    have q := List.all_eq_true.mp ((Array.all_eq_true_iff_forall_mem.mp hF) _ (Array.getElem_mem ha)) i (List.mem_range.mpr hi)
    simpa [Array.getElem?_eq_getElem hi] using q
  obtain ⟨i0, ei0⟩ := isL_v g1
  obtain rfl : w0 = (.long i0) := Option.some.inj ei0
  obtain ⟨i1, ei1⟩ := isL_v g2
  obtain rfl : w1 = (.long i1) := Option.some.inj ei1
  obtain ⟨i2, ei2⟩ := isL_v g3
  obtain rfl : w2 = (.long i2) := Option.some.inj ei2
  obtain ⟨i3, ei3⟩ := is_v g4
  obtain rfl : w3 = (.int i3) := Option.some.inj ei3
  obtain ⟨n, o, h1, h2, h3, _, L, rfl, ⟨rfl, N⟩, hq⟩ := own_rm0 l s _ hw tables_1 i0 i1 i2 i3 s.heap s.heap.size (Nat.le_refl _) p e ha hc hk s m _ below hf ((Spec.applies_iff_loose hf).mp happ).1 ⟨rfl, State.Warmed39.refl s, rfl⟩ trivial
  refine ⟨n, _, h1, h2, h3, hpost _ _ _ _ _ _ ⟨Cond.after_iff.mpr rfl, Cond.after_iff.mpr (eq_i res_at (Term.int_eval (1)) rfl), trivial⟩ ⟨hq.1, hq.2.1, (hq.2.2.sift fun y hy => Or.inr (N y hy)).mono (by decide) (by decide)⟩⟩
theorem main_1_1 : Claimed_1_1 := own_comes_1 fun _ _ _ _ _ _ h hF => ⟨h.1, hF⟩
theorem main_1_2 : Claimed_1_2 := own_comes_1 fun _ _ _ _ _ _ h hF => ⟨h.2.1, hF⟩
end Jvm.Pilot.@@N@@
namespace Jvm.Pilot.@@N@@
open Jvm Jvm.ClassFile Sem Op Lib Jvm.Free Jvm.Stand Jvm.Pilot.@@N@@.Jvm.D
/-! MADE BY PROGRAM (witnessworld.py) out of the Statement's table words and the real class files: 9 classes; the members and pool entries that the words name. The judged class is class 1, her method 2. -/
namespace start1
open Jvm.ClassFile
def u (s : String) : CpInfo := .utf8 (stringToUtf16 s)
/-- a pool by its gaps: so many unusable entries, then the entry; so many at the end -/
def gap : Nat → List CpInfo → List CpInfo
  | 0, r => r
  | n + 1, r => .unusable :: gap n r
def poolList (es : List (Nat × CpInfo)) (last : Nat) : List CpInfo := es.foldr (fun e r => gap e.1 (e.2 :: r)) (gap last [])
def pool (es : List (Nat × CpInfo)) (last : Nat) : Array CpInfo := ⟨poolList es last⟩
def fileOf (pool : Array CpInfo) (this : Nat) (attrs : Array Attribute := #[]) (ms : Array MethodInfo := #[]) (fl : Nat := 33) (sup : Nat := 0) (ifs : Array Nat := #[]) (fds : Array FieldInfo := #[]) : ClassFile where
  minorVersion := 0
  majorVersion := 65
  constantPool := pool
  accessFlags := fl
  thisClass := this
  superClass := sup
  interfaces := ifs
  fields := fds
  methods := ms
  attributes := attrs
def plain (name : String) (sup : Option ClassId) : Class where
  name := name
  kind := .ordinary
  loader := none
  accessFlags := 33
  super := sup
  interfaces := #[]
  cf := none
  fields := #[]
  methods := #[]
  instanceTypes := #[]
  staticTypes := #[]
  resolved := #[]
  callSites := []
  init := .initialized
  statics := none
  mirror := none

def pool0 : Array CpInfo := pool [(5, u "<init>"), (0, u "()V"), (1, .class_ 10), (1, u "java/lang/Object")] 113

def k0c0 : Code := { maxStack := 0, maxLocals := 1, code := object_method_1_code, exceptionTable := #[], attributes := #[] }
def k0m0 : Method := { name := "<init>", desc := "()V", sig := { parameters := [], returnType := none }, accessFlags := 1, code := some k0c0 }
/-- java/lang/Object -/
def k0 : Class := { plain "java/lang/Object" none with
  accessFlags := 33
  interfaces := #[]
  cf := some (fileOf pool0 8 #[] #[{ accessFlags := 1, nameIndex := 5, descriptorIndex := 6, attributes := #[] }] 33 0 #[] #[])
  fields := #[]
  methods := #[k0m0]
  instanceTypes := #[]
  staticTypes := #[]
  resolved := Array.replicate 124 none
  statics := none }

def pool1 : Array CpInfo := pool [(2, .class_ 4), (1, u "java/lang/Object"), (0, u "<init>"), (0, u "()V"), (0, .class_ 8), (0, u "com/example/corvid/corvid/Range"), (0, .methodref 7 10), (0, .nameAndType 5 11), (0, u "(JJZ)V"), (0, .methodref 7 13), (0, .nameAndType 14 15), (0, u "isEmpty"), (0, u "()Z"), (0, .methodref 17 18), (0, .class_ 19), (0, .nameAndType 20 21), (0, u "com/example/corvid/corvid/RangeIsEmptyPinLaw"), (0, u "member"), (0, u "(JJZJ)Z"), (0, .methodref 7 23), (0, .nameAndType 24 25), (0, u "last"), (0, u "()J"), (0, .methodref 7 27), (0, .nameAndType 28 25), (0, u "start"), (2, .long 9223372036854775808), (4, u "law"), (0, u "(JJJI)Z")] 2

def k1m0 : Method := { name := "<init>", desc := "()V", sig := { parameters := [], returnType := none }, accessFlags := 2, code := none }
def k1c1 : Code := { maxStack := 4, maxLocals := 7, code := method_2_code, exceptionTable := #[], attributes := #[] }
def k1m1 : Method := { name := "member", desc := "(JJZJ)Z", sig := { parameters := [.long, .long, .boolean, .long], returnType := some .boolean }, accessFlags := 10, code := some k1c1 }
def k1c2 : Code := { maxStack := 8, maxLocals := 13, code := code, exceptionTable := #[], attributes := #[] }
def k1m2 : Method := { name := "law", desc := "(JJJI)Z", sig := { parameters := [.long, .long, .long, .int], returnType := some .boolean }, accessFlags := 9, code := some k1c2 }
/-- com/example/corvid/corvid/RangeIsEmptyPinLaw -/
def k1 : Class := { plain "com/example/corvid/corvid/RangeIsEmptyPinLaw" (some 0) with
  accessFlags := 49
  interfaces := #[]
  cf := some (fileOf pool1 17 #[] #[{ accessFlags := 2, nameIndex := 5, descriptorIndex := 6, attributes := #[] }, { accessFlags := 10, nameIndex := 20, descriptorIndex := 21, attributes := #[] }, { accessFlags := 9, nameIndex := 36, descriptorIndex := 37, attributes := #[] }] 49 2 #[] #[])
  fields := #[]
  methods := #[k1m0, k1m1, k1m2]
  instanceTypes := #[]
  staticTypes := #[]
  resolved := Array.replicate 40 none
  statics := none }

def pool2 : Array CpInfo := pool [(1, .methodref 2 3), (0, .class_ 4), (0, .nameAndType 5 6), (0, u "java/lang/Object"), (0, u "<init>"), (0, u "()V"), (0, .fieldref 8 9), (0, .class_ 10), (0, .nameAndType 11 12), (0, u "com/example/corvid/corvid/Range"), (0, u "start"), (0, u "J"), (0, .fieldref 8 14), (0, .nameAndType 15 12), (0, u "end"), (0, .fieldref 8 17), (0, .nameAndType 18 19), (0, u "inclusive"), (0, u "Z"), (14, u "(JJZ)V"), (2, u "()J"), (0, u "isEmpty"), (0, u "()Z"), (1, u "last")] 24

def k2c0 : Code := { maxStack := 3, maxLocals := 6, code := prog_115_method_1_code, exceptionTable := #[], attributes := #[] }
def k2m0 : Method := { name := "<init>", desc := "(JJZ)V", sig := { parameters := [.long, .long, .boolean], returnType := none }, accessFlags := 0, code := some k2c0 }
def k2c1 : Code := { maxStack := 2, maxLocals := 1, code := prog_115_method_2_code, exceptionTable := #[], attributes := #[] }
def k2m1 : Method := { name := "start", desc := "()J", sig := { parameters := [], returnType := some .long }, accessFlags := 0, code := some k2c1 }
def k2c2 : Code := { maxStack := 4, maxLocals := 1, code := prog_115_method_3_code, exceptionTable := #[], attributes := #[] }
def k2m2 : Method := { name := "isEmpty", desc := "()Z", sig := { parameters := [], returnType := some .boolean }, accessFlags := 0, code := some k2c2 }
def k2c3 : Code := { maxStack := 4, maxLocals := 1, code := prog_115_method_4_code, exceptionTable := #[], attributes := #[] }
def k2m3 : Method := { name := "last", desc := "()J", sig := { parameters := [], returnType := some .long }, accessFlags := 0, code := some k2c3 }
/-- com/example/corvid/corvid/Range -/
def k2 : Class := { plain "com/example/corvid/corvid/Range" (some 0) with
  accessFlags := 48
  interfaces := #[]
  cf := some (fileOf pool2 8 #[] #[{ accessFlags := 0, nameIndex := 5, descriptorIndex := 34, attributes := #[] }, { accessFlags := 0, nameIndex := 11, descriptorIndex := 37, attributes := #[] }, { accessFlags := 0, nameIndex := 38, descriptorIndex := 39, attributes := #[] }, { accessFlags := 0, nameIndex := 41, descriptorIndex := 37, attributes := #[] }] 48 2 #[] #[{ accessFlags := 18, nameIndex := 11, descriptorIndex := 12, attributes := #[] }, { accessFlags := 18, nameIndex := 15, descriptorIndex := 12, attributes := #[] }, { accessFlags := 18, nameIndex := 18, descriptorIndex := 19, attributes := #[] }])
  fields := #[{ name := "start", type := .long, accessFlags := 18, slot := 0, constantValue := 0 }, { name := "end", type := .long, accessFlags := 18, slot := 1, constantValue := 0 }, { name := "inclusive", type := .boolean, accessFlags := 18, slot := 2, constantValue := 0 }]
  methods := #[k2m0, k2m1, k2m2, k2m3]
  instanceTypes := #[.long, .long, .boolean]
  staticTypes := #[]
  resolved := Array.replicate 66 none
  statics := none }

def pool3 : Array CpInfo := pool [(1, u "java/lang/Cloneable"), (0, .class_ 1), (0, u "java/lang/Object"), (0, .class_ 3)] 3

/-- java/lang/Cloneable -/
def k3 : Class := { plain "java/lang/Cloneable" (some 0) with
  accessFlags := 1537
  interfaces := #[]
  cf := some (fileOf pool3 2 #[] #[] 1537 4 #[] #[])
  fields := #[]
  methods := #[]
  instanceTypes := #[]
  staticTypes := #[]
  resolved := Array.replicate 8 none
  statics := none }

def pool4 : Array CpInfo := pool [(1, u "java/io/Serializable"), (0, .class_ 1), (0, u "java/lang/Object"), (0, .class_ 3)] 3

/-- java/io/Serializable -/
def k4 : Class := { plain "java/io/Serializable" (some 0) with
  accessFlags := 1537
  interfaces := #[]
  cf := some (fileOf pool4 2 #[] #[] 1537 4 #[] #[])
  fields := #[]
  methods := #[]
  instanceTypes := #[]
  staticTypes := #[]
  resolved := Array.replicate 8 none
  statics := none }

/-- the primitive byte -/
def k5 : Class := { plain "byte" none with kind := .primitive 'B', accessFlags := 0x411 }
/-- [B -/
def k6 : Class := { plain "[B" (some 0) with kind := .array 5 .byte, interfaces := #[3, 4], accessFlags := 1041 }

/-- the primitive int -/
def k7 : Class := { plain "int" none with kind := .primitive 'I', accessFlags := 0x411 }
/-- [I -/
def k8 : Class := { plain "[I" (some 0) with kind := .array 7 .int, interfaces := #[3, 4], accessFlags := 1041 }

def heap : Heap := #[]
def classes : Array Class := #[k0, k1, k2, k3, k4, k5, k6, k7, k8]
def interned : List (Array UInt16 × Addr) := []
def slotsUsed : Nat := 0
def theMethod : MethodId := ⟨1, 2⟩
def args0 : Array Value := #[.long 5, .long 7, .long 6, .int 1]
def aboutOver (below : List Frame) : State where
  vm := { classes := classes, interned := interned.toArray }
  heap := heap
  slotsUsed := slotsUsed
  threads := #[{ frames := .invoking theMethod args0 :: below }]
def below0 : List Frame := [.native { method := ⟨0, 0⟩, args := #[] }]
def about1 : State := aboutOver below0
def p0 : Program := .bare "" "" ""
def e0 : Env := launch0.env 0 0 0
theorem w_frames : about1.frames = Frame.invoking theMethod args0 :: below0 := rfl
set_option maxRecDepth 65536 in
theorem w_args : argsFit about1.vm theMethod args0 = true := by decide +kernel
set_option maxRecDepth 65536 in
theorem w_heap : heapFits about1 = true := by decide +kernel
set_option maxRecDepth 65536 in
theorem w_runnable : about1.curStatus? = some .runnable := by decide +kernel
set_option maxRecDepth 65536 in
theorem w_alone : about1.alone = true := by decide +kernel
set_option maxRecDepth 65536 in
theorem w_named : about1.methodNamed? x = some theMethod := by decide +kernel
set_option maxRecDepth 65536 in
theorem w_hears : about1.hears theMethod below0 = true := by decide +kernel
set_option maxRecDepth 65536 in
theorem w_ripe : about1.ripe theMethod args0 below0 = true := by decide +kernel
theorem w_running : about1.status = .running := rfl
set_option maxRecDepth 65536 in
theorem w_room : about1.hasRoom e0.platform room_1 = true :=
  launch0.hasRoom_least _ room_1 (by decide +kernel) (by decide +kernel) (by decide +kernel) (by decide +kernel) (by decide +kernel) (by decide +kernel)
theorem allAtoms_all (ts : List Jvm.Cond) (a : Array Jvm.Value) (st : Jvm.State) : (allAtoms ts).before a st = ts.all (fun c => c.before a st) := by
  induction ts with
  | nil => rfl
  | cons c t ih =>
    show (Jvm.Cond.and c (allAtoms t)).before a st = _
    rw [Jvm.Cond.before_and, ih, List.all_cons]
def words1 : List Jvm.Cond := Jvm.Cond.code x code maxLocals ret :: tables_1
/-- a 'code' word, met by the world's own term for the bytes: nothing is compared byte by byte -/
theorem code_word {y : MethodName} {bytes : ByteArray} {mx : Nat} {rt : Option FieldType} {a : Array Value} {s : State} {m : MethodId} {meth : Method} {c : Code} (h1 : s.methodNamed? y = some m) (h2 : s.vm.method? m = some meth) (h3 : meth.code = some c) (h4 : c.code = bytes)
    (h5 : (c.maxLocals == mx && c.exceptionTable.isEmpty && decide (c.maxStack ≤ mostOperands) && decide (meth.sig.returnType = rt) && !meth.locks && decide (parseMethodDescriptor y.desc = some meth.sig)) = true) : (Jvm.Cond.code y bytes mx rt).before a s = true := by
  simp only [Bool.and_eq_true, beq_iff_eq, Bool.not_eq_true', decide_eq_true_eq] at h5
  obtain ⟨⟨⟨⟨⟨g1, g2⟩, g3⟩, g4⟩, g5⟩, g6⟩ := h5
  simp [Cond.before, Cond.holds, Cond.value, h1, h2, h3, h4, g1, g2, g3, g4, g5, g6]
def isCode : Jvm.Cond → Bool
  | .code _ _ _ _ => true
  | _ => false
theorem all_split {L : List Jvm.Cond} {P : Jvm.Cond → Bool} (h1 : L.all (fun c => isCode c || P c) = true) (h2 : ∀ c ∈ L.filter isCode, P c = true) : L.all P = true := by
  refine List.all_eq_true.mpr fun c hc => ?_
  have h := List.all_eq_true.mp h1 c hc
  rcases Bool.eq_false_or_eq_true (isCode c) with hi | hi
  · exact h2 c (List.mem_filter.mpr ⟨hc, hi⟩)
  · simpa [hi] using h
set_option maxRecDepth 65536 in
theorem w_c0 : (Jvm.Cond.code x code maxLocals ret).before args0 about1 = true := code_word (m := ⟨1, 2⟩) (meth := k1m2) (c := k1c2) (by decide +kernel) rfl rfl rfl (by decide +kernel)
set_option maxRecDepth 65536 in
theorem w_c1 : (Jvm.Cond.code ({ cls := "com/example/corvid/corvid/Range", name := "<init>", desc := "(JJZ)V" } : Jvm.MethodName) prog_115_method_1_code (6 : Nat) (Option.none : Option Jvm.ClassFile.FieldType)).before args0 about1 = true := code_word (m := ⟨2, 0⟩) (meth := k2m0) (c := k2c0) (by decide +kernel) rfl rfl rfl (by decide +kernel)
set_option maxRecDepth 65536 in
theorem w_c2 : (Jvm.Cond.code ({ cls := "java/lang/Object", name := "<init>", desc := "()V" } : Jvm.MethodName) object_method_1_code (1 : Nat) (Option.none : Option Jvm.ClassFile.FieldType)).before args0 about1 = true := code_word (m := ⟨0, 0⟩) (meth := k0m0) (c := k0c0) (by decide +kernel) rfl rfl rfl (by decide +kernel)
set_option maxRecDepth 65536 in
theorem w_c3 : (Jvm.Cond.code ({ cls := "com/example/corvid/corvid/Range", name := "isEmpty", desc := "()Z" } : Jvm.MethodName) prog_115_method_3_code (1 : Nat) (Option.some Jvm.ClassFile.FieldType.boolean)).before args0 about1 = true := code_word (m := ⟨2, 2⟩) (meth := k2m2) (c := k2c2) (by decide +kernel) rfl rfl rfl (by decide +kernel)
set_option maxRecDepth 65536 in
theorem w_c4 : (Jvm.Cond.code ({ cls := "com/example/corvid/corvid/RangeIsEmptyPinLaw", name := "member", desc := "(JJZJ)Z" } : Jvm.MethodName) method_2_code (7 : Nat) (Option.some Jvm.ClassFile.FieldType.boolean)).before args0 about1 = true := code_word (m := ⟨1, 1⟩) (meth := k1m1) (c := k1c1) (by decide +kernel) rfl rfl rfl (by decide +kernel)
set_option maxRecDepth 65536 in
theorem w_c5 : (Jvm.Cond.code ({ cls := "com/example/corvid/corvid/Range", name := "last", desc := "()J" } : Jvm.MethodName) prog_115_method_4_code (1 : Nat) (Option.some Jvm.ClassFile.FieldType.long)).before args0 about1 = true := code_word (m := ⟨2, 3⟩) (meth := k2m3) (c := k2c3) (by decide +kernel) rfl rfl rfl (by decide +kernel)
set_option maxRecDepth 65536 in
theorem w_c6 : (Jvm.Cond.code ({ cls := "com/example/corvid/corvid/Range", name := "start", desc := "()J" } : Jvm.MethodName) prog_115_method_2_code (1 : Nat) (Option.some Jvm.ClassFile.FieldType.long)).before args0 about1 = true := code_word (m := ⟨2, 1⟩) (meth := k2m1) (c := k2c1) (by decide +kernel) rfl rfl rfl (by decide +kernel)
def codes1 : List Jvm.Cond := [Jvm.Cond.code x code maxLocals ret, Jvm.Cond.code ({ cls := "com/example/corvid/corvid/Range", name := "<init>", desc := "(JJZ)V" } : Jvm.MethodName) prog_115_method_1_code (6 : Nat) (Option.none : Option Jvm.ClassFile.FieldType), Jvm.Cond.code ({ cls := "java/lang/Object", name := "<init>", desc := "()V" } : Jvm.MethodName) object_method_1_code (1 : Nat) (Option.none : Option Jvm.ClassFile.FieldType), Jvm.Cond.code ({ cls := "com/example/corvid/corvid/Range", name := "isEmpty", desc := "()Z" } : Jvm.MethodName) prog_115_method_3_code (1 : Nat) (Option.some Jvm.ClassFile.FieldType.boolean), Jvm.Cond.code ({ cls := "com/example/corvid/corvid/RangeIsEmptyPinLaw", name := "member", desc := "(JJZJ)Z" } : Jvm.MethodName) method_2_code (7 : Nat) (Option.some Jvm.ClassFile.FieldType.boolean), Jvm.Cond.code ({ cls := "com/example/corvid/corvid/Range", name := "last", desc := "()J" } : Jvm.MethodName) prog_115_method_4_code (1 : Nat) (Option.some Jvm.ClassFile.FieldType.long), Jvm.Cond.code ({ cls := "com/example/corvid/corvid/Range", name := "start", desc := "()J" } : Jvm.MethodName) prog_115_method_2_code (1 : Nat) (Option.some Jvm.ClassFile.FieldType.long)]
set_option maxRecDepth 65536 in
theorem codes_eq : words1.filter isCode = codes1 := rfl
theorem w_codes : ∀ c ∈ words1.filter isCode, c.before args0 about1 = true := by
  rw [codes_eq]
  intro c hc
  simp only [codes1, List.mem_cons, List.not_mem_nil, or_false] at hc
  rcases hc with rfl | rfl | rfl | rfl | rfl | rfl | rfl
  · exact w_c0
  · exact w_c1
  · exact w_c2
  · exact w_c3
  · exact w_c4
  · exact w_c5
  · exact w_c6
set_option maxRecDepth 65536 in
theorem w_t1 : (words1.take 24).all (fun c => isCode c || c.before args0 about1) = true := by decide +kernel
set_option maxRecDepth 65536 in
theorem w_t2 : (words1.drop 24).all (fun c => isCode c || c.before args0 about1) = true := by decide +kernel
theorem w_tables : (allAtoms (Jvm.Cond.code x code maxLocals ret :: tables_1)).before args0 about1 = true := by
  rw [allAtoms_all]
  show words1.all (fun c => c.before args0 about1) = true
  refine all_split ?_ w_codes
  rw [← List.take_append_drop 24 words1, List.all_append, w_t1, w_t2]
  rfl
set_option maxRecDepth 65536 in
theorem w_case : (Jvm.Cond.and given_1 narrow_1).before args0 about1 = true := by decide +kernel
theorem w_applies : (headSpec (Jvm.Cond.code x code maxLocals ret :: tables_1) room_1).applies x e0.platform about1 = true :=
  (Spec.applies_iff w_frames).mpr ⟨w_running, w_runnable, w_alone, w_named, w_hears, w_ripe, w_room, w_tables⟩
theorem atStart : AtStart classFile x code maxLocals ret World_1 tables_1 room_1 Calls_1 rest_1 Pre_1 launch0 p0 e0 about1 theMethod args0 below0 :=
  ⟨lists_1, trivial, launch0.admits_env _ _ _, launch0.least_env, fairChoices_fair.cas, fairChoices_fair.clock, w_frames, w_args, w_heap, w_applies, trivial, trivial, w_case⟩
end start1
theorem witness_1 : WitnessClaimed_1 := ⟨start1.p0, start1.e0, start1.about1, start1.theMethod, start1.args0, start1.below0, start1.atStart⟩
end Jvm.Pilot.@@N@@
