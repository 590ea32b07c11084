import JvmDerived
import JvmDerived.Pilot.@@N@@Statement
import JvmDerived.Pilot.@@N@@Code
set_option linter.unusedVariables false
set_option linter.unusedSimpArgs false
namespace Jvm.Pilot.@@N@@
open Jvm Jvm.ClassFile Sem Op Lib Jvm.Free Jvm.Stand Jvm.LawKit Jvm.RoadKit Bundle Jvm.Pilot.@@N@@.Jvm.D
/-- from here the run comes to a return, and Q holds of what it returns, of the heap and of the places written -/
def own_Go (p : Program) (e : Env) (below : List Frame) (s : State) (kc ks : Nat) (Q : Option Value → Heap → List Loc → Prop) (T : State) (g : JFrame) : Prop :=
  ∃ s₂ o, Steps p.tables e below (T.setTop g) s₂ ∧ s₂.status = .running ∧ Ended s₂ below o ∧ ∃ v L, o = .returned v ∧ Q v s₂.heap L ∧ FrameEnd s o s₂ L kc ks
theorem own_step {p : Program} {e : Env} {below : List Frame} {s : State} {kc ks : Nat} {Q : Option Value → Heap → List Loc → Prop} {T T' : State} {g g' : JFrame}
    (h : ∀ t, Steps p.tables e below (T'.setTop g') t → Steps p.tables e below (T.setTop g) t) (k : own_Go p e below s kc ks Q T' g') : own_Go p e below s kc ks Q T g := by
  obtain ⟨s₂, o, h1, r⟩ := k
  exact ⟨s₂, o, h _ h1, r⟩
section Own
variable {p : Program} {l : Launch} {e : Env} {R : Room} {s : State} {m : MethodId} {args : Array Value} {below : List Frame} {meth : Method} {c : Code} {T : State} {locs : List Loc} {cells slots kc ks : Nat} {Q : Option Value → Heap → List Loc → Prop}
theorem own_ret (X : Stand p l e R s m args below meth c T locs cells slots) (hx : p.tables.exec = Jvm.exec) (hlk : meth.locks = false) {pc : Nat} {Ls : Array Slot} {w : Value} {t : FieldType} {i : Instr} {rest : List Value} (hret : meth.sig.returnType = some t) (hn : narrow t w = w)
    (hi : (i = .ireturn ∧ (t = .int ∨ t = .boolean ∨ t = .byte ∨ t = .char ∨ t = .short) ∧ ∃ z, w = .int z) ∨ (i = .lreturn ∧ t = .long ∧ ∃ z, w = .long z) ∨ (i = .dreturn ∧ t = .double ∧ ∃ z, w = .double z) ∨ (i = .freturn ∧ t = .float ∧ ∃ z, w = .float z) ∨ (i = .areturn ∧ t.isReference = true ∧ w.isRef = true))
    (hd : decode c.code pc = .ok (i, 1)) (hc : cells ≤ kc) (hs : slots ≤ ks) (hQ : Q (some w) T.heap locs) : own_Go p e below s kc ks Q T (mkF m pc Ls (w :: rest)) := by
  obtain ⟨fs, hr, hrun, hended, hW, hsame⟩ := X.leave (v := some w) (fun h => by rw [hret] at h; cases h) hlk
  exact ⟨_, _, retOut X hx hret hn hi hd hr, hrun, hended, _, _, rfl, hQ, ⟨_, rfl⟩, hW, hsame.mono hc hs⟩
theorem own_retV (X : Stand p l e R s m args below meth c T locs cells slots) (hx : p.tables.exec = Jvm.exec) (hlk : meth.locks = false) {pc : Nat} {Ls : Array Slot} (hret : meth.sig.returnType = none)
    (hd : decode c.code pc = .ok (.return_, 1)) (hc : cells ≤ kc) (hs : slots ≤ ks) (hQ : Q none T.heap locs) : own_Go p e below s kc ks Q T (mkF m pc Ls []) := by
  obtain ⟨fs, hr, hrun, hended, hW, hsame⟩ := X.leave (v := none) (fun _ => rfl) hlk
  exact ⟨_, _, X.returnOut hx hret hd hr, hrun, hended, _, _, rfl, hQ, ⟨_, rfl⟩, hW, hsame.mono hc hs⟩
theorem own_narZ {z : Int32} (hz : z = 0 ∨ z = 1) : narrow .boolean (.int z) = .int z := by rcases hz with rfl | rfl <;> rfl
end Own
/-- C's chain does not meet K, which can be made (so it is an ordinary class) -/
theorem own_ns_root {Z : State} {a0 : Array Value} {O K : String} {n : Nat} (w : (Cond.noSuperclass O).before a0 Z = true) (wk : (Cond.instantiable K n).before a0 Z = true) (hn : O ≠ K) : NS Z O K := by
  obtain ⟨co, ko, q1, q2, q3, -, -⟩ := Cond.noSuperclass_spec w
  obtain ⟨ck, kk, r1, -⟩ := Cond.instantiable_spec wk
  have hne : co ≠ ck := ids_ne q1 r1 hn
  refine ⟨co, ck, q1, r1, ?_⟩
  intro fuel
  rcases fuel with _ | f
  · rfl
  · simp [Vm.isSubclassAux, hne, q2, q3]
theorem own_ns_no {Z : State} {a0 : Array Value} {C S K : String} {n : Nat} (w : (Cond.superclass C S).before a0 Z = true) (wk : (Cond.instantiable K n).before a0 Z = true) (N : NS Z C K) (hn : C ≠ K) : ∃ c t, Z.vm.findClass C = some c ∧ Z.vm.findClass K = some t ∧ Z.vm.assignable c t = false := by
  obtain ⟨c, t, q0, r0, far⟩ := N
  obtain ⟨_, kc, _, -, qk, -, -, qo, -, -⟩ := Cond.superclass_spec q0 w
  obtain ⟨t', kt, r1, r2, r3, r4, -⟩ := Cond.instantiable_spec wk
  cases r0.symm.trans r1
  have hne : c ≠ t := ids_ne q0 r0 hn
  have ri : kt.isInterface = false := by
    cases h : kt.isInterface <;> simp [h] at r4 ⊢
  refine ⟨c, t, q0, r0, ?_⟩
  show Z.vm.assignableAux (255 + 1) c t = false
  simp [Vm.assignableAux, hne, qk, r2, qo, r3, ri, Vm.isSubclass, far]
theorem own_sta_keep {Z : State} {h h' : Heap} {C n d : String} {w : Value} (F : Sta Z h C n d w) (K : Keep h h' []) : Sta Z h' C n d w := by
  obtain ⟨cf, i, k, f, st, cell, h1, h2, h3, h4, h5, r⟩ := F
  exact ⟨cf, i, k, f, st, cell, h1, h2, h3, h4, K.2.1 _ _ h5 nin0, r⟩
theorem own_arr_keep {Z : State} {h h' : Heap} {a : Addr} {c : Cell} {ty : FieldType} (F : Arr Z h a c ty) (K : Keep h h' []) : Arr Z h' a c ty := ⟨K.2.1 _ _ F.1 nin0, F.2⟩
theorem own_fitZ {z : Int32} (hz : z = 0 ∨ z = 1) : fits .boolean (.int z) = true := by rcases hz with rfl | rfl <;> rfl
theorem own_narR {t : String} {v : Value} (h : v.isRef = true) : narrow (.object t) v = v := by rcases ref_cases h with rfl | ⟨_, rfl⟩ <;> rfl
theorem own_fitR {t : String} {v : Value} (h : v.isRef = true) : fits (.object t) v = true := by rcases ref_cases h with rfl | ⟨_, rfl⟩ <;> rfl
def own_pick (z : Int32) (a b : Addr) : Value := if z &&& 3 = 1 then .ref b else if z &&& 3 = 2 then .null else .ref a
theorem own_pickR (z : Int32) (a b : Addr) : (own_pick z a b).isRef = true := by unfold own_pick; (repeat' split) <;> rfl
def own_kind (z : Int32) : Int32 := if z &&& 3 = 3 then 0 else z &&& 3
theorem own_and3 (z : Int32) : z &&& 3 = 0 ∨ z &&& 3 = 1 ∨ z &&& 3 = 2 ∨ z &&& 3 = 3 := by
  have h := c_and z 3 (by decide)
  have q : (3 : Int32).toInt = 3 := by decide
  rw [q] at h
  have a : (z &&& 3).toInt = 0 ∨ (z &&& 3).toInt = 1 ∨ (z &&& 3).toInt = 2 ∨ (z &&& 3).toInt = 3 := by omega
  rcases a with a | a | a | a
  · exact Or.inl (Int32.toInt_inj.mp a)
  · exact Or.inr (Or.inl (Int32.toInt_inj.mp a))
  · exact Or.inr (Or.inr (Or.inl (Int32.toInt_inj.mp a)))
  · exact Or.inr (Or.inr (Or.inr (Int32.toInt_inj.mp a)))
theorem own_pk (y z : Int32) (a b : Addr) (hn : a ≠ b) : own_pick z a b = own_pick y a b ↔ own_kind y = own_kind z := by
  have hn' : ¬ b = a := fun q => hn q.symm
  unfold own_pick own_kind
  rcases own_and3 y with h | h | h | h <;> rcases own_and3 z with k | k | k | k <;> simp [h, k, hn, hn']
def own_same (v w : Value) : Int32 := if w = v then 1 else 0
theorem own_ch (x : Int32) : ¬ (255 : Int32) < (x &&& (255 : Int32)).toUInt32.toUInt16.toUInt32.toInt32 := by
  rw [i2c_mask]
  have h := c_and x 255 (by decide)
  have q : (255 : Int32).toInt = 255 := by decide
  rw [Int32.lt_iff_toInt_lt, q]; rw [q] at h; omega
theorem d2_0 : decode jdk_43_method_3_code 0 = .ok (.iload_n 0, 1) := by decide +kernel
theorem d2_1 : decode jdk_43_method_3_code 1 = .ok (.sipush 255, 3) := by decide +kernel
theorem d2_4 : decode jdk_43_method_3_code 4 = .ok (.if_icmp .gt 7, 3) := by decide +kernel
theorem d2_7 : decode jdk_43_method_3_code 7 = .ok (.iconst 1, 1) := by decide +kernel
theorem d2_8 : decode jdk_43_method_3_code 8 = .ok (.goto 4, 3) := by decide +kernel
theorem d2_12 : decode jdk_43_method_3_code 12 = .ok (.ireturn, 1) := by decide +kernel
theorem own_pn2 : plainName "java/lang/StringLatin1" = true := by first | (simp [plainName, overriddenIn]; done) | decide +kernel
theorem own_ef2 (m : MethodId) (x0 : Int32) : entryFrame m #[(.int x0)] 1 = mkF m 0 #[.val (.int x0)] [] := by first | (simp [entryFrame, mkF, argsToLocals, Value.category]; done) | rfl
def own_Q2 (Z : State) (p1 : Int32) (h0 : Heap) (n0 : Nat) (v : Option Value) (h : Heap) (L : List Loc) : Prop := v = some (.int 1) ∧ Fr n0 L ∧ h = h0
set_option maxRecDepth 65536 in
set_option maxHeartbeats 40000000 in
theorem own_rm2 (l : Launch) (Z : State) (a0 : Array Value) (hw : ∀ d ∈ tables_1, d.before a0 Z = true) (ws : List Jvm.Cond) (p1 : Int32) (h0 : Heap) (n0 : Nat) (Z0 : n0 ≤ h0.size) (hc : ¬ (255 : Int32) < p1) :
    MetFree l (⟨"java/lang/StringLatin1", "canEncode", "(C)Z"⟩ : MethodName) (head1 (Jvm.Cond.code (⟨"java/lang/StringLatin1", "canEncode", "(C)Z"⟩ : MethodName) jdk_43_method_3_code 1 (some .boolean) :: ws) ({ frames := 0, cells := 0, slots := 0, locals := 0 } : Room)) (fun a U => a = #[(.int p1)] ∧ Z.Warmed39 U.vm ∧ U.heap = h0) (fun _ _ _ _ _ => True) (fun _ U o U' => ∃ v L, o = .returned v ∧ own_Q2 Z p1 h0 n0 v U'.heap L ∧ FrameEnd U o U' L ({ frames := 0, cells := 0, slots := 0, locals := 0 } : Room).cells ({ frames := 0, cells := 0, slots := 0, locals := 0 } : Room).slots) := by
  refine MetFree.of_bodySF (plainFor_of_name own_pn2) hisR ?_
  intro p e s m args below meth c s₁ Bd hml0 hP hK
  obtain ⟨rfl, hZ, hh⟩ := hP
  have hx := Bd.exec
  have hby := Bd.bytes
  have hml : c.maxLocals = 1 := hml0
  have hlk : meth.locks = false := BodyLoose.notSynchronized Bd
  have hown : s.vm.findClass "java/lang/StringLatin1" = some m.cls := findClass_of_methodNamed Bd.named
  have hnm := (name_of_methodNamed Bd.named Bd.method).1
  have X0 : Stand p l e ({ frames := 0, cells := 0, slots := 0, locals := 0 } : Room) s m #[(.int p1)] below meth c s₁ [] 0 0 := Stand.of_body Bd
  have e0 : s₁.heap = h0 := by rw [← hh, Bd.state]; rfl
  have N0 := Fr.nil n0
  show own_Go p e below s ({ frames := 0, cells := 0, slots := 0, locals := 0 } : Room).cells ({ frames := 0, cells := 0, slots := 0, locals := 0 } : Room).slots (own_Q2 Z p1 h0 n0) s₁ (entryFrame m #[(.int p1)] 1)
  refine own_step (fun t k => castTop (own_ef2 m p1) k) ?_
  show own_Go _ _ _ _ _ _ _ s₁ (mkF m 0 #[.val (.int p1)] [])
  refine own_step (fun t k => XS.iloadN X0.here hx rfl (hb hby d2_0) rfl k) ?_
  show own_Go _ _ _ _ _ _ _ s₁ (mkF m 1 #[.val (.int p1)] [(.int p1)])
  refine own_step (fun t k => XS.sipush X0.here hx rfl (hb hby d2_1) k) ?_
  show own_Go _ _ _ _ _ _ _ s₁ (mkF m 4 #[.val (.int p1)] [(.int (255 : Int32)), (.int p1)])
  refine own_step (fun t k => XS.icmpNo X0.here hx rfl (hb hby d2_4) rfl (flt (hc)).2.2.1 k) ?_
  show own_Go _ _ _ _ _ _ _ s₁ (mkF m 7 #[.val (.int p1)] [])
  refine own_step (fun t k => XS.iconst X0.here hx rfl (hb hby d2_7) k) ?_
  show own_Go _ _ _ _ _ _ _ s₁ (mkF m 8 #[.val (.int p1)] [(.int (1 : Int32))])
  refine own_step (fun t k => XS.goto X0.here hx rfl (pc0 := 8) (pc' := 12) rfl (hb hby d2_8) (by decide) (by decide) k) ?_
  show own_Go _ _ _ _ _ _ _ s₁ (mkF m 12 #[.val (.int p1)] [(.int (1 : Int32))])
  refine own_ret X0 hx hlk Bd.returns rfl (Or.inl ⟨rfl, Or.inr (Or.inl rfl), _, rfl⟩) (hb hby d2_12) (by decide) (by decide) ?_
  show own_Q2 Z p1 h0 n0 (some (.int (1 : Int32))) s₁.heap _
  rw [e0]
  exact ⟨rfl, N0, rfl⟩
theorem d3_0 : decode jdk_43_method_46_code 0 = .ok (.iconst 1, 1) := by decide +kernel
theorem d3_1 : decode jdk_43_method_46_code 1 = .ok (.newarray .byte, 2) := by decide +kernel
theorem d3_3 : decode jdk_43_method_46_code 3 = .ok (.dup, 1) := by decide +kernel
theorem d3_4 : decode jdk_43_method_46_code 4 = .ok (.iconst 0, 1) := by decide +kernel
theorem d3_5 : decode jdk_43_method_46_code 5 = .ok (.iload_n 0, 1) := by decide +kernel
theorem d3_6 : decode jdk_43_method_46_code 6 = .ok (.i2b, 1) := by decide +kernel
theorem d3_7 : decode jdk_43_method_46_code 7 = .ok (.bastore, 1) := by decide +kernel
theorem d3_8 : decode jdk_43_method_46_code 8 = .ok (.areturn, 1) := by decide +kernel
theorem own_pn3 : plainName "java/lang/StringLatin1" = true := by first | (simp [plainName, overriddenIn]; done) | decide +kernel
theorem own_ef3 (m : MethodId) (x0 : Int32) : entryFrame m #[(.int x0)] 1 = mkF m 0 #[.val (.int x0)] [] := by first | (simp [entryFrame, mkF, argsToLocals, Value.category]; done) | rfl
def own_Q3 (Z : State) (p1 : Int32) (h0 : Heap) (n0 : Nat) (v : Option Value) (h : Heap) (L : List Loc) : Prop := ∃ y : Addr, v = some (.ref y) ∧ Fr n0 L ∧ Keep h0 h []
set_option maxRecDepth 65536 in
set_option maxHeartbeats 40000000 in
theorem own_rm3 (l : Launch) (Z : State) (a0 : Array Value) (hw : ∀ d ∈ tables_1, d.before a0 Z = true) (ws : List Jvm.Cond) (p1 : Int32) (h0 : Heap) (n0 : Nat) (Z0 : n0 ≤ h0.size)  :
    MetFree l (⟨"java/lang/StringLatin1", "toBytes", "(C)[B"⟩ : MethodName) (head1 (Jvm.Cond.code (⟨"java/lang/StringLatin1", "toBytes", "(C)[B"⟩ : MethodName) jdk_43_method_46_code 1 (some (.array .byte)) :: ws) ({ frames := 0, cells := 1, slots := 1, locals := 0 } : Room)) (fun a U => a = #[(.int p1)] ∧ Z.Warmed39 U.vm ∧ U.heap = h0) (fun _ _ _ _ _ => True) (fun _ U o U' => ∃ v L, o = .returned v ∧ own_Q3 Z p1 h0 n0 v U'.heap L ∧ FrameEnd U o U' L ({ frames := 0, cells := 1, slots := 1, locals := 0 } : Room).cells ({ frames := 0, cells := 1, slots := 1, locals := 0 } : Room).slots) := by
  refine MetFree.of_bodySF (plainFor_of_name own_pn3) hisR ?_
  intro p e s m args below meth c s₁ Bd hml0 hP hK
  obtain ⟨rfl, hZ, hh⟩ := hP
  have hx := Bd.exec
  have hby := Bd.bytes
  have hml : c.maxLocals = 1 := hml0
  have hlk : meth.locks = false := BodyLoose.notSynchronized Bd
  have hown : s.vm.findClass "java/lang/StringLatin1" = some m.cls := findClass_of_methodNamed Bd.named
  have hnm := (name_of_methodNamed Bd.named Bd.method).1
  have X0 : Stand p l e ({ frames := 0, cells := 1, slots := 1, locals := 0 } : Room) s m #[(.int p1)] below meth c s₁ [] 0 0 := Stand.of_body Bd
  have e0 : s₁.heap = h0 := by rw [← hh, Bd.state]; rfl
  have N0 := Fr.nil n0
  show own_Go p e below s ({ frames := 0, cells := 1, slots := 1, locals := 0 } : Room).cells ({ frames := 0, cells := 1, slots := 1, locals := 0 } : Room).slots (own_Q3 Z p1 h0 n0) s₁ (entryFrame m #[(.int p1)] 1)
  refine own_step (fun t k => castTop (own_ef3 m p1) k) ?_
  show own_Go _ _ _ _ _ _ _ s₁ (mkF m 0 #[.val (.int p1)] [])
  refine own_step (fun t k => XS.iconst X0.here hx rfl (hb hby d3_0) k) ?_
  show own_Go _ _ _ _ _ _ _ s₁ (mkF m 1 #[.val (.int p1)] [(.int (1 : Int32))])
  obtain ⟨T1, h1, ca1, X1, e1, E1, A1, st1⟩ := newP X0 hx hZ (hw _ (List.mem_of_getElem? (i := 14) rfl)) e0 (g := (mkF m 1 #[.val (.int p1)] [(.int (1 : Int32))])) rfl (hb hby d3_1) rfl (by decide) (cap := 1) (by decide) (by decide) (by decide) (by decide)
  obtain ⟨b1, g1⟩ : ∃ z, z = h0.size := ⟨_, rfl⟩
  rw [← g1] at A1 st1
  refine own_step st1 ?_
  show own_Go _ _ _ _ _ _ _ T1 (mkF m 3 #[.val (.int p1)] [(.ref b1)])
  refine own_step (fun t k => XS.dup X1.here hx rfl (hb hby d3_3) rfl rfl k) ?_
  show own_Go _ _ _ _ _ _ _ T1 (mkF m 4 #[.val (.int p1)] [(.ref b1), (.ref b1)])
  refine own_step (fun t k => XS.iconst X1.here hx rfl (hb hby d3_4) k) ?_
  show own_Go _ _ _ _ _ _ _ T1 (mkF m 5 #[.val (.int p1)] [(.int (0 : Int32)), (.ref b1), (.ref b1)])
  refine own_step (fun t k => XS.iloadN X1.here hx rfl (hb hby d3_5) rfl k) ?_
  show own_Go _ _ _ _ _ _ _ T1 (mkF m 6 #[.val (.int p1)] [(.int p1), (.int (0 : Int32)), (.ref b1), (.ref b1)])
  refine own_step (fun t k => XS.i2b X1.here hx rfl (hb hby d3_6) rfl k) ?_
  show own_Go _ _ _ _ _ _ _ T1 (mkF m 7 #[.val (.int p1)] [(.int (p1).toInt8.toInt32), (.int (0 : Int32)), (.ref b1), (.ref b1)])
  obtain ⟨T2, h2, X2, e2, W2, st2⟩ := stB X1 hx hZ e1 A1 (j := (0 : Int32)) (by rw [sz_new]; decide) (g := (mkF m 7 #[.val (.int p1)] [(.int (p1).toInt8.toInt32), (.int (0 : Int32)), (.ref b1), (.ref b1)])) rfl rfl (hb hby d3_7)
  have N2 := Fr.snoc X2 N0 (Nat.le_trans Z0 (Nat.le_of_eq g1.symm))
  have K2 : Keep h0 h2 [] := ((Keep.refl h0 []).ext E1).wr W2 (Or.inr (Nat.le_of_eq g1.symm))
  refine own_step st2 ?_
  show own_Go _ _ _ _ _ _ _ T2 (mkF m 8 #[.val (.int p1)] [(.ref b1)])
  refine own_ret X2 hx hlk Bd.returns rfl (Or.inr (Or.inr (Or.inr (Or.inr ⟨rfl, rfl, rfl⟩)))) (hb hby d3_8) (by decide) (by decide) ?_
  show own_Q3 Z p1 h0 n0 (some (.ref b1)) T2.heap _
  rw [e2]
  exact ⟨_, rfl, N2, K2⟩
theorem d4_0 : decode jdk_42_method_151_code 0 = .ok (.aload_n 0, 1) := by decide +kernel
theorem d4_1 : decode jdk_42_method_151_code 1 = .ok (.invokespecial 1, 3) := by decide +kernel
theorem d4_4 : decode jdk_42_method_151_code 4 = .ok (.aload_n 0, 1) := by decide +kernel
theorem d4_5 : decode jdk_42_method_151_code 5 = .ok (.aload_n 1, 1) := by decide +kernel
theorem d4_6 : decode jdk_42_method_151_code 6 = .ok (.putfield 9, 3) := by decide +kernel
theorem d4_9 : decode jdk_42_method_151_code 9 = .ok (.aload_n 0, 1) := by decide +kernel
theorem d4_10 : decode jdk_42_method_151_code 10 = .ok (.iload_n 2, 1) := by decide +kernel
theorem d4_11 : decode jdk_42_method_151_code 11 = .ok (.putfield 15, 3) := by decide +kernel
theorem d4_14 : decode jdk_42_method_151_code 14 = .ok (.return_, 1) := by decide +kernel
theorem own_pn4 : plainName "java/lang/String" = true := by first | (simp [plainName, overriddenIn]; done) | decide +kernel
theorem own_ef4 (m : MethodId) (x0 : Addr) (x1 : Addr) (x2 : Int32) : entryFrame m #[(.ref x0), (.ref x1), (.int x2)] 3 = mkF m 0 #[.val (.ref x0), .val (.ref x1), .val (.int x2)] [] := by first | (simp [entryFrame, mkF, argsToLocals, Value.category]; done) | rfl
def own_Q4 (Z : State) (a1 : Addr) (a2 : Addr) (h0 : Heap) (n0 : Nat) (v : Option Value) (h : Heap) (L : List Loc) : Prop := v = none ∧ Fr n0 L ∧ Keep h0 h [a1] ∧ Exa Z h a1 "java/lang/String"
set_option maxRecDepth 65536 in
set_option maxHeartbeats 40000000 in
theorem own_rm4 (l : Launch) (Z : State) (a0 : Array Value) (hw : ∀ d ∈ tables_1, d.before a0 Z = true) (ws : List Jvm.Cond) (a1 : Addr) (a2 : Addr) (h0 : Heap) (n0 : Nat) (Z0 : n0 ≤ h0.size) (Fvalue : Fld Z h0 a1 "java/lang/String" "value" "[B" .null) (Fcoder : Fld Z h0 a1 "java/lang/String" "coder" "B" (.int (0 : Int32))) (EX : Exa Z h0 a1 "java/lang/String") (ga : n0 ≤ a1) :
    MetFree l (⟨"java/lang/String", "<init>", "([BB)V"⟩ : MethodName) (head1 (Jvm.Cond.code (⟨"java/lang/String", "<init>", "([BB)V"⟩ : MethodName) jdk_42_method_151_code 3 none :: ws) ({ frames := 1, cells := 0, slots := 0, locals := 12 } : Room)) (fun a U => a = #[(.ref a1), (.ref a2), (.int (0 : Int32))] ∧ Z.Warmed39 U.vm ∧ U.heap = h0) (fun _ _ _ _ _ => True) (fun _ U o U' => ∃ v L, o = .returned v ∧ own_Q4 Z a1 a2 h0 n0 v U'.heap L ∧ FrameEnd U o U' L ({ frames := 1, cells := 0, slots := 0, locals := 12 } : Room).cells ({ frames := 1, cells := 0, slots := 0, locals := 12 } : Room).slots) := by
  refine MetFree.of_bodySF (plainFor_of_name own_pn4) hisR ?_
  intro p e s m args below meth c s₁ Bd hml0 hP hK
  obtain ⟨rfl, hZ, hh⟩ := hP
  have hx := Bd.exec
  have hby := Bd.bytes
  have hml : c.maxLocals = 3 := hml0
  have hlk : meth.locks = false := BodyLoose.notSynchronized Bd
  have hown : s.vm.findClass "java/lang/String" = some m.cls := findClass_of_methodNamed Bd.named
  have hnm := (name_of_methodNamed Bd.named Bd.method).1
  have X0 : Stand p l e ({ frames := 1, cells := 0, slots := 0, locals := 12 } : Room) s m #[(.ref a1), (.ref a2), (.int (0 : Int32))] below meth c s₁ [] 0 0 := Stand.of_body Bd
  have e0 : s₁.heap = h0 := by rw [← hh, Bd.state]; rfl
  have N0 := Fr.nil n0
  show own_Go p e below s ({ frames := 1, cells := 0, slots := 0, locals := 12 } : Room).cells ({ frames := 1, cells := 0, slots := 0, locals := 12 } : Room).slots (own_Q4 Z a1 a2 h0 n0) s₁ (entryFrame m #[(.ref a1), (.ref a2), (.int (0 : Int32))] 3)
  refine own_step (fun t k => castTop (own_ef4 m a1 a2 (0 : Int32)) k) ?_
  show own_Go _ _ _ _ _ _ _ s₁ (mkF m 0 #[.val (.ref a1), .val (.ref a2), .val (.int (0 : Int32))] [])
  refine own_step (fun t k => XS.aloadN X0.here hx rfl (hb hby d4_0) rfl rfl k) ?_
  show own_Go _ _ _ _ _ _ _ s₁ (mkF m 1 #[.val (.ref a1), .val (.ref a2), .val (.int (0 : Int32))] [(.ref a1)])
  obtain ⟨T1, X1, e1, st1⟩ := initO X0 hx hZ hown (hw _ (List.mem_of_getElem? (i := 19) rfl)) (hw _ (List.mem_of_getElem? (i := 20) rfl)) (hw _ (List.mem_of_getElem? (i := 21) rfl)) e0 (g := (mkF m 1 #[.val (.ref a1), .val (.ref a2), .val (.int (0 : Int32))] [(.ref a1)])) rfl (by rw [hml]; rfl) rfl (hb hby d4_1) (by decide) (W := 0) (by show 2 * 0 + _ ≤ _; exact Nat.le_of_eq rfl) (by decide)
  refine own_step st1 ?_
  show own_Go _ _ _ _ _ _ _ T1 (mkF m 4 #[.val (.ref a1), .val (.ref a2), .val (.int (0 : Int32))] [])
  refine own_step (fun t k => XS.aloadN X1.here hx rfl (hb hby d4_4) rfl rfl k) ?_
  show own_Go _ _ _ _ _ _ _ T1 (mkF m 5 #[.val (.ref a1), .val (.ref a2), .val (.int (0 : Int32))] [(.ref a1)])
  refine own_step (fun t k => XS.aloadN X1.here hx rfl (hb hby d4_5) rfl rfl k) ?_
  show own_Go _ _ _ _ _ _ _ T1 (mkF m 6 #[.val (.ref a1), .val (.ref a2), .val (.int (0 : Int32))] [(.ref a2), (.ref a1)])
  obtain ⟨T2, h2, X2, e2, W2, st2⟩ := putF X1 hx hZ hown (host := "") (Or.inl (hw _ (List.mem_of_getElem? (i := 22) rfl))) Via.refl e1 Fvalue EX (Or.inr ⟨(hw _ (List.mem_of_getElem? (i := 23) rfl)), rfl, hnm⟩) (hw _ (List.mem_of_getElem? (i := 10) rfl)) (ty := (.array .byte)) (by decide) rfl rfl (g := (mkF m 6 #[.val (.ref a1), .val (.ref a2), .val (.int (0 : Int32))] [(.ref a2), (.ref a1)])) rfl rfl (hb hby d4_6)
  have N2 := Fr.snoc X2 N0 ga
  have E2_a1 := EX.wr W2
  have F2_a1_value := Fvalue.same W2
  have F2_a1_coder := Fcoder.other W2 (Or.inr (slot_ne (Or.inr (hw _ (List.mem_of_getElem? (i := 25) rfl))) (Or.inr (hw _ (List.mem_of_getElem? (i := 23) rfl))) (by decide) (t := .byte) (t' := (.array .byte)) (by decide) (by decide)))
  have K2 : Keep h0 h2 [a1] := (Keep.refl h0 [a1]).wr W2 (Or.inl (List.mem_of_getElem? (i := 0) rfl))
  refine own_step st2 ?_
  show own_Go _ _ _ _ _ _ _ T2 (mkF m 9 #[.val (.ref a1), .val (.ref a2), .val (.int (0 : Int32))] [])
  refine own_step (fun t k => XS.aloadN X2.here hx rfl (hb hby d4_9) rfl rfl k) ?_
  show own_Go _ _ _ _ _ _ _ T2 (mkF m 10 #[.val (.ref a1), .val (.ref a2), .val (.int (0 : Int32))] [(.ref a1)])
  refine own_step (fun t k => XS.iloadN X2.here hx rfl (hb hby d4_10) rfl k) ?_
  show own_Go _ _ _ _ _ _ _ T2 (mkF m 11 #[.val (.ref a1), .val (.ref a2), .val (.int (0 : Int32))] [(.int (0 : Int32)), (.ref a1)])
  obtain ⟨T3, h3, X3, e3, W3, st3⟩ := putF X2 hx hZ hown (host := "") (Or.inl (hw _ (List.mem_of_getElem? (i := 24) rfl))) Via.refl e2 F2_a1_coder E2_a1 (Or.inr ⟨(hw _ (List.mem_of_getElem? (i := 25) rfl)), rfl, hnm⟩) (hw _ (List.mem_of_getElem? (i := 10) rfl)) (ty := .byte) (by decide) rfl rfl (g := (mkF m 11 #[.val (.ref a1), .val (.ref a2), .val (.int (0 : Int32))] [(.int (0 : Int32)), (.ref a1)])) rfl rfl (hb hby d4_11)
  have N3 := Fr.snoc X3 N2 ga
  have E3_a1 := E2_a1.wr W3
  have F3_a1_value := F2_a1_value.other W3 (Or.inr (slot_ne (Or.inr (hw _ (List.mem_of_getElem? (i := 23) rfl))) (Or.inr (hw _ (List.mem_of_getElem? (i := 25) rfl))) (by decide) (t := (.array .byte)) (t' := .byte) (by decide) (by decide)))
  have F3_a1_coder := F2_a1_coder.same W3
  have K3 : Keep h0 h3 [a1] := K2.wr W3 (Or.inl (List.mem_of_getElem? (i := 0) rfl))
  refine own_step st3 ?_
  show own_Go _ _ _ _ _ _ _ T3 (mkF m 14 #[.val (.ref a1), .val (.ref a2), .val (.int (0 : Int32))] [])
  refine own_retV X3 hx hlk Bd.returns (hb hby d4_14) (by decide) (by decide) ?_
  show own_Q4 Z a1 a2 h0 n0 none T3.heap _
  rw [e3]
  exact ⟨rfl, N3, K3, E3_a1⟩
theorem d1_0 : decode jdk_42_method_139_code 0 = .ok (.getstatic 38, 3) := by decide +kernel
theorem d1_3 : decode jdk_42_method_139_code 3 = .ok (.ifCond .eq 23, 3) := by decide +kernel
theorem d1_6 : decode jdk_42_method_139_code 6 = .ok (.iload_n 0, 1) := by decide +kernel
theorem d1_7 : decode jdk_42_method_139_code 7 = .ok (.invokestatic 1015, 3) := by decide +kernel
theorem d1_10 : decode jdk_42_method_139_code 10 = .ok (.ifCond .eq 16, 3) := by decide +kernel
theorem d1_13 : decode jdk_42_method_139_code 13 = .ok (.new 10, 3) := by decide +kernel
theorem d1_16 : decode jdk_42_method_139_code 16 = .ok (.dup, 1) := by decide +kernel
theorem d1_17 : decode jdk_42_method_139_code 17 = .ok (.iload_n 0, 1) := by decide +kernel
theorem d1_18 : decode jdk_42_method_139_code 18 = .ok (.invokestatic 1018, 3) := by decide +kernel
theorem d1_21 : decode jdk_42_method_139_code 21 = .ok (.iconst 0, 1) := by decide +kernel
theorem d1_22 : decode jdk_42_method_139_code 22 = .ok (.invokespecial 209, 3) := by decide +kernel
theorem d1_25 : decode jdk_42_method_139_code 25 = .ok (.areturn, 1) := by decide +kernel
theorem own_pn1 : plainName "java/lang/String" = true := by first | (simp [plainName, overriddenIn]; done) | decide +kernel
theorem own_pd1_0 : parseMethodDescriptor "(C)Z" = some ⟨[.char], some .boolean⟩ := by decide +kernel
theorem own_pd1_1 : parseMethodDescriptor "(C)[B" = some ⟨[.char], some (.array .byte)⟩ := by decide +kernel
theorem own_pd1_2 : parseMethodDescriptor "([BB)V" = some ⟨[(.array .byte), .byte], none⟩ := by decide +kernel
theorem own_ef1 (m : MethodId) (x0 : Int32) : entryFrame m #[(.int x0)] 1 = mkF m 0 #[.val (.int x0)] [] := by first | (simp [entryFrame, mkF, argsToLocals, Value.category]; done) | rfl
def own_Q1 (Z : State) (p1 : Int32) (cs : Int32) (h0 : Heap) (n0 : Nat) (v : Option Value) (h : Heap) (L : List Loc) : Prop := ∃ y : Addr, v = some (.ref y) ∧ Fr n0 L ∧ Keep h0 h [] ∧ Exa Z h y "java/lang/String"
set_option maxRecDepth 65536 in
set_option maxHeartbeats 40000000 in
theorem own_rm1 (l : Launch) (Z : State) (a0 : Array Value) (hw : ∀ d ∈ tables_1, d.before a0 Z = true) (ws : List Jvm.Cond) (p1 : Int32) (cs : Int32) (h0 : Heap) (n0 : Nat) (Z0 : n0 ≤ h0.size) (SS : Sta Z h0 "java/lang/String" "COMPACT_STRINGS" "Z" (.int cs)) (hcs : ¬ cs = 0) (hc : ¬ (255 : Int32) < p1) :
    MetFree l (⟨"java/lang/String", "valueOf", "(C)Ljava/lang/String;"⟩ : MethodName) (head1 (Jvm.Cond.code (⟨"java/lang/String", "valueOf", "(C)Ljava/lang/String;"⟩ : MethodName) jdk_42_method_139_code 1 (some (.object "java/lang/String")) :: ws) ({ frames := 2, cells := 2, slots := 5, locals := 40 } : Room)) (fun a U => a = #[(.int p1)] ∧ Z.Warmed39 U.vm ∧ U.heap = h0) (fun _ _ _ _ _ => True) (fun _ U o U' => ∃ v L, o = .returned v ∧ own_Q1 Z p1 cs h0 n0 v U'.heap L ∧ FrameEnd U o U' L ({ frames := 2, cells := 2, slots := 5, locals := 40 } : Room).cells ({ frames := 2, cells := 2, slots := 5, locals := 40 } : Room).slots) := by
  refine MetFree.of_bodySF (plainFor_of_name own_pn1) hisR ?_
  intro p e s m args below meth c s₁ Bd hml0 hP hK
  obtain ⟨rfl, hZ, hh⟩ := hP
  have hx := Bd.exec
  have hby := Bd.bytes
  have hml : c.maxLocals = 1 := hml0
  have hlk : meth.locks = false := BodyLoose.notSynchronized Bd
  have hown : s.vm.findClass "java/lang/String" = some m.cls := findClass_of_methodNamed Bd.named
  have hnm := (name_of_methodNamed Bd.named Bd.method).1
  have X0 : Stand p l e ({ frames := 2, cells := 2, slots := 5, locals := 40 } : Room) s m #[(.int p1)] below meth c s₁ [] 0 0 := Stand.of_body Bd
  have e0 : s₁.heap = h0 := by rw [← hh, Bd.state]; rfl
  have N0 := Fr.nil n0
  show own_Go p e below s ({ frames := 2, cells := 2, slots := 5, locals := 40 } : Room).cells ({ frames := 2, cells := 2, slots := 5, locals := 40 } : Room).slots (own_Q1 Z p1 cs h0 n0) s₁ (entryFrame m #[(.int p1)] 1)
  refine own_step (fun t k => castTop (own_ef1 m p1) k) ?_
  show own_Go _ _ _ _ _ _ _ s₁ (mkF m 0 #[.val (.int p1)] [])
  obtain ⟨T1, X1, e1, st1⟩ := getS2 X0 hx hZ hown (host := "") (Or.inl (hw _ (List.mem_of_getElem? (i := 4) rfl))) Via.refl e0 SS (g := (mkF m 0 #[.val (.int p1)] [])) rfl (hb hby d1_0)
  refine own_step st1 ?_
  show own_Go _ _ _ _ _ _ _ T1 (mkF m 3 #[.val (.int p1)] [(.int cs)])
  refine own_step (fun t k => XS.ifNo X1.here hx rfl (hb hby d1_3) rfl ((if0 _ _).trans (feq (hcs)).1) k) ?_
  show own_Go _ _ _ _ _ _ _ T1 (mkF m 6 #[.val (.int p1)] [])
  refine own_step (fun t k => XS.iloadN X1.here hx rfl (hb hby d1_6) rfl k) ?_
  show own_Go _ _ _ _ _ _ _ T1 (mkF m 7 #[.val (.int p1)] [(.int p1)])
  obtain ⟨_, _, ⟨T2, L2, k2, n2⟩, -, X2, ⟨Lc2, hQ2, l2, y2, z2⟩, st2⟩ := Jvm.LawKit.callS X1 hx (y := (⟨"java/lang/StringLatin1", "canEncode", "(C)Z"⟩ : MethodName)) hown (mvT hZ (hw _ (List.mem_of_getElem? (i := 5) rfl))) (mvT hZ (hw _ (List.mem_of_getElem? (i := 6) rfl))) (mvT hZ (hw _ (List.mem_of_getElem? (i := 7) rfl))) (mvT hZ (hw _ (List.mem_of_getElem? (i := 8) rfl))) (by decide) (backOf (W := 0) (own_rm2 l Z a0 hw [] p1 h0 n0 Z0 hc) hZ (hw _ (List.mem_of_getElem? (i := 8) rfl)) (hw _ (List.mem_of_getElem? (i := 7) rfl)) (by decide) (by decide)) (g := (mkF m 7 #[.val (.int p1)] [(.int p1)])) rfl (by rw [hml]; rfl) (argsL := [(.int p1)]) (rest := []) (lenOf own_pd1_0 rfl) rfl (by show 2 * 0 + _ ≤ _; exact Nat.le_of_eq rfl) (hb hby d1_7) (fun _ _ => ⟨rfl, e1, (by decide : 0 + 0 ≤ _), (by decide : 0 + 0 ≤ _)⟩)
  dsimp only [Pt.U, Pt.locs, Pt.cells, Pt.slots] at X2 l2 y2 z2 st2 hQ2
  subst l2 y2 z2
  obtain ⟨rfl, Nq2, e2⟩ := hQ2
  have N2 := Fr.app N0 Nq2
  refine own_step (fun t k => st2 t k) ?_
  show own_Go _ _ _ _ _ _ _ T2 (mkF m 10 #[.val (.int p1)] [(.int (1 : Int32))])
  refine own_step (fun t k => XS.ifNo X2.here hx rfl (hb hby d1_10) rfl ((if0 _ _).trans (feq (by decide)).1) k) ?_
  show own_Go _ _ _ _ _ _ _ T2 (mkF m 13 #[.val (.int p1)] [])
  obtain ⟨T3, h3, X3, e3, E3, A3, D3, -, st3⟩ := newO X2 hx hZ hown (hw _ (List.mem_of_getElem? (i := 9) rfl)) (hw _ (List.mem_of_getElem? (i := 10) rfl)) (hw _ (List.mem_of_getElem? (i := 2) rfl)) e2 (g := (mkF m 13 #[.val (.int p1)] [])) rfl (hb hby d1_13) (by decide) (by decide)
  obtain ⟨b3, g3⟩ : ∃ z, z = h0.size := ⟨_, rfl⟩
  rw [← g3] at A3 D3 st3
  have F3_value : Fld Z h3 b3 "java/lang/String" "value" "[B" .null := D3 (Or.inr (hw _ (List.mem_of_getElem? (i := 23) rfl))) (ty := (.array .byte)) (by decide)
  have F3_coder : Fld Z h3 b3 "java/lang/String" "coder" "B" (.int (0 : Int32)) := D3 (Or.inr (hw _ (List.mem_of_getElem? (i := 25) rfl))) (ty := .byte) (by decide)
  have nb3 : n0 ≤ b3 := by have := Nat.le_of_eq g3.symm; exact Nat.le_trans (Z0) this
  refine own_step st3 ?_
  show own_Go _ _ _ _ _ _ _ T3 (mkF m 16 #[.val (.int p1)] [(.ref b3)])
  refine own_step (fun t k => XS.dup X3.here hx rfl (hb hby d1_16) rfl rfl k) ?_
  show own_Go _ _ _ _ _ _ _ T3 (mkF m 17 #[.val (.int p1)] [(.ref b3), (.ref b3)])
  refine own_step (fun t k => XS.iloadN X3.here hx rfl (hb hby d1_17) rfl k) ?_
  show own_Go _ _ _ _ _ _ _ T3 (mkF m 18 #[.val (.int p1)] [(.int p1), (.ref b3), (.ref b3)])
  obtain ⟨_, _, ⟨T4, L4, k4, n4⟩, -, X4, ⟨Lc4, hQ4, l4, y4, z4⟩, st4⟩ := Jvm.LawKit.callS X3 hx (y := (⟨"java/lang/StringLatin1", "toBytes", "(C)[B"⟩ : MethodName)) hown (mvT hZ (hw _ (List.mem_of_getElem? (i := 11) rfl))) (mvT hZ (hw _ (List.mem_of_getElem? (i := 12) rfl))) (mvT hZ (hw _ (List.mem_of_getElem? (i := 7) rfl))) (mvT hZ (hw _ (List.mem_of_getElem? (i := 13) rfl))) (by decide) (backOf (W := 2) (own_rm3 l Z a0 hw [] p1 h3 n0 (Nat.le_trans (Z0) E3.1)) hZ (hw _ (List.mem_of_getElem? (i := 13) rfl)) (hw _ (List.mem_of_getElem? (i := 7) rfl)) (by decide) (by decide)) (g := (mkF m 18 #[.val (.int p1)] [(.int p1), (.ref b3), (.ref b3)])) rfl (by rw [hml]; rfl) (argsL := [(.int p1)]) (rest := [(.ref b3), (.ref b3)]) (lenOf own_pd1_1 rfl) rfl (by show 2 * 0 + _ ≤ _; exact Nat.le_of_eq rfl) (hb hby d1_18) (fun _ _ => ⟨rfl, e3, (by decide : 1 + 1 ≤ _), (by decide : 4 + 1 ≤ _)⟩)
  dsimp only [Pt.U, Pt.locs, Pt.cells, Pt.slots] at X4 l4 y4 z4 st4 hQ4
  subst l4 y4 z4
  obtain ⟨y4, rfl, Nq4, K4⟩ := hQ4
  have N4 := Fr.app N2 Nq4
  refine own_step (fun t k => st4 t k) ?_
  have Fa := F3_value.keep K4 nin0
  have Fb := F3_coder.keep K4 nin0
  have Ea := A3.keep K4
  show own_Go _ _ _ _ _ _ _ T4 (mkF m 21 #[.val (.int p1)] [(.ref y4), (.ref b3), (.ref b3)])
  refine own_step (fun t k => XS.iconst X4.here hx rfl (hb hby d1_21) k) ?_
  show own_Go _ _ _ _ _ _ _ T4 (mkF m 22 #[.val (.int p1)] [(.int (0 : Int32)), (.ref y4), (.ref b3), (.ref b3)])
  obtain ⟨_, _, ⟨T5, L5, k5, n5⟩, -, X5, ⟨Lc5, hQ5, l5, y5, z5⟩, st5⟩ := X4.specialBack hx (y := (⟨"java/lang/String", "<init>", "([BB)V"⟩ : MethodName)) rfl hown (mvT hZ (hw _ (List.mem_of_getElem? (i := 15) rfl))) (mvT hZ (hw _ (List.mem_of_getElem? (i := 16) rfl))) (mvT hZ (hw _ (List.mem_of_getElem? (i := 18) rfl))) (by decide) (backOf (W := 1) (own_rm4 l Z a0 hw [] b3 y4 T4.heap n0 (Nat.le_trans (Nat.le_trans (Z0) E3.1) K4.1) Fa Fb Ea nb3) hZ (hw _ (List.mem_of_getElem? (i := 18) rfl)) (hw _ (List.mem_of_getElem? (i := 2) rfl)) (by decide) (by decide)) (g := (mkF m 22 #[.val (.int p1)] [(.int (0 : Int32)), (.ref y4), (.ref b3), (.ref b3)])) rfl (by rw [hml]; rfl) (Steps.refl _) (a := b3) (argsL := [(.ref y4), (.int (0 : Int32))]) (rest := [(.ref b3)]) (lenOf own_pd1_2 rfl) rfl (by show 2 * 0 + _ ≤ _; exact Nat.le_of_eq rfl) (hb hby d1_22) (fun _ _ => ⟨rfl, rfl, (by decide : 2 + 0 ≤ _), (by decide : 5 + 0 ≤ _)⟩)
  dsimp only [Pt.U, Pt.locs, Pt.cells, Pt.slots] at X5 l5 y5 z5 st5 hQ5
  subst l5 y5 z5
  obtain ⟨rfl, Nq5, K5, E5_⟩ := hQ5
  have N5 := Fr.app N4 Nq5
  refine own_step (fun t k => st5.trans k) ?_
  have KK : Keep h0 T5.heap [] := (((Keep.refl h0 []).ext E3).trans K4 all0).trans K5 (allS (Or.inr (Nat.le_of_eq g3.symm)) all0)
  show own_Go _ _ _ _ _ _ _ T5 (mkF m 25 #[.val (.int p1)] [(.ref b3)])
  refine own_ret X5 hx hlk Bd.returns rfl (Or.inr (Or.inr (Or.inr (Or.inr ⟨rfl, rfl, rfl⟩)))) (hb hby d1_25) (by decide) (by decide) ?_
  show own_Q1 Z p1 cs h0 n0 (some (.ref b3)) T5.heap _
  exact ⟨_, rfl, N5, KK, E5_⟩
theorem d9_0 : decode jdk_71_method_1_code 0 = .ok (.aload_n 0, 1) := by decide +kernel
theorem d9_1 : decode jdk_71_method_1_code 1 = .ok (.invokespecial 1, 3) := by decide +kernel
theorem d9_4 : decode jdk_71_method_1_code 4 = .ok (.return_, 1) := by decide +kernel
theorem own_pn9 : plainName "java/util/AbstractMap" = true := by first | (simp [plainName, overriddenIn]; done) | decide +kernel
theorem own_ef9 (m : MethodId) (x0 : Addr) : entryFrame m #[(.ref x0)] 1 = mkF m 0 #[.val (.ref x0)] [] := by first | (simp [entryFrame, mkF, argsToLocals, Value.category]; done) | rfl
def own_Q9 (Z : State) (a1 : Addr) (h0 : Heap) (n0 : Nat) (v : Option Value) (h : Heap) (L : List Loc) : Prop := v = none ∧ Fr n0 L ∧ h = h0
set_option maxRecDepth 65536 in
set_option maxHeartbeats 40000000 in
theorem own_rm9 (l : Launch) (Z : State) (a0 : Array Value) (hw : ∀ d ∈ tables_1, d.before a0 Z = true) (ws : List Jvm.Cond) (a1 : Addr) (h0 : Heap) (n0 : Nat) (Z0 : n0 ≤ h0.size)  :
    MetFree l (⟨"java/util/AbstractMap", "<init>", "()V"⟩ : MethodName) (head1 (Jvm.Cond.code (⟨"java/util/AbstractMap", "<init>", "()V"⟩ : MethodName) jdk_71_method_1_code 1 none :: ws) ({ frames := 1, cells := 0, slots := 0, locals := 12 } : Room)) (fun a U => a = #[(.ref a1)] ∧ Z.Warmed39 U.vm ∧ U.heap = h0) (fun _ _ _ _ _ => True) (fun _ U o U' => ∃ v L, o = .returned v ∧ own_Q9 Z a1 h0 n0 v U'.heap L ∧ FrameEnd U o U' L ({ frames := 1, cells := 0, slots := 0, locals := 12 } : Room).cells ({ frames := 1, cells := 0, slots := 0, locals := 12 } : Room).slots) := by
  refine MetFree.of_bodySF (plainFor_of_name own_pn9) hisR ?_
  intro p e s m args below meth c s₁ Bd hml0 hP hK
  obtain ⟨rfl, hZ, hh⟩ := hP
  have hx := Bd.exec
  have hby := Bd.bytes
  have hml : c.maxLocals = 1 := hml0
  have hlk : meth.locks = false := BodyLoose.notSynchronized Bd
  have hown : s.vm.findClass "java/util/AbstractMap" = some m.cls := findClass_of_methodNamed Bd.named
  have hnm := (name_of_methodNamed Bd.named Bd.method).1
  have X0 : Stand p l e ({ frames := 1, cells := 0, slots := 0, locals := 12 } : Room) s m #[(.ref a1)] below meth c s₁ [] 0 0 := Stand.of_body Bd
  have e0 : s₁.heap = h0 := by rw [← hh, Bd.state]; rfl
  have N0 := Fr.nil n0
  show own_Go p e below s ({ frames := 1, cells := 0, slots := 0, locals := 12 } : Room).cells ({ frames := 1, cells := 0, slots := 0, locals := 12 } : Room).slots (own_Q9 Z a1 h0 n0) s₁ (entryFrame m #[(.ref a1)] 1)
  refine own_step (fun t k => castTop (own_ef9 m a1) k) ?_
  show own_Go _ _ _ _ _ _ _ s₁ (mkF m 0 #[.val (.ref a1)] [])
  refine own_step (fun t k => XS.aloadN X0.here hx rfl (hb hby d9_0) rfl rfl k) ?_
  show own_Go _ _ _ _ _ _ _ s₁ (mkF m 1 #[.val (.ref a1)] [(.ref a1)])
  obtain ⟨T1, X1, e1, st1⟩ := initO X0 hx hZ hown (hw _ (List.mem_of_getElem? (i := 51) rfl)) (hw _ (List.mem_of_getElem? (i := 20) rfl)) (hw _ (List.mem_of_getElem? (i := 21) rfl)) e0 (g := (mkF m 1 #[.val (.ref a1)] [(.ref a1)])) rfl (by rw [hml]; rfl) rfl (hb hby d9_1) (by decide) (W := 0) (by show 2 * 0 + _ ≤ _; exact Nat.le_of_eq rfl) (by decide)
  refine own_step st1 ?_
  show own_Go _ _ _ _ _ _ _ T1 (mkF m 4 #[.val (.ref a1)] [])
  refine own_retV X1 hx hlk Bd.returns (hb hby d9_4) (by decide) (by decide) ?_
  show own_Q9 Z a1 h0 n0 none T1.heap _
  rw [e1]
  exact ⟨rfl, N0, rfl⟩
theorem d8_0 : decode jdk_69_method_7_code 0 = .ok (.aload_n 0, 1) := by decide +kernel
theorem d8_1 : decode jdk_69_method_7_code 1 = .ok (.invokespecial 43, 3) := by decide +kernel
theorem d8_4 : decode jdk_69_method_7_code 4 = .ok (.aload_n 0, 1) := by decide +kernel
theorem d8_5 : decode jdk_69_method_7_code 5 = .ok (.ldc 92, 2) := by decide +kernel
theorem d8_7 : decode jdk_69_method_7_code 7 = .ok (.putfield 81, 3) := by decide +kernel
theorem d8_10 : decode jdk_69_method_7_code 10 = .ok (.return_, 1) := by decide +kernel
theorem own_pn8 : plainName "java/util/HashMap" = true := by first | (simp [plainName, overriddenIn]; done) | decide +kernel
theorem own_pd8_0 : parseMethodDescriptor "()V" = some ⟨[], none⟩ := by decide +kernel
theorem own_ef8 (m : MethodId) (x0 : Addr) : entryFrame m #[(.ref x0)] 1 = mkF m 0 #[.val (.ref x0)] [] := by first | (simp [entryFrame, mkF, argsToLocals, Value.category]; done) | rfl
def own_Q8 (Z : State) (a1 : Addr) (h0 : Heap) (n0 : Nat) (v : Option Value) (h : Heap) (L : List Loc) : Prop := v = none ∧ Fr n0 L ∧ Keep h0 h [a1] ∧ Exa Z h a1 "java/util/LinkedHashMap" ∧ Fld Z h a1 "java/util/LinkedHashMap" "putMode" "I" (.int (0 : Int32)) ∧ Fld Z h a1 "java/util/LinkedHashMap" "accessOrder" "Z" (.int (0 : Int32))
set_option maxRecDepth 65536 in
set_option maxHeartbeats 40000000 in
theorem own_rm8 (l : Launch) (Z : State) (a0 : Array Value) (hw : ∀ d ∈ tables_1, d.before a0 Z = true) (ws : List Jvm.Cond) (a1 : Addr) (h0 : Heap) (n0 : Nat) (Z0 : n0 ≤ h0.size) (FloadFactor : Fld Z h0 a1 "java/util/HashMap" "loadFactor" "F" (.float (0 : UInt32))) (FputMode : Fld Z h0 a1 "java/util/LinkedHashMap" "putMode" "I" (.int (0 : Int32))) (FaccessOrder : Fld Z h0 a1 "java/util/LinkedHashMap" "accessOrder" "Z" (.int (0 : Int32))) (EX : Exa Z h0 a1 "java/util/LinkedHashMap") (ga : n0 ≤ a1) :
    MetFree l (⟨"java/util/HashMap", "<init>", "()V"⟩ : MethodName) (head1 (Jvm.Cond.code (⟨"java/util/HashMap", "<init>", "()V"⟩ : MethodName) jdk_69_method_7_code 1 none :: ws) ({ frames := 2, cells := 0, slots := 0, locals := 24 } : Room)) (fun a U => a = #[(.ref a1)] ∧ Z.Warmed39 U.vm ∧ U.heap = h0) (fun _ _ _ _ _ => True) (fun _ U o U' => ∃ v L, o = .returned v ∧ own_Q8 Z a1 h0 n0 v U'.heap L ∧ FrameEnd U o U' L ({ frames := 2, cells := 0, slots := 0, locals := 24 } : Room).cells ({ frames := 2, cells := 0, slots := 0, locals := 24 } : Room).slots) := by
  refine MetFree.of_bodySF (plainFor_of_name own_pn8) hisR ?_
  intro p e s m args below meth c s₁ Bd hml0 hP hK
  obtain ⟨rfl, hZ, hh⟩ := hP
  have hx := Bd.exec
  have hby := Bd.bytes
  have hml : c.maxLocals = 1 := hml0
  have hlk : meth.locks = false := BodyLoose.notSynchronized Bd
  have hown : s.vm.findClass "java/util/HashMap" = some m.cls := findClass_of_methodNamed Bd.named
  have hnm := (name_of_methodNamed Bd.named Bd.method).1
  have X0 : Stand p l e ({ frames := 2, cells := 0, slots := 0, locals := 24 } : Room) s m #[(.ref a1)] below meth c s₁ [] 0 0 := Stand.of_body Bd
  have e0 : s₁.heap = h0 := by rw [← hh, Bd.state]; rfl
  have N0 := Fr.nil n0
  show own_Go p e below s ({ frames := 2, cells := 0, slots := 0, locals := 24 } : Room).cells ({ frames := 2, cells := 0, slots := 0, locals := 24 } : Room).slots (own_Q8 Z a1 h0 n0) s₁ (entryFrame m #[(.ref a1)] 1)
  refine own_step (fun t k => castTop (own_ef8 m a1) k) ?_
  show own_Go _ _ _ _ _ _ _ s₁ (mkF m 0 #[.val (.ref a1)] [])
  refine own_step (fun t k => XS.aloadN X0.here hx rfl (hb hby d8_0) rfl rfl k) ?_
  show own_Go _ _ _ _ _ _ _ s₁ (mkF m 1 #[.val (.ref a1)] [(.ref a1)])
  obtain ⟨_, _, ⟨T1, L1, k1, n1⟩, -, X1, ⟨Lc1, hQ1, l1, y1, z1⟩, st1⟩ := X0.specialBack hx (y := (⟨"java/util/AbstractMap", "<init>", "()V"⟩ : MethodName)) rfl hown (mvT hZ (hw _ (List.mem_of_getElem? (i := 45) rfl))) (mvT hZ (hw _ (List.mem_of_getElem? (i := 46) rfl))) (mvT hZ (hw _ (List.mem_of_getElem? (i := 50) rfl))) (by decide) (backOf (W := 0) (own_rm9 l Z a0 hw [] a1 h0 n0 Z0) hZ (hw _ (List.mem_of_getElem? (i := 50) rfl)) (hw _ (List.mem_of_getElem? (i := 49) rfl)) (by decide) (by decide)) (g := (mkF m 1 #[.val (.ref a1)] [(.ref a1)])) rfl (by rw [hml]; rfl) (Steps.refl _) (a := a1) (argsL := []) (rest := []) (lenOf own_pd8_0 rfl) rfl (by show 2 * 0 + _ ≤ _; exact Nat.le_of_eq rfl) (hb hby d8_1) (fun _ _ => ⟨rfl, e0, (by decide : 0 + 0 ≤ _), (by decide : 0 + 0 ≤ _)⟩)
  dsimp only [Pt.U, Pt.locs, Pt.cells, Pt.slots] at X1 l1 y1 z1 st1 hQ1
  subst l1 y1 z1
  obtain ⟨rfl, Nq1, e1⟩ := hQ1
  have N1 := Fr.app N0 Nq1
  refine own_step (fun t k => st1.trans k) ?_
  show own_Go _ _ _ _ _ _ _ T1 (mkF m 4 #[.val (.ref a1)] [])
  refine own_step (fun t k => XS.aloadN X1.here hx rfl (hb hby d8_4) rfl rfl k) ?_
  show own_Go _ _ _ _ _ _ _ T1 (mkF m 5 #[.val (.ref a1)] [(.ref a1)])
  refine own_step (fun t k => X1.ldcFloatC hx hown (mvT hZ (hw _ (List.mem_of_getElem? (i := 52) rfl))) (g := (mkF m 5 #[.val (.ref a1)] [(.ref a1)])) rfl (hb hby d8_5) t k) ?_
  show own_Go _ _ _ _ _ _ _ T1 (mkF m 7 #[.val (.ref a1)] [(.float (1061158912 : UInt32)), (.ref a1)])
  obtain ⟨T2, h2, X2, e2, W2, st2⟩ := putF X1 hx hZ hown (host := "") (Or.inl (hw _ (List.mem_of_getElem? (i := 53) rfl))) Via.refl e1 FloadFactor EX (Or.inr ⟨(hw _ (List.mem_of_getElem? (i := 54) rfl)), rfl, hnm⟩) (hw _ (List.mem_of_getElem? (i := 34) rfl)) (ty := .float) (by decide) rfl rfl (g := (mkF m 7 #[.val (.ref a1)] [(.float (1061158912 : UInt32)), (.ref a1)])) rfl rfl (hb hby d8_7)
  have N2 := Fr.snoc X2 N1 ga
  have E2_a1 := EX.wr W2
  have F2_a1_loadFactor := FloadFactor.same W2
  have F2_a1_putMode := FputMode.other W2 (Or.inr (slot_ne (Or.inl (hw _ (List.mem_of_getElem? (i := 56) rfl))) (Or.inr (hw _ (List.mem_of_getElem? (i := 54) rfl))) (by decide) (t := .int) (t' := .float) (by decide) (by decide)))
  have F2_a1_accessOrder := FaccessOrder.other W2 (Or.inr (slot_ne (Or.inr (hw _ (List.mem_of_getElem? (i := 58) rfl))) (Or.inr (hw _ (List.mem_of_getElem? (i := 54) rfl))) (by decide) (t := .boolean) (t' := .float) (by decide) (by decide)))
  have K2 : Keep h0 h2 [a1] := (Keep.refl h0 [a1]).wr W2 (Or.inl (List.mem_of_getElem? (i := 0) rfl))
  refine own_step st2 ?_
  show own_Go _ _ _ _ _ _ _ T2 (mkF m 10 #[.val (.ref a1)] [])
  refine own_retV X2 hx hlk Bd.returns (hb hby d8_10) (by decide) (by decide) ?_
  show own_Q8 Z a1 h0 n0 none T2.heap _
  rw [e2]
  exact ⟨rfl, N2, K2, E2_a1, F2_a1_putMode, F2_a1_accessOrder⟩
theorem d7_0 : decode jdk_94_method_16_code 0 = .ok (.aload_n 0, 1) := by decide +kernel
theorem d7_1 : decode jdk_94_method_16_code 1 = .ok (.invokespecial 87, 3) := by decide +kernel
theorem d7_4 : decode jdk_94_method_16_code 4 = .ok (.aload_n 0, 1) := by decide +kernel
theorem d7_5 : decode jdk_94_method_16_code 5 = .ok (.iconst 0, 1) := by decide +kernel
theorem d7_6 : decode jdk_94_method_16_code 6 = .ok (.putfield 1, 3) := by decide +kernel
theorem d7_9 : decode jdk_94_method_16_code 9 = .ok (.aload_n 0, 1) := by decide +kernel
theorem d7_10 : decode jdk_94_method_16_code 10 = .ok (.iconst 0, 1) := by decide +kernel
theorem d7_11 : decode jdk_94_method_16_code 11 = .ok (.putfield 64, 3) := by decide +kernel
theorem d7_14 : decode jdk_94_method_16_code 14 = .ok (.return_, 1) := by decide +kernel
theorem own_pn7 : plainName "java/util/LinkedHashMap" = true := by first | (simp [plainName, overriddenIn]; done) | decide +kernel
theorem own_pd7_0 : parseMethodDescriptor "()V" = some ⟨[], none⟩ := by decide +kernel
theorem own_ef7 (m : MethodId) (x0 : Addr) : entryFrame m #[(.ref x0)] 1 = mkF m 0 #[.val (.ref x0)] [] := by first | (simp [entryFrame, mkF, argsToLocals, Value.category]; done) | rfl
def own_Q7 (Z : State) (a1 : Addr) (h0 : Heap) (n0 : Nat) (v : Option Value) (h : Heap) (L : List Loc) : Prop := v = none ∧ Fr n0 L ∧ Keep h0 h [a1]
set_option maxRecDepth 65536 in
set_option maxHeartbeats 40000000 in
theorem own_rm7 (l : Launch) (Z : State) (a0 : Array Value) (hw : ∀ d ∈ tables_1, d.before a0 Z = true) (ws : List Jvm.Cond) (a1 : Addr) (h0 : Heap) (n0 : Nat) (Z0 : n0 ≤ h0.size) (FloadFactor : Fld Z h0 a1 "java/util/HashMap" "loadFactor" "F" (.float (0 : UInt32))) (FputMode : Fld Z h0 a1 "java/util/LinkedHashMap" "putMode" "I" (.int (0 : Int32))) (FaccessOrder : Fld Z h0 a1 "java/util/LinkedHashMap" "accessOrder" "Z" (.int (0 : Int32))) (EX : Exa Z h0 a1 "java/util/LinkedHashMap") (ga : n0 ≤ a1) :
    MetFree l (⟨"java/util/LinkedHashMap", "<init>", "()V"⟩ : MethodName) (head1 (Jvm.Cond.code (⟨"java/util/LinkedHashMap", "<init>", "()V"⟩ : MethodName) jdk_94_method_16_code 1 none :: ws) ({ frames := 3, cells := 0, slots := 0, locals := 36 } : Room)) (fun a U => a = #[(.ref a1)] ∧ Z.Warmed39 U.vm ∧ U.heap = h0) (fun _ _ _ _ _ => True) (fun _ U o U' => ∃ v L, o = .returned v ∧ own_Q7 Z a1 h0 n0 v U'.heap L ∧ FrameEnd U o U' L ({ frames := 3, cells := 0, slots := 0, locals := 36 } : Room).cells ({ frames := 3, cells := 0, slots := 0, locals := 36 } : Room).slots) := by
  refine MetFree.of_bodySF (plainFor_of_name own_pn7) hisR ?_
  intro p e s m args below meth c s₁ Bd hml0 hP hK
  obtain ⟨rfl, hZ, hh⟩ := hP
  have hx := Bd.exec
  have hby := Bd.bytes
  have hml : c.maxLocals = 1 := hml0
  have hlk : meth.locks = false := BodyLoose.notSynchronized Bd
  have hown : s.vm.findClass "java/util/LinkedHashMap" = some m.cls := findClass_of_methodNamed Bd.named
  have hnm := (name_of_methodNamed Bd.named Bd.method).1
  have X0 : Stand p l e ({ frames := 3, cells := 0, slots := 0, locals := 36 } : Room) s m #[(.ref a1)] below meth c s₁ [] 0 0 := Stand.of_body Bd
  have e0 : s₁.heap = h0 := by rw [← hh, Bd.state]; rfl
  have N0 := Fr.nil n0
  show own_Go p e below s ({ frames := 3, cells := 0, slots := 0, locals := 36 } : Room).cells ({ frames := 3, cells := 0, slots := 0, locals := 36 } : Room).slots (own_Q7 Z a1 h0 n0) s₁ (entryFrame m #[(.ref a1)] 1)
  refine own_step (fun t k => castTop (own_ef7 m a1) k) ?_
  show own_Go _ _ _ _ _ _ _ s₁ (mkF m 0 #[.val (.ref a1)] [])
  refine own_step (fun t k => XS.aloadN X0.here hx rfl (hb hby d7_0) rfl rfl k) ?_
  show own_Go _ _ _ _ _ _ _ s₁ (mkF m 1 #[.val (.ref a1)] [(.ref a1)])
  obtain ⟨_, _, ⟨T1, L1, k1, n1⟩, -, X1, ⟨Lc1, hQ1, l1, y1, z1⟩, st1⟩ := X0.specialBack hx (y := (⟨"java/util/HashMap", "<init>", "()V"⟩ : MethodName)) rfl hown (mvT hZ (hw _ (List.mem_of_getElem? (i := 39) rfl))) (mvT hZ (hw _ (List.mem_of_getElem? (i := 40) rfl))) (mvT hZ (hw _ (List.mem_of_getElem? (i := 44) rfl))) (by decide) (backOf (W := 0) (own_rm8 l Z a0 hw [] a1 h0 n0 Z0 FloadFactor FputMode FaccessOrder EX ga) hZ (hw _ (List.mem_of_getElem? (i := 44) rfl)) (hw _ (List.mem_of_getElem? (i := 43) rfl)) (by decide) (by decide)) (g := (mkF m 1 #[.val (.ref a1)] [(.ref a1)])) rfl (by rw [hml]; rfl) (Steps.refl _) (a := a1) (argsL := []) (rest := []) (lenOf own_pd7_0 rfl) rfl (by show 2 * 0 + _ ≤ _; exact Nat.le_of_eq rfl) (hb hby d7_1) (fun _ _ => ⟨rfl, e0, (by decide : 0 + 0 ≤ _), (by decide : 0 + 0 ≤ _)⟩)
  dsimp only [Pt.U, Pt.locs, Pt.cells, Pt.slots] at X1 l1 y1 z1 st1 hQ1
  subst l1 y1 z1
  obtain ⟨rfl, Nq1, K1, E1_a1, F1_putMode, F1_accessOrder⟩ := hQ1
  have N1 := Fr.app N0 Nq1
  refine own_step (fun t k => st1.trans k) ?_
  show own_Go _ _ _ _ _ _ _ T1 (mkF m 4 #[.val (.ref a1)] [])
  refine own_step (fun t k => XS.aloadN X1.here hx rfl (hb hby d7_4) rfl rfl k) ?_
  show own_Go _ _ _ _ _ _ _ T1 (mkF m 5 #[.val (.ref a1)] [(.ref a1)])
  refine own_step (fun t k => XS.iconst X1.here hx rfl (hb hby d7_5) k) ?_
  show own_Go _ _ _ _ _ _ _ T1 (mkF m 6 #[.val (.ref a1)] [(.int (0 : Int32)), (.ref a1)])
  obtain ⟨T2, h2, X2, e2, W2, st2⟩ := putF X1 hx hZ hown (host := "") (Or.inl (hw _ (List.mem_of_getElem? (i := 55) rfl))) Via.refl rfl F1_putMode E1_a1 (Or.inl (hw _ (List.mem_of_getElem? (i := 56) rfl))) (hw _ (List.mem_of_getElem? (i := 34) rfl)) (ty := .int) (by decide) rfl rfl (g := (mkF m 6 #[.val (.ref a1)] [(.int (0 : Int32)), (.ref a1)])) rfl rfl (hb hby d7_6)
  have N2 := Fr.snoc X2 N1 ga
  have E2_a1 := E1_a1.wr W2
  have F2_a1_putMode := F1_putMode.same W2
  have F2_a1_accessOrder := F1_accessOrder.other W2 (Or.inr (slot_ne (Or.inr (hw _ (List.mem_of_getElem? (i := 58) rfl))) (Or.inl (hw _ (List.mem_of_getElem? (i := 56) rfl))) (by decide) (t := .boolean) (t' := .int) (by decide) (by decide)))
  have K2 : Keep h0 h2 [a1] := K1.wr W2 (Or.inl (List.mem_of_getElem? (i := 0) rfl))
  refine own_step st2 ?_
  show own_Go _ _ _ _ _ _ _ T2 (mkF m 9 #[.val (.ref a1)] [])
  refine own_step (fun t k => XS.aloadN X2.here hx rfl (hb hby d7_9) rfl rfl k) ?_
  show own_Go _ _ _ _ _ _ _ T2 (mkF m 10 #[.val (.ref a1)] [(.ref a1)])
  refine own_step (fun t k => XS.iconst X2.here hx rfl (hb hby d7_10) k) ?_
  show own_Go _ _ _ _ _ _ _ T2 (mkF m 11 #[.val (.ref a1)] [(.int (0 : Int32)), (.ref a1)])
  obtain ⟨T3, h3, X3, e3, W3, st3⟩ := putF X2 hx hZ hown (host := "") (Or.inl (hw _ (List.mem_of_getElem? (i := 57) rfl))) Via.refl e2 F2_a1_accessOrder E2_a1 (Or.inr ⟨(hw _ (List.mem_of_getElem? (i := 58) rfl)), rfl, hnm⟩) (hw _ (List.mem_of_getElem? (i := 34) rfl)) (ty := .boolean) (by decide) rfl rfl (g := (mkF m 11 #[.val (.ref a1)] [(.int (0 : Int32)), (.ref a1)])) rfl rfl (hb hby d7_11)
  have N3 := Fr.snoc X3 N2 ga
  have E3_a1 := E2_a1.wr W3
  have F3_a1_putMode := F2_a1_putMode.other W3 (Or.inr (slot_ne (Or.inl (hw _ (List.mem_of_getElem? (i := 56) rfl))) (Or.inr (hw _ (List.mem_of_getElem? (i := 58) rfl))) (by decide) (t := .int) (t' := .boolean) (by decide) (by decide)))
  have F3_a1_accessOrder := F2_a1_accessOrder.same W3
  have K3 : Keep h0 h3 [a1] := K2.wr W3 (Or.inl (List.mem_of_getElem? (i := 0) rfl))
  refine own_step st3 ?_
  show own_Go _ _ _ _ _ _ _ T3 (mkF m 14 #[.val (.ref a1)] [])
  refine own_retV X3 hx hlk Bd.returns (hb hby d7_14) (by decide) (by decide) ?_
  show own_Q7 Z a1 h0 n0 none T3.heap _
  rw [e3]
  exact ⟨rfl, N3, K3⟩
theorem d6_0 : decode prog_92_method_1_code 0 = .ok (.aload_n 0, 1) := by decide +kernel
theorem d6_1 : decode prog_92_method_1_code 1 = .ok (.invokespecial 1, 3) := by decide +kernel
theorem d6_4 : decode prog_92_method_1_code 4 = .ok (.aload_n 0, 1) := by decide +kernel
theorem d6_5 : decode prog_92_method_1_code 5 = .ok (.new 7, 3) := by decide +kernel
theorem d6_8 : decode prog_92_method_1_code 8 = .ok (.dup, 1) := by decide +kernel
theorem d6_9 : decode prog_92_method_1_code 9 = .ok (.invokespecial 9, 3) := by decide +kernel
theorem d6_12 : decode prog_92_method_1_code 12 = .ok (.putfield 10, 3) := by decide +kernel
theorem d6_15 : decode prog_92_method_1_code 15 = .ok (.aload_n 0, 1) := by decide +kernel
theorem d6_16 : decode prog_92_method_1_code 16 = .ok (.aload_n 1, 1) := by decide +kernel
theorem d6_17 : decode prog_92_method_1_code 17 = .ok (.putfield 16, 3) := by decide +kernel
theorem d6_20 : decode prog_92_method_1_code 20 = .ok (.aload_n 0, 1) := by decide +kernel
theorem d6_21 : decode prog_92_method_1_code 21 = .ok (.aload_n 2, 1) := by decide +kernel
theorem d6_22 : decode prog_92_method_1_code 22 = .ok (.putfield 20, 3) := by decide +kernel
theorem d6_25 : decode prog_92_method_1_code 25 = .ok (.aload_n 0, 1) := by decide +kernel
theorem d6_26 : decode prog_92_method_1_code 26 = .ok (.aload_n 3, 1) := by decide +kernel
theorem d6_27 : decode prog_92_method_1_code 27 = .ok (.putfield 23, 3) := by decide +kernel
theorem d6_30 : decode prog_92_method_1_code 30 = .ok (.aload_n 0, 1) := by decide +kernel
theorem d6_31 : decode prog_92_method_1_code 31 = .ok (.aload 4, 2) := by decide +kernel
theorem d6_33 : decode prog_92_method_1_code 33 = .ok (.putfield 27, 3) := by decide +kernel
theorem d6_36 : decode prog_92_method_1_code 36 = .ok (.aload_n 0, 1) := by decide +kernel
theorem d6_37 : decode prog_92_method_1_code 37 = .ok (.iload 5, 2) := by decide +kernel
theorem d6_39 : decode prog_92_method_1_code 39 = .ok (.putfield 31, 3) := by decide +kernel
theorem d6_42 : decode prog_92_method_1_code 42 = .ok (.return_, 1) := by decide +kernel
theorem own_pn6 : plainName "com/example/variloom/variloom/model/Variable" = true := by first | (simp [plainName, overriddenIn]; done) | decide +kernel
theorem own_pd6_0 : parseMethodDescriptor "()V" = some ⟨[], none⟩ := by decide +kernel
theorem own_ef6 (m : MethodId) (x0 : Addr) (x1 : Addr) (x2 : Addr) (x5 : Int32) : entryFrame m #[(.ref x0), (.ref x1), (.ref x2), .null, .null, (.int x5)] 6 = mkF m 0 #[.val (.ref x0), .val (.ref x1), .val (.ref x2), .val .null, .val .null, .val (.int x5)] [] := by first | (simp [entryFrame, mkF, argsToLocals, Value.category]; done) | rfl
def own_Q6 (Z : State) (a1 : Addr) (a2 : Addr) (a3 : Addr) (p6 : Int32) (h0 : Heap) (n0 : Nat) (v : Option Value) (h : Heap) (L : List Loc) : Prop := v = none ∧ Fr n0 L ∧ Keep h0 h [a1] ∧ Exa Z h a1 "com/example/variloom/variloom/model/Variable"
set_option maxRecDepth 65536 in
set_option maxHeartbeats 40000000 in
theorem own_rm6 (l : Launch) (Z : State) (a0 : Array Value) (hw : ∀ d ∈ tables_1, d.before a0 Z = true) (ws : List Jvm.Cond) (a1 : Addr) (a2 : Addr) (a3 : Addr) (p6 : Int32) (h0 : Heap) (n0 : Nat) (Z0 : n0 ≤ h0.size) (Fannotations : Fld Z h0 a1 "com/example/variloom/variloom/model/Variable" "annotations" "Ljava/util/Map;" .null) (FprojectName : Fld Z h0 a1 "com/example/variloom/variloom/model/Variable" "projectName" "Ljava/lang/String;" .null) (Fname : Fld Z h0 a1 "com/example/variloom/variloom/model/Variable" "name" "Ljava/lang/String;" .null) (Ftype : Fld Z h0 a1 "com/example/variloom/variloom/model/Variable" "type" "Lcom/example/variloom/variloom/model/Type;" .null) (Flocation : Fld Z h0 a1 "com/example/variloom/variloom/model/Variable" "location" "Lcom/example/variloom/variloom/Location;" .null) (Fconstant : Fld Z h0 a1 "com/example/variloom/variloom/model/Variable" "constant" "Z" (.int (0 : Int32))) (EX : Exa Z h0 a1 "com/example/variloom/variloom/model/Variable") (ga : n0 ≤ a1) (hp6 : p6 = 0 ∨ p6 = 1) :
    MetFree l (⟨"com/example/variloom/variloom/model/Variable", "<init>", "(Ljava/lang/String;Ljava/lang/String;Lcom/example/variloom/variloom/model/Type;Lcom/example/variloom/variloom/Location;Z)V"⟩ : MethodName) (head1 (Jvm.Cond.code (⟨"com/example/variloom/variloom/model/Variable", "<init>", "(Ljava/lang/String;Ljava/lang/String;Lcom/example/variloom/variloom/model/Type;Lcom/example/variloom/variloom/Location;Z)V"⟩ : MethodName) prog_92_method_1_code 6 none :: ws) ({ frames := 4, cells := 1, slots := 12, locals := 52 } : Room)) (fun a U => a = #[(.ref a1), (.ref a2), (.ref a3), .null, .null, (.int p6)] ∧ Z.Warmed39 U.vm ∧ U.heap = h0) (fun _ _ _ _ _ => True) (fun _ U o U' => ∃ v L, o = .returned v ∧ own_Q6 Z a1 a2 a3 p6 h0 n0 v U'.heap L ∧ FrameEnd U o U' L ({ frames := 4, cells := 1, slots := 12, locals := 52 } : Room).cells ({ frames := 4, cells := 1, slots := 12, locals := 52 } : Room).slots) := by
  refine MetFree.of_bodySF (plainFor_of_name own_pn6) hisR ?_
  intro p e s m args below meth c s₁ Bd hml0 hP hK
  obtain ⟨rfl, hZ, hh⟩ := hP
  have hx := Bd.exec
  have hby := Bd.bytes
  have hml : c.maxLocals = 6 := hml0
  have hlk : meth.locks = false := BodyLoose.notSynchronized Bd
  have hown : s.vm.findClass "com/example/variloom/variloom/model/Variable" = some m.cls := findClass_of_methodNamed Bd.named
  have hnm := (name_of_methodNamed Bd.named Bd.method).1
  have X0 : Stand p l e ({ frames := 4, cells := 1, slots := 12, locals := 52 } : Room) s m #[(.ref a1), (.ref a2), (.ref a3), .null, .null, (.int p6)] below meth c s₁ [] 0 0 := Stand.of_body Bd
  have e0 : s₁.heap = h0 := by rw [← hh, Bd.state]; rfl
  have N0 := Fr.nil n0
  show own_Go p e below s ({ frames := 4, cells := 1, slots := 12, locals := 52 } : Room).cells ({ frames := 4, cells := 1, slots := 12, locals := 52 } : Room).slots (own_Q6 Z a1 a2 a3 p6 h0 n0) s₁ (entryFrame m #[(.ref a1), (.ref a2), (.ref a3), .null, .null, (.int p6)] 6)
  refine own_step (fun t k => castTop (own_ef6 m a1 a2 a3 p6) k) ?_
  show own_Go _ _ _ _ _ _ _ s₁ (mkF m 0 #[.val (.ref a1), .val (.ref a2), .val (.ref a3), .val .null, .val .null, .val (.int p6)] [])
  refine own_step (fun t k => XS.aloadN X0.here hx rfl (hb hby d6_0) rfl rfl k) ?_
  show own_Go _ _ _ _ _ _ _ s₁ (mkF m 1 #[.val (.ref a1), .val (.ref a2), .val (.ref a3), .val .null, .val .null, .val (.int p6)] [(.ref a1)])
  obtain ⟨T1, X1, e1, st1⟩ := initO X0 hx hZ hown (hw _ (List.mem_of_getElem? (i := 32) rfl)) (hw _ (List.mem_of_getElem? (i := 20) rfl)) (hw _ (List.mem_of_getElem? (i := 21) rfl)) e0 (g := (mkF m 1 #[.val (.ref a1), .val (.ref a2), .val (.ref a3), .val .null, .val .null, .val (.int p6)] [(.ref a1)])) rfl (by rw [hml]; rfl) rfl (hb hby d6_1) (by decide) (W := 0) (by show 2 * 0 + _ ≤ _; exact Nat.le_of_eq rfl) (by decide)
  refine own_step st1 ?_
  show own_Go _ _ _ _ _ _ _ T1 (mkF m 4 #[.val (.ref a1), .val (.ref a2), .val (.ref a3), .val .null, .val .null, .val (.int p6)] [])
  refine own_step (fun t k => XS.aloadN X1.here hx rfl (hb hby d6_4) rfl rfl k) ?_
  show own_Go _ _ _ _ _ _ _ T1 (mkF m 5 #[.val (.ref a1), .val (.ref a2), .val (.ref a3), .val .null, .val .null, .val (.int p6)] [(.ref a1)])
  obtain ⟨T2, h2, X2, e2, E2, A2, D2, -, st2⟩ := newO X1 hx hZ hown (hw _ (List.mem_of_getElem? (i := 33) rfl)) (hw _ (List.mem_of_getElem? (i := 34) rfl)) (hw _ (List.mem_of_getElem? (i := 35) rfl)) e1 (g := (mkF m 5 #[.val (.ref a1), .val (.ref a2), .val (.ref a3), .val .null, .val .null, .val (.int p6)] [(.ref a1)])) rfl (hb hby d6_5) (by decide) (by decide)
  obtain ⟨b2, g2⟩ : ∃ z, z = h0.size := ⟨_, rfl⟩
  rw [← g2] at A2 D2 st2
  have F2_loadFactor : Fld Z h2 b2 "java/util/HashMap" "loadFactor" "F" (.float (0 : UInt32)) := D2 (Or.inr (hw _ (List.mem_of_getElem? (i := 54) rfl))) (ty := .float) (by decide)
  have F2_putMode : Fld Z h2 b2 "java/util/LinkedHashMap" "putMode" "I" (.int (0 : Int32)) := D2 (Or.inl (hw _ (List.mem_of_getElem? (i := 56) rfl))) (ty := .int) (by decide)
  have F2_accessOrder : Fld Z h2 b2 "java/util/LinkedHashMap" "accessOrder" "Z" (.int (0 : Int32)) := D2 (Or.inr (hw _ (List.mem_of_getElem? (i := 58) rfl))) (ty := .boolean) (by decide)
  have nb2 : n0 ≤ b2 := by have := Nat.le_of_eq g2.symm; exact Nat.le_trans (Z0) this
  refine own_step st2 ?_
  have ne1 : a1 ≠ b2 := Nat.ne_of_lt (by rw [g2]; exact EX.lt)
  show own_Go _ _ _ _ _ _ _ T2 (mkF m 8 #[.val (.ref a1), .val (.ref a2), .val (.ref a3), .val .null, .val .null, .val (.int p6)] [(.ref b2), (.ref a1)])
  refine own_step (fun t k => XS.dup X2.here hx rfl (hb hby d6_8) rfl rfl k) ?_
  show own_Go _ _ _ _ _ _ _ T2 (mkF m 9 #[.val (.ref a1), .val (.ref a2), .val (.ref a3), .val .null, .val .null, .val (.int p6)] [(.ref b2), (.ref b2), (.ref a1)])
  obtain ⟨_, _, ⟨T3, L3, k3, n3⟩, -, X3, ⟨Lc3, hQ3, l3, y3, z3⟩, st3⟩ := X2.specialBack hx (y := (⟨"java/util/LinkedHashMap", "<init>", "()V"⟩ : MethodName)) rfl hown (mvT hZ (hw _ (List.mem_of_getElem? (i := 36) rfl))) (mvT hZ (hw _ (List.mem_of_getElem? (i := 37) rfl))) (mvT hZ (hw _ (List.mem_of_getElem? (i := 38) rfl))) (by decide) (backOf (W := 2) (own_rm7 l Z a0 hw [] b2 h2 n0 (Nat.le_trans (Z0) E2.1) F2_loadFactor F2_putMode F2_accessOrder A2 nb2) hZ (hw _ (List.mem_of_getElem? (i := 38) rfl)) (hw _ (List.mem_of_getElem? (i := 35) rfl)) (by decide) (by decide)) (g := (mkF m 9 #[.val (.ref a1), .val (.ref a2), .val (.ref a3), .val .null, .val .null, .val (.int p6)] [(.ref b2), (.ref b2), (.ref a1)])) rfl (by rw [hml]; rfl) (Steps.refl _) (a := b2) (argsL := []) (rest := [(.ref b2), (.ref a1)]) (lenOf own_pd6_0 rfl) rfl (by show 2 * 0 + _ ≤ _; exact Nat.le_of_eq rfl) (hb hby d6_9) (fun _ _ => ⟨rfl, e2, (by decide : 1 + 0 ≤ _), (by decide : 12 + 0 ≤ _)⟩)
  dsimp only [Pt.U, Pt.locs, Pt.cells, Pt.slots] at X3 l3 y3 z3 st3 hQ3
  subst l3 y3 z3
  obtain ⟨rfl, Nq3, K3⟩ := hQ3
  have N3 := Fr.app N0 Nq3
  refine own_step (fun t k => st3.trans k) ?_
  have Gannotations := (Fannotations.ext E2).keep K3 (ninS ne1 nin0)
  have GprojectName := (FprojectName.ext E2).keep K3 (ninS ne1 nin0)
  have Gname := (Fname.ext E2).keep K3 (ninS ne1 nin0)
  have Gtype := (Ftype.ext E2).keep K3 (ninS ne1 nin0)
  have Glocation := (Flocation.ext E2).keep K3 (ninS ne1 nin0)
  have Gconstant := (Fconstant.ext E2).keep K3 (ninS ne1 nin0)
  have GE := (EX.ext E2).keep K3
  have KB : Keep h0 T3.heap [a1] := ((Keep.refl h0 [a1]).ext E2).trans K3 (allS (Or.inr (Nat.le_of_eq g2.symm)) all0)
  show own_Go _ _ _ _ _ _ _ T3 (mkF m 12 #[.val (.ref a1), .val (.ref a2), .val (.ref a3), .val .null, .val .null, .val (.int p6)] [(.ref b2), (.ref a1)])
  obtain ⟨T4, h4, X4, e4, W4, st4⟩ := putF X3 hx hZ hown (host := "") (Or.inl (hw _ (List.mem_of_getElem? (i := 59) rfl))) Via.refl rfl Gannotations GE (Or.inr ⟨(hw _ (List.mem_of_getElem? (i := 60) rfl)), rfl, hnm⟩) (hw _ (List.mem_of_getElem? (i := 27) rfl)) (ty := (.object "java/util/Map")) (by decide) rfl rfl (g := (mkF m 12 #[.val (.ref a1), .val (.ref a2), .val (.ref a3), .val .null, .val .null, .val (.int p6)] [(.ref b2), (.ref a1)])) rfl rfl (hb hby d6_12)
  have N4 := Fr.snoc X4 N3 ga
  have E4_a1 := GE.wr W4
  have F4_a1_annotations := Gannotations.same W4
  have F4_a1_projectName := GprojectName.other W4 (Or.inr (slot_ne (Or.inr (hw _ (List.mem_of_getElem? (i := 62) rfl))) (Or.inr (hw _ (List.mem_of_getElem? (i := 60) rfl))) (by decide) (t := (.object "java/lang/String")) (t' := (.object "java/util/Map")) (by decide) (by decide)))
  have F4_a1_name := Gname.other W4 (Or.inr (slot_ne (Or.inr (hw _ (List.mem_of_getElem? (i := 64) rfl))) (Or.inr (hw _ (List.mem_of_getElem? (i := 60) rfl))) (by decide) (t := (.object "java/lang/String")) (t' := (.object "java/util/Map")) (by decide) (by decide)))
  have F4_a1_type := Gtype.other W4 (Or.inr (slot_ne (Or.inr (hw _ (List.mem_of_getElem? (i := 66) rfl))) (Or.inr (hw _ (List.mem_of_getElem? (i := 60) rfl))) (by decide) (t := (.object "com/example/variloom/variloom/model/Type")) (t' := (.object "java/util/Map")) (by decide) (by decide)))
  have F4_a1_location := Glocation.other W4 (Or.inr (slot_ne (Or.inr (hw _ (List.mem_of_getElem? (i := 68) rfl))) (Or.inr (hw _ (List.mem_of_getElem? (i := 60) rfl))) (by decide) (t := (.object "com/example/variloom/variloom/Location")) (t' := (.object "java/util/Map")) (by decide) (by decide)))
  have F4_a1_constant := Gconstant.other W4 (Or.inr (slot_ne (Or.inr (hw _ (List.mem_of_getElem? (i := 70) rfl))) (Or.inr (hw _ (List.mem_of_getElem? (i := 60) rfl))) (by decide) (t := .boolean) (t' := (.object "java/util/Map")) (by decide) (by decide)))
  have K4 : Keep h0 h4 [a1] := KB.wr W4 (Or.inl (List.mem_of_getElem? (i := 0) rfl))
  refine own_step st4 ?_
  show own_Go _ _ _ _ _ _ _ T4 (mkF m 15 #[.val (.ref a1), .val (.ref a2), .val (.ref a3), .val .null, .val .null, .val (.int p6)] [])
  refine own_step (fun t k => XS.aloadN X4.here hx rfl (hb hby d6_15) rfl rfl k) ?_
  show own_Go _ _ _ _ _ _ _ T4 (mkF m 16 #[.val (.ref a1), .val (.ref a2), .val (.ref a3), .val .null, .val .null, .val (.int p6)] [(.ref a1)])
  refine own_step (fun t k => XS.aloadN X4.here hx rfl (hb hby d6_16) rfl rfl k) ?_
  show own_Go _ _ _ _ _ _ _ T4 (mkF m 17 #[.val (.ref a1), .val (.ref a2), .val (.ref a3), .val .null, .val .null, .val (.int p6)] [(.ref a2), (.ref a1)])
  obtain ⟨T5, h5, X5, e5, W5, st5⟩ := putF X4 hx hZ hown (host := "") (Or.inl (hw _ (List.mem_of_getElem? (i := 61) rfl))) Via.refl e4 F4_a1_projectName E4_a1 (Or.inr ⟨(hw _ (List.mem_of_getElem? (i := 62) rfl)), rfl, hnm⟩) (hw _ (List.mem_of_getElem? (i := 27) rfl)) (ty := (.object "java/lang/String")) (by decide) rfl rfl (g := (mkF m 17 #[.val (.ref a1), .val (.ref a2), .val (.ref a3), .val .null, .val .null, .val (.int p6)] [(.ref a2), (.ref a1)])) rfl rfl (hb hby d6_17)
  have N5 := Fr.snoc X5 N4 ga
  have E5_a1 := E4_a1.wr W5
  have F5_a1_annotations := F4_a1_annotations.other W5 (Or.inr (slot_ne (Or.inr (hw _ (List.mem_of_getElem? (i := 60) rfl))) (Or.inr (hw _ (List.mem_of_getElem? (i := 62) rfl))) (by decide) (t := (.object "java/util/Map")) (t' := (.object "java/lang/String")) (by decide) (by decide)))
  have F5_a1_projectName := F4_a1_projectName.same W5
  have F5_a1_name := F4_a1_name.other W5 (Or.inr (slot_ne (Or.inr (hw _ (List.mem_of_getElem? (i := 64) rfl))) (Or.inr (hw _ (List.mem_of_getElem? (i := 62) rfl))) (by decide) (t := (.object "java/lang/String")) (t' := (.object "java/lang/String")) (by decide) (by decide)))
  have F5_a1_type := F4_a1_type.other W5 (Or.inr (slot_ne (Or.inr (hw _ (List.mem_of_getElem? (i := 66) rfl))) (Or.inr (hw _ (List.mem_of_getElem? (i := 62) rfl))) (by decide) (t := (.object "com/example/variloom/variloom/model/Type")) (t' := (.object "java/lang/String")) (by decide) (by decide)))
  have F5_a1_location := F4_a1_location.other W5 (Or.inr (slot_ne (Or.inr (hw _ (List.mem_of_getElem? (i := 68) rfl))) (Or.inr (hw _ (List.mem_of_getElem? (i := 62) rfl))) (by decide) (t := (.object "com/example/variloom/variloom/Location")) (t' := (.object "java/lang/String")) (by decide) (by decide)))
  have F5_a1_constant := F4_a1_constant.other W5 (Or.inr (slot_ne (Or.inr (hw _ (List.mem_of_getElem? (i := 70) rfl))) (Or.inr (hw _ (List.mem_of_getElem? (i := 62) rfl))) (by decide) (t := .boolean) (t' := (.object "java/lang/String")) (by decide) (by decide)))
  have K5 : Keep h0 h5 [a1] := K4.wr W5 (Or.inl (List.mem_of_getElem? (i := 0) rfl))
  refine own_step st5 ?_
  show own_Go _ _ _ _ _ _ _ T5 (mkF m 20 #[.val (.ref a1), .val (.ref a2), .val (.ref a3), .val .null, .val .null, .val (.int p6)] [])
  refine own_step (fun t k => XS.aloadN X5.here hx rfl (hb hby d6_20) rfl rfl k) ?_
  show own_Go _ _ _ _ _ _ _ T5 (mkF m 21 #[.val (.ref a1), .val (.ref a2), .val (.ref a3), .val .null, .val .null, .val (.int p6)] [(.ref a1)])
  refine own_step (fun t k => XS.aloadN X5.here hx rfl (hb hby d6_21) rfl rfl k) ?_
  show own_Go _ _ _ _ _ _ _ T5 (mkF m 22 #[.val (.ref a1), .val (.ref a2), .val (.ref a3), .val .null, .val .null, .val (.int p6)] [(.ref a3), (.ref a1)])
  obtain ⟨T6, h6, X6, e6, W6, st6⟩ := putF X5 hx hZ hown (host := "") (Or.inl (hw _ (List.mem_of_getElem? (i := 63) rfl))) Via.refl e5 F5_a1_name E5_a1 (Or.inr ⟨(hw _ (List.mem_of_getElem? (i := 64) rfl)), rfl, hnm⟩) (hw _ (List.mem_of_getElem? (i := 27) rfl)) (ty := (.object "java/lang/String")) (by decide) rfl rfl (g := (mkF m 22 #[.val (.ref a1), .val (.ref a2), .val (.ref a3), .val .null, .val .null, .val (.int p6)] [(.ref a3), (.ref a1)])) rfl rfl (hb hby d6_22)
  have N6 := Fr.snoc X6 N5 ga
  have E6_a1 := E5_a1.wr W6
  have F6_a1_annotations := F5_a1_annotations.other W6 (Or.inr (slot_ne (Or.inr (hw _ (List.mem_of_getElem? (i := 60) rfl))) (Or.inr (hw _ (List.mem_of_getElem? (i := 64) rfl))) (by decide) (t := (.object "java/util/Map")) (t' := (.object "java/lang/String")) (by decide) (by decide)))
  have F6_a1_projectName := F5_a1_projectName.other W6 (Or.inr (slot_ne (Or.inr (hw _ (List.mem_of_getElem? (i := 62) rfl))) (Or.inr (hw _ (List.mem_of_getElem? (i := 64) rfl))) (by decide) (t := (.object "java/lang/String")) (t' := (.object "java/lang/String")) (by decide) (by decide)))
  have F6_a1_name := F5_a1_name.same W6
  have F6_a1_type := F5_a1_type.other W6 (Or.inr (slot_ne (Or.inr (hw _ (List.mem_of_getElem? (i := 66) rfl))) (Or.inr (hw _ (List.mem_of_getElem? (i := 64) rfl))) (by decide) (t := (.object "com/example/variloom/variloom/model/Type")) (t' := (.object "java/lang/String")) (by decide) (by decide)))
  have F6_a1_location := F5_a1_location.other W6 (Or.inr (slot_ne (Or.inr (hw _ (List.mem_of_getElem? (i := 68) rfl))) (Or.inr (hw _ (List.mem_of_getElem? (i := 64) rfl))) (by decide) (t := (.object "com/example/variloom/variloom/Location")) (t' := (.object "java/lang/String")) (by decide) (by decide)))
  have F6_a1_constant := F5_a1_constant.other W6 (Or.inr (slot_ne (Or.inr (hw _ (List.mem_of_getElem? (i := 70) rfl))) (Or.inr (hw _ (List.mem_of_getElem? (i := 64) rfl))) (by decide) (t := .boolean) (t' := (.object "java/lang/String")) (by decide) (by decide)))
  have K6 : Keep h0 h6 [a1] := K5.wr W6 (Or.inl (List.mem_of_getElem? (i := 0) rfl))
  refine own_step st6 ?_
  show own_Go _ _ _ _ _ _ _ T6 (mkF m 25 #[.val (.ref a1), .val (.ref a2), .val (.ref a3), .val .null, .val .null, .val (.int p6)] [])
  refine own_step (fun t k => XS.aloadN X6.here hx rfl (hb hby d6_25) rfl rfl k) ?_
  show own_Go _ _ _ _ _ _ _ T6 (mkF m 26 #[.val (.ref a1), .val (.ref a2), .val (.ref a3), .val .null, .val .null, .val (.int p6)] [(.ref a1)])
  refine own_step (fun t k => XS.aloadN X6.here hx rfl (hb hby d6_26) rfl rfl k) ?_
  show own_Go _ _ _ _ _ _ _ T6 (mkF m 27 #[.val (.ref a1), .val (.ref a2), .val (.ref a3), .val .null, .val .null, .val (.int p6)] [.null, (.ref a1)])
  obtain ⟨T7, h7, X7, e7, W7, st7⟩ := putF X6 hx hZ hown (host := "") (Or.inl (hw _ (List.mem_of_getElem? (i := 65) rfl))) Via.refl e6 F6_a1_type E6_a1 (Or.inr ⟨(hw _ (List.mem_of_getElem? (i := 66) rfl)), rfl, hnm⟩) (hw _ (List.mem_of_getElem? (i := 27) rfl)) (ty := (.object "com/example/variloom/variloom/model/Type")) (by decide) rfl rfl (g := (mkF m 27 #[.val (.ref a1), .val (.ref a2), .val (.ref a3), .val .null, .val .null, .val (.int p6)] [.null, (.ref a1)])) rfl rfl (hb hby d6_27)
  have N7 := Fr.snoc X7 N6 ga
  have E7_a1 := E6_a1.wr W7
  have F7_a1_annotations := F6_a1_annotations.other W7 (Or.inr (slot_ne (Or.inr (hw _ (List.mem_of_getElem? (i := 60) rfl))) (Or.inr (hw _ (List.mem_of_getElem? (i := 66) rfl))) (by decide) (t := (.object "java/util/Map")) (t' := (.object "com/example/variloom/variloom/model/Type")) (by decide) (by decide)))
  have F7_a1_projectName := F6_a1_projectName.other W7 (Or.inr (slot_ne (Or.inr (hw _ (List.mem_of_getElem? (i := 62) rfl))) (Or.inr (hw _ (List.mem_of_getElem? (i := 66) rfl))) (by decide) (t := (.object "java/lang/String")) (t' := (.object "com/example/variloom/variloom/model/Type")) (by decide) (by decide)))
  have F7_a1_name := F6_a1_name.other W7 (Or.inr (slot_ne (Or.inr (hw _ (List.mem_of_getElem? (i := 64) rfl))) (Or.inr (hw _ (List.mem_of_getElem? (i := 66) rfl))) (by decide) (t := (.object "java/lang/String")) (t' := (.object "com/example/variloom/variloom/model/Type")) (by decide) (by decide)))
  have F7_a1_type := F6_a1_type.same W7
  have F7_a1_location := F6_a1_location.other W7 (Or.inr (slot_ne (Or.inr (hw _ (List.mem_of_getElem? (i := 68) rfl))) (Or.inr (hw _ (List.mem_of_getElem? (i := 66) rfl))) (by decide) (t := (.object "com/example/variloom/variloom/Location")) (t' := (.object "com/example/variloom/variloom/model/Type")) (by decide) (by decide)))
  have F7_a1_constant := F6_a1_constant.other W7 (Or.inr (slot_ne (Or.inr (hw _ (List.mem_of_getElem? (i := 70) rfl))) (Or.inr (hw _ (List.mem_of_getElem? (i := 66) rfl))) (by decide) (t := .boolean) (t' := (.object "com/example/variloom/variloom/model/Type")) (by decide) (by decide)))
  have K7 : Keep h0 h7 [a1] := K6.wr W7 (Or.inl (List.mem_of_getElem? (i := 0) rfl))
  refine own_step st7 ?_
  show own_Go _ _ _ _ _ _ _ T7 (mkF m 30 #[.val (.ref a1), .val (.ref a2), .val (.ref a3), .val .null, .val .null, .val (.int p6)] [])
  refine own_step (fun t k => XS.aloadN X7.here hx rfl (hb hby d6_30) rfl rfl k) ?_
  show own_Go _ _ _ _ _ _ _ T7 (mkF m 31 #[.val (.ref a1), .val (.ref a2), .val (.ref a3), .val .null, .val .null, .val (.int p6)] [(.ref a1)])
  refine own_step (fun t k => XS.aload X7.here hx rfl (hb hby d6_31) rfl rfl k) ?_
  show own_Go _ _ _ _ _ _ _ T7 (mkF m 33 #[.val (.ref a1), .val (.ref a2), .val (.ref a3), .val .null, .val .null, .val (.int p6)] [.null, (.ref a1)])
  obtain ⟨T8, h8, X8, e8, W8, st8⟩ := putF X7 hx hZ hown (host := "") (Or.inl (hw _ (List.mem_of_getElem? (i := 67) rfl))) Via.refl e7 F7_a1_location E7_a1 (Or.inr ⟨(hw _ (List.mem_of_getElem? (i := 68) rfl)), rfl, hnm⟩) (hw _ (List.mem_of_getElem? (i := 27) rfl)) (ty := (.object "com/example/variloom/variloom/Location")) (by decide) rfl rfl (g := (mkF m 33 #[.val (.ref a1), .val (.ref a2), .val (.ref a3), .val .null, .val .null, .val (.int p6)] [.null, (.ref a1)])) rfl rfl (hb hby d6_33)
  have N8 := Fr.snoc X8 N7 ga
  have E8_a1 := E7_a1.wr W8
  have F8_a1_annotations := F7_a1_annotations.other W8 (Or.inr (slot_ne (Or.inr (hw _ (List.mem_of_getElem? (i := 60) rfl))) (Or.inr (hw _ (List.mem_of_getElem? (i := 68) rfl))) (by decide) (t := (.object "java/util/Map")) (t' := (.object "com/example/variloom/variloom/Location")) (by decide) (by decide)))
  have F8_a1_projectName := F7_a1_projectName.other W8 (Or.inr (slot_ne (Or.inr (hw _ (List.mem_of_getElem? (i := 62) rfl))) (Or.inr (hw _ (List.mem_of_getElem? (i := 68) rfl))) (by decide) (t := (.object "java/lang/String")) (t' := (.object "com/example/variloom/variloom/Location")) (by decide) (by decide)))
  have F8_a1_name := F7_a1_name.other W8 (Or.inr (slot_ne (Or.inr (hw _ (List.mem_of_getElem? (i := 64) rfl))) (Or.inr (hw _ (List.mem_of_getElem? (i := 68) rfl))) (by decide) (t := (.object "java/lang/String")) (t' := (.object "com/example/variloom/variloom/Location")) (by decide) (by decide)))
  have F8_a1_type := F7_a1_type.other W8 (Or.inr (slot_ne (Or.inr (hw _ (List.mem_of_getElem? (i := 66) rfl))) (Or.inr (hw _ (List.mem_of_getElem? (i := 68) rfl))) (by decide) (t := (.object "com/example/variloom/variloom/model/Type")) (t' := (.object "com/example/variloom/variloom/Location")) (by decide) (by decide)))
  have F8_a1_location := F7_a1_location.same W8
  have F8_a1_constant := F7_a1_constant.other W8 (Or.inr (slot_ne (Or.inr (hw _ (List.mem_of_getElem? (i := 70) rfl))) (Or.inr (hw _ (List.mem_of_getElem? (i := 68) rfl))) (by decide) (t := .boolean) (t' := (.object "com/example/variloom/variloom/Location")) (by decide) (by decide)))
  have K8 : Keep h0 h8 [a1] := K7.wr W8 (Or.inl (List.mem_of_getElem? (i := 0) rfl))
  refine own_step st8 ?_
  show own_Go _ _ _ _ _ _ _ T8 (mkF m 36 #[.val (.ref a1), .val (.ref a2), .val (.ref a3), .val .null, .val .null, .val (.int p6)] [])
  refine own_step (fun t k => XS.aloadN X8.here hx rfl (hb hby d6_36) rfl rfl k) ?_
  show own_Go _ _ _ _ _ _ _ T8 (mkF m 37 #[.val (.ref a1), .val (.ref a2), .val (.ref a3), .val .null, .val .null, .val (.int p6)] [(.ref a1)])
  refine own_step (fun t k => XS.iload X8.here hx rfl (hb hby d6_37) rfl k) ?_
  show own_Go _ _ _ _ _ _ _ T8 (mkF m 39 #[.val (.ref a1), .val (.ref a2), .val (.ref a3), .val .null, .val .null, .val (.int p6)] [(.int p6), (.ref a1)])
  obtain ⟨T9, h9, X9, e9, W9, st9⟩ := putF X8 hx hZ hown (host := "") (Or.inl (hw _ (List.mem_of_getElem? (i := 69) rfl))) Via.refl e8 F8_a1_constant E8_a1 (Or.inr ⟨(hw _ (List.mem_of_getElem? (i := 70) rfl)), rfl, hnm⟩) (hw _ (List.mem_of_getElem? (i := 27) rfl)) (ty := .boolean) (by decide) (own_narZ hp6) (own_fitZ hp6) (g := (mkF m 39 #[.val (.ref a1), .val (.ref a2), .val (.ref a3), .val .null, .val .null, .val (.int p6)] [(.int p6), (.ref a1)])) rfl rfl (hb hby d6_39)
  have N9 := Fr.snoc X9 N8 ga
  have E9_a1 := E8_a1.wr W9
  have F9_a1_annotations := F8_a1_annotations.other W9 (Or.inr (slot_ne (Or.inr (hw _ (List.mem_of_getElem? (i := 60) rfl))) (Or.inr (hw _ (List.mem_of_getElem? (i := 70) rfl))) (by decide) (t := (.object "java/util/Map")) (t' := .boolean) (by decide) (by decide)))
  have F9_a1_projectName := F8_a1_projectName.other W9 (Or.inr (slot_ne (Or.inr (hw _ (List.mem_of_getElem? (i := 62) rfl))) (Or.inr (hw _ (List.mem_of_getElem? (i := 70) rfl))) (by decide) (t := (.object "java/lang/String")) (t' := .boolean) (by decide) (by decide)))
  have F9_a1_name := F8_a1_name.other W9 (Or.inr (slot_ne (Or.inr (hw _ (List.mem_of_getElem? (i := 64) rfl))) (Or.inr (hw _ (List.mem_of_getElem? (i := 70) rfl))) (by decide) (t := (.object "java/lang/String")) (t' := .boolean) (by decide) (by decide)))
  have F9_a1_type := F8_a1_type.other W9 (Or.inr (slot_ne (Or.inr (hw _ (List.mem_of_getElem? (i := 66) rfl))) (Or.inr (hw _ (List.mem_of_getElem? (i := 70) rfl))) (by decide) (t := (.object "com/example/variloom/variloom/model/Type")) (t' := .boolean) (by decide) (by decide)))
  have F9_a1_location := F8_a1_location.other W9 (Or.inr (slot_ne (Or.inr (hw _ (List.mem_of_getElem? (i := 68) rfl))) (Or.inr (hw _ (List.mem_of_getElem? (i := 70) rfl))) (by decide) (t := (.object "com/example/variloom/variloom/Location")) (t' := .boolean) (by decide) (by decide)))
  have F9_a1_constant := F8_a1_constant.same W9
  have K9 : Keep h0 h9 [a1] := K8.wr W9 (Or.inl (List.mem_of_getElem? (i := 0) rfl))
  refine own_step st9 ?_
  show own_Go _ _ _ _ _ _ _ T9 (mkF m 42 #[.val (.ref a1), .val (.ref a2), .val (.ref a3), .val .null, .val .null, .val (.int p6)] [])
  refine own_retV X9 hx hlk Bd.returns (hb hby d6_42) (by decide) (by decide) ?_
  show own_Q6 Z a1 a2 a3 p6 h0 n0 none T9.heap _
  rw [e9]
  exact ⟨rfl, N9, K9, E9_a1⟩
theorem d10_0 : decode method_2_code 0 = .ok (.iload_n 0, 1) := by decide +kernel
theorem d10_1 : decode method_2_code 1 = .ok (.iconst 3, 1) := by decide +kernel
theorem d10_2 : decode method_2_code 2 = .ok (.iand, 1) := by decide +kernel
theorem d10_3 : decode method_2_code 3 = .ok (.istore_n 3, 1) := by decide +kernel
theorem d10_4 : decode method_2_code 4 = .ok (.iload_n 3, 1) := by decide +kernel
theorem d10_5 : decode method_2_code 5 = .ok (.iconst 1, 1) := by decide +kernel
theorem d10_6 : decode method_2_code 6 = .ok (.if_icmp .ne 5, 3) := by decide +kernel
theorem d10_9 : decode method_2_code 9 = .ok (.aload_n 2, 1) := by decide +kernel
theorem d10_10 : decode method_2_code 10 = .ok (.areturn, 1) := by decide +kernel
theorem d10_11 : decode method_2_code 11 = .ok (.iload_n 3, 1) := by decide +kernel
theorem d10_12 : decode method_2_code 12 = .ok (.iconst 2, 1) := by decide +kernel
theorem d10_13 : decode method_2_code 13 = .ok (.if_icmp .ne 5, 3) := by decide +kernel
theorem d10_16 : decode method_2_code 16 = .ok (.aconst_null, 1) := by decide +kernel
theorem d10_17 : decode method_2_code 17 = .ok (.areturn, 1) := by decide +kernel
theorem d10_18 : decode method_2_code 18 = .ok (.aload_n 1, 1) := by decide +kernel
theorem d10_19 : decode method_2_code 19 = .ok (.areturn, 1) := by decide +kernel
theorem own_pn10 : plainName "com/example/variloom/variloom/model/ReferenceEqualsPinLaw" = true := by first | (simp [plainName, overriddenIn]; done) | decide +kernel
theorem own_ef10 (m : MethodId) (x0 : Int32) (x1 : Addr) (x2 : Addr) : entryFrame m #[(.int x0), (.ref x1), (.ref x2)] 4 = mkF m 0 #[.val (.int x0), .val (.ref x1), .val (.ref x2), .unset] [] := by first | (simp [entryFrame, mkF, argsToLocals, Value.category]; done) | rfl
def own_Q10 (Z : State) (p1 : Int32) (a2 : Addr) (a3 : Addr) (h0 : Heap) (n0 : Nat) (v : Option Value) (h : Heap) (L : List Loc) : Prop := v = some (own_pick p1 a2 a3) ∧ Fr n0 L ∧ h = h0
set_option maxRecDepth 65536 in
set_option maxHeartbeats 40000000 in
theorem own_rm10 (l : Launch) (Z : State) (a0 : Array Value) (hw : ∀ d ∈ tables_1, d.before a0 Z = true) (ws : List Jvm.Cond) (p1 : Int32) (a2 : Addr) (a3 : Addr) (h0 : Heap) (n0 : Nat) (Z0 : n0 ≤ h0.size)  :
    MetFree l (⟨"com/example/variloom/variloom/model/ReferenceEqualsPinLaw", "pick", "(ILcom/example/variloom/variloom/model/Variable;Lcom/example/variloom/variloom/model/Variable;)Lcom/example/variloom/variloom/model/Variable;"⟩ : MethodName) (head1 (Jvm.Cond.code (⟨"com/example/variloom/variloom/model/ReferenceEqualsPinLaw", "pick", "(ILcom/example/variloom/variloom/model/Variable;Lcom/example/variloom/variloom/model/Variable;)Lcom/example/variloom/variloom/model/Variable;"⟩ : MethodName) method_2_code 4 (some (.object "com/example/variloom/variloom/model/Variable")) :: ws) ({ frames := 0, cells := 0, slots := 0, locals := 0 } : Room)) (fun a U => a = #[(.int p1), (.ref a2), (.ref a3)] ∧ Z.Warmed39 U.vm ∧ U.heap = h0) (fun _ _ _ _ _ => True) (fun _ U o U' => ∃ v L, o = .returned v ∧ own_Q10 Z p1 a2 a3 h0 n0 v U'.heap L ∧ FrameEnd U o U' L ({ frames := 0, cells := 0, slots := 0, locals := 0 } : Room).cells ({ frames := 0, cells := 0, slots := 0, locals := 0 } : Room).slots) := by
  refine MetFree.of_bodySF (plainFor_of_name own_pn10) hisR ?_
  intro p e s m args below meth c s₁ Bd hml0 hP hK
  obtain ⟨rfl, hZ, hh⟩ := hP
  have hx := Bd.exec
  have hby := Bd.bytes
  have hml : c.maxLocals = 4 := hml0
  have hlk : meth.locks = false := BodyLoose.notSynchronized Bd
  have hown : s.vm.findClass "com/example/variloom/variloom/model/ReferenceEqualsPinLaw" = some m.cls := findClass_of_methodNamed Bd.named
  have hnm := (name_of_methodNamed Bd.named Bd.method).1
  have X0 : Stand p l e ({ frames := 0, cells := 0, slots := 0, locals := 0 } : Room) s m #[(.int p1), (.ref a2), (.ref a3)] below meth c s₁ [] 0 0 := Stand.of_body Bd
  have e0 : s₁.heap = h0 := by rw [← hh, Bd.state]; rfl
  have N0 := Fr.nil n0
  show own_Go p e below s ({ frames := 0, cells := 0, slots := 0, locals := 0 } : Room).cells ({ frames := 0, cells := 0, slots := 0, locals := 0 } : Room).slots (own_Q10 Z p1 a2 a3 h0 n0) s₁ (entryFrame m #[(.int p1), (.ref a2), (.ref a3)] 4)
  refine own_step (fun t k => castTop (own_ef10 m p1 a2 a3) k) ?_
  show own_Go _ _ _ _ _ _ _ s₁ (mkF m 0 #[.val (.int p1), .val (.ref a2), .val (.ref a3), .unset] [])
  refine own_step (fun t k => XS.iloadN X0.here hx rfl (hb hby d10_0) rfl k) ?_
  show own_Go _ _ _ _ _ _ _ s₁ (mkF m 1 #[.val (.int p1), .val (.ref a2), .val (.ref a3), .unset] [(.int p1)])
  refine own_step (fun t k => XS.iconst X0.here hx rfl (hb hby d10_1) k) ?_
  show own_Go _ _ _ _ _ _ _ s₁ (mkF m 2 #[.val (.int p1), .val (.ref a2), .val (.ref a3), .unset] [(.int (3 : Int32)), (.int p1)])
  refine own_step (fun t k => XS.iand X0.here hx rfl (hb hby d10_2) rfl k) ?_
  show own_Go _ _ _ _ _ _ _ s₁ (mkF m 3 #[.val (.int p1), .val (.ref a2), .val (.ref a3), .unset] [(.int (p1 &&& (3 : Int32)))])
  refine own_step (fun t k => XS.istoreN X0.here hx rfl (hb hby d10_3) rfl (l' := #[.val (.int p1), .val (.ref a2), .val (.ref a3), .val (.int (p1 &&& (3 : Int32)))]) rfl k) ?_
  show own_Go _ _ _ _ _ _ _ s₁ (mkF m 4 #[.val (.int p1), .val (.ref a2), .val (.ref a3), .val (.int (p1 &&& (3 : Int32)))] [])
  refine own_step (fun t k => XS.iloadN X0.here hx rfl (hb hby d10_4) rfl k) ?_
  show own_Go _ _ _ _ _ _ _ s₁ (mkF m 5 #[.val (.int p1), .val (.ref a2), .val (.ref a3), .val (.int (p1 &&& (3 : Int32)))] [(.int (p1 &&& (3 : Int32)))])
  refine own_step (fun t k => XS.iconst X0.here hx rfl (hb hby d10_5) k) ?_
  rcases Classical.em ((p1 &&& (3 : Int32)) = (1 : Int32)) with c6_1 | c6_1
  · show own_Go _ _ _ _ _ _ _ s₁ (mkF m 6 #[.val (.int p1), .val (.ref a2), .val (.ref a3), .val (.int (p1 &&& (3 : Int32)))] [(.int (1 : Int32)), (.int (p1 &&& (3 : Int32)))])
    refine own_step (fun t k => XS.icmpNo X0.here hx rfl (hb hby d10_6) rfl (teq (c6_1)).2 k) ?_
    show own_Go _ _ _ _ _ _ _ s₁ (mkF m 9 #[.val (.int p1), .val (.ref a2), .val (.ref a3), .val (.int (p1 &&& (3 : Int32)))] [])
    refine own_step (fun t k => XS.aloadN X0.here hx rfl (hb hby d10_9) rfl rfl k) ?_
    show own_Go _ _ _ _ _ _ _ s₁ (mkF m 10 #[.val (.int p1), .val (.ref a2), .val (.ref a3), .val (.int (p1 &&& (3 : Int32)))] [(.ref a3)])
    refine own_ret X0 hx hlk Bd.returns rfl (Or.inr (Or.inr (Or.inr (Or.inr ⟨rfl, rfl, rfl⟩)))) (hb hby d10_10) (by decide) (by decide) ?_
    show own_Q10 Z p1 a2 a3 h0 n0 (some (.ref a3)) s₁.heap _
    rw [e0]
    exact ⟨by simp [own_pick, c6_1], N0, rfl⟩
  · show own_Go _ _ _ _ _ _ _ s₁ (mkF m 6 #[.val (.int p1), .val (.ref a2), .val (.ref a3), .val (.int (p1 &&& (3 : Int32)))] [(.int (1 : Int32)), (.int (p1 &&& (3 : Int32)))])
    refine own_step (fun t k => XS.icmpYes X0.here hx rfl (pc0 := 6) (pc' := 11) rfl (hb hby d10_6) rfl (feq (c6_1)).2 (by decide) (by decide) k) ?_
    show own_Go _ _ _ _ _ _ _ s₁ (mkF m 11 #[.val (.int p1), .val (.ref a2), .val (.ref a3), .val (.int (p1 &&& (3 : Int32)))] [])
    refine own_step (fun t k => XS.iloadN X0.here hx rfl (hb hby d10_11) rfl k) ?_
    show own_Go _ _ _ _ _ _ _ s₁ (mkF m 12 #[.val (.int p1), .val (.ref a2), .val (.ref a3), .val (.int (p1 &&& (3 : Int32)))] [(.int (p1 &&& (3 : Int32)))])
    refine own_step (fun t k => XS.iconst X0.here hx rfl (hb hby d10_12) k) ?_
    rcases Classical.em ((p1 &&& (3 : Int32)) = (2 : Int32)) with c13_2 | c13_2
    · show own_Go _ _ _ _ _ _ _ s₁ (mkF m 13 #[.val (.int p1), .val (.ref a2), .val (.ref a3), .val (.int (p1 &&& (3 : Int32)))] [(.int (2 : Int32)), (.int (p1 &&& (3 : Int32)))])
      refine own_step (fun t k => XS.icmpNo X0.here hx rfl (hb hby d10_13) rfl (teq (c13_2)).2 k) ?_
      show own_Go _ _ _ _ _ _ _ s₁ (mkF m 16 #[.val (.int p1), .val (.ref a2), .val (.ref a3), .val (.int (p1 &&& (3 : Int32)))] [])
      refine own_step (fun t k => XS.aconstNull X0.here hx rfl (hb hby d10_16) k) ?_
      show own_Go _ _ _ _ _ _ _ s₁ (mkF m 17 #[.val (.int p1), .val (.ref a2), .val (.ref a3), .val (.int (p1 &&& (3 : Int32)))] [.null])
      refine own_ret X0 hx hlk Bd.returns rfl (Or.inr (Or.inr (Or.inr (Or.inr ⟨rfl, rfl, rfl⟩)))) (hb hby d10_17) (by decide) (by decide) ?_
      show own_Q10 Z p1 a2 a3 h0 n0 (some .null) s₁.heap _
      rw [e0]
      exact ⟨by simp [own_pick, c6_1, c13_2], N0, rfl⟩
    · show own_Go _ _ _ _ _ _ _ s₁ (mkF m 13 #[.val (.int p1), .val (.ref a2), .val (.ref a3), .val (.int (p1 &&& (3 : Int32)))] [(.int (2 : Int32)), (.int (p1 &&& (3 : Int32)))])
      refine own_step (fun t k => XS.icmpYes X0.here hx rfl (pc0 := 13) (pc' := 18) rfl (hb hby d10_13) rfl (feq (c13_2)).2 (by decide) (by decide) k) ?_
      show own_Go _ _ _ _ _ _ _ s₁ (mkF m 18 #[.val (.int p1), .val (.ref a2), .val (.ref a3), .val (.int (p1 &&& (3 : Int32)))] [])
      refine own_step (fun t k => XS.aloadN X0.here hx rfl (hb hby d10_18) rfl rfl k) ?_
      show own_Go _ _ _ _ _ _ _ s₁ (mkF m 19 #[.val (.int p1), .val (.ref a2), .val (.ref a3), .val (.int (p1 &&& (3 : Int32)))] [(.ref a2)])
      refine own_ret X0 hx hlk Bd.returns rfl (Or.inr (Or.inr (Or.inr (Or.inr ⟨rfl, rfl, rfl⟩)))) (hb hby d10_19) (by decide) (by decide) ?_
      show own_Q10 Z p1 a2 a3 h0 n0 (some (.ref a2)) s₁.heap _
      rw [e0]
      exact ⟨by simp [own_pick, c6_1, c13_2], N0, rfl⟩
theorem d12_0 : decode method_3_code 0 = .ok (.iload_n 0, 1) := by decide +kernel
theorem d12_1 : decode method_3_code 1 = .ok (.iconst 3, 1) := by decide +kernel
theorem d12_2 : decode method_3_code 2 = .ok (.iand, 1) := by decide +kernel
theorem d12_3 : decode method_3_code 3 = .ok (.istore_n 1, 1) := by decide +kernel
theorem d12_4 : decode method_3_code 4 = .ok (.iload_n 1, 1) := by decide +kernel
theorem d12_5 : decode method_3_code 5 = .ok (.iconst 3, 1) := by decide +kernel
theorem d12_6 : decode method_3_code 6 = .ok (.if_icmp .ne 5, 3) := by decide +kernel
theorem d12_9 : decode method_3_code 9 = .ok (.iconst 0, 1) := by decide +kernel
theorem d12_10 : decode method_3_code 10 = .ok (.ireturn, 1) := by decide +kernel
theorem d12_11 : decode method_3_code 11 = .ok (.iload_n 1, 1) := by decide +kernel
theorem d12_12 : decode method_3_code 12 = .ok (.ireturn, 1) := by decide +kernel
theorem own_pn12 : plainName "com/example/variloom/variloom/model/ReferenceEqualsPinLaw" = true := by first | (simp [plainName, overriddenIn]; done) | decide +kernel
theorem own_ef12 (m : MethodId) (x0 : Int32) : entryFrame m #[(.int x0)] 2 = mkF m 0 #[.val (.int x0), .unset] [] := by first | (simp [entryFrame, mkF, argsToLocals, Value.category]; done) | rfl
def own_Q12 (Z : State) (p1 : Int32) (h0 : Heap) (n0 : Nat) (v : Option Value) (h : Heap) (L : List Loc) : Prop := v = some (.int (own_kind p1)) ∧ Fr n0 L ∧ h = h0
set_option maxRecDepth 65536 in
set_option maxHeartbeats 40000000 in
theorem own_rm12 (l : Launch) (Z : State) (a0 : Array Value) (hw : ∀ d ∈ tables_1, d.before a0 Z = true) (ws : List Jvm.Cond) (p1 : Int32) (h0 : Heap) (n0 : Nat) (Z0 : n0 ≤ h0.size)  :
    MetFree l (⟨"com/example/variloom/variloom/model/ReferenceEqualsPinLaw", "kind", "(I)I"⟩ : MethodName) (head1 (Jvm.Cond.code (⟨"com/example/variloom/variloom/model/ReferenceEqualsPinLaw", "kind", "(I)I"⟩ : MethodName) method_3_code 2 (some .int) :: ws) ({ frames := 0, cells := 0, slots := 0, locals := 0 } : Room)) (fun a U => a = #[(.int p1)] ∧ Z.Warmed39 U.vm ∧ U.heap = h0) (fun _ _ _ _ _ => True) (fun _ U o U' => ∃ v L, o = .returned v ∧ own_Q12 Z p1 h0 n0 v U'.heap L ∧ FrameEnd U o U' L ({ frames := 0, cells := 0, slots := 0, locals := 0 } : Room).cells ({ frames := 0, cells := 0, slots := 0, locals := 0 } : Room).slots) := by
  refine MetFree.of_bodySF (plainFor_of_name own_pn12) hisR ?_
  intro p e s m args below meth c s₁ Bd hml0 hP hK
  obtain ⟨rfl, hZ, hh⟩ := hP
  have hx := Bd.exec
  have hby := Bd.bytes
  have hml : c.maxLocals = 2 := hml0
  have hlk : meth.locks = false := BodyLoose.notSynchronized Bd
  have hown : s.vm.findClass "com/example/variloom/variloom/model/ReferenceEqualsPinLaw" = some m.cls := findClass_of_methodNamed Bd.named
  have hnm := (name_of_methodNamed Bd.named Bd.method).1
  have X0 : Stand p l e ({ frames := 0, cells := 0, slots := 0, locals := 0 } : Room) s m #[(.int p1)] below meth c s₁ [] 0 0 := Stand.of_body Bd
  have e0 : s₁.heap = h0 := by rw [← hh, Bd.state]; rfl
  have N0 := Fr.nil n0
  show own_Go p e below s ({ frames := 0, cells := 0, slots := 0, locals := 0 } : Room).cells ({ frames := 0, cells := 0, slots := 0, locals := 0 } : Room).slots (own_Q12 Z p1 h0 n0) s₁ (entryFrame m #[(.int p1)] 2)
  refine own_step (fun t k => castTop (own_ef12 m p1) k) ?_
  show own_Go _ _ _ _ _ _ _ s₁ (mkF m 0 #[.val (.int p1), .unset] [])
  refine own_step (fun t k => XS.iloadN X0.here hx rfl (hb hby d12_0) rfl k) ?_
  show own_Go _ _ _ _ _ _ _ s₁ (mkF m 1 #[.val (.int p1), .unset] [(.int p1)])
  refine own_step (fun t k => XS.iconst X0.here hx rfl (hb hby d12_1) k) ?_
  show own_Go _ _ _ _ _ _ _ s₁ (mkF m 2 #[.val (.int p1), .unset] [(.int (3 : Int32)), (.int p1)])
  refine own_step (fun t k => XS.iand X0.here hx rfl (hb hby d12_2) rfl k) ?_
  show own_Go _ _ _ _ _ _ _ s₁ (mkF m 3 #[.val (.int p1), .unset] [(.int (p1 &&& (3 : Int32)))])
  refine own_step (fun t k => XS.istoreN X0.here hx rfl (hb hby d12_3) rfl (l' := #[.val (.int p1), .val (.int (p1 &&& (3 : Int32)))]) rfl k) ?_
  show own_Go _ _ _ _ _ _ _ s₁ (mkF m 4 #[.val (.int p1), .val (.int (p1 &&& (3 : Int32)))] [])
  refine own_step (fun t k => XS.iloadN X0.here hx rfl (hb hby d12_4) rfl k) ?_
  show own_Go _ _ _ _ _ _ _ s₁ (mkF m 5 #[.val (.int p1), .val (.int (p1 &&& (3 : Int32)))] [(.int (p1 &&& (3 : Int32)))])
  refine own_step (fun t k => XS.iconst X0.here hx rfl (hb hby d12_5) k) ?_
  rcases Classical.em ((p1 &&& (3 : Int32)) = (3 : Int32)) with c6_1 | c6_1
  · show own_Go _ _ _ _ _ _ _ s₁ (mkF m 6 #[.val (.int p1), .val (.int (p1 &&& (3 : Int32)))] [(.int (3 : Int32)), (.int (p1 &&& (3 : Int32)))])
    refine own_step (fun t k => XS.icmpNo X0.here hx rfl (hb hby d12_6) rfl (teq (c6_1)).2 k) ?_
    show own_Go _ _ _ _ _ _ _ s₁ (mkF m 9 #[.val (.int p1), .val (.int (p1 &&& (3 : Int32)))] [])
    refine own_step (fun t k => XS.iconst X0.here hx rfl (hb hby d12_9) k) ?_
    show own_Go _ _ _ _ _ _ _ s₁ (mkF m 10 #[.val (.int p1), .val (.int (p1 &&& (3 : Int32)))] [(.int (0 : Int32))])
    refine own_ret X0 hx hlk Bd.returns rfl (Or.inl ⟨rfl, Or.inl rfl, _, rfl⟩) (hb hby d12_10) (by decide) (by decide) ?_
    show own_Q12 Z p1 h0 n0 (some (.int (0 : Int32))) s₁.heap _
    rw [e0]
    exact ⟨by simp [own_kind, c6_1], N0, rfl⟩
  · show own_Go _ _ _ _ _ _ _ s₁ (mkF m 6 #[.val (.int p1), .val (.int (p1 &&& (3 : Int32)))] [(.int (3 : Int32)), (.int (p1 &&& (3 : Int32)))])
    refine own_step (fun t k => XS.icmpYes X0.here hx rfl (pc0 := 6) (pc' := 11) rfl (hb hby d12_6) rfl (feq (c6_1)).2 (by decide) (by decide) k) ?_
    show own_Go _ _ _ _ _ _ _ s₁ (mkF m 11 #[.val (.int p1), .val (.int (p1 &&& (3 : Int32)))] [])
    refine own_step (fun t k => XS.iloadN X0.here hx rfl (hb hby d12_11) rfl k) ?_
    show own_Go _ _ _ _ _ _ _ s₁ (mkF m 12 #[.val (.int p1), .val (.int (p1 &&& (3 : Int32)))] [(.int (p1 &&& (3 : Int32)))])
    refine own_ret X0 hx hlk Bd.returns rfl (Or.inl ⟨rfl, Or.inl rfl, _, rfl⟩) (hb hby d12_12) (by decide) (by decide) ?_
    show own_Q12 Z p1 h0 n0 (some (.int (p1 &&& (3 : Int32)))) s₁.heap _
    rw [e0]
    exact ⟨by simp [own_kind, c6_1], N0, rfl⟩
theorem d11_0 : decode prog_74_method_1_code 0 = .ok (.aload_n 0, 1) := by decide +kernel
theorem d11_1 : decode prog_74_method_1_code 1 = .ok (.invokespecial 1, 3) := by decide +kernel
theorem d11_4 : decode prog_74_method_1_code 4 = .ok (.aload_n 0, 1) := by decide +kernel
theorem d11_5 : decode prog_74_method_1_code 5 = .ok (.aload_n 1, 1) := by decide +kernel
theorem d11_6 : decode prog_74_method_1_code 6 = .ok (.putfield 7, 3) := by decide +kernel
theorem d11_9 : decode prog_74_method_1_code 9 = .ok (.return_, 1) := by decide +kernel
theorem own_pn11 : plainName "com/example/variloom/variloom/model/Reference" = true := by first | (simp [plainName, overriddenIn]; done) | decide +kernel
theorem own_ef11 (m : MethodId) (x0 : Addr) (x1 : Value) (hx1 : x1.isRef = true) : entryFrame m #[(.ref x0), x1] 2 = mkF m 0 #[.val (.ref x0), .val x1] [] := by
  rcases ref_cases hx1 with rfl | ⟨y1, rfl⟩ <;> first | (simp [entryFrame, mkF, argsToLocals, Value.category]; done) | rfl
def own_Q11 (Z : State) (a1 : Addr) (pv : Value) (h0 : Heap) (n0 : Nat) (v : Option Value) (h : Heap) (L : List Loc) : Prop := v = none ∧ Fr n0 L ∧ Keep h0 h [a1] ∧ Exa Z h a1 "com/example/variloom/variloom/model/Reference" ∧ Fld Z h a1 "com/example/variloom/variloom/model/Reference" "variable" "Lcom/example/variloom/variloom/model/Variable;" pv
set_option maxRecDepth 65536 in
set_option maxHeartbeats 40000000 in
theorem own_rm11 (l : Launch) (Z : State) (a0 : Array Value) (hw : ∀ d ∈ tables_1, d.before a0 Z = true) (ws : List Jvm.Cond) (a1 : Addr) (pv : Value) (h0 : Heap) (n0 : Nat) (Z0 : n0 ≤ h0.size) (hpv : pv.isRef = true) (Fv : Fld Z h0 a1 "com/example/variloom/variloom/model/Reference" "variable" "Lcom/example/variloom/variloom/model/Variable;" .null) (EX : Exa Z h0 a1 "com/example/variloom/variloom/model/Reference") (ga : n0 ≤ a1) :
    MetFree l (⟨"com/example/variloom/variloom/model/Reference", "<init>", "(Lcom/example/variloom/variloom/model/Variable;)V"⟩ : MethodName) (head1 (Jvm.Cond.code (⟨"com/example/variloom/variloom/model/Reference", "<init>", "(Lcom/example/variloom/variloom/model/Variable;)V"⟩ : MethodName) prog_74_method_1_code 2 none :: ws) ({ frames := 1, cells := 0, slots := 0, locals := 12 } : Room)) (fun a U => a = #[(.ref a1), pv] ∧ Z.Warmed39 U.vm ∧ U.heap = h0) (fun _ _ _ _ _ => True) (fun _ U o U' => ∃ v L, o = .returned v ∧ own_Q11 Z a1 pv h0 n0 v U'.heap L ∧ FrameEnd U o U' L ({ frames := 1, cells := 0, slots := 0, locals := 12 } : Room).cells ({ frames := 1, cells := 0, slots := 0, locals := 12 } : Room).slots) := by
  refine MetFree.of_bodySF (plainFor_of_name own_pn11) hisR ?_
  intro p e s m args below meth c s₁ Bd hml0 hP hK
  obtain ⟨rfl, hZ, hh⟩ := hP
  have hx := Bd.exec
  have hby := Bd.bytes
  have hml : c.maxLocals = 2 := hml0
  have hlk : meth.locks = false := BodyLoose.notSynchronized Bd
  have hown : s.vm.findClass "com/example/variloom/variloom/model/Reference" = some m.cls := findClass_of_methodNamed Bd.named
  have hnm := (name_of_methodNamed Bd.named Bd.method).1
  have X0 : Stand p l e ({ frames := 1, cells := 0, slots := 0, locals := 12 } : Room) s m #[(.ref a1), pv] below meth c s₁ [] 0 0 := Stand.of_body Bd
  have e0 : s₁.heap = h0 := by rw [← hh, Bd.state]; rfl
  have N0 := Fr.nil n0
  show own_Go p e below s ({ frames := 1, cells := 0, slots := 0, locals := 12 } : Room).cells ({ frames := 1, cells := 0, slots := 0, locals := 12 } : Room).slots (own_Q11 Z a1 pv h0 n0) s₁ (entryFrame m #[(.ref a1), pv] 2)
  refine own_step (fun t k => castTop (own_ef11 m a1 pv hpv) k) ?_
  show own_Go _ _ _ _ _ _ _ s₁ (mkF m 0 #[.val (.ref a1), .val pv] [])
  refine own_step (fun t k => XS.aloadN X0.here hx rfl (hb hby d11_0) rfl rfl k) ?_
  show own_Go _ _ _ _ _ _ _ s₁ (mkF m 1 #[.val (.ref a1), .val pv] [(.ref a1)])
  obtain ⟨T1, X1, e1, st1⟩ := initO X0 hx hZ hown (hw _ (List.mem_of_getElem? (i := 81) rfl)) (hw _ (List.mem_of_getElem? (i := 20) rfl)) (hw _ (List.mem_of_getElem? (i := 21) rfl)) e0 (g := (mkF m 1 #[.val (.ref a1), .val pv] [(.ref a1)])) rfl (by rw [hml]; rfl) rfl (hb hby d11_1) (by decide) (W := 0) (by show 2 * 0 + _ ≤ _; exact Nat.le_of_eq rfl) (by decide)
  refine own_step st1 ?_
  show own_Go _ _ _ _ _ _ _ T1 (mkF m 4 #[.val (.ref a1), .val pv] [])
  refine own_step (fun t k => XS.aloadN X1.here hx rfl (hb hby d11_4) rfl rfl k) ?_
  show own_Go _ _ _ _ _ _ _ T1 (mkF m 5 #[.val (.ref a1), .val pv] [(.ref a1)])
  refine own_step (fun t k => XS.aloadN X1.here hx rfl (hb hby d11_5) rfl hpv k) ?_
  show own_Go _ _ _ _ _ _ _ T1 (mkF m 6 #[.val (.ref a1), .val pv] [pv, (.ref a1)])
  obtain ⟨T2, h2, X2, e2, W2, st2⟩ := putF X1 hx hZ hown (host := "") (Or.inl (hw _ (List.mem_of_getElem? (i := 82) rfl))) Via.refl e1 Fv EX (Or.inr ⟨(hw _ (List.mem_of_getElem? (i := 83) rfl)), rfl, hnm⟩) (hw _ (List.mem_of_getElem? (i := 72) rfl)) (ty := (.object "com/example/variloom/variloom/model/Variable")) (by decide) (own_narR hpv) (own_fitR hpv) (g := (mkF m 6 #[.val (.ref a1), .val pv] [pv, (.ref a1)])) rfl rfl (hb hby d11_6)
  have N2 := Fr.snoc X2 N0 ga
  have E2_a1 := EX.wr W2
  have F2_a1_variable := Fv.same W2
  have K2 : Keep h0 h2 [a1] := (Keep.refl h0 [a1]).wr W2 (Or.inl (List.mem_of_getElem? (i := 0) rfl))
  refine own_step st2 ?_
  show own_Go _ _ _ _ _ _ _ T2 (mkF m 9 #[.val (.ref a1), .val pv] [])
  refine own_retV X2 hx hlk Bd.returns (hb hby d11_9) (by decide) (by decide) ?_
  show own_Q11 Z a1 pv h0 n0 none T2.heap _
  rw [e2]
  exact ⟨rfl, N2, K2, E2_a1, F2_a1_variable⟩
theorem d13_0 : decode prog_74_method_3_code 0 = .ok (.aload_n 1, 1) := by decide +kernel
theorem d13_1 : decode prog_74_method_3_code 1 = .ok (.instanceof 8, 3) := by decide +kernel
theorem d13_4 : decode prog_74_method_3_code 4 = .ok (.ifCond .eq 23, 3) := by decide +kernel
theorem d13_27 : decode prog_74_method_3_code 27 = .ok (.iconst 0, 1) := by decide +kernel
theorem d13_28 : decode prog_74_method_3_code 28 = .ok (.ireturn, 1) := by decide +kernel
theorem own_pneN : plainName "com/example/variloom/variloom/model/Reference" = true := by first | (simp [plainName, overriddenIn]; done) | decide +kernel
theorem own_efeN (m : MethodId) (x0 : Addr) : entryFrame m #[(.ref x0), .null] 3 = mkF m 0 #[.val (.ref x0), .val .null, .unset] [] := by first | (simp [entryFrame, mkF, argsToLocals, Value.category]; done) | rfl
def own_QeN (Z : State) (a1 : Addr) (h0 : Heap) (n0 : Nat) (v : Option Value) (h : Heap) (L : List Loc) : Prop := v = some (.int 0) ∧ Fr n0 L ∧ h = h0
set_option maxRecDepth 65536 in
set_option maxHeartbeats 40000000 in
theorem own_rmeN (l : Launch) (Z : State) (a0 : Array Value) (hw : ∀ d ∈ tables_1, d.before a0 Z = true) (ws : List Jvm.Cond) (a1 : Addr) (h0 : Heap) (n0 : Nat) (Z0 : n0 ≤ h0.size)  :
    MetFree l (⟨"com/example/variloom/variloom/model/Reference", "equals", "(Ljava/lang/Object;)Z"⟩ : MethodName) (head1 (Jvm.Cond.code (⟨"com/example/variloom/variloom/model/Reference", "equals", "(Ljava/lang/Object;)Z"⟩ : MethodName) prog_74_method_3_code 3 (some .boolean) :: ws) ({ frames := 0, cells := 0, slots := 0, locals := 0 } : Room)) (fun a U => a = #[(.ref a1), .null] ∧ Z.Warmed39 U.vm ∧ U.heap = h0) (fun _ _ _ _ _ => True) (fun _ U o U' => ∃ v L, o = .returned v ∧ own_QeN Z a1 h0 n0 v U'.heap L ∧ FrameEnd U o U' L ({ frames := 0, cells := 0, slots := 0, locals := 0 } : Room).cells ({ frames := 0, cells := 0, slots := 0, locals := 0 } : Room).slots) := by
  refine MetFree.of_bodySF (plainFor_of_name own_pneN) hisR ?_
  intro p e s m args below meth c s₁ Bd hml0 hP hK
  obtain ⟨rfl, hZ, hh⟩ := hP
  have hx := Bd.exec
  have hby := Bd.bytes
  have hml : c.maxLocals = 3 := hml0
  have hlk : meth.locks = false := BodyLoose.notSynchronized Bd
  have hown : s.vm.findClass "com/example/variloom/variloom/model/Reference" = some m.cls := findClass_of_methodNamed Bd.named
  have hnm := (name_of_methodNamed Bd.named Bd.method).1
  have X0 : Stand p l e ({ frames := 0, cells := 0, slots := 0, locals := 0 } : Room) s m #[(.ref a1), .null] below meth c s₁ [] 0 0 := Stand.of_body Bd
  have e0 : s₁.heap = h0 := by rw [← hh, Bd.state]; rfl
  have N0 := Fr.nil n0
  show own_Go p e below s ({ frames := 0, cells := 0, slots := 0, locals := 0 } : Room).cells ({ frames := 0, cells := 0, slots := 0, locals := 0 } : Room).slots (own_QeN Z a1 h0 n0) s₁ (entryFrame m #[(.ref a1), .null] 3)
  refine own_step (fun t k => castTop (own_efeN m a1) k) ?_
  show own_Go _ _ _ _ _ _ _ s₁ (mkF m 0 #[.val (.ref a1), .val .null, .unset] [])
  refine own_step (fun t k => XS.aloadN X0.here hx rfl (hb hby d13_0) rfl rfl k) ?_
  show own_Go _ _ _ _ _ _ _ s₁ (mkF m 1 #[.val (.ref a1), .val .null, .unset] [.null])
  refine own_step (fun t k => X0.instanceofNull hx (g := (mkF m 1 #[.val (.ref a1), .val .null, .unset] [.null])) rfl (rest := []) rfl (hb hby d13_1) t k) ?_
  show own_Go _ _ _ _ _ _ _ s₁ (mkF m 4 #[.val (.ref a1), .val .null, .unset] [(.int (0 : Int32))])
  refine own_step (fun t k => XS.ifYes X0.here hx rfl (pc0 := 4) (pc' := 27) rfl (hb hby d13_4) rfl ((if0 _ _).trans (teq (rfl)).1) (by decide) (by decide) k) ?_
  show own_Go _ _ _ _ _ _ _ s₁ (mkF m 27 #[.val (.ref a1), .val .null, .unset] [])
  refine own_step (fun t k => XS.iconst X0.here hx rfl (hb hby d13_27) k) ?_
  show own_Go _ _ _ _ _ _ _ s₁ (mkF m 28 #[.val (.ref a1), .val .null, .unset] [(.int (0 : Int32))])
  refine own_ret X0 hx hlk Bd.returns rfl (Or.inl ⟨rfl, Or.inr (Or.inl rfl), _, rfl⟩) (hb hby d13_28) (by decide) (by decide) ?_
  show own_QeN Z a1 h0 n0 (some (.int (0 : Int32))) s₁.heap _
  rw [e0]
  exact ⟨rfl, N0, rfl⟩
theorem own_pneV : plainName "com/example/variloom/variloom/model/Reference" = true := by first | (simp [plainName, overriddenIn]; done) | decide +kernel
theorem own_efeV (m : MethodId) (x0 : Addr) (x1 : Addr) : entryFrame m #[(.ref x0), (.ref x1)] 3 = mkF m 0 #[.val (.ref x0), .val (.ref x1), .unset] [] := by first | (simp [entryFrame, mkF, argsToLocals, Value.category]; done) | rfl
def own_QeV (Z : State) (a1 : Addr) (a2 : Addr) (h0 : Heap) (n0 : Nat) (v : Option Value) (h : Heap) (L : List Loc) : Prop := v = some (.int 0) ∧ Fr n0 L ∧ h = h0
set_option maxRecDepth 65536 in
set_option maxHeartbeats 40000000 in
theorem own_rmeV (l : Launch) (Z : State) (a0 : Array Value) (hw : ∀ d ∈ tables_1, d.before a0 Z = true) (ws : List Jvm.Cond) (a1 : Addr) (a2 : Addr) (h0 : Heap) (n0 : Nat) (Z0 : n0 ≤ h0.size) (EL : Exa Z h0 a2 "com/example/variloom/variloom/model/Variable") :
    MetFree l (⟨"com/example/variloom/variloom/model/Reference", "equals", "(Ljava/lang/Object;)Z"⟩ : MethodName) (head1 (Jvm.Cond.code (⟨"com/example/variloom/variloom/model/Reference", "equals", "(Ljava/lang/Object;)Z"⟩ : MethodName) prog_74_method_3_code 3 (some .boolean) :: ws) ({ frames := 0, cells := 0, slots := 0, locals := 0 } : Room)) (fun a U => a = #[(.ref a1), (.ref a2)] ∧ Z.Warmed39 U.vm ∧ U.heap = h0) (fun _ _ _ _ _ => True) (fun _ U o U' => ∃ v L, o = .returned v ∧ own_QeV Z a1 a2 h0 n0 v U'.heap L ∧ FrameEnd U o U' L ({ frames := 0, cells := 0, slots := 0, locals := 0 } : Room).cells ({ frames := 0, cells := 0, slots := 0, locals := 0 } : Room).slots) := by
  refine MetFree.of_bodySF (plainFor_of_name own_pneV) hisR ?_
  intro p e s m args below meth c s₁ Bd hml0 hP hK
  obtain ⟨rfl, hZ, hh⟩ := hP
  have hx := Bd.exec
  have hby := Bd.bytes
  have hml : c.maxLocals = 3 := hml0
  have hlk : meth.locks = false := BodyLoose.notSynchronized Bd
  have hown : s.vm.findClass "com/example/variloom/variloom/model/Reference" = some m.cls := findClass_of_methodNamed Bd.named
  have hnm := (name_of_methodNamed Bd.named Bd.method).1
  have X0 : Stand p l e ({ frames := 0, cells := 0, slots := 0, locals := 0 } : Room) s m #[(.ref a1), (.ref a2)] below meth c s₁ [] 0 0 := Stand.of_body Bd
  have e0 : s₁.heap = h0 := by rw [← hh, Bd.state]; rfl
  have N0 := Fr.nil n0
  show own_Go p e below s ({ frames := 0, cells := 0, slots := 0, locals := 0 } : Room).cells ({ frames := 0, cells := 0, slots := 0, locals := 0 } : Room).slots (own_QeV Z a1 a2 h0 n0) s₁ (entryFrame m #[(.ref a1), (.ref a2)] 3)
  refine own_step (fun t k => castTop (own_efeV m a1 a2) k) ?_
  have far := own_ns_no (hw _ (List.mem_of_getElem? (i := 96) rfl)) (hw _ (List.mem_of_getElem? (i := 72) rfl)) (NS.step (hw _ (List.mem_of_getElem? (i := 96) rfl)) (own_ns_root (hw _ (List.mem_of_getElem? (i := 95) rfl)) (hw _ (List.mem_of_getElem? (i := 72) rfl)) (by decide)) (by decide)) (by decide)
  show own_Go _ _ _ _ _ _ _ s₁ (mkF m 0 #[.val (.ref a1), .val (.ref a2), .unset] [])
  refine own_step (fun t k => XS.aloadN X0.here hx rfl (hb hby d13_0) rfl rfl k) ?_
  show own_Go _ _ _ _ _ _ _ s₁ (mkF m 1 #[.val (.ref a1), .val (.ref a2), .unset] [(.ref a2)])
  obtain ⟨T1, X1, e1, st1⟩ := instNo X0 hx hZ hown (hw _ (List.mem_of_getElem? (i := 92) rfl)) e0 EL far (g := (mkF m 1 #[.val (.ref a1), .val (.ref a2), .unset] [(.ref a2)])) rfl rfl (hb hby d13_1)
  refine own_step st1 ?_
  show own_Go _ _ _ _ _ _ _ T1 (mkF m 4 #[.val (.ref a1), .val (.ref a2), .unset] [(.int (0 : Int32))])
  refine own_step (fun t k => XS.ifYes X1.here hx rfl (pc0 := 4) (pc' := 27) rfl (hb hby d13_4) rfl ((if0 _ _).trans (teq (rfl)).1) (by decide) (by decide) k) ?_
  show own_Go _ _ _ _ _ _ _ T1 (mkF m 27 #[.val (.ref a1), .val (.ref a2), .unset] [])
  refine own_step (fun t k => XS.iconst X1.here hx rfl (hb hby d13_27) k) ?_
  show own_Go _ _ _ _ _ _ _ T1 (mkF m 28 #[.val (.ref a1), .val (.ref a2), .unset] [(.int (0 : Int32))])
  refine own_ret X1 hx hlk Bd.returns rfl (Or.inl ⟨rfl, Or.inr (Or.inl rfl), _, rfl⟩) (hb hby d13_28) (by decide) (by decide) ?_
  show own_QeV Z a1 a2 h0 n0 (some (.int (0 : Int32))) T1.heap _
  rw [e1]
  exact ⟨rfl, N0, rfl⟩
theorem own_pneS : plainName "com/example/variloom/variloom/model/Reference" = true := by first | (simp [plainName, overriddenIn]; done) | decide +kernel
theorem own_efeS (m : MethodId) (x0 : Addr) (x1 : Addr) : entryFrame m #[(.ref x0), (.ref x1)] 3 = mkF m 0 #[.val (.ref x0), .val (.ref x1), .unset] [] := by first | (simp [entryFrame, mkF, argsToLocals, Value.category]; done) | rfl
def own_QeS (Z : State) (a1 : Addr) (a2 : Addr) (h0 : Heap) (n0 : Nat) (v : Option Value) (h : Heap) (L : List Loc) : Prop := v = some (.int 0) ∧ Fr n0 L ∧ h = h0
set_option maxRecDepth 65536 in
set_option maxHeartbeats 40000000 in
theorem own_rmeS (l : Launch) (Z : State) (a0 : Array Value) (hw : ∀ d ∈ tables_1, d.before a0 Z = true) (ws : List Jvm.Cond) (a1 : Addr) (a2 : Addr) (h0 : Heap) (n0 : Nat) (Z0 : n0 ≤ h0.size) (EL : Exa Z h0 a2 "java/lang/String") :
    MetFree l (⟨"com/example/variloom/variloom/model/Reference", "equals", "(Ljava/lang/Object;)Z"⟩ : MethodName) (head1 (Jvm.Cond.code (⟨"com/example/variloom/variloom/model/Reference", "equals", "(Ljava/lang/Object;)Z"⟩ : MethodName) prog_74_method_3_code 3 (some .boolean) :: ws) ({ frames := 0, cells := 0, slots := 0, locals := 0 } : Room)) (fun a U => a = #[(.ref a1), (.ref a2)] ∧ Z.Warmed39 U.vm ∧ U.heap = h0) (fun _ _ _ _ _ => True) (fun _ U o U' => ∃ v L, o = .returned v ∧ own_QeS Z a1 a2 h0 n0 v U'.heap L ∧ FrameEnd U o U' L ({ frames := 0, cells := 0, slots := 0, locals := 0 } : Room).cells ({ frames := 0, cells := 0, slots := 0, locals := 0 } : Room).slots) := by
  refine MetFree.of_bodySF (plainFor_of_name own_pneS) hisR ?_
  intro p e s m args below meth c s₁ Bd hml0 hP hK
  obtain ⟨rfl, hZ, hh⟩ := hP
  have hx := Bd.exec
  have hby := Bd.bytes
  have hml : c.maxLocals = 3 := hml0
  have hlk : meth.locks = false := BodyLoose.notSynchronized Bd
  have hown : s.vm.findClass "com/example/variloom/variloom/model/Reference" = some m.cls := findClass_of_methodNamed Bd.named
  have hnm := (name_of_methodNamed Bd.named Bd.method).1
  have X0 : Stand p l e ({ frames := 0, cells := 0, slots := 0, locals := 0 } : Room) s m #[(.ref a1), (.ref a2)] below meth c s₁ [] 0 0 := Stand.of_body Bd
  have e0 : s₁.heap = h0 := by rw [← hh, Bd.state]; rfl
  have N0 := Fr.nil n0
  show own_Go p e below s ({ frames := 0, cells := 0, slots := 0, locals := 0 } : Room).cells ({ frames := 0, cells := 0, slots := 0, locals := 0 } : Room).slots (own_QeS Z a1 a2 h0 n0) s₁ (entryFrame m #[(.ref a1), (.ref a2)] 3)
  refine own_step (fun t k => castTop (own_efeS m a1 a2) k) ?_
  have far := own_ns_no (hw _ (List.mem_of_getElem? (i := 94) rfl)) (hw _ (List.mem_of_getElem? (i := 72) rfl)) (NS.step (hw _ (List.mem_of_getElem? (i := 94) rfl)) (own_ns_root (hw _ (List.mem_of_getElem? (i := 95) rfl)) (hw _ (List.mem_of_getElem? (i := 72) rfl)) (by decide)) (by decide)) (by decide)
  show own_Go _ _ _ _ _ _ _ s₁ (mkF m 0 #[.val (.ref a1), .val (.ref a2), .unset] [])
  refine own_step (fun t k => XS.aloadN X0.here hx rfl (hb hby d13_0) rfl rfl k) ?_
  show own_Go _ _ _ _ _ _ _ s₁ (mkF m 1 #[.val (.ref a1), .val (.ref a2), .unset] [(.ref a2)])
  obtain ⟨T1, X1, e1, st1⟩ := instNo X0 hx hZ hown (hw _ (List.mem_of_getElem? (i := 92) rfl)) e0 EL far (g := (mkF m 1 #[.val (.ref a1), .val (.ref a2), .unset] [(.ref a2)])) rfl rfl (hb hby d13_1)
  refine own_step st1 ?_
  show own_Go _ _ _ _ _ _ _ T1 (mkF m 4 #[.val (.ref a1), .val (.ref a2), .unset] [(.int (0 : Int32))])
  refine own_step (fun t k => XS.ifYes X1.here hx rfl (pc0 := 4) (pc' := 27) rfl (hb hby d13_4) rfl ((if0 _ _).trans (teq (rfl)).1) (by decide) (by decide) k) ?_
  show own_Go _ _ _ _ _ _ _ T1 (mkF m 27 #[.val (.ref a1), .val (.ref a2), .unset] [])
  refine own_step (fun t k => XS.iconst X1.here hx rfl (hb hby d13_27) k) ?_
  show own_Go _ _ _ _ _ _ _ T1 (mkF m 28 #[.val (.ref a1), .val (.ref a2), .unset] [(.int (0 : Int32))])
  refine own_ret X1 hx hlk Bd.returns rfl (Or.inl ⟨rfl, Or.inr (Or.inl rfl), _, rfl⟩) (hb hby d13_28) (by decide) (by decide) ?_
  show own_QeS Z a1 a2 h0 n0 (some (.int (0 : Int32))) T1.heap _
  rw [e1]
  exact ⟨rfl, N0, rfl⟩
theorem d13_7 : decode prog_74_method_3_code 7 = .ok (.aload_n 1, 1) := by decide +kernel
theorem d13_8 : decode prog_74_method_3_code 8 = .ok (.checkcast 8, 3) := by decide +kernel
theorem d13_11 : decode prog_74_method_3_code 11 = .ok (.astore_n 2, 1) := by decide +kernel
theorem d13_12 : decode prog_74_method_3_code 12 = .ok (.aload_n 2, 1) := by decide +kernel
theorem d13_13 : decode prog_74_method_3_code 13 = .ok (.getfield 7, 3) := by decide +kernel
theorem d13_16 : decode prog_74_method_3_code 16 = .ok (.aload_n 0, 1) := by decide +kernel
theorem d13_17 : decode prog_74_method_3_code 17 = .ok (.getfield 7, 3) := by decide +kernel
theorem d13_20 : decode prog_74_method_3_code 20 = .ok (.if_acmp .ne 7, 3) := by decide +kernel
theorem d13_23 : decode prog_74_method_3_code 23 = .ok (.iconst 1, 1) := by decide +kernel
theorem d13_24 : decode prog_74_method_3_code 24 = .ok (.goto 4, 3) := by decide +kernel
theorem own_pneR : plainName "com/example/variloom/variloom/model/Reference" = true := by first | (simp [plainName, overriddenIn]; done) | decide +kernel
theorem own_efeR (m : MethodId) (x0 : Addr) (x1 : Addr) : entryFrame m #[(.ref x0), (.ref x1)] 3 = mkF m 0 #[.val (.ref x0), .val (.ref x1), .unset] [] := by first | (simp [entryFrame, mkF, argsToLocals, Value.category]; done) | rfl
def own_QeR (Z : State) (a1 : Addr) (a2 : Addr) (v1 : Value) (v2 : Value) (h0 : Heap) (n0 : Nat) (v : Option Value) (h : Heap) (L : List Loc) : Prop := v = some (.int (own_same v1 v2)) ∧ Fr n0 L ∧ h = h0
set_option maxRecDepth 65536 in
set_option maxHeartbeats 40000000 in
theorem own_rmeR (l : Launch) (Z : State) (a0 : Array Value) (hw : ∀ d ∈ tables_1, d.before a0 Z = true) (ws : List Jvm.Cond) (a1 : Addr) (a2 : Addr) (v1 : Value) (v2 : Value) (h0 : Heap) (n0 : Nat) (Z0 : n0 ≤ h0.size) (F1 : Fld Z h0 a1 "com/example/variloom/variloom/model/Reference" "variable" "Lcom/example/variloom/variloom/model/Variable;" v1) (F2 : Fld Z h0 a2 "com/example/variloom/variloom/model/Reference" "variable" "Lcom/example/variloom/variloom/model/Variable;" v2) (EL : Exa Z h0 a2 "com/example/variloom/variloom/model/Reference") (hv1 : v1.isRef = true) (hv2 : v2.isRef = true) :
    MetFree l (⟨"com/example/variloom/variloom/model/Reference", "equals", "(Ljava/lang/Object;)Z"⟩ : MethodName) (head1 (Jvm.Cond.code (⟨"com/example/variloom/variloom/model/Reference", "equals", "(Ljava/lang/Object;)Z"⟩ : MethodName) prog_74_method_3_code 3 (some .boolean) :: ws) ({ frames := 0, cells := 0, slots := 0, locals := 0 } : Room)) (fun a U => a = #[(.ref a1), (.ref a2)] ∧ Z.Warmed39 U.vm ∧ U.heap = h0) (fun _ _ _ _ _ => True) (fun _ U o U' => ∃ v L, o = .returned v ∧ own_QeR Z a1 a2 v1 v2 h0 n0 v U'.heap L ∧ FrameEnd U o U' L ({ frames := 0, cells := 0, slots := 0, locals := 0 } : Room).cells ({ frames := 0, cells := 0, slots := 0, locals := 0 } : Room).slots) := by
  refine MetFree.of_bodySF (plainFor_of_name own_pneR) hisR ?_
  intro p e s m args below meth c s₁ Bd hml0 hP hK
  obtain ⟨rfl, hZ, hh⟩ := hP
  have hx := Bd.exec
  have hby := Bd.bytes
  have hml : c.maxLocals = 3 := hml0
  have hlk : meth.locks = false := BodyLoose.notSynchronized Bd
  have hown : s.vm.findClass "com/example/variloom/variloom/model/Reference" = some m.cls := findClass_of_methodNamed Bd.named
  have hnm := (name_of_methodNamed Bd.named Bd.method).1
  have X0 : Stand p l e ({ frames := 0, cells := 0, slots := 0, locals := 0 } : Room) s m #[(.ref a1), (.ref a2)] below meth c s₁ [] 0 0 := Stand.of_body Bd
  have e0 : s₁.heap = h0 := by rw [← hh, Bd.state]; rfl
  have N0 := Fr.nil n0
  show own_Go p e below s ({ frames := 0, cells := 0, slots := 0, locals := 0 } : Room).cells ({ frames := 0, cells := 0, slots := 0, locals := 0 } : Room).slots (own_QeR Z a1 a2 v1 v2 h0 n0) s₁ (entryFrame m #[(.ref a1), (.ref a2)] 3)
  refine own_step (fun t k => castTop (own_efeR m a1 a2) k) ?_
  show own_Go _ _ _ _ _ _ _ s₁ (mkF m 0 #[.val (.ref a1), .val (.ref a2), .unset] [])
  refine own_step (fun t k => XS.aloadN X0.here hx rfl (hb hby d13_0) rfl rfl k) ?_
  show own_Go _ _ _ _ _ _ _ s₁ (mkF m 1 #[.val (.ref a1), .val (.ref a2), .unset] [(.ref a2)])
  obtain ⟨T1, X1, e1, st1⟩ := instY X0 hx hZ hown (hw _ (List.mem_of_getElem? (i := 92) rfl)) e0 (Ins.self EL) (g := (mkF m 1 #[.val (.ref a1), .val (.ref a2), .unset] [(.ref a2)])) rfl rfl (hb hby d13_1)
  refine own_step st1 ?_
  show own_Go _ _ _ _ _ _ _ T1 (mkF m 4 #[.val (.ref a1), .val (.ref a2), .unset] [(.int (1 : Int32))])
  refine own_step (fun t k => XS.ifNo X1.here hx rfl (hb hby d13_4) rfl ((if0 _ _).trans (feq (by decide)).1) k) ?_
  show own_Go _ _ _ _ _ _ _ T1 (mkF m 7 #[.val (.ref a1), .val (.ref a2), .unset] [])
  refine own_step (fun t k => XS.aloadN X1.here hx rfl (hb hby d13_7) rfl rfl k) ?_
  show own_Go _ _ _ _ _ _ _ T1 (mkF m 8 #[.val (.ref a1), .val (.ref a2), .unset] [(.ref a2)])
  obtain ⟨T2, X2, e2, st2⟩ := castY X1 hx hZ hown (hw _ (List.mem_of_getElem? (i := 92) rfl)) e1 (Ins.self EL) (g := (mkF m 8 #[.val (.ref a1), .val (.ref a2), .unset] [(.ref a2)])) rfl rfl (hb hby d13_8)
  refine own_step st2 ?_
  show own_Go _ _ _ _ _ _ _ T2 (mkF m 11 #[.val (.ref a1), .val (.ref a2), .unset] [(.ref a2)])
  refine own_step (fun t k => XS.astoreN X2.here hx rfl (hb hby d13_11) rfl rfl (l' := #[.val (.ref a1), .val (.ref a2), .val (.ref a2)]) rfl k) ?_
  show own_Go _ _ _ _ _ _ _ T2 (mkF m 12 #[.val (.ref a1), .val (.ref a2), .val (.ref a2)] [])
  refine own_step (fun t k => XS.aloadN X2.here hx rfl (hb hby d13_12) rfl rfl k) ?_
  show own_Go _ _ _ _ _ _ _ T2 (mkF m 13 #[.val (.ref a1), .val (.ref a2), .val (.ref a2)] [(.ref a2)])
  obtain ⟨T3, X3, e3, st3⟩ := getF X2 hx hZ hown (host := "") (Or.inl (hw _ (List.mem_of_getElem? (i := 82) rfl))) Via.refl e2 F2 (g := (mkF m 13 #[.val (.ref a1), .val (.ref a2), .val (.ref a2)] [(.ref a2)])) rfl rfl (hb hby d13_13)
  refine own_step st3 ?_
  show own_Go _ _ _ _ _ _ _ T3 (mkF m 16 #[.val (.ref a1), .val (.ref a2), .val (.ref a2)] [v2])
  refine own_step (fun t k => XS.aloadN X3.here hx rfl (hb hby d13_16) rfl rfl k) ?_
  show own_Go _ _ _ _ _ _ _ T3 (mkF m 17 #[.val (.ref a1), .val (.ref a2), .val (.ref a2)] [(.ref a1), v2])
  obtain ⟨T4, X4, e4, st4⟩ := getF X3 hx hZ hown (host := "") (Or.inl (hw _ (List.mem_of_getElem? (i := 82) rfl))) Via.refl e3 F1 (g := (mkF m 17 #[.val (.ref a1), .val (.ref a2), .val (.ref a2)] [(.ref a1), v2])) rfl rfl (hb hby d13_17)
  refine own_step st4 ?_
  rcases Classical.em (v2 = v1) with c20 | c20
  · show own_Go _ _ _ _ _ _ _ T4 (mkF m 20 #[.val (.ref a1), .val (.ref a2), .val (.ref a2)] [v1, v2])
    refine own_step (fun t k => Jvm.Free.XT.acmpNo X4.here hx rfl (hb hby d13_20) rfl hv2 hv1 (by simp [Jvm.Free.XT.acmp, c20]) k) ?_
    show own_Go _ _ _ _ _ _ _ T4 (mkF m 23 #[.val (.ref a1), .val (.ref a2), .val (.ref a2)] [])
    refine own_step (fun t k => XS.iconst X4.here hx rfl (hb hby d13_23) k) ?_
    show own_Go _ _ _ _ _ _ _ T4 (mkF m 24 #[.val (.ref a1), .val (.ref a2), .val (.ref a2)] [(.int (1 : Int32))])
    refine own_step (fun t k => XS.goto X4.here hx rfl (pc0 := 24) (pc' := 28) rfl (hb hby d13_24) (by decide) (by decide) k) ?_
    show own_Go _ _ _ _ _ _ _ T4 (mkF m 28 #[.val (.ref a1), .val (.ref a2), .val (.ref a2)] [(.int (1 : Int32))])
    refine own_ret X4 hx hlk Bd.returns rfl (Or.inl ⟨rfl, Or.inr (Or.inl rfl), _, rfl⟩) (hb hby d13_28) (by decide) (by decide) ?_
    show own_QeR Z a1 a2 v1 v2 h0 n0 (some (.int (1 : Int32))) T4.heap _
    rw [e4]
    exact ⟨by simp [own_same, c20], N0, rfl⟩
  · show own_Go _ _ _ _ _ _ _ T4 (mkF m 20 #[.val (.ref a1), .val (.ref a2), .val (.ref a2)] [v1, v2])
    refine own_step (fun t k => Jvm.Free.XT.acmpYes X4.here hx rfl (pc0 := 20) (pc' := 27) rfl (hb hby d13_20) rfl hv2 hv1 (by simp [Jvm.Free.XT.acmp, c20]) (by decide) (by decide) k) ?_
    show own_Go _ _ _ _ _ _ _ T4 (mkF m 27 #[.val (.ref a1), .val (.ref a2), .val (.ref a2)] [])
    refine own_step (fun t k => XS.iconst X4.here hx rfl (hb hby d13_27) k) ?_
    show own_Go _ _ _ _ _ _ _ T4 (mkF m 28 #[.val (.ref a1), .val (.ref a2), .val (.ref a2)] [(.int (0 : Int32))])
    refine own_ret X4 hx hlk Bd.returns rfl (Or.inl ⟨rfl, Or.inr (Or.inl rfl), _, rfl⟩) (hb hby d13_28) (by decide) (by decide) ?_
    show own_QeR Z a1 a2 v1 v2 h0 n0 (some (.int (0 : Int32))) T4.heap _
    rw [e4]
    exact ⟨by simp [own_same, c20], N0, rfl⟩
theorem own_pn0 : plainName "com/example/variloom/variloom/model/ReferenceEqualsPinLaw" = true := by first | (simp [plainName, overriddenIn]; done) | decide +kernel
theorem own_pd0_0 : parseMethodDescriptor "(C)Ljava/lang/String;" = some ⟨[.char], some (.object "java/lang/String")⟩ := by decide +kernel
theorem own_pd0_1 : parseMethodDescriptor "(Ljava/lang/String;Ljava/lang/String;Lcom/example/variloom/variloom/model/Type;Lcom/example/variloom/variloom/Location;Z)V" = some ⟨[(.object "java/lang/String"), (.object "java/lang/String"), (.object "com/example/variloom/variloom/model/Type"), (.object "com/example/variloom/variloom/Location"), .boolean], none⟩ := by decide +kernel
theorem own_pd0_2 : parseMethodDescriptor "(ILcom/example/variloom/variloom/model/Variable;Lcom/example/variloom/variloom/model/Variable;)Lcom/example/variloom/variloom/model/Variable;" = some ⟨[.int, (.object "com/example/variloom/variloom/model/Variable"), (.object "com/example/variloom/variloom/model/Variable")], some (.object "com/example/variloom/variloom/model/Variable")⟩ := by decide +kernel
theorem own_pd0_3 : parseMethodDescriptor "(Lcom/example/variloom/variloom/model/Variable;)V" = some ⟨[(.object "com/example/variloom/variloom/model/Variable")], none⟩ := by decide +kernel
theorem own_pd0_4 : parseMethodDescriptor "(I)I" = some ⟨[.int], some .int⟩ := by decide +kernel
theorem own_pd0_5 : parseMethodDescriptor "(Ljava/lang/Object;)Z" = some ⟨[(.object "java/lang/Object")], some .boolean⟩ := by decide +kernel
theorem own_ef0 (m : MethodId) (x0 : Int32) (x1 : Int32) (x2 : Int32) (x3 : Int32) : entryFrame m #[(.int x0), (.int x1), (.int x2), (.int x3)] maxLocals = mkF m 0 #[.val (.int x0), .val (.int x1), .val (.int x2), .val (.int x3), .unset, .unset, .unset, .unset, .unset, .unset, .unset, .unset, .unset] [] := by first | (simp [entryFrame, mkF, argsToLocals, Value.category, maxLocals]; done) | rfl
def own_Q0 (Z : State) (p1 : Int32) (p2 : Int32) (p3 : Int32) (p4 : Int32) (cs : Int32) (h0 : Heap) (n0 : Nat) (v : Option Value) (h : Heap) (L : List Loc) : Prop := v = some (.int 1) ∧ Fr n0 L
set_option maxRecDepth 65536 in
set_option maxHeartbeats 40000000 in
theorem own_rm0 (l : Launch) (Z : State) (a0 : Array Value) (hw : ∀ d ∈ tables_1, d.before a0 Z = true) (ws : List Jvm.Cond) (p1 : Int32) (p2 : Int32) (p3 : Int32) (p4 : Int32) (cs : Int32) (h0 : Heap) (n0 : Nat) (Z0 : n0 ≤ h0.size) (SS : Sta Z h0 "java/lang/String" "COMPACT_STRINGS" "Z" (.int cs)) (hcs : ¬ cs = 0) :
    MetFree l x (head1 (Jvm.Cond.code x code maxLocals ret :: ws) room_1) (fun a U => a = #[(.int p1), (.int p2), (.int p3), (.int p4)] ∧ Z.Warmed39 U.vm ∧ U.heap = h0) (fun _ _ _ _ _ => True) (fun _ U o U' => ∃ v L, o = .returned v ∧ own_Q0 Z p1 p2 p3 p4 cs h0 n0 v U'.heap L ∧ FrameEnd U o U' L room_1.cells room_1.slots) := by
  refine MetFree.of_bodySF (plainFor_of_name own_pn0) hisR ?_
  intro p e s m args below meth c s₁ Bd hml0 hP hK
  obtain ⟨rfl, hZ, hh⟩ := hP
  have hx := Bd.exec
  have hby := Bd.bytes
  have hml : c.maxLocals = 13 := hml0
  have hlk : meth.locks = false := BodyLoose.notSynchronized Bd
  have hown : s.vm.findClass "com/example/variloom/variloom/model/ReferenceEqualsPinLaw" = some m.cls := findClass_of_methodNamed Bd.named
  have hnm := (name_of_methodNamed Bd.named Bd.method).1
  have X0 : Stand p l e room_1 s m #[(.int p1), (.int p2), (.int p3), (.int p4)] below meth c s₁ [] 0 0 := Stand.of_body Bd
  have e0 : s₁.heap = h0 := by rw [← hh, Bd.state]; rfl
  have N0 := Fr.nil n0
  show own_Go p e below s room_1.cells room_1.slots (own_Q0 Z p1 p2 p3 p4 cs h0 n0) s₁ (entryFrame m #[(.int p1), (.int p2), (.int p3), (.int p4)] maxLocals)
  refine own_step (fun t k => castTop (own_ef0 m p1 p2 p3 p4) k) ?_
  show own_Go _ _ _ _ _ _ _ s₁ (mkF m 0 #[.val (.int p1), .val (.int p2), .val (.int p3), .val (.int p4), .unset, .unset, .unset, .unset, .unset, .unset, .unset, .unset, .unset] [])
  refine own_step (fun t k => XS.iloadN X0.here hx rfl (hb hby at_0) rfl k) ?_
  show own_Go _ _ _ _ _ _ _ s₁ (mkF m 1 #[.val (.int p1), .val (.int p2), .val (.int p3), .val (.int p4), .unset, .unset, .unset, .unset, .unset, .unset, .unset, .unset, .unset] [(.int p3)])
  refine own_step (fun t k => XS.sipush X0.here hx rfl (hb hby at_1) k) ?_
  show own_Go _ _ _ _ _ _ _ s₁ (mkF m 4 #[.val (.int p1), .val (.int p2), .val (.int p3), .val (.int p4), .unset, .unset, .unset, .unset, .unset, .unset, .unset, .unset, .unset] [(.int (255 : Int32)), (.int p3)])
  refine own_step (fun t k => XS.iand X0.here hx rfl (hb hby at_4) rfl k) ?_
  show own_Go _ _ _ _ _ _ _ s₁ (mkF m 5 #[.val (.int p1), .val (.int p2), .val (.int p3), .val (.int p4), .unset, .unset, .unset, .unset, .unset, .unset, .unset, .unset, .unset] [(.int (p3 &&& (255 : Int32)))])
  refine own_step (fun t k => XS.i2c X0.here hx rfl (hb hby at_5) rfl k) ?_
  show own_Go _ _ _ _ _ _ _ s₁ (mkF m 6 #[.val (.int p1), .val (.int p2), .val (.int p3), .val (.int p4), .unset, .unset, .unset, .unset, .unset, .unset, .unset, .unset, .unset] [(.int ((p3 &&& (255 : Int32))).toUInt32.toUInt16.toUInt32.toInt32)])
  obtain ⟨_, _, ⟨T1, L1, k1, n1⟩, -, X1, ⟨Lc1, hQ1, l1, y1, z1⟩, st1⟩ := Jvm.LawKit.callS X0 hx (y := (⟨"java/lang/String", "valueOf", "(C)Ljava/lang/String;"⟩ : MethodName)) hown (mvT hZ (hw _ (List.mem_of_getElem? (i := 0) rfl))) (mvT hZ (hw _ (List.mem_of_getElem? (i := 1) rfl))) (mvT hZ (hw _ (List.mem_of_getElem? (i := 2) rfl))) (mvT hZ (hw _ (List.mem_of_getElem? (i := 3) rfl))) (by decide) (backOf (W := 0) (own_rm1 l Z a0 hw [] ((p3 &&& (255 : Int32))).toUInt32.toUInt16.toUInt32.toInt32 cs h0 n0 Z0 SS hcs (own_ch _)) hZ (hw _ (List.mem_of_getElem? (i := 3) rfl)) (hw _ (List.mem_of_getElem? (i := 2) rfl)) (by decide) (by decide)) (g := (mkF m 6 #[.val (.int p1), .val (.int p2), .val (.int p3), .val (.int p4), .unset, .unset, .unset, .unset, .unset, .unset, .unset, .unset, .unset] [(.int ((p3 &&& (255 : Int32))).toUInt32.toUInt16.toUInt32.toInt32)])) rfl (by rw [hml]; rfl) (argsL := [(.int ((p3 &&& (255 : Int32))).toUInt32.toUInt16.toUInt32.toInt32)]) (rest := []) (lenOf own_pd0_0 rfl) rfl (by show 2 * 0 + _ ≤ _; exact Nat.le_of_eq rfl) (hb hby at_6) (fun _ _ => ⟨rfl, e0, (by decide : 0 + 2 ≤ _), (by decide : 0 + 5 ≤ _)⟩)
  dsimp only [Pt.U, Pt.locs, Pt.cells, Pt.slots] at X1 l1 y1 z1 st1 hQ1
  subst l1 y1 z1
  obtain ⟨y1, rfl, Nq1, K1, Ex1⟩ := hQ1
  have N1 := Fr.app N0 Nq1
  refine own_step (fun t k => st1 t k) ?_
  have S1 := own_sta_keep SS K1
  show own_Go _ _ _ _ _ _ _ T1 (mkF m 9 #[.val (.int p1), .val (.int p2), .val (.int p3), .val (.int p4), .unset, .unset, .unset, .unset, .unset, .unset, .unset, .unset, .unset] [(.ref y1)])
  refine own_step (fun t k => XS.astore X1.here hx rfl (hb hby at_9) rfl rfl (l' := #[.val (.int p1), .val (.int p2), .val (.int p3), .val (.int p4), .val (.ref y1), .unset, .unset, .unset, .unset, .unset, .unset, .unset, .unset]) rfl k) ?_
  show own_Go _ _ _ _ _ _ _ T1 (mkF m 11 #[.val (.int p1), .val (.int p2), .val (.int p3), .val (.int p4), .val (.ref y1), .unset, .unset, .unset, .unset, .unset, .unset, .unset, .unset] [])
  refine own_step (fun t k => XS.iloadN X1.here hx rfl (hb hby at_11) rfl k) ?_
  show own_Go _ _ _ _ _ _ _ T1 (mkF m 12 #[.val (.int p1), .val (.int p2), .val (.int p3), .val (.int p4), .val (.ref y1), .unset, .unset, .unset, .unset, .unset, .unset, .unset, .unset] [(.int p4)])
  refine own_step (fun t k => XS.sipush X1.here hx rfl (hb hby at_12) k) ?_
  show own_Go _ _ _ _ _ _ _ T1 (mkF m 15 #[.val (.int p1), .val (.int p2), .val (.int p3), .val (.int p4), .val (.ref y1), .unset, .unset, .unset, .unset, .unset, .unset, .unset, .unset] [(.int (255 : Int32)), (.int p4)])
  refine own_step (fun t k => XS.iand X1.here hx rfl (hb hby at_15) rfl k) ?_
  show own_Go _ _ _ _ _ _ _ T1 (mkF m 16 #[.val (.int p1), .val (.int p2), .val (.int p3), .val (.int p4), .val (.ref y1), .unset, .unset, .unset, .unset, .unset, .unset, .unset, .unset] [(.int (p4 &&& (255 : Int32)))])
  refine own_step (fun t k => XS.i2c X1.here hx rfl (hb hby at_16) rfl k) ?_
  show own_Go _ _ _ _ _ _ _ T1 (mkF m 17 #[.val (.int p1), .val (.int p2), .val (.int p3), .val (.int p4), .val (.ref y1), .unset, .unset, .unset, .unset, .unset, .unset, .unset, .unset] [(.int ((p4 &&& (255 : Int32))).toUInt32.toUInt16.toUInt32.toInt32)])
  obtain ⟨_, _, ⟨T2, L2, k2, n2⟩, -, X2, ⟨Lc2, hQ2, l2, y2, z2⟩, st2⟩ := Jvm.LawKit.callS X1 hx (y := (⟨"java/lang/String", "valueOf", "(C)Ljava/lang/String;"⟩ : MethodName)) hown (mvT hZ (hw _ (List.mem_of_getElem? (i := 0) rfl))) (mvT hZ (hw _ (List.mem_of_getElem? (i := 1) rfl))) (mvT hZ (hw _ (List.mem_of_getElem? (i := 2) rfl))) (mvT hZ (hw _ (List.mem_of_getElem? (i := 3) rfl))) (by decide) (backOf (W := 0) (own_rm1 l Z a0 hw [] ((p4 &&& (255 : Int32))).toUInt32.toUInt16.toUInt32.toInt32 cs T1.heap n0 (Nat.le_trans Z0 K1.1) S1 hcs (own_ch _)) hZ (hw _ (List.mem_of_getElem? (i := 3) rfl)) (hw _ (List.mem_of_getElem? (i := 2) rfl)) (by decide) (by decide)) (g := (mkF m 17 #[.val (.int p1), .val (.int p2), .val (.int p3), .val (.int p4), .val (.ref y1), .unset, .unset, .unset, .unset, .unset, .unset, .unset, .unset] [(.int ((p4 &&& (255 : Int32))).toUInt32.toUInt16.toUInt32.toInt32)])) rfl (by rw [hml]; rfl) (argsL := [(.int ((p4 &&& (255 : Int32))).toUInt32.toUInt16.toUInt32.toInt32)]) (rest := []) (lenOf own_pd0_0 rfl) rfl (by show 2 * 0 + _ ≤ _; exact Nat.le_of_eq rfl) (hb hby at_17) (fun _ _ => ⟨rfl, rfl, (by decide : 2 + 2 ≤ _), (by decide : 5 + 5 ≤ _)⟩)
  dsimp only [Pt.U, Pt.locs, Pt.cells, Pt.slots] at X2 l2 y2 z2 st2 hQ2
  subst l2 y2 z2
  obtain ⟨y2, rfl, Nq2, K2, Ex2⟩ := hQ2
  have N2 := Fr.app N1 Nq2
  refine own_step (fun t k => st2 t k) ?_
  have S2 := own_sta_keep S1 K2
  show own_Go _ _ _ _ _ _ _ T2 (mkF m 20 #[.val (.int p1), .val (.int p2), .val (.int p3), .val (.int p4), .val (.ref y1), .unset, .unset, .unset, .unset, .unset, .unset, .unset, .unset] [(.ref y2)])
  refine own_step (fun t k => XS.astore X2.here hx rfl (hb hby at_20) rfl rfl (l' := #[.val (.int p1), .val (.int p2), .val (.int p3), .val (.int p4), .val (.ref y1), .val (.ref y2), .unset, .unset, .unset, .unset, .unset, .unset, .unset]) rfl k) ?_
  show own_Go _ _ _ _ _ _ _ T2 (mkF m 22 #[.val (.int p1), .val (.int p2), .val (.int p3), .val (.int p4), .val (.ref y1), .val (.ref y2), .unset, .unset, .unset, .unset, .unset, .unset, .unset] [])
  refine own_step (fun t k => XS.iloadN X2.here hx rfl (hb hby at_22) rfl k) ?_
  show own_Go _ _ _ _ _ _ _ T2 (mkF m 23 #[.val (.int p1), .val (.int p2), .val (.int p3), .val (.int p4), .val (.ref y1), .val (.ref y2), .unset, .unset, .unset, .unset, .unset, .unset, .unset] [(.int p4)])
  refine own_step (fun t k => XS.bipush X2.here hx rfl (hb hby at_23) k) ?_
  show own_Go _ _ _ _ _ _ _ T2 (mkF m 25 #[.val (.int p1), .val (.int p2), .val (.int p3), .val (.int p4), .val (.ref y1), .val (.ref y2), .unset, .unset, .unset, .unset, .unset, .unset, .unset] [(.int (8 : Int32)), (.int p4)])
  refine own_step (fun t k => XS.iushr X2.here hx rfl (hb hby at_25) rfl k) ?_
  show own_Go _ _ _ _ _ _ _ T2 (mkF m 26 #[.val (.int p1), .val (.int p2), .val (.int p3), .val (.int p4), .val (.ref y1), .val (.ref y2), .unset, .unset, .unset, .unset, .unset, .unset, .unset] [(.int ((p4.toUInt32 >>> ((8 : Int32) &&& 31).toUInt32).toInt32))])
  refine own_step (fun t k => XS.sipush X2.here hx rfl (hb hby at_26) k) ?_
  show own_Go _ _ _ _ _ _ _ T2 (mkF m 29 #[.val (.int p1), .val (.int p2), .val (.int p3), .val (.int p4), .val (.ref y1), .val (.ref y2), .unset, .unset, .unset, .unset, .unset, .unset, .unset] [(.int (255 : Int32)), (.int ((p4.toUInt32 >>> ((8 : Int32) &&& 31).toUInt32).toInt32))])
  refine own_step (fun t k => XS.iand X2.here hx rfl (hb hby at_29) rfl k) ?_
  show own_Go _ _ _ _ _ _ _ T2 (mkF m 30 #[.val (.int p1), .val (.int p2), .val (.int p3), .val (.int p4), .val (.ref y1), .val (.ref y2), .unset, .unset, .unset, .unset, .unset, .unset, .unset] [(.int (((p4.toUInt32 >>> ((8 : Int32) &&& 31).toUInt32).toInt32) &&& (255 : Int32)))])
  refine own_step (fun t k => XS.i2c X2.here hx rfl (hb hby at_30) rfl k) ?_
  show own_Go _ _ _ _ _ _ _ T2 (mkF m 31 #[.val (.int p1), .val (.int p2), .val (.int p3), .val (.int p4), .val (.ref y1), .val (.ref y2), .unset, .unset, .unset, .unset, .unset, .unset, .unset] [(.int ((((p4.toUInt32 >>> ((8 : Int32) &&& 31).toUInt32).toInt32) &&& (255 : Int32))).toUInt32.toUInt16.toUInt32.toInt32)])
  obtain ⟨_, _, ⟨T3, L3, k3, n3⟩, -, X3, ⟨Lc3, hQ3, l3, y3, z3⟩, st3⟩ := Jvm.LawKit.callS X2 hx (y := (⟨"java/lang/String", "valueOf", "(C)Ljava/lang/String;"⟩ : MethodName)) hown (mvT hZ (hw _ (List.mem_of_getElem? (i := 0) rfl))) (mvT hZ (hw _ (List.mem_of_getElem? (i := 1) rfl))) (mvT hZ (hw _ (List.mem_of_getElem? (i := 2) rfl))) (mvT hZ (hw _ (List.mem_of_getElem? (i := 3) rfl))) (by decide) (backOf (W := 0) (own_rm1 l Z a0 hw [] ((((p4.toUInt32 >>> ((8 : Int32) &&& 31).toUInt32).toInt32) &&& (255 : Int32))).toUInt32.toUInt16.toUInt32.toInt32 cs T2.heap n0 (Nat.le_trans (Nat.le_trans Z0 K1.1) K2.1) S2 hcs (own_ch _)) hZ (hw _ (List.mem_of_getElem? (i := 3) rfl)) (hw _ (List.mem_of_getElem? (i := 2) rfl)) (by decide) (by decide)) (g := (mkF m 31 #[.val (.int p1), .val (.int p2), .val (.int p3), .val (.int p4), .val (.ref y1), .val (.ref y2), .unset, .unset, .unset, .unset, .unset, .unset, .unset] [(.int ((((p4.toUInt32 >>> ((8 : Int32) &&& 31).toUInt32).toInt32) &&& (255 : Int32))).toUInt32.toUInt16.toUInt32.toInt32)])) rfl (by rw [hml]; rfl) (argsL := [(.int ((((p4.toUInt32 >>> ((8 : Int32) &&& 31).toUInt32).toInt32) &&& (255 : Int32))).toUInt32.toUInt16.toUInt32.toInt32)]) (rest := []) (lenOf own_pd0_0 rfl) rfl (by show 2 * 0 + _ ≤ _; exact Nat.le_of_eq rfl) (hb hby at_31) (fun _ _ => ⟨rfl, rfl, (by decide : 4 + 2 ≤ _), (by decide : 10 + 5 ≤ _)⟩)
  dsimp only [Pt.U, Pt.locs, Pt.cells, Pt.slots] at X3 l3 y3 z3 st3 hQ3
  subst l3 y3 z3
  obtain ⟨y3, rfl, Nq3, K3, Ex3⟩ := hQ3
  have N3 := Fr.app N2 Nq3
  refine own_step (fun t k => st3 t k) ?_
  have S3 := own_sta_keep S2 K3
  have En3 := Ex2.keep K3
  show own_Go _ _ _ _ _ _ _ T3 (mkF m 34 #[.val (.int p1), .val (.int p2), .val (.int p3), .val (.int p4), .val (.ref y1), .val (.ref y2), .unset, .unset, .unset, .unset, .unset, .unset, .unset] [(.ref y3)])
  refine own_step (fun t k => XS.astore X3.here hx rfl (hb hby at_34) rfl rfl (l' := #[.val (.int p1), .val (.int p2), .val (.int p3), .val (.int p4), .val (.ref y1), .val (.ref y2), .val (.ref y3), .unset, .unset, .unset, .unset, .unset, .unset]) rfl k) ?_
  
  show own_Go _ _ _ _ _ _ _ T3 (mkF m 36 #[.val (.int p1), .val (.int p2), .val (.int p3), .val (.int p4), .val (.ref y1), .val (.ref y2), .val (.ref y3), .unset, .unset, .unset, .unset, .unset, .unset] [])
  obtain ⟨T4, h4, X4, e4, E4, A4, D4, -, st4⟩ := newO X3 hx hZ hown (hw _ (List.mem_of_getElem? (i := 26) rfl)) (hw _ (List.mem_of_getElem? (i := 27) rfl)) (hw _ (List.mem_of_getElem? (i := 28) rfl)) rfl (g := (mkF m 36 #[.val (.int p1), .val (.int p2), .val (.int p3), .val (.int p4), .val (.ref y1), .val (.ref y2), .val (.ref y3), .unset, .unset, .unset, .unset, .unset, .unset] [])) rfl (hb hby at_36) (by decide) (by decide)
  obtain ⟨b4, g4⟩ : ∃ z, z = T3.heap.size := ⟨_, rfl⟩
  rw [← g4] at A4 D4 st4
  have F4_annotations : Fld Z h4 b4 "com/example/variloom/variloom/model/Variable" "annotations" "Ljava/util/Map;" .null := D4 (Or.inr (hw _ (List.mem_of_getElem? (i := 60) rfl))) (ty := (.object "java/util/Map")) (by decide)
  have F4_projectName : Fld Z h4 b4 "com/example/variloom/variloom/model/Variable" "projectName" "Ljava/lang/String;" .null := D4 (Or.inr (hw _ (List.mem_of_getElem? (i := 62) rfl))) (ty := (.object "java/lang/String")) (by decide)
  have F4_name : Fld Z h4 b4 "com/example/variloom/variloom/model/Variable" "name" "Ljava/lang/String;" .null := D4 (Or.inr (hw _ (List.mem_of_getElem? (i := 64) rfl))) (ty := (.object "java/lang/String")) (by decide)
  have F4_type : Fld Z h4 b4 "com/example/variloom/variloom/model/Variable" "type" "Lcom/example/variloom/variloom/model/Type;" .null := D4 (Or.inr (hw _ (List.mem_of_getElem? (i := 66) rfl))) (ty := (.object "com/example/variloom/variloom/model/Type")) (by decide)
  have F4_location : Fld Z h4 b4 "com/example/variloom/variloom/model/Variable" "location" "Lcom/example/variloom/variloom/Location;" .null := D4 (Or.inr (hw _ (List.mem_of_getElem? (i := 68) rfl))) (ty := (.object "com/example/variloom/variloom/Location")) (by decide)
  have F4_constant : Fld Z h4 b4 "com/example/variloom/variloom/model/Variable" "constant" "Z" (.int (0 : Int32)) := D4 (Or.inr (hw _ (List.mem_of_getElem? (i := 70) rfl))) (ty := .boolean) (by decide)
  have nb4 : n0 ≤ b4 := by have := Nat.le_of_eq g4.symm; exact Nat.le_trans ((Nat.le_trans (Nat.le_trans (Nat.le_trans Z0 K1.1) K2.1) K3.1)) this
  refine own_step st4 ?_
  have EnA := En3.ext E4
  show own_Go _ _ _ _ _ _ _ T4 (mkF m 39 #[.val (.int p1), .val (.int p2), .val (.int p3), .val (.int p4), .val (.ref y1), .val (.ref y2), .val (.ref y3), .unset, .unset, .unset, .unset, .unset, .unset] [(.ref b4)])
  refine own_step (fun t k => XS.dup X4.here hx rfl (hb hby at_39) rfl rfl k) ?_
  show own_Go _ _ _ _ _ _ _ T4 (mkF m 40 #[.val (.int p1), .val (.int p2), .val (.int p3), .val (.int p4), .val (.ref y1), .val (.ref y2), .val (.ref y3), .unset, .unset, .unset, .unset, .unset, .unset] [(.ref b4), (.ref b4)])
  refine own_step (fun t k => XS.aload X4.here hx rfl (hb hby at_40) rfl rfl k) ?_
  show own_Go _ _ _ _ _ _ _ T4 (mkF m 42 #[.val (.int p1), .val (.int p2), .val (.int p3), .val (.int p4), .val (.ref y1), .val (.ref y2), .val (.ref y3), .unset, .unset, .unset, .unset, .unset, .unset] [(.ref y1), (.ref b4), (.ref b4)])
  refine own_step (fun t k => XS.aload X4.here hx rfl (hb hby at_42) rfl rfl k) ?_
  show own_Go _ _ _ _ _ _ _ T4 (mkF m 44 #[.val (.int p1), .val (.int p2), .val (.int p3), .val (.int p4), .val (.ref y1), .val (.ref y2), .val (.ref y3), .unset, .unset, .unset, .unset, .unset, .unset] [(.ref y2), (.ref y1), (.ref b4), (.ref b4)])
  refine own_step (fun t k => XS.aconstNull X4.here hx rfl (hb hby at_44) k) ?_
  show own_Go _ _ _ _ _ _ _ T4 (mkF m 45 #[.val (.int p1), .val (.int p2), .val (.int p3), .val (.int p4), .val (.ref y1), .val (.ref y2), .val (.ref y3), .unset, .unset, .unset, .unset, .unset, .unset] [.null, (.ref y2), (.ref y1), (.ref b4), (.ref b4)])
  refine own_step (fun t k => XS.aconstNull X4.here hx rfl (hb hby at_45) k) ?_
  show own_Go _ _ _ _ _ _ _ T4 (mkF m 46 #[.val (.int p1), .val (.int p2), .val (.int p3), .val (.int p4), .val (.ref y1), .val (.ref y2), .val (.ref y3), .unset, .unset, .unset, .unset, .unset, .unset] [.null, .null, (.ref y2), (.ref y1), (.ref b4), (.ref b4)])
  refine own_step (fun t k => XS.iloadN X4.here hx rfl (hb hby at_46) rfl k) ?_
  show own_Go _ _ _ _ _ _ _ T4 (mkF m 47 #[.val (.int p1), .val (.int p2), .val (.int p3), .val (.int p4), .val (.ref y1), .val (.ref y2), .val (.ref y3), .unset, .unset, .unset, .unset, .unset, .unset] [(.int p3), .null, .null, (.ref y2), (.ref y1), (.ref b4), (.ref b4)])
  refine own_step (fun t k => XS.sipush X4.here hx rfl (hb hby at_47) k) ?_
  show own_Go _ _ _ _ _ _ _ T4 (mkF m 50 #[.val (.int p1), .val (.int p2), .val (.int p3), .val (.int p4), .val (.ref y1), .val (.ref y2), .val (.ref y3), .unset, .unset, .unset, .unset, .unset, .unset] [(.int (256 : Int32)), (.int p3), .null, .null, (.ref y2), (.ref y1), (.ref b4), (.ref b4)])
  refine own_step (fun t k => XS.iand X4.here hx rfl (hb hby at_50) rfl k) ?_
  have J59 : ∀ z1 : Int32, (z1 = 0 ∨ z1 = 1) → own_Go p e below s room_1.cells room_1.slots (own_Q0 Z p1 p2 p3 p4 cs h0 n0) T4 (mkF m 59 #[.val (.int p1), .val (.int p2), .val (.int p3), .val (.int p4), .val (.ref y1), .val (.ref y2), .val (.ref y3), .unset, .unset, .unset, .unset, .unset, .unset] [(.int z1), .null, .null, (.ref y2), (.ref y1), (.ref b4), (.ref b4)]) := by
    intro z1 hz1
    show own_Go _ _ _ _ _ _ _ T4 (mkF m 59 #[.val (.int p1), .val (.int p2), .val (.int p3), .val (.int p4), .val (.ref y1), .val (.ref y2), .val (.ref y3), .unset, .unset, .unset, .unset, .unset, .unset] [(.int z1), .null, .null, (.ref y2), (.ref y1), (.ref b4), (.ref b4)])
    obtain ⟨_, _, ⟨T5, L5, k5, n5⟩, -, X5, ⟨Lc5, hQ5, l5, y5, z5⟩, st5⟩ := X4.specialBack hx (y := (⟨"com/example/variloom/variloom/model/Variable", "<init>", "(Ljava/lang/String;Ljava/lang/String;Lcom/example/variloom/variloom/model/Type;Lcom/example/variloom/variloom/Location;Z)V"⟩ : MethodName)) rfl hown (mvT hZ (hw _ (List.mem_of_getElem? (i := 29) rfl))) (mvT hZ (hw _ (List.mem_of_getElem? (i := 30) rfl))) (mvT hZ (hw _ (List.mem_of_getElem? (i := 31) rfl))) (by decide) (backOf (W := 1) (own_rm6 l Z a0 hw [] b4 y1 y2 z1 h4 n0 (Nat.le_trans ((Nat.le_trans (Nat.le_trans (Nat.le_trans Z0 K1.1) K2.1) K3.1)) E4.1) F4_annotations F4_projectName F4_name F4_type F4_location F4_constant A4 nb4 hz1) hZ (hw _ (List.mem_of_getElem? (i := 31) rfl)) (hw _ (List.mem_of_getElem? (i := 28) rfl)) (by decide) (by decide)) (g := (mkF m 59 #[.val (.int p1), .val (.int p2), .val (.int p3), .val (.int p4), .val (.ref y1), .val (.ref y2), .val (.ref y3), .unset, .unset, .unset, .unset, .unset, .unset] [(.int z1), .null, .null, (.ref y2), (.ref y1), (.ref b4), (.ref b4)])) rfl (by rw [hml]; rfl) (Steps.refl _) (a := b4) (argsL := [(.ref y1), (.ref y2), .null, .null, (.int z1)]) (rest := [(.ref b4)]) (lenOf own_pd0_1 rfl) rfl (by show 2 * 0 + _ ≤ _; exact Nat.le_of_eq rfl) (hb hby at_59) (fun _ _ => ⟨rfl, e4, (by decide : 7 + 1 ≤ _), (by decide : 21 + 12 ≤ _)⟩)
    dsimp only [Pt.U, Pt.locs, Pt.cells, Pt.slots] at X5 l5 y5 z5 st5 hQ5
    subst l5 y5 z5
    obtain ⟨rfl, Nq5, K5, Ev0⟩ := hQ5
    have N5 := Fr.app N3 Nq5
    refine own_step (fun t k => st5.trans k) ?_
    have EnB := EnA.keep K5
    show own_Go _ _ _ _ _ _ _ T5 (mkF m 62 #[.val (.int p1), .val (.int p2), .val (.int p3), .val (.int p4), .val (.ref y1), .val (.ref y2), .val (.ref y3), .unset, .unset, .unset, .unset, .unset, .unset] [(.ref b4)])
    refine own_step (fun t k => XS.astore X5.here hx rfl (hb hby at_62) rfl rfl (l' := #[.val (.int p1), .val (.int p2), .val (.int p3), .val (.int p4), .val (.ref y1), .val (.ref y2), .val (.ref y3), .val (.ref b4), .unset, .unset, .unset, .unset, .unset]) rfl k) ?_
    show own_Go _ _ _ _ _ _ _ T5 (mkF m 64 #[.val (.int p1), .val (.int p2), .val (.int p3), .val (.int p4), .val (.ref y1), .val (.ref y2), .val (.ref y3), .val (.ref b4), .unset, .unset, .unset, .unset, .unset] [])
    obtain ⟨T6, h6, X6, e6, E6, A6, D6, -, st6⟩ := newO X5 hx hZ hown (hw _ (List.mem_of_getElem? (i := 26) rfl)) (hw _ (List.mem_of_getElem? (i := 27) rfl)) (hw _ (List.mem_of_getElem? (i := 28) rfl)) rfl (g := (mkF m 64 #[.val (.int p1), .val (.int p2), .val (.int p3), .val (.int p4), .val (.ref y1), .val (.ref y2), .val (.ref y3), .val (.ref b4), .unset, .unset, .unset, .unset, .unset] [])) rfl (hb hby at_64) (by decide) (by decide)
    obtain ⟨b6, g6⟩ : ∃ z, z = T5.heap.size := ⟨_, rfl⟩
    rw [← g6] at A6 D6 st6
    have F6_annotations : Fld Z h6 b6 "com/example/variloom/variloom/model/Variable" "annotations" "Ljava/util/Map;" .null := D6 (Or.inr (hw _ (List.mem_of_getElem? (i := 60) rfl))) (ty := (.object "java/util/Map")) (by decide)
    have F6_projectName : Fld Z h6 b6 "com/example/variloom/variloom/model/Variable" "projectName" "Ljava/lang/String;" .null := D6 (Or.inr (hw _ (List.mem_of_getElem? (i := 62) rfl))) (ty := (.object "java/lang/String")) (by decide)
    have F6_name : Fld Z h6 b6 "com/example/variloom/variloom/model/Variable" "name" "Ljava/lang/String;" .null := D6 (Or.inr (hw _ (List.mem_of_getElem? (i := 64) rfl))) (ty := (.object "java/lang/String")) (by decide)
    have F6_type : Fld Z h6 b6 "com/example/variloom/variloom/model/Variable" "type" "Lcom/example/variloom/variloom/model/Type;" .null := D6 (Or.inr (hw _ (List.mem_of_getElem? (i := 66) rfl))) (ty := (.object "com/example/variloom/variloom/model/Type")) (by decide)
    have F6_location : Fld Z h6 b6 "com/example/variloom/variloom/model/Variable" "location" "Lcom/example/variloom/variloom/Location;" .null := D6 (Or.inr (hw _ (List.mem_of_getElem? (i := 68) rfl))) (ty := (.object "com/example/variloom/variloom/Location")) (by decide)
    have F6_constant : Fld Z h6 b6 "com/example/variloom/variloom/model/Variable" "constant" "Z" (.int (0 : Int32)) := D6 (Or.inr (hw _ (List.mem_of_getElem? (i := 70) rfl))) (ty := .boolean) (by decide)
    have nb6 : n0 ≤ b6 := by have := Nat.le_of_eq g6.symm; exact Nat.le_trans ((Nat.le_trans (Nat.le_trans ((Nat.le_trans (Nat.le_trans (Nat.le_trans Z0 K1.1) K2.1) K3.1)) E4.1) K5.1)) this
    refine own_step st6 ?_
    have ne01 : b4 ≠ b6 := Nat.ne_of_lt (by rw [g6]; exact Ev0.lt)
    have EnC := EnB.ext E6
    have EvC := Ev0.ext E6
    show own_Go _ _ _ _ _ _ _ T6 (mkF m 67 #[.val (.int p1), .val (.int p2), .val (.int p3), .val (.int p4), .val (.ref y1), .val (.ref y2), .val (.ref y3), .val (.ref b4), .unset, .unset, .unset, .unset, .unset] [(.ref b6)])
    refine own_step (fun t k => XS.dup X6.here hx rfl (hb hby at_67) rfl rfl k) ?_
    show own_Go _ _ _ _ _ _ _ T6 (mkF m 68 #[.val (.int p1), .val (.int p2), .val (.int p3), .val (.int p4), .val (.ref y1), .val (.ref y2), .val (.ref y3), .val (.ref b4), .unset, .unset, .unset, .unset, .unset] [(.ref b6), (.ref b6)])
    refine own_step (fun t k => XS.aload X6.here hx rfl (hb hby at_68) rfl rfl k) ?_
    show own_Go _ _ _ _ _ _ _ T6 (mkF m 70 #[.val (.int p1), .val (.int p2), .val (.int p3), .val (.int p4), .val (.ref y1), .val (.ref y2), .val (.ref y3), .val (.ref b4), .unset, .unset, .unset, .unset, .unset] [(.ref y1), (.ref b6), (.ref b6)])
    refine own_step (fun t k => XS.iloadN X6.here hx rfl (hb hby at_70) rfl k) ?_
    show own_Go _ _ _ _ _ _ _ T6 (mkF m 71 #[.val (.int p1), .val (.int p2), .val (.int p3), .val (.int p4), .val (.ref y1), .val (.ref y2), .val (.ref y3), .val (.ref b4), .unset, .unset, .unset, .unset, .unset] [(.int p2), (.ref y1), (.ref b6), (.ref b6)])
    refine own_step (fun t k => XS.sipush X6.here hx rfl (hb hby at_71) k) ?_
    show own_Go _ _ _ _ _ _ _ T6 (mkF m 74 #[.val (.int p1), .val (.int p2), .val (.int p3), .val (.int p4), .val (.ref y1), .val (.ref y2), .val (.ref y3), .val (.ref b4), .unset, .unset, .unset, .unset, .unset] [(.int (256 : Int32)), (.int p2), (.ref y1), (.ref b6), (.ref b6)])
    refine own_step (fun t k => XS.iand X6.here hx rfl (hb hby at_74) rfl k) ?_
    have J85 : ∀ y9 : Addr, own_Go p e below s room_1.cells room_1.slots (own_Q0 Z p1 p2 p3 p4 cs h0 n0) T6 (mkF m 85 #[.val (.int p1), .val (.int p2), .val (.int p3), .val (.int p4), .val (.ref y1), .val (.ref y2), .val (.ref y3), .val (.ref b4), .unset, .unset, .unset, .unset, .unset] [(.ref y9), (.ref y1), (.ref b6), (.ref b6)]) := by
      intro y9
      show own_Go _ _ _ _ _ _ _ T6 (mkF m 85 #[.val (.int p1), .val (.int p2), .val (.int p3), .val (.int p4), .val (.ref y1), .val (.ref y2), .val (.ref y3), .val (.ref b4), .unset, .unset, .unset, .unset, .unset] [(.ref y9), (.ref y1), (.ref b6), (.ref b6)])
      refine own_step (fun t k => XS.aconstNull X6.here hx rfl (hb hby at_85) k) ?_
      show own_Go _ _ _ _ _ _ _ T6 (mkF m 86 #[.val (.int p1), .val (.int p2), .val (.int p3), .val (.int p4), .val (.ref y1), .val (.ref y2), .val (.ref y3), .val (.ref b4), .unset, .unset, .unset, .unset, .unset] [.null, (.ref y9), (.ref y1), (.ref b6), (.ref b6)])
      refine own_step (fun t k => XS.aconstNull X6.here hx rfl (hb hby at_86) k) ?_
      show own_Go _ _ _ _ _ _ _ T6 (mkF m 87 #[.val (.int p1), .val (.int p2), .val (.int p3), .val (.int p4), .val (.ref y1), .val (.ref y2), .val (.ref y3), .val (.ref b4), .unset, .unset, .unset, .unset, .unset] [.null, .null, (.ref y9), (.ref y1), (.ref b6), (.ref b6)])
      refine own_step (fun t k => XS.iloadN X6.here hx rfl (hb hby at_87) rfl k) ?_
      show own_Go _ _ _ _ _ _ _ T6 (mkF m 88 #[.val (.int p1), .val (.int p2), .val (.int p3), .val (.int p4), .val (.ref y1), .val (.ref y2), .val (.ref y3), .val (.ref b4), .unset, .unset, .unset, .unset, .unset] [(.int p3), .null, .null, (.ref y9), (.ref y1), (.ref b6), (.ref b6)])
      refine own_step (fun t k => XS.sipush X6.here hx rfl (hb hby at_88) k) ?_
      show own_Go _ _ _ _ _ _ _ T6 (mkF m 91 #[.val (.int p1), .val (.int p2), .val (.int p3), .val (.int p4), .val (.ref y1), .val (.ref y2), .val (.ref y3), .val (.ref b4), .unset, .unset, .unset, .unset, .unset] [(.int (512 : Int32)), (.int p3), .null, .null, (.ref y9), (.ref y1), (.ref b6), (.ref b6)])
      refine own_step (fun t k => XS.iand X6.here hx rfl (hb hby at_91) rfl k) ?_
      have J100 : ∀ z2 : Int32, (z2 = 0 ∨ z2 = 1) → own_Go p e below s room_1.cells room_1.slots (own_Q0 Z p1 p2 p3 p4 cs h0 n0) T6 (mkF m 100 #[.val (.int p1), .val (.int p2), .val (.int p3), .val (.int p4), .val (.ref y1), .val (.ref y2), .val (.ref y3), .val (.ref b4), .unset, .unset, .unset, .unset, .unset] [(.int z2), .null, .null, (.ref y9), (.ref y1), (.ref b6), (.ref b6)]) := by
        intro z2 hz2
        show own_Go _ _ _ _ _ _ _ T6 (mkF m 100 #[.val (.int p1), .val (.int p2), .val (.int p3), .val (.int p4), .val (.ref y1), .val (.ref y2), .val (.ref y3), .val (.ref b4), .unset, .unset, .unset, .unset, .unset] [(.int z2), .null, .null, (.ref y9), (.ref y1), (.ref b6), (.ref b6)])
        obtain ⟨_, _, ⟨T7, L7, k7, n7⟩, -, X7, ⟨Lc7, hQ7, l7, y7, z7⟩, st7⟩ := X6.specialBack hx (y := (⟨"com/example/variloom/variloom/model/Variable", "<init>", "(Ljava/lang/String;Ljava/lang/String;Lcom/example/variloom/variloom/model/Type;Lcom/example/variloom/variloom/Location;Z)V"⟩ : MethodName)) rfl hown (mvT hZ (hw _ (List.mem_of_getElem? (i := 29) rfl))) (mvT hZ (hw _ (List.mem_of_getElem? (i := 30) rfl))) (mvT hZ (hw _ (List.mem_of_getElem? (i := 31) rfl))) (by decide) (backOf (W := 1) (own_rm6 l Z a0 hw [] b6 y1 y9 z2 h6 n0 (Nat.le_trans ((Nat.le_trans (Nat.le_trans ((Nat.le_trans (Nat.le_trans (Nat.le_trans Z0 K1.1) K2.1) K3.1)) E4.1) K5.1)) E6.1) F6_annotations F6_projectName F6_name F6_type F6_location F6_constant A6 nb6 hz2) hZ (hw _ (List.mem_of_getElem? (i := 31) rfl)) (hw _ (List.mem_of_getElem? (i := 28) rfl)) (by decide) (by decide)) (g := (mkF m 100 #[.val (.int p1), .val (.int p2), .val (.int p3), .val (.int p4), .val (.ref y1), .val (.ref y2), .val (.ref y3), .val (.ref b4), .unset, .unset, .unset, .unset, .unset] [(.int z2), .null, .null, (.ref y9), (.ref y1), (.ref b6), (.ref b6)])) rfl (by rw [hml]; rfl) (Steps.refl _) (a := b6) (argsL := [(.ref y1), (.ref y9), .null, .null, (.int z2)]) (rest := [(.ref b6)]) (lenOf own_pd0_1 rfl) rfl (by show 2 * 0 + _ ≤ _; exact Nat.le_of_eq rfl) (hb hby at_100) (fun _ _ => ⟨rfl, e6, (by decide : 9 + 1 ≤ _), (by decide : 39 + 12 ≤ _)⟩)
        dsimp only [Pt.U, Pt.locs, Pt.cells, Pt.slots] at X7 l7 y7 z7 st7 hQ7
        subst l7 y7 z7
        obtain ⟨rfl, Nq7, K7, Ev1⟩ := hQ7
        have N7 := Fr.app N5 Nq7
        refine own_step (fun t k => st7.trans k) ?_
        have EnD := EnC.keep K7
        have EvD := EvC.keep K7
        show own_Go _ _ _ _ _ _ _ T7 (mkF m 103 #[.val (.int p1), .val (.int p2), .val (.int p3), .val (.int p4), .val (.ref y1), .val (.ref y2), .val (.ref y3), .val (.ref b4), .unset, .unset, .unset, .unset, .unset] [(.ref b6)])
        refine own_step (fun t k => XS.astore X7.here hx rfl (hb hby at_103) rfl rfl (l' := #[.val (.int p1), .val (.int p2), .val (.int p3), .val (.int p4), .val (.ref y1), .val (.ref y2), .val (.ref y3), .val (.ref b4), .val (.ref b6), .unset, .unset, .unset, .unset]) rfl k) ?_
        show own_Go _ _ _ _ _ _ _ T7 (mkF m 105 #[.val (.int p1), .val (.int p2), .val (.int p3), .val (.int p4), .val (.ref y1), .val (.ref y2), .val (.ref y3), .val (.ref b4), .val (.ref b6), .unset, .unset, .unset, .unset] [])
        obtain ⟨T8, h8, X8, e8, E8, A8, D8, -, st8⟩ := newO X7 hx hZ hown (hw _ (List.mem_of_getElem? (i := 71) rfl)) (hw _ (List.mem_of_getElem? (i := 72) rfl)) (hw _ (List.mem_of_getElem? (i := 73) rfl)) rfl (g := (mkF m 105 #[.val (.int p1), .val (.int p2), .val (.int p3), .val (.int p4), .val (.ref y1), .val (.ref y2), .val (.ref y3), .val (.ref b4), .val (.ref b6), .unset, .unset, .unset, .unset] [])) rfl (hb hby at_105) (by decide) (by decide)
        obtain ⟨b8, g8⟩ : ∃ z, z = T7.heap.size := ⟨_, rfl⟩
        rw [← g8] at A8 D8 st8
        have F8_variable : Fld Z h8 b8 "com/example/variloom/variloom/model/Reference" "variable" "Lcom/example/variloom/variloom/model/Variable;" .null := D8 (Or.inr (hw _ (List.mem_of_getElem? (i := 83) rfl))) (ty := (.object "com/example/variloom/variloom/model/Variable")) (by decide)
        have nb8 : n0 ≤ b8 := by have := Nat.le_of_eq g8.symm; exact Nat.le_trans ((Nat.le_trans (Nat.le_trans ((Nat.le_trans (Nat.le_trans ((Nat.le_trans (Nat.le_trans (Nat.le_trans Z0 K1.1) K2.1) K3.1)) E4.1) K5.1)) E6.1) K7.1)) this
        refine own_step st8 ?_
        show own_Go _ _ _ _ _ _ _ T8 (mkF m 108 #[.val (.int p1), .val (.int p2), .val (.int p3), .val (.int p4), .val (.ref y1), .val (.ref y2), .val (.ref y3), .val (.ref b4), .val (.ref b6), .unset, .unset, .unset, .unset] [(.ref b8)])
        refine own_step (fun t k => XS.dup X8.here hx rfl (hb hby at_108) rfl rfl k) ?_
        show own_Go _ _ _ _ _ _ _ T8 (mkF m 109 #[.val (.int p1), .val (.int p2), .val (.int p3), .val (.int p4), .val (.ref y1), .val (.ref y2), .val (.ref y3), .val (.ref b4), .val (.ref b6), .unset, .unset, .unset, .unset] [(.ref b8), (.ref b8)])
        refine own_step (fun t k => XS.iloadN X8.here hx rfl (hb hby at_109) rfl k) ?_
        show own_Go _ _ _ _ _ _ _ T8 (mkF m 110 #[.val (.int p1), .val (.int p2), .val (.int p3), .val (.int p4), .val (.ref y1), .val (.ref y2), .val (.ref y3), .val (.ref b4), .val (.ref b6), .unset, .unset, .unset, .unset] [(.int p1), (.ref b8), (.ref b8)])
        refine own_step (fun t k => XS.aload X8.here hx rfl (hb hby at_110) rfl rfl k) ?_
        show own_Go _ _ _ _ _ _ _ T8 (mkF m 112 #[.val (.int p1), .val (.int p2), .val (.int p3), .val (.int p4), .val (.ref y1), .val (.ref y2), .val (.ref y3), .val (.ref b4), .val (.ref b6), .unset, .unset, .unset, .unset] [(.ref b4), (.int p1), (.ref b8), (.ref b8)])
        refine own_step (fun t k => XS.aload X8.here hx rfl (hb hby at_112) rfl rfl k) ?_
        show own_Go _ _ _ _ _ _ _ T8 (mkF m 114 #[.val (.int p1), .val (.int p2), .val (.int p3), .val (.int p4), .val (.ref y1), .val (.ref y2), .val (.ref y3), .val (.ref b4), .val (.ref b6), .unset, .unset, .unset, .unset] [(.ref b6), (.ref b4), (.int p1), (.ref b8), (.ref b8)])
        obtain ⟨_, _, ⟨T9, L9, k9, n9⟩, -, X9, ⟨Lc9, hQ9, l9, y9, z9⟩, st9⟩ := Jvm.LawKit.callS X8 hx (y := (⟨"com/example/variloom/variloom/model/ReferenceEqualsPinLaw", "pick", "(ILcom/example/variloom/variloom/model/Variable;Lcom/example/variloom/variloom/model/Variable;)Lcom/example/variloom/variloom/model/Variable;"⟩ : MethodName)) hown (mvT hZ (hw _ (List.mem_of_getElem? (i := 74) rfl))) (mvT hZ (hw _ (List.mem_of_getElem? (i := 75) rfl))) (mvT hZ (hw _ (List.mem_of_getElem? (i := 76) rfl))) (mvT hZ (hw _ (List.mem_of_getElem? (i := 77) rfl))) (by decide) (backOf (W := 2) (own_rm10 l Z a0 hw [] p1 b4 b6 h8 n0 (Nat.le_trans ((Nat.le_trans (Nat.le_trans ((Nat.le_trans (Nat.le_trans ((Nat.le_trans (Nat.le_trans (Nat.le_trans Z0 K1.1) K2.1) K3.1)) E4.1) K5.1)) E6.1) K7.1)) E8.1)) hZ (hw _ (List.mem_of_getElem? (i := 77) rfl)) (hw _ (List.mem_of_getElem? (i := 76) rfl)) (by decide) (by decide)) (g := (mkF m 114 #[.val (.int p1), .val (.int p2), .val (.int p3), .val (.int p4), .val (.ref y1), .val (.ref y2), .val (.ref y3), .val (.ref b4), .val (.ref b6), .unset, .unset, .unset, .unset] [(.ref b6), (.ref b4), (.int p1), (.ref b8), (.ref b8)])) rfl (by rw [hml]; rfl) (argsL := [(.int p1), (.ref b4), (.ref b6)]) (rest := [(.ref b8), (.ref b8)]) (lenOf own_pd0_2 rfl) rfl (by show 2 * 0 + _ ≤ _; exact Nat.le_of_eq rfl) (hb hby at_114) (fun _ _ => ⟨rfl, e8, (by decide : 11 + 0 ≤ _), (by decide : 52 + 0 ≤ _)⟩)
        dsimp only [Pt.U, Pt.locs, Pt.cells, Pt.slots] at X9 l9 y9 z9 st9 hQ9
        subst l9 y9 z9
        obtain ⟨rfl, Nq9, e9⟩ := hQ9
        have N9 := Fr.app N7 Nq9
        refine own_step (fun t k => st9 t k) ?_
        show own_Go _ _ _ _ _ _ _ T9 (mkF m 117 #[.val (.int p1), .val (.int p2), .val (.int p3), .val (.int p4), .val (.ref y1), .val (.ref y2), .val (.ref y3), .val (.ref b4), .val (.ref b6), .unset, .unset, .unset, .unset] [(own_pick p1 b4 b6), (.ref b8), (.ref b8)])
        obtain ⟨_, _, ⟨T10, L10, k10, n10⟩, -, X10, ⟨Lc10, hQ10, l10, y10, z10⟩, st10⟩ := X9.specialBack hx (y := (⟨"com/example/variloom/variloom/model/Reference", "<init>", "(Lcom/example/variloom/variloom/model/Variable;)V"⟩ : MethodName)) rfl hown (mvT hZ (hw _ (List.mem_of_getElem? (i := 78) rfl))) (mvT hZ (hw _ (List.mem_of_getElem? (i := 79) rfl))) (mvT hZ (hw _ (List.mem_of_getElem? (i := 80) rfl))) (by decide) (backOf (W := 1) (own_rm11 l Z a0 hw [] b8 (own_pick p1 b4 b6) h8 n0 (Nat.le_trans ((Nat.le_trans (Nat.le_trans ((Nat.le_trans (Nat.le_trans ((Nat.le_trans (Nat.le_trans (Nat.le_trans Z0 K1.1) K2.1) K3.1)) E4.1) K5.1)) E6.1) K7.1)) E8.1) (own_pickR _ _ _) F8_variable A8 nb8) hZ (hw _ (List.mem_of_getElem? (i := 80) rfl)) (hw _ (List.mem_of_getElem? (i := 73) rfl)) (by decide) (by decide)) (g := (mkF m 117 #[.val (.int p1), .val (.int p2), .val (.int p3), .val (.int p4), .val (.ref y1), .val (.ref y2), .val (.ref y3), .val (.ref b4), .val (.ref b6), .unset, .unset, .unset, .unset] [(own_pick p1 b4 b6), (.ref b8), (.ref b8)])) rfl (by rw [hml]; rfl) (Steps.refl _) (a := b8) (argsL := [(own_pick p1 b4 b6)]) (rest := [(.ref b8)]) (lenOf own_pd0_3 rfl) rfl (by show 2 * 0 + _ ≤ _; exact Nat.le_of_eq rfl) (hb hby at_117) (fun _ _ => ⟨rfl, e9, (by decide : 11 + 0 ≤ _), (by decide : 52 + 0 ≤ _)⟩)
        dsimp only [Pt.U, Pt.locs, Pt.cells, Pt.slots] at X10 l10 y10 z10 st10 hQ10
        subst l10 y10 z10
        obtain ⟨rfl, Nq10, K10, r1E, r1F⟩ := hQ10
        have N10 := Fr.app N9 Nq10
        refine own_step (fun t k => st10.trans k) ?_
        have EnE := (EnD.ext E8).keep K10
        have EvE := (EvD.ext E8).keep K10
        show own_Go _ _ _ _ _ _ _ T10 (mkF m 120 #[.val (.int p1), .val (.int p2), .val (.int p3), .val (.int p4), .val (.ref y1), .val (.ref y2), .val (.ref y3), .val (.ref b4), .val (.ref b6), .unset, .unset, .unset, .unset] [(.ref b8)])
        refine own_step (fun t k => XS.astore X10.here hx rfl (hb hby at_120) rfl rfl (l' := #[.val (.int p1), .val (.int p2), .val (.int p3), .val (.int p4), .val (.ref y1), .val (.ref y2), .val (.ref y3), .val (.ref b4), .val (.ref b6), .val (.ref b8), .unset, .unset, .unset]) rfl k) ?_
        show own_Go _ _ _ _ _ _ _ T10 (mkF m 122 #[.val (.int p1), .val (.int p2), .val (.int p3), .val (.int p4), .val (.ref y1), .val (.ref y2), .val (.ref y3), .val (.ref b4), .val (.ref b6), .val (.ref b8), .unset, .unset, .unset] [])
        refine own_step (fun t k => XS.iloadN X10.here hx rfl (hb hby at_122) rfl k) ?_
        show own_Go _ _ _ _ _ _ _ T10 (mkF m 123 #[.val (.int p1), .val (.int p2), .val (.int p3), .val (.int p4), .val (.ref y1), .val (.ref y2), .val (.ref y3), .val (.ref b4), .val (.ref b6), .val (.ref b8), .unset, .unset, .unset] [(.int p2)])
        refine own_step (fun t k => XS.bipush X10.here hx rfl (hb hby at_123) k) ?_
        show own_Go _ _ _ _ _ _ _ T10 (mkF m 125 #[.val (.int p1), .val (.int p2), .val (.int p3), .val (.int p4), .val (.ref y1), .val (.ref y2), .val (.ref y3), .val (.ref b4), .val (.ref b6), .val (.ref b8), .unset, .unset, .unset] [(.int (7 : Int32)), (.int p2)])
        refine own_step (fun t k => XS.iand X10.here hx rfl (hb hby at_125) rfl k) ?_
        show own_Go _ _ _ _ _ _ _ T10 (mkF m 126 #[.val (.int p1), .val (.int p2), .val (.int p3), .val (.int p4), .val (.ref y1), .val (.ref y2), .val (.ref y3), .val (.ref b4), .val (.ref b6), .val (.ref b8), .unset, .unset, .unset] [(.int (p2 &&& (7 : Int32)))])
        refine own_step (fun t k => XS.istore X10.here hx rfl (hb hby at_126) rfl (l' := #[.val (.int p1), .val (.int p2), .val (.int p3), .val (.int p4), .val (.ref y1), .val (.ref y2), .val (.ref y3), .val (.ref b4), .val (.ref b6), .val (.ref b8), .val (.int (p2 &&& (7 : Int32))), .unset, .unset]) rfl k) ?_
        show own_Go _ _ _ _ _ _ _ T10 (mkF m 128 #[.val (.int p1), .val (.int p2), .val (.int p3), .val (.int p4), .val (.ref y1), .val (.ref y2), .val (.ref y3), .val (.ref b4), .val (.ref b6), .val (.ref b8), .val (.int (p2 &&& (7 : Int32))), .unset, .unset] [])
        refine own_step (fun t k => XS.iload X10.here hx rfl (hb hby at_128) rfl k) ?_
        show own_Go _ _ _ _ _ _ _ T10 (mkF m 130 #[.val (.int p1), .val (.int p2), .val (.int p3), .val (.int p4), .val (.ref y1), .val (.ref y2), .val (.ref y3), .val (.ref b4), .val (.ref b6), .val (.ref b8), .val (.int (p2 &&& (7 : Int32))), .unset, .unset] [(.int (p2 &&& (7 : Int32)))])
        refine own_step (fun t k => XS.iconst X10.here hx rfl (hb hby at_130) k) ?_
        rcases Classical.em ((p2 &&& (7 : Int32)) < (4 : Int32)) with c131_11 | c131_11
        · show own_Go _ _ _ _ _ _ _ T10 (mkF m 131 #[.val (.int p1), .val (.int p2), .val (.int p3), .val (.int p4), .val (.ref y1), .val (.ref y2), .val (.ref y3), .val (.ref b4), .val (.ref b6), .val (.ref b8), .val (.int (p2 &&& (7 : Int32))), .unset, .unset] [(.int (4 : Int32)), (.int (p2 &&& (7 : Int32)))])
          refine own_step (fun t k => XS.icmpNo X10.here hx rfl (hb hby at_131) rfl (tlt (c131_11)).2.1 k) ?_
          show own_Go _ _ _ _ _ _ _ T10 (mkF m 134 #[.val (.int p1), .val (.int p2), .val (.int p3), .val (.int p4), .val (.ref y1), .val (.ref y2), .val (.ref y3), .val (.ref b4), .val (.ref b6), .val (.ref b8), .val (.int (p2 &&& (7 : Int32))), .unset, .unset] [])
          obtain ⟨T12, h12, X12, e12, E12, A12, D12, -, st12⟩ := newO X10 hx hZ hown (hw _ (List.mem_of_getElem? (i := 71) rfl)) (hw _ (List.mem_of_getElem? (i := 72) rfl)) (hw _ (List.mem_of_getElem? (i := 73) rfl)) rfl (g := (mkF m 134 #[.val (.int p1), .val (.int p2), .val (.int p3), .val (.int p4), .val (.ref y1), .val (.ref y2), .val (.ref y3), .val (.ref b4), .val (.ref b6), .val (.ref b8), .val (.int (p2 &&& (7 : Int32))), .unset, .unset] [])) rfl (hb hby at_134) (by decide) (by decide)
          obtain ⟨b12, g12⟩ : ∃ z, z = T10.heap.size := ⟨_, rfl⟩
          rw [← g12] at A12 D12 st12
          have F12_variable : Fld Z h12 b12 "com/example/variloom/variloom/model/Reference" "variable" "Lcom/example/variloom/variloom/model/Variable;" .null := D12 (Or.inr (hw _ (List.mem_of_getElem? (i := 83) rfl))) (ty := (.object "com/example/variloom/variloom/model/Variable")) (by decide)
          have nb12 : n0 ≤ b12 := by have := Nat.le_of_eq g12.symm; exact Nat.le_trans ((Nat.le_trans (Nat.le_trans ((Nat.le_trans (Nat.le_trans ((Nat.le_trans (Nat.le_trans ((Nat.le_trans (Nat.le_trans (Nat.le_trans Z0 K1.1) K2.1) K3.1)) E4.1) K5.1)) E6.1) K7.1)) E8.1) K10.1)) this
          refine own_step st12 ?_
          show own_Go _ _ _ _ _ _ _ T12 (mkF m 137 #[.val (.int p1), .val (.int p2), .val (.int p3), .val (.int p4), .val (.ref y1), .val (.ref y2), .val (.ref y3), .val (.ref b4), .val (.ref b6), .val (.ref b8), .val (.int (p2 &&& (7 : Int32))), .unset, .unset] [(.ref b12)])
          refine own_step (fun t k => XS.dup X12.here hx rfl (hb hby at_137) rfl rfl k) ?_
          show own_Go _ _ _ _ _ _ _ T12 (mkF m 138 #[.val (.int p1), .val (.int p2), .val (.int p3), .val (.int p4), .val (.ref y1), .val (.ref y2), .val (.ref y3), .val (.ref b4), .val (.ref b6), .val (.ref b8), .val (.int (p2 &&& (7 : Int32))), .unset, .unset] [(.ref b12), (.ref b12)])
          refine own_step (fun t k => XS.iloadN X12.here hx rfl (hb hby at_138) rfl k) ?_
          show own_Go _ _ _ _ _ _ _ T12 (mkF m 139 #[.val (.int p1), .val (.int p2), .val (.int p3), .val (.int p4), .val (.ref y1), .val (.ref y2), .val (.ref y3), .val (.ref b4), .val (.ref b6), .val (.ref b8), .val (.int (p2 &&& (7 : Int32))), .unset, .unset] [(.int p2), (.ref b12), (.ref b12)])
          refine own_step (fun t k => XS.iconst X12.here hx rfl (hb hby at_139) k) ?_
          show own_Go _ _ _ _ _ _ _ T12 (mkF m 140 #[.val (.int p1), .val (.int p2), .val (.int p3), .val (.int p4), .val (.ref y1), .val (.ref y2), .val (.ref y3), .val (.ref b4), .val (.ref b6), .val (.ref b8), .val (.int (p2 &&& (7 : Int32))), .unset, .unset] [(.int (3 : Int32)), (.int p2), (.ref b12), (.ref b12)])
          refine own_step (fun t k => XS.iushr X12.here hx rfl (hb hby at_140) rfl k) ?_
          show own_Go _ _ _ _ _ _ _ T12 (mkF m 141 #[.val (.int p1), .val (.int p2), .val (.int p3), .val (.int p4), .val (.ref y1), .val (.ref y2), .val (.ref y3), .val (.ref b4), .val (.ref b6), .val (.ref b8), .val (.int (p2 &&& (7 : Int32))), .unset, .unset] [(.int ((p2.toUInt32 >>> ((3 : Int32) &&& 31).toUInt32).toInt32)), (.ref b12), (.ref b12)])
          refine own_step (fun t k => XS.aload X12.here hx rfl (hb hby at_141) rfl rfl k) ?_
          show own_Go _ _ _ _ _ _ _ T12 (mkF m 143 #[.val (.int p1), .val (.int p2), .val (.int p3), .val (.int p4), .val (.ref y1), .val (.ref y2), .val (.ref y3), .val (.ref b4), .val (.ref b6), .val (.ref b8), .val (.int (p2 &&& (7 : Int32))), .unset, .unset] [(.ref b4), (.int ((p2.toUInt32 >>> ((3 : Int32) &&& 31).toUInt32).toInt32)), (.ref b12), (.ref b12)])
          refine own_step (fun t k => XS.aload X12.here hx rfl (hb hby at_143) rfl rfl k) ?_
          show own_Go _ _ _ _ _ _ _ T12 (mkF m 145 #[.val (.int p1), .val (.int p2), .val (.int p3), .val (.int p4), .val (.ref y1), .val (.ref y2), .val (.ref y3), .val (.ref b4), .val (.ref b6), .val (.ref b8), .val (.int (p2 &&& (7 : Int32))), .unset, .unset] [(.ref b6), (.ref b4), (.int ((p2.toUInt32 >>> ((3 : Int32) &&& 31).toUInt32).toInt32)), (.ref b12), (.ref b12)])
          obtain ⟨_, _, ⟨T13, L13, k13, n13⟩, -, X13, ⟨Lc13, hQ13, l13, y13, z13⟩, st13⟩ := Jvm.LawKit.callS X12 hx (y := (⟨"com/example/variloom/variloom/model/ReferenceEqualsPinLaw", "pick", "(ILcom/example/variloom/variloom/model/Variable;Lcom/example/variloom/variloom/model/Variable;)Lcom/example/variloom/variloom/model/Variable;"⟩ : MethodName)) hown (mvT hZ (hw _ (List.mem_of_getElem? (i := 74) rfl))) (mvT hZ (hw _ (List.mem_of_getElem? (i := 75) rfl))) (mvT hZ (hw _ (List.mem_of_getElem? (i := 76) rfl))) (mvT hZ (hw _ (List.mem_of_getElem? (i := 77) rfl))) (by decide) (backOf (W := 2) (own_rm10 l Z a0 hw [] ((p2.toUInt32 >>> ((3 : Int32) &&& 31).toUInt32).toInt32) b4 b6 h12 n0 (Nat.le_trans ((Nat.le_trans (Nat.le_trans ((Nat.le_trans (Nat.le_trans ((Nat.le_trans (Nat.le_trans ((Nat.le_trans (Nat.le_trans (Nat.le_trans Z0 K1.1) K2.1) K3.1)) E4.1) K5.1)) E6.1) K7.1)) E8.1) K10.1)) E12.1)) hZ (hw _ (List.mem_of_getElem? (i := 77) rfl)) (hw _ (List.mem_of_getElem? (i := 76) rfl)) (by decide) (by decide)) (g := (mkF m 145 #[.val (.int p1), .val (.int p2), .val (.int p3), .val (.int p4), .val (.ref y1), .val (.ref y2), .val (.ref y3), .val (.ref b4), .val (.ref b6), .val (.ref b8), .val (.int (p2 &&& (7 : Int32))), .unset, .unset] [(.ref b6), (.ref b4), (.int ((p2.toUInt32 >>> ((3 : Int32) &&& 31).toUInt32).toInt32)), (.ref b12), (.ref b12)])) rfl (by rw [hml]; rfl) (argsL := [(.int ((p2.toUInt32 >>> ((3 : Int32) &&& 31).toUInt32).toInt32)), (.ref b4), (.ref b6)]) (rest := [(.ref b12), (.ref b12)]) (lenOf own_pd0_2 rfl) rfl (by show 2 * 0 + _ ≤ _; exact Nat.le_of_eq rfl) (hb hby at_145) (fun _ _ => ⟨rfl, e12, (by decide : 12 + 0 ≤ _), (by decide : 53 + 0 ≤ _)⟩)
          dsimp only [Pt.U, Pt.locs, Pt.cells, Pt.slots] at X13 l13 y13 z13 st13 hQ13
          subst l13 y13 z13
          obtain ⟨rfl, Nq13, e13⟩ := hQ13
          have N13 := Fr.app N10 Nq13
          refine own_step (fun t k => st13 t k) ?_
          show own_Go _ _ _ _ _ _ _ T13 (mkF m 148 #[.val (.int p1), .val (.int p2), .val (.int p3), .val (.int p4), .val (.ref y1), .val (.ref y2), .val (.ref y3), .val (.ref b4), .val (.ref b6), .val (.ref b8), .val (.int (p2 &&& (7 : Int32))), .unset, .unset] [(own_pick ((p2.toUInt32 >>> ((3 : Int32) &&& 31).toUInt32).toInt32) b4 b6), (.ref b12), (.ref b12)])
          obtain ⟨_, _, ⟨T14, L14, k14, n14⟩, -, X14, ⟨Lc14, hQ14, l14, y14, z14⟩, st14⟩ := X13.specialBack hx (y := (⟨"com/example/variloom/variloom/model/Reference", "<init>", "(Lcom/example/variloom/variloom/model/Variable;)V"⟩ : MethodName)) rfl hown (mvT hZ (hw _ (List.mem_of_getElem? (i := 78) rfl))) (mvT hZ (hw _ (List.mem_of_getElem? (i := 79) rfl))) (mvT hZ (hw _ (List.mem_of_getElem? (i := 80) rfl))) (by decide) (backOf (W := 1) (own_rm11 l Z a0 hw [] b12 (own_pick ((p2.toUInt32 >>> ((3 : Int32) &&& 31).toUInt32).toInt32) b4 b6) h12 n0 (Nat.le_trans ((Nat.le_trans (Nat.le_trans ((Nat.le_trans (Nat.le_trans ((Nat.le_trans (Nat.le_trans ((Nat.le_trans (Nat.le_trans (Nat.le_trans Z0 K1.1) K2.1) K3.1)) E4.1) K5.1)) E6.1) K7.1)) E8.1) K10.1)) E12.1) (own_pickR _ _ _) F12_variable A12 nb12) hZ (hw _ (List.mem_of_getElem? (i := 80) rfl)) (hw _ (List.mem_of_getElem? (i := 73) rfl)) (by decide) (by decide)) (g := (mkF m 148 #[.val (.int p1), .val (.int p2), .val (.int p3), .val (.int p4), .val (.ref y1), .val (.ref y2), .val (.ref y3), .val (.ref b4), .val (.ref b6), .val (.ref b8), .val (.int (p2 &&& (7 : Int32))), .unset, .unset] [(own_pick ((p2.toUInt32 >>> ((3 : Int32) &&& 31).toUInt32).toInt32) b4 b6), (.ref b12), (.ref b12)])) rfl (by rw [hml]; rfl) (Steps.refl _) (a := b12) (argsL := [(own_pick ((p2.toUInt32 >>> ((3 : Int32) &&& 31).toUInt32).toInt32) b4 b6)]) (rest := [(.ref b12)]) (lenOf own_pd0_3 rfl) rfl (by show 2 * 0 + _ ≤ _; exact Nat.le_of_eq rfl) (hb hby at_148) (fun _ _ => ⟨rfl, e13, (by decide : 12 + 0 ≤ _), (by decide : 53 + 0 ≤ _)⟩)
          dsimp only [Pt.U, Pt.locs, Pt.cells, Pt.slots] at X14 l14 y14 z14 st14 hQ14
          subst l14 y14 z14
          obtain ⟨rfl, Nq14, K14, r2E, r2F⟩ := hQ14
          have N14 := Fr.app N13 Nq14
          refine own_step (fun t k => st14.trans k) ?_
          have ne12 : b8 ≠ b12 := Nat.ne_of_lt (by rw [g12]; exact r1E.lt)
          have q1F := (r1F.ext E12).keep K14 (ninS ne12 nin0)
          have q1E := (r1E.ext E12).keep K14
          show own_Go _ _ _ _ _ _ _ T14 (mkF m 151 #[.val (.int p1), .val (.int p2), .val (.int p3), .val (.int p4), .val (.ref y1), .val (.ref y2), .val (.ref y3), .val (.ref b4), .val (.ref b6), .val (.ref b8), .val (.int (p2 &&& (7 : Int32))), .unset, .unset] [(.ref b12)])
          refine own_step (fun t k => XS.astore X14.here hx rfl (hb hby at_151) rfl rfl (l' := #[.val (.int p1), .val (.int p2), .val (.int p3), .val (.int p4), .val (.ref y1), .val (.ref y2), .val (.ref y3), .val (.ref b4), .val (.ref b6), .val (.ref b8), .val (.int (p2 &&& (7 : Int32))), .val (.ref b12), .unset]) rfl k) ?_
          show own_Go _ _ _ _ _ _ _ T14 (mkF m 153 #[.val (.int p1), .val (.int p2), .val (.int p3), .val (.int p4), .val (.ref y1), .val (.ref y2), .val (.ref y3), .val (.ref b4), .val (.ref b6), .val (.ref b8), .val (.int (p2 &&& (7 : Int32))), .val (.ref b12), .unset] [])
          refine own_step (fun t k => XS.iloadN X14.here hx rfl (hb hby at_153) rfl k) ?_
          show own_Go _ _ _ _ _ _ _ T14 (mkF m 154 #[.val (.int p1), .val (.int p2), .val (.int p3), .val (.int p4), .val (.ref y1), .val (.ref y2), .val (.ref y3), .val (.ref b4), .val (.ref b6), .val (.ref b8), .val (.int (p2 &&& (7 : Int32))), .val (.ref b12), .unset] [(.int p1)])
          obtain ⟨_, _, ⟨T15, L15, k15, n15⟩, -, X15, ⟨Lc15, hQ15, l15, y15, z15⟩, st15⟩ := Jvm.LawKit.callS X14 hx (y := (⟨"com/example/variloom/variloom/model/ReferenceEqualsPinLaw", "kind", "(I)I"⟩ : MethodName)) hown (mvT hZ (hw _ (List.mem_of_getElem? (i := 84) rfl))) (mvT hZ (hw _ (List.mem_of_getElem? (i := 85) rfl))) (mvT hZ (hw _ (List.mem_of_getElem? (i := 76) rfl))) (mvT hZ (hw _ (List.mem_of_getElem? (i := 86) rfl))) (by decide) (backOf (W := 0) (own_rm12 l Z a0 hw [] p1 T14.heap n0 (Nat.le_trans (Nat.le_trans ((Nat.le_trans (Nat.le_trans ((Nat.le_trans (Nat.le_trans ((Nat.le_trans (Nat.le_trans ((Nat.le_trans (Nat.le_trans (Nat.le_trans Z0 K1.1) K2.1) K3.1)) E4.1) K5.1)) E6.1) K7.1)) E8.1) K10.1)) E12.1) K14.1)) hZ (hw _ (List.mem_of_getElem? (i := 86) rfl)) (hw _ (List.mem_of_getElem? (i := 76) rfl)) (by decide) (by decide)) (g := (mkF m 154 #[.val (.int p1), .val (.int p2), .val (.int p3), .val (.int p4), .val (.ref y1), .val (.ref y2), .val (.ref y3), .val (.ref b4), .val (.ref b6), .val (.ref b8), .val (.int (p2 &&& (7 : Int32))), .val (.ref b12), .unset] [(.int p1)])) rfl (by rw [hml]; rfl) (argsL := [(.int p1)]) (rest := []) (lenOf own_pd0_4 rfl) rfl (by show 2 * 0 + _ ≤ _; exact Nat.le_of_eq rfl) (hb hby at_154) (fun _ _ => ⟨rfl, rfl, (by decide : 12 + 0 ≤ _), (by decide : 53 + 0 ≤ _)⟩)
          dsimp only [Pt.U, Pt.locs, Pt.cells, Pt.slots] at X15 l15 y15 z15 st15 hQ15
          subst l15 y15 z15
          obtain ⟨rfl, Nq15, e15⟩ := hQ15
          have N15 := Fr.app N14 Nq15
          refine own_step (fun t k => st15 t k) ?_
          show own_Go _ _ _ _ _ _ _ T15 (mkF m 157 #[.val (.int p1), .val (.int p2), .val (.int p3), .val (.int p4), .val (.ref y1), .val (.ref y2), .val (.ref y3), .val (.ref b4), .val (.ref b6), .val (.ref b8), .val (.int (p2 &&& (7 : Int32))), .val (.ref b12), .unset] [(.int (own_kind p1))])
          refine own_step (fun t k => XS.iloadN X15.here hx rfl (hb hby at_157) rfl k) ?_
          show own_Go _ _ _ _ _ _ _ T15 (mkF m 158 #[.val (.int p1), .val (.int p2), .val (.int p3), .val (.int p4), .val (.ref y1), .val (.ref y2), .val (.ref y3), .val (.ref b4), .val (.ref b6), .val (.ref b8), .val (.int (p2 &&& (7 : Int32))), .val (.ref b12), .unset] [(.int p2), (.int (own_kind p1))])
          refine own_step (fun t k => XS.iconst X15.here hx rfl (hb hby at_158) k) ?_
          show own_Go _ _ _ _ _ _ _ T15 (mkF m 159 #[.val (.int p1), .val (.int p2), .val (.int p3), .val (.int p4), .val (.ref y1), .val (.ref y2), .val (.ref y3), .val (.ref b4), .val (.ref b6), .val (.ref b8), .val (.int (p2 &&& (7 : Int32))), .val (.ref b12), .unset] [(.int (3 : Int32)), (.int p2), (.int (own_kind p1))])
          refine own_step (fun t k => XS.iushr X15.here hx rfl (hb hby at_159) rfl k) ?_
          show own_Go _ _ _ _ _ _ _ T15 (mkF m 160 #[.val (.int p1), .val (.int p2), .val (.int p3), .val (.int p4), .val (.ref y1), .val (.ref y2), .val (.ref y3), .val (.ref b4), .val (.ref b6), .val (.ref b8), .val (.int (p2 &&& (7 : Int32))), .val (.ref b12), .unset] [(.int ((p2.toUInt32 >>> ((3 : Int32) &&& 31).toUInt32).toInt32)), (.int (own_kind p1))])
          obtain ⟨_, _, ⟨T16, L16, k16, n16⟩, -, X16, ⟨Lc16, hQ16, l16, y16, z16⟩, st16⟩ := Jvm.LawKit.callS X15 hx (y := (⟨"com/example/variloom/variloom/model/ReferenceEqualsPinLaw", "kind", "(I)I"⟩ : MethodName)) hown (mvT hZ (hw _ (List.mem_of_getElem? (i := 84) rfl))) (mvT hZ (hw _ (List.mem_of_getElem? (i := 85) rfl))) (mvT hZ (hw _ (List.mem_of_getElem? (i := 76) rfl))) (mvT hZ (hw _ (List.mem_of_getElem? (i := 86) rfl))) (by decide) (backOf (W := 1) (own_rm12 l Z a0 hw [] ((p2.toUInt32 >>> ((3 : Int32) &&& 31).toUInt32).toInt32) T14.heap n0 (Nat.le_trans (Nat.le_trans ((Nat.le_trans (Nat.le_trans ((Nat.le_trans (Nat.le_trans ((Nat.le_trans (Nat.le_trans ((Nat.le_trans (Nat.le_trans (Nat.le_trans Z0 K1.1) K2.1) K3.1)) E4.1) K5.1)) E6.1) K7.1)) E8.1) K10.1)) E12.1) K14.1)) hZ (hw _ (List.mem_of_getElem? (i := 86) rfl)) (hw _ (List.mem_of_getElem? (i := 76) rfl)) (by decide) (by decide)) (g := (mkF m 160 #[.val (.int p1), .val (.int p2), .val (.int p3), .val (.int p4), .val (.ref y1), .val (.ref y2), .val (.ref y3), .val (.ref b4), .val (.ref b6), .val (.ref b8), .val (.int (p2 &&& (7 : Int32))), .val (.ref b12), .unset] [(.int ((p2.toUInt32 >>> ((3 : Int32) &&& 31).toUInt32).toInt32)), (.int (own_kind p1))])) rfl (by rw [hml]; rfl) (argsL := [(.int ((p2.toUInt32 >>> ((3 : Int32) &&& 31).toUInt32).toInt32))]) (rest := [(.int (own_kind p1))]) (lenOf own_pd0_4 rfl) rfl (by show 2 * 0 + _ ≤ _; exact Nat.le_of_eq rfl) (hb hby at_160) (fun _ _ => ⟨rfl, e15, (by decide : 12 + 0 ≤ _), (by decide : 53 + 0 ≤ _)⟩)
          dsimp only [Pt.U, Pt.locs, Pt.cells, Pt.slots] at X16 l16 y16 z16 st16 hQ16
          subst l16 y16 z16
          obtain ⟨rfl, Nq16, e16⟩ := hQ16
          have N16 := Fr.app N15 Nq16
          refine own_step (fun t k => st16 t k) ?_
          have J171 : ∀ x12 : Int32, x12 = own_same (own_pick p1 b4 b6) (own_pick ((p2.toUInt32 >>> ((3 : Int32) &&& 31).toUInt32).toInt32) b4 b6) → own_Go p e below s room_1.cells room_1.slots (own_Q0 Z p1 p2 p3 p4 cs h0 n0) T16 (mkF m 171 #[.val (.int p1), .val (.int p2), .val (.int p3), .val (.int p4), .val (.ref y1), .val (.ref y2), .val (.ref y3), .val (.ref b4), .val (.ref b6), .val (.ref b8), .val (.int (p2 &&& (7 : Int32))), .val (.ref b12), .unset] [(.int x12)]) := by
            intro x12 hx12
            show own_Go _ _ _ _ _ _ _ T16 (mkF m 171 #[.val (.int p1), .val (.int p2), .val (.int p3), .val (.int p4), .val (.ref y1), .val (.ref y2), .val (.ref y3), .val (.ref b4), .val (.ref b6), .val (.ref b8), .val (.int (p2 &&& (7 : Int32))), .val (.ref b12), .unset] [(.int x12)])
            refine own_step (fun t k => XS.istore X16.here hx rfl (hb hby at_171) rfl (l' := #[.val (.int p1), .val (.int p2), .val (.int p3), .val (.int p4), .val (.ref y1), .val (.ref y2), .val (.ref y3), .val (.ref b4), .val (.ref b6), .val (.ref b8), .val (.int (p2 &&& (7 : Int32))), .val (.ref b12), .val (.int x12)]) rfl k) ?_
            show own_Go _ _ _ _ _ _ _ T16 (mkF m 173 #[.val (.int p1), .val (.int p2), .val (.int p3), .val (.int p4), .val (.ref y1), .val (.ref y2), .val (.ref y3), .val (.ref b4), .val (.ref b6), .val (.ref b8), .val (.int (p2 &&& (7 : Int32))), .val (.ref b12), .val (.int x12)] [])
            refine own_step (fun t k => XS.goto X16.here hx rfl (pc0 := 173) (pc' := 231) rfl (hb hby at_173) (by decide) (by decide) k) ?_
            show own_Go _ _ _ _ _ _ _ T16 (mkF m 231 #[.val (.int p1), .val (.int p2), .val (.int p3), .val (.int p4), .val (.ref y1), .val (.ref y2), .val (.ref y3), .val (.ref b4), .val (.ref b6), .val (.ref b8), .val (.int (p2 &&& (7 : Int32))), .val (.ref b12), .val (.int x12)] [])
            refine own_step (fun t k => XS.aload X16.here hx rfl (hb hby at_231) rfl rfl k) ?_
            show own_Go _ _ _ _ _ _ _ T16 (mkF m 233 #[.val (.int p1), .val (.int p2), .val (.int p3), .val (.int p4), .val (.ref y1), .val (.ref y2), .val (.ref y3), .val (.ref b4), .val (.ref b6), .val (.ref b8), .val (.int (p2 &&& (7 : Int32))), .val (.ref b12), .val (.int x12)] [(.ref b8)])
            refine own_step (fun t k => XS.aload X16.here hx rfl (hb hby at_233) rfl rfl k) ?_
            show own_Go _ _ _ _ _ _ _ T16 (mkF m 235 #[.val (.int p1), .val (.int p2), .val (.int p3), .val (.int p4), .val (.ref y1), .val (.ref y2), .val (.ref y3), .val (.ref b4), .val (.ref b6), .val (.ref b8), .val (.int (p2 &&& (7 : Int32))), .val (.ref b12), .val (.int x12)] [(.ref b12), (.ref b8)])
            obtain ⟨cq17, kq17, q17a, q17b, q17c⟩ := isOf hZ e16 q1E
            obtain ⟨_, _, ⟨T17, L17, k17, n17⟩, -, X17, ⟨Lc17, hQ17, l17, y17, z17⟩, st17⟩ := X16.virtualBack hx (y := (⟨"com/example/variloom/variloom/model/Reference", "equals", "(Ljava/lang/Object;)Z"⟩ : MethodName)) (z := (⟨"com/example/variloom/variloom/model/Reference", "equals", "(Ljava/lang/Object;)Z"⟩ : MethodName)) hown (mvT hZ (hw _ (List.mem_of_getElem? (i := 87) rfl))) (mvT hZ (hw _ (List.mem_of_getElem? (i := 88) rfl))) (notFace_of_selects (args := #[]) (mvT hZ (hw _ (List.mem_of_getElem? (i := 90) rfl)))) (mvT hZ (hw _ (List.mem_of_getElem? (i := 90) rfl))) (mvT hZ (hw _ (List.mem_of_getElem? (i := 89) rfl))) (by decide) (backOf (W := 0) (own_rmeR l Z a0 hw [] b8 b12 (own_pick p1 b4 b6) (own_pick ((p2.toUInt32 >>> ((3 : Int32) &&& 31).toUInt32).toInt32) b4 b6) T14.heap n0 (Nat.le_trans (Nat.le_trans ((Nat.le_trans (Nat.le_trans ((Nat.le_trans (Nat.le_trans ((Nat.le_trans (Nat.le_trans ((Nat.le_trans (Nat.le_trans (Nat.le_trans Z0 K1.1) K2.1) K3.1)) E4.1) K5.1)) E6.1) K7.1)) E8.1) K10.1)) E12.1) K14.1) q1F r2F r2E (own_pickR _ _ _) (own_pickR _ _ _)) hZ (hw _ (List.mem_of_getElem? (i := 91) rfl)) (hw _ (List.mem_of_getElem? (i := 73) rfl)) (by decide) (by decide)) q17a q17c (g := (mkF m 235 #[.val (.int p1), .val (.int p2), .val (.int p3), .val (.int p4), .val (.ref y1), .val (.ref y2), .val (.ref y3), .val (.ref b4), .val (.ref b6), .val (.ref b8), .val (.int (p2 &&& (7 : Int32))), .val (.ref b12), .val (.int x12)] [(.ref b12), (.ref b8)])) rfl (by rw [hml]; rfl) (Steps.refl _) (argsL := [(.ref b12)]) (rest := []) (lenOf own_pd0_5 rfl) rfl (by show 2 * 0 + _ ≤ _; exact Nat.le_of_eq rfl) (hb hby at_235) (fun _ _ => ⟨rfl, e16, (by decide : 12 + 0 ≤ _), (by decide : 53 + 0 ≤ _)⟩)
            dsimp only [Pt.U, Pt.locs, Pt.cells, Pt.slots] at X17 l17 y17 z17 st17 hQ17
            subst l17 y17 z17
            obtain ⟨rfl, Nq17, e17⟩ := hQ17
            have N17 := Fr.app N16 Nq17
            refine own_step (fun t k => st17.trans k) ?_
            show own_Go _ _ _ _ _ _ _ T17 (mkF m 238 #[.val (.int p1), .val (.int p2), .val (.int p3), .val (.int p4), .val (.ref y1), .val (.ref y2), .val (.ref y3), .val (.ref b4), .val (.ref b6), .val (.ref b8), .val (.int (p2 &&& (7 : Int32))), .val (.ref b12), .val (.int x12)] [(.int (own_same (own_pick p1 b4 b6) (own_pick ((p2.toUInt32 >>> ((3 : Int32) &&& 31).toUInt32).toInt32) b4 b6)))])
            refine own_step (fun t k => XS.iload X17.here hx rfl (hb hby at_238) rfl k) ?_
            show own_Go _ _ _ _ _ _ _ T17 (mkF m 240 #[.val (.int p1), .val (.int p2), .val (.int p3), .val (.int p4), .val (.ref y1), .val (.ref y2), .val (.ref y3), .val (.ref b4), .val (.ref b6), .val (.ref b8), .val (.int (p2 &&& (7 : Int32))), .val (.ref b12), .val (.int x12)] [(.int x12), (.int (own_same (own_pick p1 b4 b6) (own_pick ((p2.toUInt32 >>> ((3 : Int32) &&& 31).toUInt32).toInt32) b4 b6)))])
            refine own_step (fun t k => XS.icmpNo X17.here hx rfl (hb hby at_240) rfl (teq (hx12.symm)).2 k) ?_
            show own_Go _ _ _ _ _ _ _ T17 (mkF m 243 #[.val (.int p1), .val (.int p2), .val (.int p3), .val (.int p4), .val (.ref y1), .val (.ref y2), .val (.ref y3), .val (.ref b4), .val (.ref b6), .val (.ref b8), .val (.int (p2 &&& (7 : Int32))), .val (.ref b12), .val (.int x12)] [])
            refine own_step (fun t k => XS.iconst X17.here hx rfl (hb hby at_243) k) ?_
            show own_Go _ _ _ _ _ _ _ T17 (mkF m 244 #[.val (.int p1), .val (.int p2), .val (.int p3), .val (.int p4), .val (.ref y1), .val (.ref y2), .val (.ref y3), .val (.ref b4), .val (.ref b6), .val (.ref b8), .val (.int (p2 &&& (7 : Int32))), .val (.ref b12), .val (.int x12)] [(.int (1 : Int32))])
            refine own_step (fun t k => XS.goto X17.here hx rfl (pc0 := 244) (pc' := 248) rfl (hb hby at_244) (by decide) (by decide) k) ?_
            show own_Go _ _ _ _ _ _ _ T17 (mkF m 248 #[.val (.int p1), .val (.int p2), .val (.int p3), .val (.int p4), .val (.ref y1), .val (.ref y2), .val (.ref y3), .val (.ref b4), .val (.ref b6), .val (.ref b8), .val (.int (p2 &&& (7 : Int32))), .val (.ref b12), .val (.int x12)] [(.int (1 : Int32))])
            refine own_ret X17 hx hlk Bd.returns rfl (Or.inl ⟨rfl, Or.inr (Or.inl rfl), _, rfl⟩) (hb hby at_248) (by decide) (by decide) ?_
            show own_Q0 Z p1 p2 p3 p4 cs h0 n0 (some (.int (1 : Int32))) T17.heap _
            exact ⟨rfl, N17⟩
          rcases Classical.em ((own_kind p1) = (own_kind ((p2.toUInt32 >>> ((3 : Int32) &&& 31).toUInt32).toInt32))) with c163_18 | c163_18
          · show own_Go _ _ _ _ _ _ _ T16 (mkF m 163 #[.val (.int p1), .val (.int p2), .val (.int p3), .val (.int p4), .val (.ref y1), .val (.ref y2), .val (.ref y3), .val (.ref b4), .val (.ref b6), .val (.ref b8), .val (.int (p2 &&& (7 : Int32))), .val (.ref b12), .unset] [(.int (own_kind ((p2.toUInt32 >>> ((3 : Int32) &&& 31).toUInt32).toInt32))), (.int (own_kind p1))])
            refine own_step (fun t k => XS.icmpNo X16.here hx rfl (hb hby at_163) rfl (teq (c163_18)).2 k) ?_
            show own_Go _ _ _ _ _ _ _ T16 (mkF m 166 #[.val (.int p1), .val (.int p2), .val (.int p3), .val (.int p4), .val (.ref y1), .val (.ref y2), .val (.ref y3), .val (.ref b4), .val (.ref b6), .val (.ref b8), .val (.int (p2 &&& (7 : Int32))), .val (.ref b12), .unset] [])
            refine own_step (fun t k => XS.iconst X16.here hx rfl (hb hby at_166) k) ?_
            show own_Go _ _ _ _ _ _ _ T16 (mkF m 167 #[.val (.int p1), .val (.int p2), .val (.int p3), .val (.int p4), .val (.ref y1), .val (.ref y2), .val (.ref y3), .val (.ref b4), .val (.ref b6), .val (.ref b8), .val (.int (p2 &&& (7 : Int32))), .val (.ref b12), .unset] [(.int (1 : Int32))])
            refine own_step (fun t k => XS.goto X16.here hx rfl (pc0 := 167) (pc' := 171) rfl (hb hby at_167) (by decide) (by decide) k) ?_
            show own_Go _ _ _ _ _ _ _ T16 (mkF m 171 #[.val (.int p1), .val (.int p2), .val (.int p3), .val (.int p4), .val (.ref y1), .val (.ref y2), .val (.ref y3), .val (.ref b4), .val (.ref b6), .val (.ref b8), .val (.int (p2 &&& (7 : Int32))), .val (.ref b12), .unset] [(.int (1 : Int32))])
            exact J171 _ (if_pos ((own_pk p1 _ _ _ ne01).mpr c163_18)).symm
          · show own_Go _ _ _ _ _ _ _ T16 (mkF m 163 #[.val (.int p1), .val (.int p2), .val (.int p3), .val (.int p4), .val (.ref y1), .val (.ref y2), .val (.ref y3), .val (.ref b4), .val (.ref b6), .val (.ref b8), .val (.int (p2 &&& (7 : Int32))), .val (.ref b12), .unset] [(.int (own_kind ((p2.toUInt32 >>> ((3 : Int32) &&& 31).toUInt32).toInt32))), (.int (own_kind p1))])
            refine own_step (fun t k => XS.icmpYes X16.here hx rfl (pc0 := 163) (pc' := 170) rfl (hb hby at_163) rfl (feq (c163_18)).2 (by decide) (by decide) k) ?_
            show own_Go _ _ _ _ _ _ _ T16 (mkF m 170 #[.val (.int p1), .val (.int p2), .val (.int p3), .val (.int p4), .val (.ref y1), .val (.ref y2), .val (.ref y3), .val (.ref b4), .val (.ref b6), .val (.ref b8), .val (.int (p2 &&& (7 : Int32))), .val (.ref b12), .unset] [])
            refine own_step (fun t k => XS.iconst X16.here hx rfl (hb hby at_170) k) ?_
            show own_Go _ _ _ _ _ _ _ T16 (mkF m 171 #[.val (.int p1), .val (.int p2), .val (.int p3), .val (.int p4), .val (.ref y1), .val (.ref y2), .val (.ref y3), .val (.ref b4), .val (.ref b6), .val (.ref b8), .val (.int (p2 &&& (7 : Int32))), .val (.ref b12), .unset] [(.int (0 : Int32))])
            exact J171 _ (if_neg (fun q => c163_18 ((own_pk p1 _ _ _ ne01).mp q))).symm
        · show own_Go _ _ _ _ _ _ _ T10 (mkF m 131 #[.val (.int p1), .val (.int p2), .val (.int p3), .val (.int p4), .val (.ref y1), .val (.ref y2), .val (.ref y3), .val (.ref b4), .val (.ref b6), .val (.ref b8), .val (.int (p2 &&& (7 : Int32))), .unset, .unset] [(.int (4 : Int32)), (.int (p2 &&& (7 : Int32)))])
          refine own_step (fun t k => XS.icmpYes X10.here hx rfl (pc0 := 131) (pc' := 176) rfl (hb hby at_131) rfl (flt (c131_11)).2.1 (by decide) (by decide) k) ?_
          show own_Go _ _ _ _ _ _ _ T10 (mkF m 176 #[.val (.int p1), .val (.int p2), .val (.int p3), .val (.int p4), .val (.ref y1), .val (.ref y2), .val (.ref y3), .val (.ref b4), .val (.ref b6), .val (.ref b8), .val (.int (p2 &&& (7 : Int32))), .unset, .unset] [])
          refine own_step (fun t k => XS.iload X10.here hx rfl (hb hby at_176) rfl k) ?_
          show own_Go _ _ _ _ _ _ _ T10 (mkF m 178 #[.val (.int p1), .val (.int p2), .val (.int p3), .val (.int p4), .val (.ref y1), .val (.ref y2), .val (.ref y3), .val (.ref b4), .val (.ref b6), .val (.ref b8), .val (.int (p2 &&& (7 : Int32))), .unset, .unset] [(.int (p2 &&& (7 : Int32)))])
          refine own_step (fun t k => XS.iconst X10.here hx rfl (hb hby at_178) k) ?_
          rcases Classical.em ((p2 &&& (7 : Int32)) = (4 : Int32)) with c179_19 | c179_19
          · show own_Go _ _ _ _ _ _ _ T10 (mkF m 179 #[.val (.int p1), .val (.int p2), .val (.int p3), .val (.int p4), .val (.ref y1), .val (.ref y2), .val (.ref y3), .val (.ref b4), .val (.ref b6), .val (.ref b8), .val (.int (p2 &&& (7 : Int32))), .unset, .unset] [(.int (4 : Int32)), (.int (p2 &&& (7 : Int32)))])
            refine own_step (fun t k => XS.icmpNo X10.here hx rfl (hb hby at_179) rfl (teq (c179_19)).2 k) ?_
            show own_Go _ _ _ _ _ _ _ T10 (mkF m 182 #[.val (.int p1), .val (.int p2), .val (.int p3), .val (.int p4), .val (.ref y1), .val (.ref y2), .val (.ref y3), .val (.ref b4), .val (.ref b6), .val (.ref b8), .val (.int (p2 &&& (7 : Int32))), .unset, .unset] [])
            refine own_step (fun t k => XS.aconstNull X10.here hx rfl (hb hby at_182) k) ?_
            show own_Go _ _ _ _ _ _ _ T10 (mkF m 183 #[.val (.int p1), .val (.int p2), .val (.int p3), .val (.int p4), .val (.ref y1), .val (.ref y2), .val (.ref y3), .val (.ref b4), .val (.ref b6), .val (.ref b8), .val (.int (p2 &&& (7 : Int32))), .unset, .unset] [.null])
            refine own_step (fun t k => XS.astore X10.here hx rfl (hb hby at_183) rfl rfl (l' := #[.val (.int p1), .val (.int p2), .val (.int p3), .val (.int p4), .val (.ref y1), .val (.ref y2), .val (.ref y3), .val (.ref b4), .val (.ref b6), .val (.ref b8), .val (.int (p2 &&& (7 : Int32))), .val .null, .unset]) rfl k) ?_
            show own_Go _ _ _ _ _ _ _ T10 (mkF m 185 #[.val (.int p1), .val (.int p2), .val (.int p3), .val (.int p4), .val (.ref y1), .val (.ref y2), .val (.ref y3), .val (.ref b4), .val (.ref b6), .val (.ref b8), .val (.int (p2 &&& (7 : Int32))), .val .null, .unset] [])
            refine own_step (fun t k => XS.iconst X10.here hx rfl (hb hby at_185) k) ?_
            show own_Go _ _ _ _ _ _ _ T10 (mkF m 186 #[.val (.int p1), .val (.int p2), .val (.int p3), .val (.int p4), .val (.ref y1), .val (.ref y2), .val (.ref y3), .val (.ref b4), .val (.ref b6), .val (.ref b8), .val (.int (p2 &&& (7 : Int32))), .val .null, .unset] [(.int (0 : Int32))])
            refine own_step (fun t k => XS.istore X10.here hx rfl (hb hby at_186) rfl (l' := #[.val (.int p1), .val (.int p2), .val (.int p3), .val (.int p4), .val (.ref y1), .val (.ref y2), .val (.ref y3), .val (.ref b4), .val (.ref b6), .val (.ref b8), .val (.int (p2 &&& (7 : Int32))), .val .null, .val (.int (0 : Int32))]) rfl k) ?_
            show own_Go _ _ _ _ _ _ _ T10 (mkF m 188 #[.val (.int p1), .val (.int p2), .val (.int p3), .val (.int p4), .val (.ref y1), .val (.ref y2), .val (.ref y3), .val (.ref b4), .val (.ref b6), .val (.ref b8), .val (.int (p2 &&& (7 : Int32))), .val .null, .val (.int (0 : Int32))] [])
            refine own_step (fun t k => XS.goto X10.here hx rfl (pc0 := 188) (pc' := 231) rfl (hb hby at_188) (by decide) (by decide) k) ?_
            show own_Go _ _ _ _ _ _ _ T10 (mkF m 231 #[.val (.int p1), .val (.int p2), .val (.int p3), .val (.int p4), .val (.ref y1), .val (.ref y2), .val (.ref y3), .val (.ref b4), .val (.ref b6), .val (.ref b8), .val (.int (p2 &&& (7 : Int32))), .val .null, .val (.int (0 : Int32))] [])
            refine own_step (fun t k => XS.aload X10.here hx rfl (hb hby at_231) rfl rfl k) ?_
            show own_Go _ _ _ _ _ _ _ T10 (mkF m 233 #[.val (.int p1), .val (.int p2), .val (.int p3), .val (.int p4), .val (.ref y1), .val (.ref y2), .val (.ref y3), .val (.ref b4), .val (.ref b6), .val (.ref b8), .val (.int (p2 &&& (7 : Int32))), .val .null, .val (.int (0 : Int32))] [(.ref b8)])
            refine own_step (fun t k => XS.aload X10.here hx rfl (hb hby at_233) rfl rfl k) ?_
            show own_Go _ _ _ _ _ _ _ T10 (mkF m 235 #[.val (.int p1), .val (.int p2), .val (.int p3), .val (.int p4), .val (.ref y1), .val (.ref y2), .val (.ref y3), .val (.ref b4), .val (.ref b6), .val (.ref b8), .val (.int (p2 &&& (7 : Int32))), .val .null, .val (.int (0 : Int32))] [.null, (.ref b8)])
            obtain ⟨cq20, kq20, q20a, q20b, q20c⟩ := isOf hZ rfl r1E
            obtain ⟨_, _, ⟨T20, L20, k20, n20⟩, -, X20, ⟨Lc20, hQ20, l20, y20, z20⟩, st20⟩ := X10.virtualBack hx (y := (⟨"com/example/variloom/variloom/model/Reference", "equals", "(Ljava/lang/Object;)Z"⟩ : MethodName)) (z := (⟨"com/example/variloom/variloom/model/Reference", "equals", "(Ljava/lang/Object;)Z"⟩ : MethodName)) hown (mvT hZ (hw _ (List.mem_of_getElem? (i := 87) rfl))) (mvT hZ (hw _ (List.mem_of_getElem? (i := 88) rfl))) (notFace_of_selects (args := #[]) (mvT hZ (hw _ (List.mem_of_getElem? (i := 90) rfl)))) (mvT hZ (hw _ (List.mem_of_getElem? (i := 90) rfl))) (mvT hZ (hw _ (List.mem_of_getElem? (i := 89) rfl))) (by decide) (backOf (W := 0) (own_rmeN l Z a0 hw [] b8 T10.heap n0 (Nat.le_trans (Nat.le_trans ((Nat.le_trans (Nat.le_trans ((Nat.le_trans (Nat.le_trans ((Nat.le_trans (Nat.le_trans (Nat.le_trans Z0 K1.1) K2.1) K3.1)) E4.1) K5.1)) E6.1) K7.1)) E8.1) K10.1)) hZ (hw _ (List.mem_of_getElem? (i := 91) rfl)) (hw _ (List.mem_of_getElem? (i := 73) rfl)) (by decide) (by decide)) q20a q20c (g := (mkF m 235 #[.val (.int p1), .val (.int p2), .val (.int p3), .val (.int p4), .val (.ref y1), .val (.ref y2), .val (.ref y3), .val (.ref b4), .val (.ref b6), .val (.ref b8), .val (.int (p2 &&& (7 : Int32))), .val .null, .val (.int (0 : Int32))] [.null, (.ref b8)])) rfl (by rw [hml]; rfl) (Steps.refl _) (argsL := [.null]) (rest := []) (lenOf own_pd0_5 rfl) rfl (by show 2 * 0 + _ ≤ _; exact Nat.le_of_eq rfl) (hb hby at_235) (fun _ _ => ⟨rfl, rfl, (by decide : 11 + 0 ≤ _), (by decide : 52 + 0 ≤ _)⟩)
            dsimp only [Pt.U, Pt.locs, Pt.cells, Pt.slots] at X20 l20 y20 z20 st20 hQ20
            subst l20 y20 z20
            obtain ⟨rfl, Nq20, e20⟩ := hQ20
            have N20 := Fr.app N10 Nq20
            refine own_step (fun t k => st20.trans k) ?_
            show own_Go _ _ _ _ _ _ _ T20 (mkF m 238 #[.val (.int p1), .val (.int p2), .val (.int p3), .val (.int p4), .val (.ref y1), .val (.ref y2), .val (.ref y3), .val (.ref b4), .val (.ref b6), .val (.ref b8), .val (.int (p2 &&& (7 : Int32))), .val .null, .val (.int (0 : Int32))] [(.int (0 : Int32))])
            refine own_step (fun t k => XS.iload X20.here hx rfl (hb hby at_238) rfl k) ?_
            show own_Go _ _ _ _ _ _ _ T20 (mkF m 240 #[.val (.int p1), .val (.int p2), .val (.int p3), .val (.int p4), .val (.ref y1), .val (.ref y2), .val (.ref y3), .val (.ref b4), .val (.ref b6), .val (.ref b8), .val (.int (p2 &&& (7 : Int32))), .val .null, .val (.int (0 : Int32))] [(.int (0 : Int32)), (.int (0 : Int32))])
            refine own_step (fun t k => XS.icmpNo X20.here hx rfl (hb hby at_240) rfl (teq (rfl)).2 k) ?_
            show own_Go _ _ _ _ _ _ _ T20 (mkF m 243 #[.val (.int p1), .val (.int p2), .val (.int p3), .val (.int p4), .val (.ref y1), .val (.ref y2), .val (.ref y3), .val (.ref b4), .val (.ref b6), .val (.ref b8), .val (.int (p2 &&& (7 : Int32))), .val .null, .val (.int (0 : Int32))] [])
            refine own_step (fun t k => XS.iconst X20.here hx rfl (hb hby at_243) k) ?_
            show own_Go _ _ _ _ _ _ _ T20 (mkF m 244 #[.val (.int p1), .val (.int p2), .val (.int p3), .val (.int p4), .val (.ref y1), .val (.ref y2), .val (.ref y3), .val (.ref b4), .val (.ref b6), .val (.ref b8), .val (.int (p2 &&& (7 : Int32))), .val .null, .val (.int (0 : Int32))] [(.int (1 : Int32))])
            refine own_step (fun t k => XS.goto X20.here hx rfl (pc0 := 244) (pc' := 248) rfl (hb hby at_244) (by decide) (by decide) k) ?_
            show own_Go _ _ _ _ _ _ _ T20 (mkF m 248 #[.val (.int p1), .val (.int p2), .val (.int p3), .val (.int p4), .val (.ref y1), .val (.ref y2), .val (.ref y3), .val (.ref b4), .val (.ref b6), .val (.ref b8), .val (.int (p2 &&& (7 : Int32))), .val .null, .val (.int (0 : Int32))] [(.int (1 : Int32))])
            refine own_ret X20 hx hlk Bd.returns rfl (Or.inl ⟨rfl, Or.inr (Or.inl rfl), _, rfl⟩) (hb hby at_248) (by decide) (by decide) ?_
            show own_Q0 Z p1 p2 p3 p4 cs h0 n0 (some (.int (1 : Int32))) T20.heap _
            exact ⟨rfl, N20⟩
          · show own_Go _ _ _ _ _ _ _ T10 (mkF m 179 #[.val (.int p1), .val (.int p2), .val (.int p3), .val (.int p4), .val (.ref y1), .val (.ref y2), .val (.ref y3), .val (.ref b4), .val (.ref b6), .val (.ref b8), .val (.int (p2 &&& (7 : Int32))), .unset, .unset] [(.int (4 : Int32)), (.int (p2 &&& (7 : Int32)))])
            refine own_step (fun t k => XS.icmpYes X10.here hx rfl (pc0 := 179) (pc' := 191) rfl (hb hby at_179) rfl (feq (c179_19)).2 (by decide) (by decide) k) ?_
            show own_Go _ _ _ _ _ _ _ T10 (mkF m 191 #[.val (.int p1), .val (.int p2), .val (.int p3), .val (.int p4), .val (.ref y1), .val (.ref y2), .val (.ref y3), .val (.ref b4), .val (.ref b6), .val (.ref b8), .val (.int (p2 &&& (7 : Int32))), .unset, .unset] [])
            refine own_step (fun t k => XS.iload X10.here hx rfl (hb hby at_191) rfl k) ?_
            show own_Go _ _ _ _ _ _ _ T10 (mkF m 193 #[.val (.int p1), .val (.int p2), .val (.int p3), .val (.int p4), .val (.ref y1), .val (.ref y2), .val (.ref y3), .val (.ref b4), .val (.ref b6), .val (.ref b8), .val (.int (p2 &&& (7 : Int32))), .unset, .unset] [(.int (p2 &&& (7 : Int32)))])
            refine own_step (fun t k => XS.iconst X10.here hx rfl (hb hby at_193) k) ?_
            rcases Classical.em ((p2 &&& (7 : Int32)) = (5 : Int32)) with c194_21 | c194_21
            · show own_Go _ _ _ _ _ _ _ T10 (mkF m 194 #[.val (.int p1), .val (.int p2), .val (.int p3), .val (.int p4), .val (.ref y1), .val (.ref y2), .val (.ref y3), .val (.ref b4), .val (.ref b6), .val (.ref b8), .val (.int (p2 &&& (7 : Int32))), .unset, .unset] [(.int (5 : Int32)), (.int (p2 &&& (7 : Int32)))])
              refine own_step (fun t k => XS.icmpNo X10.here hx rfl (hb hby at_194) rfl (teq (c194_21)).2 k) ?_
              show own_Go _ _ _ _ _ _ _ T10 (mkF m 197 #[.val (.int p1), .val (.int p2), .val (.int p3), .val (.int p4), .val (.ref y1), .val (.ref y2), .val (.ref y3), .val (.ref b4), .val (.ref b6), .val (.ref b8), .val (.int (p2 &&& (7 : Int32))), .unset, .unset] [])
              refine own_step (fun t k => XS.aload X10.here hx rfl (hb hby at_197) rfl rfl k) ?_
              show own_Go _ _ _ _ _ _ _ T10 (mkF m 199 #[.val (.int p1), .val (.int p2), .val (.int p3), .val (.int p4), .val (.ref y1), .val (.ref y2), .val (.ref y3), .val (.ref b4), .val (.ref b6), .val (.ref b8), .val (.int (p2 &&& (7 : Int32))), .unset, .unset] [(.ref b4)])
              refine own_step (fun t k => XS.astore X10.here hx rfl (hb hby at_199) rfl rfl (l' := #[.val (.int p1), .val (.int p2), .val (.int p3), .val (.int p4), .val (.ref y1), .val (.ref y2), .val (.ref y3), .val (.ref b4), .val (.ref b6), .val (.ref b8), .val (.int (p2 &&& (7 : Int32))), .val (.ref b4), .unset]) rfl k) ?_
              show own_Go _ _ _ _ _ _ _ T10 (mkF m 201 #[.val (.int p1), .val (.int p2), .val (.int p3), .val (.int p4), .val (.ref y1), .val (.ref y2), .val (.ref y3), .val (.ref b4), .val (.ref b6), .val (.ref b8), .val (.int (p2 &&& (7 : Int32))), .val (.ref b4), .unset] [])
              refine own_step (fun t k => XS.iconst X10.here hx rfl (hb hby at_201) k) ?_
              show own_Go _ _ _ _ _ _ _ T10 (mkF m 202 #[.val (.int p1), .val (.int p2), .val (.int p3), .val (.int p4), .val (.ref y1), .val (.ref y2), .val (.ref y3), .val (.ref b4), .val (.ref b6), .val (.ref b8), .val (.int (p2 &&& (7 : Int32))), .val (.ref b4), .unset] [(.int (0 : Int32))])
              refine own_step (fun t k => XS.istore X10.here hx rfl (hb hby at_202) rfl (l' := #[.val (.int p1), .val (.int p2), .val (.int p3), .val (.int p4), .val (.ref y1), .val (.ref y2), .val (.ref y3), .val (.ref b4), .val (.ref b6), .val (.ref b8), .val (.int (p2 &&& (7 : Int32))), .val (.ref b4), .val (.int (0 : Int32))]) rfl k) ?_
              show own_Go _ _ _ _ _ _ _ T10 (mkF m 204 #[.val (.int p1), .val (.int p2), .val (.int p3), .val (.int p4), .val (.ref y1), .val (.ref y2), .val (.ref y3), .val (.ref b4), .val (.ref b6), .val (.ref b8), .val (.int (p2 &&& (7 : Int32))), .val (.ref b4), .val (.int (0 : Int32))] [])
              refine own_step (fun t k => XS.goto X10.here hx rfl (pc0 := 204) (pc' := 231) rfl (hb hby at_204) (by decide) (by decide) k) ?_
              show own_Go _ _ _ _ _ _ _ T10 (mkF m 231 #[.val (.int p1), .val (.int p2), .val (.int p3), .val (.int p4), .val (.ref y1), .val (.ref y2), .val (.ref y3), .val (.ref b4), .val (.ref b6), .val (.ref b8), .val (.int (p2 &&& (7 : Int32))), .val (.ref b4), .val (.int (0 : Int32))] [])
              refine own_step (fun t k => XS.aload X10.here hx rfl (hb hby at_231) rfl rfl k) ?_
              show own_Go _ _ _ _ _ _ _ T10 (mkF m 233 #[.val (.int p1), .val (.int p2), .val (.int p3), .val (.int p4), .val (.ref y1), .val (.ref y2), .val (.ref y3), .val (.ref b4), .val (.ref b6), .val (.ref b8), .val (.int (p2 &&& (7 : Int32))), .val (.ref b4), .val (.int (0 : Int32))] [(.ref b8)])
              refine own_step (fun t k => XS.aload X10.here hx rfl (hb hby at_233) rfl rfl k) ?_
              show own_Go _ _ _ _ _ _ _ T10 (mkF m 235 #[.val (.int p1), .val (.int p2), .val (.int p3), .val (.int p4), .val (.ref y1), .val (.ref y2), .val (.ref y3), .val (.ref b4), .val (.ref b6), .val (.ref b8), .val (.int (p2 &&& (7 : Int32))), .val (.ref b4), .val (.int (0 : Int32))] [(.ref b4), (.ref b8)])
              obtain ⟨cq22, kq22, q22a, q22b, q22c⟩ := isOf hZ rfl r1E
              obtain ⟨_, _, ⟨T22, L22, k22, n22⟩, -, X22, ⟨Lc22, hQ22, l22, y22, z22⟩, st22⟩ := X10.virtualBack hx (y := (⟨"com/example/variloom/variloom/model/Reference", "equals", "(Ljava/lang/Object;)Z"⟩ : MethodName)) (z := (⟨"com/example/variloom/variloom/model/Reference", "equals", "(Ljava/lang/Object;)Z"⟩ : MethodName)) hown (mvT hZ (hw _ (List.mem_of_getElem? (i := 87) rfl))) (mvT hZ (hw _ (List.mem_of_getElem? (i := 88) rfl))) (notFace_of_selects (args := #[]) (mvT hZ (hw _ (List.mem_of_getElem? (i := 90) rfl)))) (mvT hZ (hw _ (List.mem_of_getElem? (i := 90) rfl))) (mvT hZ (hw _ (List.mem_of_getElem? (i := 89) rfl))) (by decide) (backOf (W := 0) (own_rmeV l Z a0 hw [] b8 b4 T10.heap n0 (Nat.le_trans (Nat.le_trans ((Nat.le_trans (Nat.le_trans ((Nat.le_trans (Nat.le_trans ((Nat.le_trans (Nat.le_trans (Nat.le_trans Z0 K1.1) K2.1) K3.1)) E4.1) K5.1)) E6.1) K7.1)) E8.1) K10.1) EvE) hZ (hw _ (List.mem_of_getElem? (i := 91) rfl)) (hw _ (List.mem_of_getElem? (i := 73) rfl)) (by decide) (by decide)) q22a q22c (g := (mkF m 235 #[.val (.int p1), .val (.int p2), .val (.int p3), .val (.int p4), .val (.ref y1), .val (.ref y2), .val (.ref y3), .val (.ref b4), .val (.ref b6), .val (.ref b8), .val (.int (p2 &&& (7 : Int32))), .val (.ref b4), .val (.int (0 : Int32))] [(.ref b4), (.ref b8)])) rfl (by rw [hml]; rfl) (Steps.refl _) (argsL := [(.ref b4)]) (rest := []) (lenOf own_pd0_5 rfl) rfl (by show 2 * 0 + _ ≤ _; exact Nat.le_of_eq rfl) (hb hby at_235) (fun _ _ => ⟨rfl, rfl, (by decide : 11 + 0 ≤ _), (by decide : 52 + 0 ≤ _)⟩)
              dsimp only [Pt.U, Pt.locs, Pt.cells, Pt.slots] at X22 l22 y22 z22 st22 hQ22
              subst l22 y22 z22
              obtain ⟨rfl, Nq22, e22⟩ := hQ22
              have N22 := Fr.app N10 Nq22
              refine own_step (fun t k => st22.trans k) ?_
              show own_Go _ _ _ _ _ _ _ T22 (mkF m 238 #[.val (.int p1), .val (.int p2), .val (.int p3), .val (.int p4), .val (.ref y1), .val (.ref y2), .val (.ref y3), .val (.ref b4), .val (.ref b6), .val (.ref b8), .val (.int (p2 &&& (7 : Int32))), .val (.ref b4), .val (.int (0 : Int32))] [(.int (0 : Int32))])
              refine own_step (fun t k => XS.iload X22.here hx rfl (hb hby at_238) rfl k) ?_
              show own_Go _ _ _ _ _ _ _ T22 (mkF m 240 #[.val (.int p1), .val (.int p2), .val (.int p3), .val (.int p4), .val (.ref y1), .val (.ref y2), .val (.ref y3), .val (.ref b4), .val (.ref b6), .val (.ref b8), .val (.int (p2 &&& (7 : Int32))), .val (.ref b4), .val (.int (0 : Int32))] [(.int (0 : Int32)), (.int (0 : Int32))])
              refine own_step (fun t k => XS.icmpNo X22.here hx rfl (hb hby at_240) rfl (teq (rfl)).2 k) ?_
              show own_Go _ _ _ _ _ _ _ T22 (mkF m 243 #[.val (.int p1), .val (.int p2), .val (.int p3), .val (.int p4), .val (.ref y1), .val (.ref y2), .val (.ref y3), .val (.ref b4), .val (.ref b6), .val (.ref b8), .val (.int (p2 &&& (7 : Int32))), .val (.ref b4), .val (.int (0 : Int32))] [])
              refine own_step (fun t k => XS.iconst X22.here hx rfl (hb hby at_243) k) ?_
              show own_Go _ _ _ _ _ _ _ T22 (mkF m 244 #[.val (.int p1), .val (.int p2), .val (.int p3), .val (.int p4), .val (.ref y1), .val (.ref y2), .val (.ref y3), .val (.ref b4), .val (.ref b6), .val (.ref b8), .val (.int (p2 &&& (7 : Int32))), .val (.ref b4), .val (.int (0 : Int32))] [(.int (1 : Int32))])
              refine own_step (fun t k => XS.goto X22.here hx rfl (pc0 := 244) (pc' := 248) rfl (hb hby at_244) (by decide) (by decide) k) ?_
              show own_Go _ _ _ _ _ _ _ T22 (mkF m 248 #[.val (.int p1), .val (.int p2), .val (.int p3), .val (.int p4), .val (.ref y1), .val (.ref y2), .val (.ref y3), .val (.ref b4), .val (.ref b6), .val (.ref b8), .val (.int (p2 &&& (7 : Int32))), .val (.ref b4), .val (.int (0 : Int32))] [(.int (1 : Int32))])
              refine own_ret X22 hx hlk Bd.returns rfl (Or.inl ⟨rfl, Or.inr (Or.inl rfl), _, rfl⟩) (hb hby at_248) (by decide) (by decide) ?_
              show own_Q0 Z p1 p2 p3 p4 cs h0 n0 (some (.int (1 : Int32))) T22.heap _
              exact ⟨rfl, N22⟩
            · show own_Go _ _ _ _ _ _ _ T10 (mkF m 194 #[.val (.int p1), .val (.int p2), .val (.int p3), .val (.int p4), .val (.ref y1), .val (.ref y2), .val (.ref y3), .val (.ref b4), .val (.ref b6), .val (.ref b8), .val (.int (p2 &&& (7 : Int32))), .unset, .unset] [(.int (5 : Int32)), (.int (p2 &&& (7 : Int32)))])
              refine own_step (fun t k => XS.icmpYes X10.here hx rfl (pc0 := 194) (pc' := 207) rfl (hb hby at_194) rfl (feq (c194_21)).2 (by decide) (by decide) k) ?_
              show own_Go _ _ _ _ _ _ _ T10 (mkF m 207 #[.val (.int p1), .val (.int p2), .val (.int p3), .val (.int p4), .val (.ref y1), .val (.ref y2), .val (.ref y3), .val (.ref b4), .val (.ref b6), .val (.ref b8), .val (.int (p2 &&& (7 : Int32))), .unset, .unset] [])
              refine own_step (fun t k => XS.iload X10.here hx rfl (hb hby at_207) rfl k) ?_
              show own_Go _ _ _ _ _ _ _ T10 (mkF m 209 #[.val (.int p1), .val (.int p2), .val (.int p3), .val (.int p4), .val (.ref y1), .val (.ref y2), .val (.ref y3), .val (.ref b4), .val (.ref b6), .val (.ref b8), .val (.int (p2 &&& (7 : Int32))), .unset, .unset] [(.int (p2 &&& (7 : Int32)))])
              refine own_step (fun t k => XS.bipush X10.here hx rfl (hb hby at_209) k) ?_
              rcases Classical.em ((p2 &&& (7 : Int32)) = (6 : Int32)) with c211_23 | c211_23
              · show own_Go _ _ _ _ _ _ _ T10 (mkF m 211 #[.val (.int p1), .val (.int p2), .val (.int p3), .val (.int p4), .val (.ref y1), .val (.ref y2), .val (.ref y3), .val (.ref b4), .val (.ref b6), .val (.ref b8), .val (.int (p2 &&& (7 : Int32))), .unset, .unset] [(.int (6 : Int32)), (.int (p2 &&& (7 : Int32)))])
                refine own_step (fun t k => XS.icmpNo X10.here hx rfl (hb hby at_211) rfl (teq (c211_23)).2 k) ?_
                show own_Go _ _ _ _ _ _ _ T10 (mkF m 214 #[.val (.int p1), .val (.int p2), .val (.int p3), .val (.int p4), .val (.ref y1), .val (.ref y2), .val (.ref y3), .val (.ref b4), .val (.ref b6), .val (.ref b8), .val (.int (p2 &&& (7 : Int32))), .unset, .unset] [])
                refine own_step (fun t k => XS.aload X10.here hx rfl (hb hby at_214) rfl rfl k) ?_
                show own_Go _ _ _ _ _ _ _ T10 (mkF m 216 #[.val (.int p1), .val (.int p2), .val (.int p3), .val (.int p4), .val (.ref y1), .val (.ref y2), .val (.ref y3), .val (.ref b4), .val (.ref b6), .val (.ref b8), .val (.int (p2 &&& (7 : Int32))), .unset, .unset] [(.ref y2)])
                refine own_step (fun t k => XS.astore X10.here hx rfl (hb hby at_216) rfl rfl (l' := #[.val (.int p1), .val (.int p2), .val (.int p3), .val (.int p4), .val (.ref y1), .val (.ref y2), .val (.ref y3), .val (.ref b4), .val (.ref b6), .val (.ref b8), .val (.int (p2 &&& (7 : Int32))), .val (.ref y2), .unset]) rfl k) ?_
                show own_Go _ _ _ _ _ _ _ T10 (mkF m 218 #[.val (.int p1), .val (.int p2), .val (.int p3), .val (.int p4), .val (.ref y1), .val (.ref y2), .val (.ref y3), .val (.ref b4), .val (.ref b6), .val (.ref b8), .val (.int (p2 &&& (7 : Int32))), .val (.ref y2), .unset] [])
                refine own_step (fun t k => XS.iconst X10.here hx rfl (hb hby at_218) k) ?_
                show own_Go _ _ _ _ _ _ _ T10 (mkF m 219 #[.val (.int p1), .val (.int p2), .val (.int p3), .val (.int p4), .val (.ref y1), .val (.ref y2), .val (.ref y3), .val (.ref b4), .val (.ref b6), .val (.ref b8), .val (.int (p2 &&& (7 : Int32))), .val (.ref y2), .unset] [(.int (0 : Int32))])
                refine own_step (fun t k => XS.istore X10.here hx rfl (hb hby at_219) rfl (l' := #[.val (.int p1), .val (.int p2), .val (.int p3), .val (.int p4), .val (.ref y1), .val (.ref y2), .val (.ref y3), .val (.ref b4), .val (.ref b6), .val (.ref b8), .val (.int (p2 &&& (7 : Int32))), .val (.ref y2), .val (.int (0 : Int32))]) rfl k) ?_
                show own_Go _ _ _ _ _ _ _ T10 (mkF m 221 #[.val (.int p1), .val (.int p2), .val (.int p3), .val (.int p4), .val (.ref y1), .val (.ref y2), .val (.ref y3), .val (.ref b4), .val (.ref b6), .val (.ref b8), .val (.int (p2 &&& (7 : Int32))), .val (.ref y2), .val (.int (0 : Int32))] [])
                refine own_step (fun t k => XS.goto X10.here hx rfl (pc0 := 221) (pc' := 231) rfl (hb hby at_221) (by decide) (by decide) k) ?_
                show own_Go _ _ _ _ _ _ _ T10 (mkF m 231 #[.val (.int p1), .val (.int p2), .val (.int p3), .val (.int p4), .val (.ref y1), .val (.ref y2), .val (.ref y3), .val (.ref b4), .val (.ref b6), .val (.ref b8), .val (.int (p2 &&& (7 : Int32))), .val (.ref y2), .val (.int (0 : Int32))] [])
                refine own_step (fun t k => XS.aload X10.here hx rfl (hb hby at_231) rfl rfl k) ?_
                show own_Go _ _ _ _ _ _ _ T10 (mkF m 233 #[.val (.int p1), .val (.int p2), .val (.int p3), .val (.int p4), .val (.ref y1), .val (.ref y2), .val (.ref y3), .val (.ref b4), .val (.ref b6), .val (.ref b8), .val (.int (p2 &&& (7 : Int32))), .val (.ref y2), .val (.int (0 : Int32))] [(.ref b8)])
                refine own_step (fun t k => XS.aload X10.here hx rfl (hb hby at_233) rfl rfl k) ?_
                show own_Go _ _ _ _ _ _ _ T10 (mkF m 235 #[.val (.int p1), .val (.int p2), .val (.int p3), .val (.int p4), .val (.ref y1), .val (.ref y2), .val (.ref y3), .val (.ref b4), .val (.ref b6), .val (.ref b8), .val (.int (p2 &&& (7 : Int32))), .val (.ref y2), .val (.int (0 : Int32))] [(.ref y2), (.ref b8)])
                obtain ⟨cq24, kq24, q24a, q24b, q24c⟩ := isOf hZ rfl r1E
                obtain ⟨_, _, ⟨T24, L24, k24, n24⟩, -, X24, ⟨Lc24, hQ24, l24, y24, z24⟩, st24⟩ := X10.virtualBack hx (y := (⟨"com/example/variloom/variloom/model/Reference", "equals", "(Ljava/lang/Object;)Z"⟩ : MethodName)) (z := (⟨"com/example/variloom/variloom/model/Reference", "equals", "(Ljava/lang/Object;)Z"⟩ : MethodName)) hown (mvT hZ (hw _ (List.mem_of_getElem? (i := 87) rfl))) (mvT hZ (hw _ (List.mem_of_getElem? (i := 88) rfl))) (notFace_of_selects (args := #[]) (mvT hZ (hw _ (List.mem_of_getElem? (i := 90) rfl)))) (mvT hZ (hw _ (List.mem_of_getElem? (i := 90) rfl))) (mvT hZ (hw _ (List.mem_of_getElem? (i := 89) rfl))) (by decide) (backOf (W := 0) (own_rmeS l Z a0 hw [] b8 y2 T10.heap n0 (Nat.le_trans (Nat.le_trans ((Nat.le_trans (Nat.le_trans ((Nat.le_trans (Nat.le_trans ((Nat.le_trans (Nat.le_trans (Nat.le_trans Z0 K1.1) K2.1) K3.1)) E4.1) K5.1)) E6.1) K7.1)) E8.1) K10.1) EnE) hZ (hw _ (List.mem_of_getElem? (i := 91) rfl)) (hw _ (List.mem_of_getElem? (i := 73) rfl)) (by decide) (by decide)) q24a q24c (g := (mkF m 235 #[.val (.int p1), .val (.int p2), .val (.int p3), .val (.int p4), .val (.ref y1), .val (.ref y2), .val (.ref y3), .val (.ref b4), .val (.ref b6), .val (.ref b8), .val (.int (p2 &&& (7 : Int32))), .val (.ref y2), .val (.int (0 : Int32))] [(.ref y2), (.ref b8)])) rfl (by rw [hml]; rfl) (Steps.refl _) (argsL := [(.ref y2)]) (rest := []) (lenOf own_pd0_5 rfl) rfl (by show 2 * 0 + _ ≤ _; exact Nat.le_of_eq rfl) (hb hby at_235) (fun _ _ => ⟨rfl, rfl, (by decide : 11 + 0 ≤ _), (by decide : 52 + 0 ≤ _)⟩)
                dsimp only [Pt.U, Pt.locs, Pt.cells, Pt.slots] at X24 l24 y24 z24 st24 hQ24
                subst l24 y24 z24
                obtain ⟨rfl, Nq24, e24⟩ := hQ24
                have N24 := Fr.app N10 Nq24
                refine own_step (fun t k => st24.trans k) ?_
                show own_Go _ _ _ _ _ _ _ T24 (mkF m 238 #[.val (.int p1), .val (.int p2), .val (.int p3), .val (.int p4), .val (.ref y1), .val (.ref y2), .val (.ref y3), .val (.ref b4), .val (.ref b6), .val (.ref b8), .val (.int (p2 &&& (7 : Int32))), .val (.ref y2), .val (.int (0 : Int32))] [(.int (0 : Int32))])
                refine own_step (fun t k => XS.iload X24.here hx rfl (hb hby at_238) rfl k) ?_
                show own_Go _ _ _ _ _ _ _ T24 (mkF m 240 #[.val (.int p1), .val (.int p2), .val (.int p3), .val (.int p4), .val (.ref y1), .val (.ref y2), .val (.ref y3), .val (.ref b4), .val (.ref b6), .val (.ref b8), .val (.int (p2 &&& (7 : Int32))), .val (.ref y2), .val (.int (0 : Int32))] [(.int (0 : Int32)), (.int (0 : Int32))])
                refine own_step (fun t k => XS.icmpNo X24.here hx rfl (hb hby at_240) rfl (teq (rfl)).2 k) ?_
                show own_Go _ _ _ _ _ _ _ T24 (mkF m 243 #[.val (.int p1), .val (.int p2), .val (.int p3), .val (.int p4), .val (.ref y1), .val (.ref y2), .val (.ref y3), .val (.ref b4), .val (.ref b6), .val (.ref b8), .val (.int (p2 &&& (7 : Int32))), .val (.ref y2), .val (.int (0 : Int32))] [])
                refine own_step (fun t k => XS.iconst X24.here hx rfl (hb hby at_243) k) ?_
                show own_Go _ _ _ _ _ _ _ T24 (mkF m 244 #[.val (.int p1), .val (.int p2), .val (.int p3), .val (.int p4), .val (.ref y1), .val (.ref y2), .val (.ref y3), .val (.ref b4), .val (.ref b6), .val (.ref b8), .val (.int (p2 &&& (7 : Int32))), .val (.ref y2), .val (.int (0 : Int32))] [(.int (1 : Int32))])
                refine own_step (fun t k => XS.goto X24.here hx rfl (pc0 := 244) (pc' := 248) rfl (hb hby at_244) (by decide) (by decide) k) ?_
                show own_Go _ _ _ _ _ _ _ T24 (mkF m 248 #[.val (.int p1), .val (.int p2), .val (.int p3), .val (.int p4), .val (.ref y1), .val (.ref y2), .val (.ref y3), .val (.ref b4), .val (.ref b6), .val (.ref b8), .val (.int (p2 &&& (7 : Int32))), .val (.ref y2), .val (.int (0 : Int32))] [(.int (1 : Int32))])
                refine own_ret X24 hx hlk Bd.returns rfl (Or.inl ⟨rfl, Or.inr (Or.inl rfl), _, rfl⟩) (hb hby at_248) (by decide) (by decide) ?_
                show own_Q0 Z p1 p2 p3 p4 cs h0 n0 (some (.int (1 : Int32))) T24.heap _
                exact ⟨rfl, N24⟩
              · show own_Go _ _ _ _ _ _ _ T10 (mkF m 211 #[.val (.int p1), .val (.int p2), .val (.int p3), .val (.int p4), .val (.ref y1), .val (.ref y2), .val (.ref y3), .val (.ref b4), .val (.ref b6), .val (.ref b8), .val (.int (p2 &&& (7 : Int32))), .unset, .unset] [(.int (6 : Int32)), (.int (p2 &&& (7 : Int32)))])
                refine own_step (fun t k => XS.icmpYes X10.here hx rfl (pc0 := 211) (pc' := 224) rfl (hb hby at_211) rfl (feq (c211_23)).2 (by decide) (by decide) k) ?_
                show own_Go _ _ _ _ _ _ _ T10 (mkF m 224 #[.val (.int p1), .val (.int p2), .val (.int p3), .val (.int p4), .val (.ref y1), .val (.ref y2), .val (.ref y3), .val (.ref b4), .val (.ref b6), .val (.ref b8), .val (.int (p2 &&& (7 : Int32))), .unset, .unset] [])
                refine own_step (fun t k => XS.aload X10.here hx rfl (hb hby at_224) rfl rfl k) ?_
                show own_Go _ _ _ _ _ _ _ T10 (mkF m 226 #[.val (.int p1), .val (.int p2), .val (.int p3), .val (.int p4), .val (.ref y1), .val (.ref y2), .val (.ref y3), .val (.ref b4), .val (.ref b6), .val (.ref b8), .val (.int (p2 &&& (7 : Int32))), .unset, .unset] [(.ref b8)])
                refine own_step (fun t k => XS.astore X10.here hx rfl (hb hby at_226) rfl rfl (l' := #[.val (.int p1), .val (.int p2), .val (.int p3), .val (.int p4), .val (.ref y1), .val (.ref y2), .val (.ref y3), .val (.ref b4), .val (.ref b6), .val (.ref b8), .val (.int (p2 &&& (7 : Int32))), .val (.ref b8), .unset]) rfl k) ?_
                show own_Go _ _ _ _ _ _ _ T10 (mkF m 228 #[.val (.int p1), .val (.int p2), .val (.int p3), .val (.int p4), .val (.ref y1), .val (.ref y2), .val (.ref y3), .val (.ref b4), .val (.ref b6), .val (.ref b8), .val (.int (p2 &&& (7 : Int32))), .val (.ref b8), .unset] [])
                refine own_step (fun t k => XS.iconst X10.here hx rfl (hb hby at_228) k) ?_
                show own_Go _ _ _ _ _ _ _ T10 (mkF m 229 #[.val (.int p1), .val (.int p2), .val (.int p3), .val (.int p4), .val (.ref y1), .val (.ref y2), .val (.ref y3), .val (.ref b4), .val (.ref b6), .val (.ref b8), .val (.int (p2 &&& (7 : Int32))), .val (.ref b8), .unset] [(.int (1 : Int32))])
                refine own_step (fun t k => XS.istore X10.here hx rfl (hb hby at_229) rfl (l' := #[.val (.int p1), .val (.int p2), .val (.int p3), .val (.int p4), .val (.ref y1), .val (.ref y2), .val (.ref y3), .val (.ref b4), .val (.ref b6), .val (.ref b8), .val (.int (p2 &&& (7 : Int32))), .val (.ref b8), .val (.int (1 : Int32))]) rfl k) ?_
                show own_Go _ _ _ _ _ _ _ T10 (mkF m 231 #[.val (.int p1), .val (.int p2), .val (.int p3), .val (.int p4), .val (.ref y1), .val (.ref y2), .val (.ref y3), .val (.ref b4), .val (.ref b6), .val (.ref b8), .val (.int (p2 &&& (7 : Int32))), .val (.ref b8), .val (.int (1 : Int32))] [])
                refine own_step (fun t k => XS.aload X10.here hx rfl (hb hby at_231) rfl rfl k) ?_
                show own_Go _ _ _ _ _ _ _ T10 (mkF m 233 #[.val (.int p1), .val (.int p2), .val (.int p3), .val (.int p4), .val (.ref y1), .val (.ref y2), .val (.ref y3), .val (.ref b4), .val (.ref b6), .val (.ref b8), .val (.int (p2 &&& (7 : Int32))), .val (.ref b8), .val (.int (1 : Int32))] [(.ref b8)])
                refine own_step (fun t k => XS.aload X10.here hx rfl (hb hby at_233) rfl rfl k) ?_
                show own_Go _ _ _ _ _ _ _ T10 (mkF m 235 #[.val (.int p1), .val (.int p2), .val (.int p3), .val (.int p4), .val (.ref y1), .val (.ref y2), .val (.ref y3), .val (.ref b4), .val (.ref b6), .val (.ref b8), .val (.int (p2 &&& (7 : Int32))), .val (.ref b8), .val (.int (1 : Int32))] [(.ref b8), (.ref b8)])
                obtain ⟨cq25, kq25, q25a, q25b, q25c⟩ := isOf hZ rfl r1E
                obtain ⟨_, _, ⟨T25, L25, k25, n25⟩, -, X25, ⟨Lc25, hQ25, l25, y25, z25⟩, st25⟩ := X10.virtualBack hx (y := (⟨"com/example/variloom/variloom/model/Reference", "equals", "(Ljava/lang/Object;)Z"⟩ : MethodName)) (z := (⟨"com/example/variloom/variloom/model/Reference", "equals", "(Ljava/lang/Object;)Z"⟩ : MethodName)) hown (mvT hZ (hw _ (List.mem_of_getElem? (i := 87) rfl))) (mvT hZ (hw _ (List.mem_of_getElem? (i := 88) rfl))) (notFace_of_selects (args := #[]) (mvT hZ (hw _ (List.mem_of_getElem? (i := 90) rfl)))) (mvT hZ (hw _ (List.mem_of_getElem? (i := 90) rfl))) (mvT hZ (hw _ (List.mem_of_getElem? (i := 89) rfl))) (by decide) (backOf (W := 0) (own_rmeR l Z a0 hw [] b8 b8 (own_pick p1 b4 b6) (own_pick p1 b4 b6) T10.heap n0 (Nat.le_trans (Nat.le_trans ((Nat.le_trans (Nat.le_trans ((Nat.le_trans (Nat.le_trans ((Nat.le_trans (Nat.le_trans (Nat.le_trans Z0 K1.1) K2.1) K3.1)) E4.1) K5.1)) E6.1) K7.1)) E8.1) K10.1) r1F r1F r1E (own_pickR _ _ _) (own_pickR _ _ _)) hZ (hw _ (List.mem_of_getElem? (i := 91) rfl)) (hw _ (List.mem_of_getElem? (i := 73) rfl)) (by decide) (by decide)) q25a q25c (g := (mkF m 235 #[.val (.int p1), .val (.int p2), .val (.int p3), .val (.int p4), .val (.ref y1), .val (.ref y2), .val (.ref y3), .val (.ref b4), .val (.ref b6), .val (.ref b8), .val (.int (p2 &&& (7 : Int32))), .val (.ref b8), .val (.int (1 : Int32))] [(.ref b8), (.ref b8)])) rfl (by rw [hml]; rfl) (Steps.refl _) (argsL := [(.ref b8)]) (rest := []) (lenOf own_pd0_5 rfl) rfl (by show 2 * 0 + _ ≤ _; exact Nat.le_of_eq rfl) (hb hby at_235) (fun _ _ => ⟨rfl, rfl, (by decide : 11 + 0 ≤ _), (by decide : 52 + 0 ≤ _)⟩)
                dsimp only [Pt.U, Pt.locs, Pt.cells, Pt.slots] at X25 l25 y25 z25 st25 hQ25
                subst l25 y25 z25
                obtain ⟨rfl, Nq25, e25⟩ := hQ25
                have N25 := Fr.app N10 Nq25
                refine own_step (fun t k => st25.trans k) ?_
                show own_Go _ _ _ _ _ _ _ T25 (mkF m 238 #[.val (.int p1), .val (.int p2), .val (.int p3), .val (.int p4), .val (.ref y1), .val (.ref y2), .val (.ref y3), .val (.ref b4), .val (.ref b6), .val (.ref b8), .val (.int (p2 &&& (7 : Int32))), .val (.ref b8), .val (.int (1 : Int32))] [(.int (own_same (own_pick p1 b4 b6) (own_pick p1 b4 b6)))])
                refine own_step (fun t k => XS.iload X25.here hx rfl (hb hby at_238) rfl k) ?_
                show own_Go _ _ _ _ _ _ _ T25 (mkF m 240 #[.val (.int p1), .val (.int p2), .val (.int p3), .val (.int p4), .val (.ref y1), .val (.ref y2), .val (.ref y3), .val (.ref b4), .val (.ref b6), .val (.ref b8), .val (.int (p2 &&& (7 : Int32))), .val (.ref b8), .val (.int (1 : Int32))] [(.int (1 : Int32)), (.int (own_same (own_pick p1 b4 b6) (own_pick p1 b4 b6)))])
                refine own_step (fun t k => XS.icmpNo X25.here hx rfl (hb hby at_240) rfl (teq ((if_pos rfl))).2 k) ?_
                show own_Go _ _ _ _ _ _ _ T25 (mkF m 243 #[.val (.int p1), .val (.int p2), .val (.int p3), .val (.int p4), .val (.ref y1), .val (.ref y2), .val (.ref y3), .val (.ref b4), .val (.ref b6), .val (.ref b8), .val (.int (p2 &&& (7 : Int32))), .val (.ref b8), .val (.int (1 : Int32))] [])
                refine own_step (fun t k => XS.iconst X25.here hx rfl (hb hby at_243) k) ?_
                show own_Go _ _ _ _ _ _ _ T25 (mkF m 244 #[.val (.int p1), .val (.int p2), .val (.int p3), .val (.int p4), .val (.ref y1), .val (.ref y2), .val (.ref y3), .val (.ref b4), .val (.ref b6), .val (.ref b8), .val (.int (p2 &&& (7 : Int32))), .val (.ref b8), .val (.int (1 : Int32))] [(.int (1 : Int32))])
                refine own_step (fun t k => XS.goto X25.here hx rfl (pc0 := 244) (pc' := 248) rfl (hb hby at_244) (by decide) (by decide) k) ?_
                show own_Go _ _ _ _ _ _ _ T25 (mkF m 248 #[.val (.int p1), .val (.int p2), .val (.int p3), .val (.int p4), .val (.ref y1), .val (.ref y2), .val (.ref y3), .val (.ref b4), .val (.ref b6), .val (.ref b8), .val (.int (p2 &&& (7 : Int32))), .val (.ref b8), .val (.int (1 : Int32))] [(.int (1 : Int32))])
                refine own_ret X25 hx hlk Bd.returns rfl (Or.inl ⟨rfl, Or.inr (Or.inl rfl), _, rfl⟩) (hb hby at_248) (by decide) (by decide) ?_
                show own_Q0 Z p1 p2 p3 p4 cs h0 n0 (some (.int (1 : Int32))) T25.heap _
                exact ⟨rfl, N25⟩
      rcases Classical.em ((p3 &&& (512 : Int32)) = (0 : Int32)) with c92_26 | c92_26
      · show own_Go _ _ _ _ _ _ _ T6 (mkF m 92 #[.val (.int p1), .val (.int p2), .val (.int p3), .val (.int p4), .val (.ref y1), .val (.ref y2), .val (.ref y3), .val (.ref b4), .unset, .unset, .unset, .unset, .unset] [(.int (p3 &&& (512 : Int32))), .null, .null, (.ref y9), (.ref y1), (.ref b6), (.ref b6)])
        refine own_step (fun t k => XS.ifYes X6.here hx rfl (pc0 := 92) (pc' := 99) rfl (hb hby at_92) rfl ((if0 _ _).trans (teq (c92_26)).1) (by decide) (by decide) k) ?_
        show own_Go _ _ _ _ _ _ _ T6 (mkF m 99 #[.val (.int p1), .val (.int p2), .val (.int p3), .val (.int p4), .val (.ref y1), .val (.ref y2), .val (.ref y3), .val (.ref b4), .unset, .unset, .unset, .unset, .unset] [.null, .null, (.ref y9), (.ref y1), (.ref b6), (.ref b6)])
        refine own_step (fun t k => XS.iconst X6.here hx rfl (hb hby at_99) k) ?_
        show own_Go _ _ _ _ _ _ _ T6 (mkF m 100 #[.val (.int p1), .val (.int p2), .val (.int p3), .val (.int p4), .val (.ref y1), .val (.ref y2), .val (.ref y3), .val (.ref b4), .unset, .unset, .unset, .unset, .unset] [(.int (0 : Int32)), .null, .null, (.ref y9), (.ref y1), (.ref b6), (.ref b6)])
        exact J100 _ (Or.inl rfl)
      · show own_Go _ _ _ _ _ _ _ T6 (mkF m 92 #[.val (.int p1), .val (.int p2), .val (.int p3), .val (.int p4), .val (.ref y1), .val (.ref y2), .val (.ref y3), .val (.ref b4), .unset, .unset, .unset, .unset, .unset] [(.int (p3 &&& (512 : Int32))), .null, .null, (.ref y9), (.ref y1), (.ref b6), (.ref b6)])
        refine own_step (fun t k => XS.ifNo X6.here hx rfl (hb hby at_92) rfl ((if0 _ _).trans (feq (c92_26)).1) k) ?_
        show own_Go _ _ _ _ _ _ _ T6 (mkF m 95 #[.val (.int p1), .val (.int p2), .val (.int p3), .val (.int p4), .val (.ref y1), .val (.ref y2), .val (.ref y3), .val (.ref b4), .unset, .unset, .unset, .unset, .unset] [.null, .null, (.ref y9), (.ref y1), (.ref b6), (.ref b6)])
        refine own_step (fun t k => XS.iconst X6.here hx rfl (hb hby at_95) k) ?_
        show own_Go _ _ _ _ _ _ _ T6 (mkF m 96 #[.val (.int p1), .val (.int p2), .val (.int p3), .val (.int p4), .val (.ref y1), .val (.ref y2), .val (.ref y3), .val (.ref b4), .unset, .unset, .unset, .unset, .unset] [(.int (1 : Int32)), .null, .null, (.ref y9), (.ref y1), (.ref b6), (.ref b6)])
        refine own_step (fun t k => XS.goto X6.here hx rfl (pc0 := 96) (pc' := 100) rfl (hb hby at_96) (by decide) (by decide) k) ?_
        show own_Go _ _ _ _ _ _ _ T6 (mkF m 100 #[.val (.int p1), .val (.int p2), .val (.int p3), .val (.int p4), .val (.ref y1), .val (.ref y2), .val (.ref y3), .val (.ref b4), .unset, .unset, .unset, .unset, .unset] [(.int (1 : Int32)), .null, .null, (.ref y9), (.ref y1), (.ref b6), (.ref b6)])
        exact J100 _ (Or.inr rfl)
    rcases Classical.em ((p2 &&& (256 : Int32)) = (0 : Int32)) with c75_27 | c75_27
    · show own_Go _ _ _ _ _ _ _ T6 (mkF m 75 #[.val (.int p1), .val (.int p2), .val (.int p3), .val (.int p4), .val (.ref y1), .val (.ref y2), .val (.ref y3), .val (.ref b4), .unset, .unset, .unset, .unset, .unset] [(.int (p2 &&& (256 : Int32))), (.ref y1), (.ref b6), (.ref b6)])
      refine own_step (fun t k => XS.ifYes X6.here hx rfl (pc0 := 75) (pc' := 83) rfl (hb hby at_75) rfl ((if0 _ _).trans (teq (c75_27)).1) (by decide) (by decide) k) ?_
      show own_Go _ _ _ _ _ _ _ T6 (mkF m 83 #[.val (.int p1), .val (.int p2), .val (.int p3), .val (.int p4), .val (.ref y1), .val (.ref y2), .val (.ref y3), .val (.ref b4), .unset, .unset, .unset, .unset, .unset] [(.ref y1), (.ref b6), (.ref b6)])
      refine own_step (fun t k => XS.aload X6.here hx rfl (hb hby at_83) rfl rfl k) ?_
      show own_Go _ _ _ _ _ _ _ T6 (mkF m 85 #[.val (.int p1), .val (.int p2), .val (.int p3), .val (.int p4), .val (.ref y1), .val (.ref y2), .val (.ref y3), .val (.ref b4), .unset, .unset, .unset, .unset, .unset] [(.ref y3), (.ref y1), (.ref b6), (.ref b6)])
      exact J85 _
    · show own_Go _ _ _ _ _ _ _ T6 (mkF m 75 #[.val (.int p1), .val (.int p2), .val (.int p3), .val (.int p4), .val (.ref y1), .val (.ref y2), .val (.ref y3), .val (.ref b4), .unset, .unset, .unset, .unset, .unset] [(.int (p2 &&& (256 : Int32))), (.ref y1), (.ref b6), (.ref b6)])
      refine own_step (fun t k => XS.ifNo X6.here hx rfl (hb hby at_75) rfl ((if0 _ _).trans (feq (c75_27)).1) k) ?_
      show own_Go _ _ _ _ _ _ _ T6 (mkF m 78 #[.val (.int p1), .val (.int p2), .val (.int p3), .val (.int p4), .val (.ref y1), .val (.ref y2), .val (.ref y3), .val (.ref b4), .unset, .unset, .unset, .unset, .unset] [(.ref y1), (.ref b6), (.ref b6)])
      refine own_step (fun t k => XS.aload X6.here hx rfl (hb hby at_78) rfl rfl k) ?_
      show own_Go _ _ _ _ _ _ _ T6 (mkF m 80 #[.val (.int p1), .val (.int p2), .val (.int p3), .val (.int p4), .val (.ref y1), .val (.ref y2), .val (.ref y3), .val (.ref b4), .unset, .unset, .unset, .unset, .unset] [(.ref y2), (.ref y1), (.ref b6), (.ref b6)])
      refine own_step (fun t k => XS.goto X6.here hx rfl (pc0 := 80) (pc' := 85) rfl (hb hby at_80) (by decide) (by decide) k) ?_
      show own_Go _ _ _ _ _ _ _ T6 (mkF m 85 #[.val (.int p1), .val (.int p2), .val (.int p3), .val (.int p4), .val (.ref y1), .val (.ref y2), .val (.ref y3), .val (.ref b4), .unset, .unset, .unset, .unset, .unset] [(.ref y2), (.ref y1), (.ref b6), (.ref b6)])
      exact J85 _
  rcases Classical.em ((p3 &&& (256 : Int32)) = (0 : Int32)) with c51_28 | c51_28
  · show own_Go _ _ _ _ _ _ _ T4 (mkF m 51 #[.val (.int p1), .val (.int p2), .val (.int p3), .val (.int p4), .val (.ref y1), .val (.ref y2), .val (.ref y3), .unset, .unset, .unset, .unset, .unset, .unset] [(.int (p3 &&& (256 : Int32))), .null, .null, (.ref y2), (.ref y1), (.ref b4), (.ref b4)])
    refine own_step (fun t k => XS.ifYes X4.here hx rfl (pc0 := 51) (pc' := 58) rfl (hb hby at_51) rfl ((if0 _ _).trans (teq (c51_28)).1) (by decide) (by decide) k) ?_
    show own_Go _ _ _ _ _ _ _ T4 (mkF m 58 #[.val (.int p1), .val (.int p2), .val (.int p3), .val (.int p4), .val (.ref y1), .val (.ref y2), .val (.ref y3), .unset, .unset, .unset, .unset, .unset, .unset] [.null, .null, (.ref y2), (.ref y1), (.ref b4), (.ref b4)])
    refine own_step (fun t k => XS.iconst X4.here hx rfl (hb hby at_58) k) ?_
    show own_Go _ _ _ _ _ _ _ T4 (mkF m 59 #[.val (.int p1), .val (.int p2), .val (.int p3), .val (.int p4), .val (.ref y1), .val (.ref y2), .val (.ref y3), .unset, .unset, .unset, .unset, .unset, .unset] [(.int (0 : Int32)), .null, .null, (.ref y2), (.ref y1), (.ref b4), (.ref b4)])
    exact J59 _ (Or.inl rfl)
  · show own_Go _ _ _ _ _ _ _ T4 (mkF m 51 #[.val (.int p1), .val (.int p2), .val (.int p3), .val (.int p4), .val (.ref y1), .val (.ref y2), .val (.ref y3), .unset, .unset, .unset, .unset, .unset, .unset] [(.int (p3 &&& (256 : Int32))), .null, .null, (.ref y2), (.ref y1), (.ref b4), (.ref b4)])
    refine own_step (fun t k => XS.ifNo X4.here hx rfl (hb hby at_51) rfl ((if0 _ _).trans (feq (c51_28)).1) k) ?_
    show own_Go _ _ _ _ _ _ _ T4 (mkF m 54 #[.val (.int p1), .val (.int p2), .val (.int p3), .val (.int p4), .val (.ref y1), .val (.ref y2), .val (.ref y3), .unset, .unset, .unset, .unset, .unset, .unset] [.null, .null, (.ref y2), (.ref y1), (.ref b4), (.ref b4)])
    refine own_step (fun t k => XS.iconst X4.here hx rfl (hb hby at_54) k) ?_
    show own_Go _ _ _ _ _ _ _ T4 (mkF m 55 #[.val (.int p1), .val (.int p2), .val (.int p3), .val (.int p4), .val (.ref y1), .val (.ref y2), .val (.ref y3), .unset, .unset, .unset, .unset, .unset, .unset] [(.int (1 : Int32)), .null, .null, (.ref y2), (.ref y1), (.ref b4), (.ref b4)])
    refine own_step (fun t k => XS.goto X4.here hx rfl (pc0 := 55) (pc' := 59) rfl (hb hby at_55) (by decide) (by decide) k) ?_
    show own_Go _ _ _ _ _ _ _ T4 (mkF m 59 #[.val (.int p1), .val (.int p2), .val (.int p3), .val (.int p4), .val (.ref y1), .val (.ref y2), .val (.ref y3), .unset, .unset, .unset, .unset, .unset, .unset] [(.int (1 : Int32)), .null, .null, (.ref y2), (.ref y1), (.ref b4), (.ref b4)])
    exact J59 _ (Or.inr rfl)
set_option maxRecDepth 65536 in
set_option maxHeartbeats 40000000 in
theorem own_comes_1 {Post : Tables → Env → Array Value → State → Outcome → State → Prop} (hpost : ∀ tb e args s v u, (limb_1_1.after args s (.returned v) u = true ∧ limb_1_2.after args s (.returned v) u = true ∧ True) → FrameEnd s (.returned v) u (Jvm.fieldLocs frame_1_writes args s ++ Jvm.arrayLocs frame_1_arrays args s ++ Jvm.staticLocs frame_1_statics s) 32 192 → Post tb e args s (.returned v) u) :
    ArmFor flags0 classFile x code maxLocals ret World_1 tables_1 room_1 Calls_1 rest_1 Pre_1 Post := by
  intro l hfl _ _ p e ha hc hk s m args below hf hA hF happ hP
  obtain ⟨hcalls, hrest, hpre⟩ := hP
  obtain ⟨-, -, -, hnamed, -, -, -, hat⟩ := (Spec.applies_iff hf).mp happ
  obtain ⟨hg, hn⟩ := and_e (Cond.before_iff.mp (show (Jvm.Cond.and given_1 narrow_1).before args s = true from hpre))
  obtain ⟨g0, r0⟩ := and_e hg
  obtain ⟨g1, r1⟩ := and_e r0
  obtain ⟨g2, r2⟩ := and_e r1
  obtain ⟨g3, r3⟩ := and_e r2
  have g4 := r3
  obtain ⟨w0, w1, w2, w3, rfl⟩ : ∃ w0 w1 w2 w3 : Value, args = #[w0, w1, w2, w3] := by
    have hs : args.size = 4 := by simpa [Cond.value, given_1] using g0
    obtain ⟨L⟩ := args
    match L, hs with
    | [w0, w1, w2, w3], _ => exact ⟨w0, w1, w2, w3, rfl⟩
  have hw := fun d (hd : d ∈ tables_1) => atoms_spec (ws := Jvm.Cond.code x code maxLocals ret :: tables_1) hat d (List.mem_cons_of_mem _ hd)
  have hfit : Fit s := fun {y c} hc i hi => by
    obtain ⟨ha, rfl⟩ := Array.getElem?_eq_some_iff.mp hc
    have q := List.all_eq_true.mp ((Array.all_eq_true_iff_forall_mem.mp hF) _ (Array.getElem_mem ha)) i (List.mem_range.mpr hi)
    simpa [Array.getElem?_eq_getElem hi] using q
  obtain ⟨i0, ei0⟩ := is_v g1
  obtain rfl : w0 = (.int i0) := Option.some.inj ei0
  obtain ⟨i1, ei1⟩ := is_v g2
  obtain rfl : w1 = (.int i1) := Option.some.inj ei1
  obtain ⟨i2, ei2⟩ := is_v g3
  obtain rfl : w2 = (.int i2) := Option.some.inj ei2
  obtain ⟨i3, ei3⟩ := is_v g4
  obtain rfl : w3 = (.int i3) := Option.some.inj ei3
  have hrc : rest_1_c.before #[(.int i0), (.int i1), (.int i2), (.int i3)] s = true := hrest
  rw [rest_1_c_eq] at hrc
  have hsets := (atoms_of jdkStatics_1 hrc).1
  -- hsets
  obtain ⟨cs, ev⟩ := is_v (Cond.before_iff.mp (hsets _ (List.mem_of_getElem? (i := 1) rfl)))
  have SS := Sta.start ev (Or.inl (hsets _ (List.mem_of_getElem? (i := 0) rfl)))
  have hcs : ¬ cs = 0 := by
    have q := not_v (Cond.before_iff.mp (hsets _ (List.mem_of_getElem? (i := 2) rfl)))
    intro z
    rw [z] at ev
    simp [Cond.value, ev, Term.int_eval] at q
  obtain ⟨n, o, h1, h2, h3, _, L, rfl, ⟨rfl, N⟩, hq⟩ := own_rm0 l s _ hw tables_1 i0 i1 i2 i3 cs s.heap s.heap.size (Nat.le_refl _) SS hcs p e ha hc hk s m _ below hf ((Spec.applies_iff_loose hf).mp happ).1 ⟨rfl, State.Warmed39.refl s, rfl⟩ trivial
  refine ⟨n, _, h1, h2, h3, hpost _ _ _ _ _ _ ⟨Cond.after_iff.mpr rfl, Cond.after_iff.mpr (eq_i res_at (Term.int_eval (1)) rfl), trivial⟩ ⟨hq.1, hq.2.1, (hq.2.2.sift fun y hy => Or.inr (N y hy)).mono (by decide) (by decide)⟩⟩
theorem main_1_1 : Claimed_1_1 := own_comes_1 fun _ _ _ _ _ _ h hF => ⟨h.1, hF⟩
theorem main_1_2 : Claimed_1_2 := own_comes_1 fun _ _ _ _ _ _ h hF => ⟨h.2.1, hF⟩
end Jvm.Pilot.@@N@@
namespace Jvm.Pilot.@@N@@
open Jvm Jvm.ClassFile Sem Op Lib Jvm.Free Jvm.Stand Jvm.Pilot.@@N@@.Jvm.D
/-! MADE BY PROGRAM (witnessworld.py) out of the Statement's table words and the real class files: 23 classes; the members and pool entries that the words name. The judged class is class 1, her method 3. -/
namespace start1
open Jvm.ClassFile
def u (s : String) : CpInfo := .utf8 (stringToUtf16 s)
/-- a pool by its gaps: so many unusable entries, then the entry; so many at the end -/
def gap : Nat → List CpInfo → List CpInfo
  | 0, r => r
  | n + 1, r => .unusable :: gap n r
def poolList (es : List (Nat × CpInfo)) (last : Nat) : List CpInfo := es.foldr (fun e r => gap e.1 (e.2 :: r)) (gap last [])
def pool (es : List (Nat × CpInfo)) (last : Nat) : Array CpInfo := ⟨poolList es last⟩
def fileOf (pool : Array CpInfo) (this : Nat) (attrs : Array Attribute := #[]) (ms : Array MethodInfo := #[]) (fl : Nat := 33) (sup : Nat := 0) (ifs : Array Nat := #[]) (fds : Array FieldInfo := #[]) : ClassFile where
  minorVersion := 0
  majorVersion := 65
  constantPool := pool
  accessFlags := fl
  thisClass := this
  superClass := sup
  interfaces := ifs
  fields := fds
  methods := ms
  attributes := attrs
def plain (name : String) (sup : Option ClassId) : Class where
  name := name
  kind := .ordinary
  loader := none
  accessFlags := 33
  super := sup
  interfaces := #[]
  cf := none
  fields := #[]
  methods := #[]
  instanceTypes := #[]
  staticTypes := #[]
  resolved := #[]
  callSites := []
  init := .initialized
  statics := none
  mirror := none

def pool0 : Array CpInfo := pool [(5, u "<init>"), (0, u "()V"), (1, .class_ 10), (1, u "java/lang/Object")] 113

def k0c0 : Code := { maxStack := 0, maxLocals := 1, code := object_method_1_code, exceptionTable := #[], attributes := #[] }
def k0m0 : Method := { name := "<init>", desc := "()V", sig := { parameters := [], returnType := none }, accessFlags := 1, code := some k0c0 }
/-- java/lang/Object -/
def k0 : Class := { plain "java/lang/Object" none with
  accessFlags := 33
  interfaces := #[]
  cf := some (fileOf pool0 8 #[] #[{ accessFlags := 1, nameIndex := 5, descriptorIndex := 6, attributes := #[] }] 33 0 #[] #[])
  fields := #[]
  methods := #[k0m0]
  instanceTypes := #[]
  staticTypes := #[]
  resolved := Array.replicate 124 none
  statics := none }

def pool1 : Array CpInfo := pool [(2, .class_ 4), (1, u "java/lang/Object"), (0, u "<init>"), (0, u "()V"), (0, .methodref 8 9), (0, .class_ 10), (0, .nameAndType 11 12), (0, u "java/lang/String"), (0, u "valueOf"), (0, u "(C)Ljava/lang/String;"), (0, .class_ 14), (0, u "com/example/variloom/variloom/model/Variable"), (0, .methodref 13 16), (0, .nameAndType 5 17), (0, u "(Ljava/lang/String;Ljava/lang/String;Lcom/example/variloom/variloom/model/Type;Lcom/example/variloom/variloom/Location;Z)V"), (0, .class_ 19), (0, u "com/example/variloom/variloom/model/Reference"), (0, .methodref 21 22), (0, .class_ 23), (0, .nameAndType 24 25), (0, u "com/example/variloom/variloom/model/ReferenceEqualsPinLaw"), (0, u "pick"), (0, u "(ILcom/example/variloom/variloom/model/Variable;Lcom/example/variloom/variloom/model/Variable;)Lcom/example/variloom/variloom/model/Variable;"), (0, .methodref 18 27), (0, .nameAndType 5 28), (0, u "(Lcom/example/variloom/variloom/model/Variable;)V"), (0, .methodref 21 30), (0, .nameAndType 31 32), (0, u "kind"), (0, u "(I)I"), (0, .methodref 18 34), (0, .nameAndType 35 36), (0, u "equals"), (0, u "(Ljava/lang/Object;)Z"), (3, u "law"), (0, u "(IIII)Z")] 2

def k1m0 : Method := { name := "<init>", desc := "()V", sig := { parameters := [], returnType := none }, accessFlags := 1, code := none }
def k1c1 : Code := { maxStack := 2, maxLocals := 4, code := method_2_code, exceptionTable := #[], attributes := #[] }
def k1m1 : Method := { name := "pick", desc := "(ILcom/example/variloom/variloom/model/Variable;Lcom/example/variloom/variloom/model/Variable;)Lcom/example/variloom/variloom/model/Variable;", sig := { parameters := [.int, (.object "com/example/variloom/variloom/model/Variable"), (.object "com/example/variloom/variloom/model/Variable")], returnType := some (.object "com/example/variloom/variloom/model/Variable") }, accessFlags := 10, code := some k1c1 }
def k1c2 : Code := { maxStack := 2, maxLocals := 2, code := method_3_code, exceptionTable := #[], attributes := #[] }
def k1m2 : Method := { name := "kind", desc := "(I)I", sig := { parameters := [.int], returnType := some .int }, accessFlags := 10, code := some k1c2 }
def k1c3 : Code := { maxStack := 8, maxLocals := 13, code := code, exceptionTable := #[], attributes := #[] }
def k1m3 : Method := { name := "law", desc := "(IIII)Z", sig := { parameters := [.int, .int, .int, .int], returnType := some .boolean }, accessFlags := 9, code := some k1c3 }
/-- com/example/variloom/variloom/model/ReferenceEqualsPinLaw -/
def k1 : Class := { plain "com/example/variloom/variloom/model/ReferenceEqualsPinLaw" (some 0) with
  accessFlags := 49
  interfaces := #[]
  cf := some (fileOf pool1 21 #[] #[{ accessFlags := 1, nameIndex := 5, descriptorIndex := 6, attributes := #[] }, { accessFlags := 10, nameIndex := 24, descriptorIndex := 25, attributes := #[] }, { accessFlags := 10, nameIndex := 31, descriptorIndex := 32, attributes := #[] }, { accessFlags := 9, nameIndex := 40, descriptorIndex := 41, attributes := #[] }] 49 2 #[] #[])
  fields := #[]
  methods := #[k1m0, k1m1, k1m2, k1m3]
  instanceTypes := #[]
  staticTypes := #[]
  resolved := Array.replicate 44 none
  statics := none }

def pool2 : Array CpInfo := pool [(1, .class_ 2), (0, u "java/io/Serializable"), (0, .class_ 4), (0, u "java/lang/Object")] 2

/-- java/io/Serializable -/
def k2 : Class := { plain "java/io/Serializable" (some 0) with
  accessFlags := 1537
  interfaces := #[]
  cf := some (fileOf pool2 1 #[] #[] 1537 3 #[] #[])
  fields := #[]
  methods := #[]
  instanceTypes := #[]
  staticTypes := #[]
  resolved := Array.replicate 7 none
  statics := none }

def pool3 : Array CpInfo := pool [(1, .class_ 2), (0, u "java/lang/Comparable"), (0, .class_ 4), (0, u "java/lang/Object")] 7

/-- java/lang/Comparable -/
def k3 : Class := { plain "java/lang/Comparable" (some 0) with
  accessFlags := 1537
  interfaces := #[]
  cf := some (fileOf pool3 1 #[] #[] 1537 3 #[] #[])
  fields := #[]
  methods := #[]
  instanceTypes := #[]
  staticTypes := #[]
  resolved := Array.replicate 12 none
  statics := none }

def pool4 : Array CpInfo := pool [(2, .class_ 4), (1, u "java/lang/CharSequence"), (42, .class_ 48), (0, u "java/lang/CharSequence$1CodePointIterator"), (10, .class_ 60), (0, u "java/lang/CharSequence$1CharIterator"), (5, .class_ 67), (0, u "java/lang/Object")] 63

/-- java/lang/CharSequence -/
def k4 : Class := { plain "java/lang/CharSequence" (some 0) with
  accessFlags := 1537
  interfaces := #[]
  cf := some (fileOf pool4 2 #[.nestMembers #[47, 59]] #[] 1537 66 #[] #[])
  fields := #[]
  methods := #[]
  instanceTypes := #[]
  staticTypes := #[]
  resolved := Array.replicate 131 none
  statics := none }

def pool5 : Array CpInfo := pool [(1, .class_ 2), (0, u "java/lang/constant/Constable"), (0, .class_ 4), (0, u "java/lang/Object")] 6

/-- java/lang/constant/Constable -/
def k5 : Class := { plain "java/lang/constant/Constable" (some 0) with
  accessFlags := 1537
  interfaces := #[]
  cf := some (fileOf pool5 1 #[] #[] 1537 3 #[] #[])
  fields := #[]
  methods := #[]
  instanceTypes := #[]
  staticTypes := #[]
  resolved := Array.replicate 11 none
  statics := none }

def pool6 : Array CpInfo := pool [(1, .class_ 2), (0, u "java/lang/constant/ConstantDesc"), (0, .class_ 4), (0, u "java/lang/Object")] 32

/-- java/lang/constant/ConstantDesc -/
def k6 : Class := { plain "java/lang/constant/ConstantDesc" (some 0) with
  accessFlags := 1537
  interfaces := #[]
  cf := some (fileOf pool6 1 #[] #[] 1537 3 #[] #[])
  fields := #[]
  methods := #[]
  instanceTypes := #[]
  staticTypes := #[]
  resolved := Array.replicate 37 none
  statics := none }

def pool7 : Array CpInfo := pool [(1, .methodref 2 3), (0, .class_ 4), (0, .nameAndType 5 6), (0, u "java/lang/Object"), (0, u "<init>"), (0, u "()V"), (2, .fieldref 10 11), (0, .class_ 12), (0, .nameAndType 13 14), (0, u "java/lang/String"), (0, u "value"), (0, u "[B"), (0, .fieldref 10 16), (0, .nameAndType 17 18), (0, u "coder"), (0, u "B"), (2, u "hash"), (0, u "I"), (2, u "hashIsZero"), (0, u "Z"), (11, .fieldref 10 39), (0, .nameAndType 40 26), (0, u "COMPACT_STRINGS"), (12, u "toBytes"), (53, .class_ 109), (1, u "java/lang/StringLatin1"), (99, .methodref 10 210), (0, .nameAndType 5 211), (0, u "([BB)V"), (157, u "(C)Z"), (205, .class_ 576), (0, u "java/lang/CharSequence"), (22, u "CASE_INSENSITIVE_ORDER"), (0, u "Ljava/util/Comparator;"), (181, u "valueOf"), (0, u "(C)Ljava/lang/String;"), (231, .methodref 107 1016), (0, .nameAndType 1017 369), (0, u "canEncode"), (0, .methodref 107 1019), (0, .nameAndType 53 1020), (0, u "(C)[B"), (80, u "serialPersistentFields"), (0, u "[Ljava/io/ObjectStreamField;"), (0, .class_ 1104), (0, u "java/lang/String$CaseInsensitiveComparator"), (1, .class_ 1107), (0, u "java/io/Serializable"), (0, .class_ 1109), (0, u "java/lang/Comparable"), (0, .class_ 1111), (0, u "java/lang/constant/Constable"), (0, .class_ 1113), (0, u "java/lang/constant/ConstantDesc"), (2, u "serialVersionUID"), (0, u "J"), (3, u "REPL"), (0, u "C"), (2, u "LATIN1"), (1, u "UTF16")] 323

def k7m0 : Method := { name := "<init>", desc := "()V", sig := { parameters := [], returnType := none }, accessFlags := 1, code := none }
def k7c1 : Code := { maxStack := 4, maxLocals := 1, code := jdk_42_method_139_code, exceptionTable := #[], attributes := #[] }
def k7m1 : Method := { name := "valueOf", desc := "(C)Ljava/lang/String;", sig := { parameters := [.char], returnType := some (.object "java/lang/String") }, accessFlags := 9, code := some k7c1 }
def k7c2 : Code := { maxStack := 2, maxLocals := 3, code := jdk_42_method_151_code, exceptionTable := #[], attributes := #[] }
def k7m2 : Method := { name := "<init>", desc := "([BB)V", sig := { parameters := [(.array .byte), .byte], returnType := none }, accessFlags := 0, code := some k7c2 }
/-- java/lang/String -/
def k7 : Class := { plain "java/lang/String" (some 0) with
  accessFlags := 49
  interfaces := #[2, 3, 4, 5, 6]
  cf := some (fileOf pool7 10 #[.nestMembers #[1103]] #[{ accessFlags := 1, nameIndex := 5, descriptorIndex := 6, attributes := #[] }, { accessFlags := 9, nameIndex := 782, descriptorIndex := 783, attributes := #[] }, { accessFlags := 0, nameIndex := 5, descriptorIndex := 211, attributes := #[] }] 49 2 #[1106, 1108, 575, 1110, 1112] #[{ accessFlags := 18, nameIndex := 13, descriptorIndex := 14, attributes := #[] }, { accessFlags := 18, nameIndex := 17, descriptorIndex := 18, attributes := #[] }, { accessFlags := 2, nameIndex := 21, descriptorIndex := 22, attributes := #[] }, { accessFlags := 2, nameIndex := 25, descriptorIndex := 26, attributes := #[] }, { accessFlags := 26, nameIndex := 1116, descriptorIndex := 1117, attributes := #[] }, { accessFlags := 24, nameIndex := 40, descriptorIndex := 26, attributes := #[] }, { accessFlags := 26, nameIndex := 1101, descriptorIndex := 1102, attributes := #[] }, { accessFlags := 26, nameIndex := 1121, descriptorIndex := 1122, attributes := #[] }, { accessFlags := 25, nameIndex := 599, descriptorIndex := 600, attributes := #[] }, { accessFlags := 24, nameIndex := 1125, descriptorIndex := 18, attributes := #[] }, { accessFlags := 24, nameIndex := 1127, descriptorIndex := 18, attributes := #[] }])
  fields := #[{ name := "value", type := (.array .byte), accessFlags := 18, slot := 0, constantValue := 0 }, { name := "coder", type := .byte, accessFlags := 18, slot := 1, constantValue := 0 }, { name := "hash", type := .int, accessFlags := 2, slot := 2, constantValue := 0 }, { name := "hashIsZero", type := .boolean, accessFlags := 2, slot := 3, constantValue := 0 }, { name := "serialVersionUID", type := .long, accessFlags := 26, slot := 0, constantValue := 0 }, { name := "COMPACT_STRINGS", type := .boolean, accessFlags := 24, slot := 1, constantValue := 0 }, { name := "serialPersistentFields", type := (.array (.object "java/io/ObjectStreamField")), accessFlags := 26, slot := 2, constantValue := 0 }, { name := "REPL", type := .char, accessFlags := 26, slot := 3, constantValue := 0 }, { name := "CASE_INSENSITIVE_ORDER", type := (.object "java/util/Comparator"), accessFlags := 25, slot := 4, constantValue := 0 }, { name := "LATIN1", type := .byte, accessFlags := 24, slot := 5, constantValue := 0 }, { name := "UTF16", type := .byte, accessFlags := 24, slot := 6, constantValue := 0 }]
  methods := #[k7m0, k7m1, k7m2]
  instanceTypes := #[(.array .byte), .byte, .int, .boolean]
  staticTypes := #[.long, .boolean, (.array (.object "java/io/ObjectStreamField")), .char, (.object "java/util/Comparator"), .byte, .byte]
  resolved := Array.replicate 1451 none
  statics := some 0 }

def pool8 : Array CpInfo := pool [(4, .class_ 6), (1, u "java/lang/Object"), (0, u "<init>"), (0, u "()V"), (5, .class_ 16), (1, u "java/lang/StringLatin1"), (73, u "canEncode"), (14, u "(C)Z"), (15, u "$assertionsDisabled"), (0, u "Z"), (98, .class_ 223), (1, u "java/lang/StringLatin1$LinesSpliterator"), (156, u "toBytes"), (1, u "(C)[B"), (7, .class_ 391), (0, u "java/lang/StringLatin1$CharsSpliterator")] 3

def k8m0 : Method := { name := "<init>", desc := "()V", sig := { parameters := [], returnType := none }, accessFlags := 0, code := none }
def k8c1 : Code := { maxStack := 2, maxLocals := 1, code := jdk_43_method_3_code, exceptionTable := #[], attributes := #[] }
def k8m1 : Method := { name := "canEncode", desc := "(C)Z", sig := { parameters := [.char], returnType := some .boolean }, accessFlags := 9, code := some k8c1 }
def k8c2 : Code := { maxStack := 4, maxLocals := 1, code := jdk_43_method_46_code, exceptionTable := #[], attributes := #[] }
def k8m2 : Method := { name := "toBytes", desc := "(C)[B", sig := { parameters := [.char], returnType := some (.array .byte) }, accessFlags := 9, code := some k8c2 }
/-- java/lang/StringLatin1 -/
def k8 : Class := { plain "java/lang/StringLatin1" (some 0) with
  accessFlags := 48
  interfaces := #[]
  cf := some (fileOf pool8 14 #[.nestMembers #[390, 221]] #[{ accessFlags := 0, nameIndex := 7, descriptorIndex := 8, attributes := #[] }, { accessFlags := 9, nameIndex := 90, descriptorIndex := 105, attributes := #[] }, { accessFlags := 9, nameIndex := 380, descriptorIndex := 382, attributes := #[] }] 48 4 #[] #[{ accessFlags := 4120, nameIndex := 121, descriptorIndex := 122, attributes := #[] }])
  fields := #[{ name := "$assertionsDisabled", type := .boolean, accessFlags := 4120, slot := 0, constantValue := 0 }]
  methods := #[k8m0, k8m1, k8m2]
  instanceTypes := #[]
  staticTypes := #[.boolean]
  resolved := Array.replicate 395 none
  statics := none }

def pool9 : Array CpInfo := pool [(1, .methodref 2 3), (0, .class_ 4), (0, .nameAndType 5 6), (0, u "java/lang/Object"), (0, u "<init>"), (0, u "()V"), (0, .class_ 8), (0, u "java/util/LinkedHashMap"), (0, .methodref 7 3), (0, .fieldref 11 12), (0, .class_ 13), (0, .nameAndType 14 15), (0, u "com/example/variloom/variloom/model/Variable"), (0, u "annotations"), (0, u "Ljava/util/Map;"), (0, .fieldref 11 17), (0, .nameAndType 18 19), (0, u "projectName"), (0, u "Ljava/lang/String;"), (0, .fieldref 11 21), (0, .nameAndType 22 19), (0, u "name"), (0, .fieldref 11 24), (0, .nameAndType 25 26), (0, u "type"), (0, u "Lcom/example/variloom/variloom/model/Type;"), (0, .fieldref 11 28), (0, .nameAndType 29 30), (0, u "location"), (0, u "Lcom/example/variloom/variloom/Location;"), (0, .fieldref 11 32), (0, .nameAndType 33 34), (0, u "constant"), (0, u "Z"), (52, u "(Ljava/lang/String;Ljava/lang/String;Lcom/example/variloom/variloom/model/Type;Lcom/example/variloom/variloom/Location;Z)V")] 29

def k9c0 : Code := { maxStack := 3, maxLocals := 6, code := prog_92_method_1_code, exceptionTable := #[], attributes := #[] }
def k9m0 : Method := { name := "<init>", desc := "(Ljava/lang/String;Ljava/lang/String;Lcom/example/variloom/variloom/model/Type;Lcom/example/variloom/variloom/Location;Z)V", sig := { parameters := [(.object "java/lang/String"), (.object "java/lang/String"), (.object "com/example/variloom/variloom/model/Type"), (.object "com/example/variloom/variloom/Location"), .boolean], returnType := none }, accessFlags := 1, code := some k9c0 }
/-- com/example/variloom/variloom/model/Variable -/
def k9 : Class := { plain "com/example/variloom/variloom/model/Variable" (some 0) with
  accessFlags := 49
  interfaces := #[]
  cf := some (fileOf pool9 11 #[] #[{ accessFlags := 1, nameIndex := 5, descriptorIndex := 87, attributes := #[] }] 49 2 #[] #[{ accessFlags := 18, nameIndex := 18, descriptorIndex := 19, attributes := #[] }, { accessFlags := 18, nameIndex := 22, descriptorIndex := 19, attributes := #[] }, { accessFlags := 18, nameIndex := 25, descriptorIndex := 26, attributes := #[] }, { accessFlags := 18, nameIndex := 29, descriptorIndex := 30, attributes := #[] }, { accessFlags := 18, nameIndex := 33, descriptorIndex := 34, attributes := #[] }, { accessFlags := 18, nameIndex := 14, descriptorIndex := 15, attributes := #[] }])
  fields := #[{ name := "projectName", type := (.object "java/lang/String"), accessFlags := 18, slot := 0, constantValue := 0 }, { name := "name", type := (.object "java/lang/String"), accessFlags := 18, slot := 1, constantValue := 0 }, { name := "type", type := (.object "com/example/variloom/variloom/model/Type"), accessFlags := 18, slot := 2, constantValue := 0 }, { name := "location", type := (.object "com/example/variloom/variloom/Location"), accessFlags := 18, slot := 3, constantValue := 0 }, { name := "constant", type := .boolean, accessFlags := 18, slot := 4, constantValue := 0 }, { name := "annotations", type := (.object "java/util/Map"), accessFlags := 18, slot := 5, constantValue := 0 }]
  methods := #[k9m0]
  instanceTypes := #[(.object "java/lang/String"), (.object "java/lang/String"), (.object "com/example/variloom/variloom/model/Type"), (.object "com/example/variloom/variloom/Location"), .boolean, (.object "java/util/Map")]
  staticTypes := #[]
  resolved := Array.replicate 117 none
  statics := none }

def pool10 : Array CpInfo := pool [(2, .class_ 4), (1, u "java/util/Map"), (31, .class_ 37), (0, u "java/util/Map$Entry"), (55, .class_ 94), (0, u "java/lang/Object")] 168

/-- java/util/Map -/
def k10 : Class := { plain "java/util/Map" (some 0) with
  accessFlags := 1537
  interfaces := #[]
  cf := some (fileOf pool10 2 #[.nestMembers #[36]] #[] 1537 93 #[] #[])
  fields := #[]
  methods := #[]
  instanceTypes := #[]
  staticTypes := #[]
  resolved := Array.replicate 263 none
  statics := none }

def pool11 : Array CpInfo := pool [(1, .methodref 2 3), (0, .class_ 4), (0, .nameAndType 5 6), (0, u "java/lang/Object"), (0, u "<init>"), (0, u "()V"), (1, .class_ 10), (1, u "java/util/AbstractMap"), (42, .class_ 54), (0, u "java/util/Map"), (9, u "keySet"), (0, u "Ljava/util/Set;"), (0, .class_ 67), (0, u "java/util/AbstractMap$1"), (5, u "values"), (0, u "Ljava/util/Collection;"), (0, .class_ 76), (0, u "java/util/AbstractMap$2"), (104, .class_ 182), (0, u "java/util/AbstractMap$ViewCollection"), (0, .class_ 184), (0, u "java/util/AbstractMap$SimpleImmutableEntry"), (0, .class_ 186), (0, u "java/util/AbstractMap$SimpleEntry"), (0, .class_ 188), (0, u "java/util/AbstractMap$2$1"), (0, .class_ 190), (0, u "java/util/AbstractMap$1$1")] 5

def k11c0 : Code := { maxStack := 1, maxLocals := 1, code := jdk_71_method_1_code, exceptionTable := #[], attributes := #[] }
def k11m0 : Method := { name := "<init>", desc := "()V", sig := { parameters := [], returnType := none }, accessFlags := 4, code := some k11c0 }
/-- java/util/AbstractMap -/
def k11 : Class := { plain "java/util/AbstractMap" (some 0) with
  accessFlags := 1057
  interfaces := #[10]
  cf := some (fileOf pool11 8 #[.nestMembers #[181, 183, 185, 75, 187, 66, 189]] #[{ accessFlags := 4, nameIndex := 5, descriptorIndex := 6, attributes := #[] }] 1057 2 #[53] #[{ accessFlags := 128, nameIndex := 64, descriptorIndex := 65, attributes := #[] }, { accessFlags := 128, nameIndex := 73, descriptorIndex := 74, attributes := #[] }])
  fields := #[{ name := "keySet", type := (.object "java/util/Set"), accessFlags := 128, slot := 0, constantValue := 0 }, { name := "values", type := (.object "java/util/Collection"), accessFlags := 128, slot := 1, constantValue := 0 }]
  methods := #[k11m0]
  instanceTypes := #[(.object "java/util/Set"), (.object "java/util/Collection")]
  staticTypes := #[]
  resolved := Array.replicate 196 none
  statics := none }

def pool12 : Array CpInfo := pool [(1, .class_ 2), (0, u "java/lang/Cloneable"), (0, .class_ 4), (0, u "java/lang/Object")] 2

/-- java/lang/Cloneable -/
def k12 : Class := { plain "java/lang/Cloneable" (some 0) with
  accessFlags := 1537
  interfaces := #[]
  cf := some (fileOf pool12 1 #[] #[] 1537 3 #[] #[])
  fields := #[]
  methods := #[]
  instanceTypes := #[]
  staticTypes := #[]
  resolved := Array.replicate 7 none
  statics := none }

def pool13 : Array CpInfo := pool [(40, .class_ 41), (0, u "java/util/HashMap"), (1, .methodref 44 45), (0, .class_ 46), (0, .nameAndType 47 48), (0, u "java/util/AbstractMap"), (0, u "<init>"), (0, u "()V"), (32, .fieldref 40 82), (0, .nameAndType 83 84), (0, u "loadFactor"), (0, u "F"), (5, u "threshold"), (0, u "I"), (0, .float 1061158912), (8, .class_ 103), (1, u "java/util/Map"), (0, u "size"), (2, u "table"), (0, u "[Ljava/util/HashMap$Node;"), (14, u "entrySet"), (39, .class_ 165), (1, u "java/util/HashMap$Node"), (14, .class_ 181), (0, u "java/util/HashMap$TreeNode"), (22, u "modCount"), (37, u "Ljava/util/Set;"), (0, .class_ 244), (0, u "java/util/HashMap$KeySet"), (18, .class_ 264), (0, u "java/util/HashMap$Values"), (3, .class_ 269), (0, u "java/util/HashMap$EntrySet"), (76, .class_ 348), (1, u "java/util/HashMap$UnsafeHolder"), (43, .class_ 393), (0, u "java/lang/Cloneable"), (0, .class_ 395), (0, u "java/io/Serializable"), (0, u "serialVersionUID"), (0, u "J"), (3, u "DEFAULT_INITIAL_CAPACITY"), (1, u "MAXIMUM_CAPACITY"), (0, u "DEFAULT_LOAD_FACTOR"), (0, u "TREEIFY_THRESHOLD"), (1, u "UNTREEIFY_THRESHOLD"), (1, u "MIN_TREEIFY_CAPACITY"), (186, .class_ 597), (0, u "java/util/HashMap$EntrySpliterator"), (0, .class_ 599), (0, u "java/util/HashMap$ValueSpliterator"), (0, .class_ 601), (0, u "java/util/HashMap$KeySpliterator"), (0, .class_ 603), (0, u "java/util/HashMap$HashMapSpliterator"), (0, .class_ 605), (0, u "java/util/HashMap$EntryIterator"), (0, .class_ 607), (0, u "java/util/HashMap$ValueIterator"), (0, .class_ 609), (0, u "java/util/HashMap$KeyIterator"), (0, .class_ 611), (0, u "java/util/HashMap$HashIterator")] 17

def k13c0 : Code := { maxStack := 2, maxLocals := 1, code := jdk_69_method_7_code, exceptionTable := #[], attributes := #[] }
def k13m0 : Method := { name := "<init>", desc := "()V", sig := { parameters := [], returnType := none }, accessFlags := 1, code := some k13c0 }
/-- java/util/HashMap -/
def k13 : Class := { plain "java/util/HashMap" (some 11) with
  accessFlags := 33
  interfaces := #[10, 12, 2]
  cf := some (fileOf pool13 40 #[.nestMembers #[180, 596, 598, 600, 602, 604, 606, 608, 610, 346, 268, 263, 243, 163]] #[{ accessFlags := 1, nameIndex := 47, descriptorIndex := 48, attributes := #[] }] 33 44 #[101, 392, 394] #[{ accessFlags := 26, nameIndex := 396, descriptorIndex := 397, attributes := #[] }, { accessFlags := 24, nameIndex := 401, descriptorIndex := 91, attributes := #[] }, { accessFlags := 24, nameIndex := 403, descriptorIndex := 91, attributes := #[] }, { accessFlags := 24, nameIndex := 404, descriptorIndex := 84, attributes := #[] }, { accessFlags := 24, nameIndex := 405, descriptorIndex := 91, attributes := #[] }, { accessFlags := 24, nameIndex := 407, descriptorIndex := 91, attributes := #[] }, { accessFlags := 24, nameIndex := 409, descriptorIndex := 91, attributes := #[] }, { accessFlags := 128, nameIndex := 107, descriptorIndex := 108, attributes := #[] }, { accessFlags := 128, nameIndex := 123, descriptorIndex := 242, attributes := #[] }, { accessFlags := 128, nameIndex := 104, descriptorIndex := 91, attributes := #[] }, { accessFlags := 128, nameIndex := 204, descriptorIndex := 91, attributes := #[] }, { accessFlags := 0, nameIndex := 90, descriptorIndex := 91, attributes := #[] }, { accessFlags := 16, nameIndex := 83, descriptorIndex := 84, attributes := #[] }])
  fields := #[{ name := "serialVersionUID", type := .long, accessFlags := 26, slot := 0, constantValue := 0 }, { name := "DEFAULT_INITIAL_CAPACITY", type := .int, accessFlags := 24, slot := 1, constantValue := 0 }, { name := "MAXIMUM_CAPACITY", type := .int, accessFlags := 24, slot := 2, constantValue := 0 }, { name := "DEFAULT_LOAD_FACTOR", type := .float, accessFlags := 24, slot := 3, constantValue := 0 }, { name := "TREEIFY_THRESHOLD", type := .int, accessFlags := 24, slot := 4, constantValue := 0 }, { name := "UNTREEIFY_THRESHOLD", type := .int, accessFlags := 24, slot := 5, constantValue := 0 }, { name := "MIN_TREEIFY_CAPACITY", type := .int, accessFlags := 24, slot := 6, constantValue := 0 }, { name := "table", type := (.array (.object "java/util/HashMap$Node")), accessFlags := 128, slot := 2, constantValue := 0 }, { name := "entrySet", type := (.object "java/util/Set"), accessFlags := 128, slot := 3, constantValue := 0 }, { name := "size", type := .int, accessFlags := 128, slot := 4, constantValue := 0 }, { name := "modCount", type := .int, accessFlags := 128, slot := 5, constantValue := 0 }, { name := "threshold", type := .int, accessFlags := 0, slot := 6, constantValue := 0 }, { name := "loadFactor", type := .float, accessFlags := 16, slot := 7, constantValue := 0 }]
  methods := #[k13m0]
  instanceTypes := #[(.object "java/util/Set"), (.object "java/util/Collection"), (.array (.object "java/util/HashMap$Node")), (.object "java/util/Set"), .int, .int, .int, .float]
  staticTypes := #[.long, .int, .int, .float, .int, .int, .int]
  resolved := Array.replicate 629 none
  statics := none }

def pool14 : Array CpInfo := pool [(2, .class_ 4), (1, u "java/util/SequencedMap"), (38, .class_ 44), (0, u "java/util/SequencedMap$1SeqKeySet"), (3, .class_ 49), (0, u "java/util/SequencedMap$1SeqValues"), (1, .class_ 52), (0, u "java/util/SequencedMap$1SeqEntrySet"), (1, .class_ 55), (0, u "java/lang/Object"), (0, .class_ 57), (0, u "java/util/Map")] 48

/-- java/util/SequencedMap -/
def k14 : Class := { plain "java/util/SequencedMap" (some 0) with
  accessFlags := 1537
  interfaces := #[10]
  cf := some (fileOf pool14 2 #[.nestMembers #[51, 48, 43]] #[] 1537 54 #[56] #[])
  fields := #[]
  methods := #[]
  instanceTypes := #[]
  staticTypes := #[]
  resolved := Array.replicate 106 none
  statics := none }

def pool15 : Array CpInfo := pool [(1, .fieldref 2 3), (0, .class_ 4), (0, .nameAndType 5 6), (0, u "java/util/LinkedHashMap"), (0, u "putMode"), (0, u "I"), (2, u "head"), (0, u "Ljava/util/LinkedHashMap$Entry;"), (2, u "tail"), (1, .class_ 17), (1, u "java/util/LinkedHashMap$Entry"), (5, .class_ 25), (1, u "java/util/HashMap"), (1, u "()V"), (2, u "<init>"), (33, .fieldref 2 65), (0, .nameAndType 66 67), (0, u "accessOrder"), (0, u "Z"), (19, .methodref 23 88), (0, .nameAndType 30 27), (32, .class_ 122), (0, u "java/util/LinkedHashMap$LinkedKeySet"), (20, .class_ 144), (0, u "java/util/LinkedHashMap$LinkedValues"), (9, .class_ 155), (0, u "java/util/LinkedHashMap$LinkedEntrySet"), (44, .class_ 201), (0, u "java/util/LinkedHashMap$ReversedLinkedHashMapView"), (3, .class_ 206), (0, u "java/util/SequencedMap"), (0, u "serialVersionUID"), (0, u "J"), (5, u "PUT_NORM"), (1, u "PUT_FIRST"), (1, u "PUT_LAST"), (143, .class_ 363), (0, u "java/util/LinkedHashMap$LinkedEntryIterator"), (0, .class_ 365), (0, u "java/util/LinkedHashMap$LinkedValueIterator"), (0, .class_ 367), (0, u "java/util/LinkedHashMap$LinkedKeyIterator"), (0, .class_ 369), (0, u "java/util/LinkedHashMap$LinkedHashIterator")] 16

def k15c0 : Code := { maxStack := 2, maxLocals := 1, code := jdk_94_method_16_code, exceptionTable := #[], attributes := #[] }
def k15m0 : Method := { name := "<init>", desc := "()V", sig := { parameters := [], returnType := none }, accessFlags := 1, code := some k15c0 }
/-- java/util/LinkedHashMap -/
def k15 : Class := { plain "java/util/LinkedHashMap" (some 13) with
  accessFlags := 33
  interfaces := #[14]
  cf := some (fileOf pool15 2 #[.nestMembers #[200, 362, 364, 366, 368, 154, 143, 121, 15]] #[{ accessFlags := 1, nameIndex := 30, descriptorIndex := 27, attributes := #[] }] 33 23 #[205] #[{ accessFlags := 26, nameIndex := 207, descriptorIndex := 208, attributes := #[] }, { accessFlags := 128, nameIndex := 9, descriptorIndex := 10, attributes := #[] }, { accessFlags := 128, nameIndex := 13, descriptorIndex := 10, attributes := #[] }, { accessFlags := 16, nameIndex := 66, descriptorIndex := 67, attributes := #[] }, { accessFlags := 24, nameIndex := 214, descriptorIndex := 6, attributes := #[] }, { accessFlags := 24, nameIndex := 216, descriptorIndex := 6, attributes := #[] }, { accessFlags := 24, nameIndex := 218, descriptorIndex := 6, attributes := #[] }, { accessFlags := 128, nameIndex := 5, descriptorIndex := 6, attributes := #[] }])
  fields := #[{ name := "serialVersionUID", type := .long, accessFlags := 26, slot := 0, constantValue := 0 }, { name := "head", type := (.object "java/util/LinkedHashMap$Entry"), accessFlags := 128, slot := 8, constantValue := 0 }, { name := "tail", type := (.object "java/util/LinkedHashMap$Entry"), accessFlags := 128, slot := 9, constantValue := 0 }, { name := "accessOrder", type := .boolean, accessFlags := 16, slot := 10, constantValue := 0 }, { name := "PUT_NORM", type := .int, accessFlags := 24, slot := 1, constantValue := 0 }, { name := "PUT_FIRST", type := .int, accessFlags := 24, slot := 2, constantValue := 0 }, { name := "PUT_LAST", type := .int, accessFlags := 24, slot := 3, constantValue := 0 }, { name := "putMode", type := .int, accessFlags := 128, slot := 11, constantValue := 0 }]
  methods := #[k15m0]
  instanceTypes := #[(.object "java/util/Set"), (.object "java/util/Collection"), (.array (.object "java/util/HashMap$Node")), (.object "java/util/Set"), .int, .int, .int, .float, (.object "java/util/LinkedHashMap$Entry"), (.object "java/util/LinkedHashMap$Entry"), .boolean, .int]
  staticTypes := #[.long, .int, .int, .int]
  resolved := Array.replicate 386 none
  statics := none }

def pool16 : Array CpInfo := pool [(1, .methodref 2 3), (0, .class_ 4), (0, .nameAndType 5 6), (0, u "java/lang/Object"), (0, u "<init>"), (0, u "()V"), (0, .fieldref 8 9), (0, .class_ 10), (0, .nameAndType 11 12), (0, u "com/example/variloom/variloom/model/Reference"), (0, u "variable"), (0, u "Lcom/example/variloom/variloom/model/Variable;"), (16, u "(Lcom/example/variloom/variloom/model/Variable;)V"), (3, u "equals"), (0, u "(Ljava/lang/Object;)Z")] 21

def k16c0 : Code := { maxStack := 2, maxLocals := 2, code := prog_74_method_1_code, exceptionTable := #[], attributes := #[] }
def k16m0 : Method := { name := "<init>", desc := "(Lcom/example/variloom/variloom/model/Variable;)V", sig := { parameters := [(.object "com/example/variloom/variloom/model/Variable")], returnType := none }, accessFlags := 1, code := some k16c0 }
def k16c1 : Code := { maxStack := 2, maxLocals := 3, code := prog_74_method_3_code, exceptionTable := #[], attributes := #[] }
def k16m1 : Method := { name := "equals", desc := "(Ljava/lang/Object;)Z", sig := { parameters := [(.object "java/lang/Object")], returnType := some .boolean }, accessFlags := 1, code := some k16c1 }
/-- com/example/variloom/variloom/model/Reference -/
def k16 : Class := { plain "com/example/variloom/variloom/model/Reference" (some 0) with
  accessFlags := 49
  interfaces := #[]
  cf := some (fileOf pool16 8 #[] #[{ accessFlags := 1, nameIndex := 5, descriptorIndex := 29, attributes := #[] }, { accessFlags := 1, nameIndex := 33, descriptorIndex := 34, attributes := #[] }] 49 2 #[] #[{ accessFlags := 18, nameIndex := 11, descriptorIndex := 12, attributes := #[] }])
  fields := #[{ name := "variable", type := (.object "com/example/variloom/variloom/model/Variable"), accessFlags := 18, slot := 0, constantValue := 0 }]
  methods := #[k16m0, k16m1]
  instanceTypes := #[(.object "com/example/variloom/variloom/model/Variable")]
  staticTypes := #[]
  resolved := Array.replicate 56 none
  statics := none }

def pool17 : Array CpInfo := pool [(2, .class_ 4), (1, u "java/lang/Object"), (0, u "<init>"), (0, u "()V"), (17, .class_ 26), (1, u "jdk/internal/util/Preconditions"), (28, .class_ 56), (0, u "jdk/internal/util/Preconditions$4"), (57, .class_ 115), (0, u "jdk/internal/util/Preconditions$1"), (7, u "SIOOBE_FORMATTER"), (0, u "Ljava/util/function/BiFunction;"), (0, .class_ 126), (0, u "jdk/internal/util/Preconditions$2"), (3, u "AIOOBE_FORMATTER"), (0, .class_ 132), (0, u "jdk/internal/util/Preconditions$3"), (3, u "IOOBE_FORMATTER")] 57

def k17m0 : Method := { name := "<init>", desc := "()V", sig := { parameters := [], returnType := none }, accessFlags := 1, code := none }
/-- jdk/internal/util/Preconditions -/
def k17 : Class := { plain "jdk/internal/util/Preconditions" (some 0) with
  accessFlags := 33
  interfaces := #[]
  cf := some (fileOf pool17 24 #[.nestMembers #[55, 131, 125, 114]] #[{ accessFlags := 1, nameIndex := 5, descriptorIndex := 6, attributes := #[] }] 33 2 #[] #[{ accessFlags := 25, nameIndex := 123, descriptorIndex := 124, attributes := #[] }, { accessFlags := 25, nameIndex := 130, descriptorIndex := 124, attributes := #[] }, { accessFlags := 25, nameIndex := 136, descriptorIndex := 124, attributes := #[] }])
  fields := #[{ name := "SIOOBE_FORMATTER", type := (.object "java/util/function/BiFunction"), accessFlags := 25, slot := 0, constantValue := 0 }, { name := "AIOOBE_FORMATTER", type := (.object "java/util/function/BiFunction"), accessFlags := 25, slot := 1, constantValue := 0 }, { name := "IOOBE_FORMATTER", type := (.object "java/util/function/BiFunction"), accessFlags := 25, slot := 2, constantValue := 0 }]
  methods := #[k17m0]
  instanceTypes := #[]
  staticTypes := #[(.object "java/util/function/BiFunction"), (.object "java/util/function/BiFunction"), (.object "java/util/function/BiFunction")]
  resolved := Array.replicate 194 none
  statics := some 1 }

def pool18 : Array CpInfo := pool [(9, u "<init>"), (6, .class_ 18), (1, u "java/lang/Object"), (0, u "()V"), (1, .class_ 23), (1, u "jdk/internal/util/ArraysSupport"), (0, u "LOG2_ARRAY_LONG_INDEX_SCALE"), (0, u "I"), (2, u "U"), (0, u "Ljdk/internal/misc/Unsafe;"), (8, u "BIG_ENDIAN"), (0, u "Z"), (8, u "LOG2_BYTE_BIT_SIZE"), (4, u "LOG2_ARRAY_INT_INDEX_SCALE"), (54, u "JLA"), (0, u "Ljdk/internal/access/JavaLangAccess;"), (11, u "LOG2_ARRAY_BOOLEAN_INDEX_SCALE"), (9, u "LOG2_ARRAY_BYTE_INDEX_SCALE"), (5, u "LOG2_ARRAY_CHAR_INDEX_SCALE"), (5, u "LOG2_ARRAY_SHORT_INDEX_SCALE"), (18, u "LOG2_ARRAY_FLOAT_INDEX_SCALE"), (24, u "LOG2_ARRAY_DOUBLE_INDEX_SCALE"), (89, u "T_BOOLEAN"), (2, u "T_CHAR"), (1, u "T_FLOAT"), (1, u "T_DOUBLE"), (1, u "T_BYTE"), (1, u "T_SHORT"), (1, u "T_INT"), (1, u "T_LONG"), (1, u "SOFT_MAX_ARRAY_LENGTH")] 83

def k18m0 : Method := { name := "<init>", desc := "()V", sig := { parameters := [], returnType := none }, accessFlags := 2, code := none }
/-- jdk/internal/util/ArraysSupport -/
def k18 : Class := { plain "jdk/internal/util/ArraysSupport" (some 0) with
  accessFlags := 33
  interfaces := #[]
  cf := some (fileOf pool18 21 #[] #[{ accessFlags := 2, nameIndex := 9, descriptorIndex := 19, attributes := #[] }] 33 16 #[] #[{ accessFlags := 24, nameIndex := 28, descriptorIndex := 29, attributes := #[] }, { accessFlags := 26, nameIndex := 38, descriptorIndex := 39, attributes := #[] }, { accessFlags := 25, nameIndex := 121, descriptorIndex := 25, attributes := #[] }, { accessFlags := 25, nameIndex := 131, descriptorIndex := 25, attributes := #[] }, { accessFlags := 25, nameIndex := 137, descriptorIndex := 25, attributes := #[] }, { accessFlags := 25, nameIndex := 143, descriptorIndex := 25, attributes := #[] }, { accessFlags := 25, nameIndex := 53, descriptorIndex := 25, attributes := #[] }, { accessFlags := 25, nameIndex := 24, descriptorIndex := 25, attributes := #[] }, { accessFlags := 25, nameIndex := 162, descriptorIndex := 25, attributes := #[] }, { accessFlags := 25, nameIndex := 187, descriptorIndex := 25, attributes := #[] }, { accessFlags := 26, nameIndex := 48, descriptorIndex := 25, attributes := #[] }, { accessFlags := 25, nameIndex := 277, descriptorIndex := 25, attributes := #[] }, { accessFlags := 25, nameIndex := 280, descriptorIndex := 25, attributes := #[] }, { accessFlags := 25, nameIndex := 282, descriptorIndex := 25, attributes := #[] }, { accessFlags := 25, nameIndex := 284, descriptorIndex := 25, attributes := #[] }, { accessFlags := 25, nameIndex := 286, descriptorIndex := 25, attributes := #[] }, { accessFlags := 25, nameIndex := 288, descriptorIndex := 25, attributes := #[] }, { accessFlags := 25, nameIndex := 290, descriptorIndex := 25, attributes := #[] }, { accessFlags := 25, nameIndex := 292, descriptorIndex := 25, attributes := #[] }, { accessFlags := 26, nameIndex := 108, descriptorIndex := 109, attributes := #[] }, { accessFlags := 25, nameIndex := 294, descriptorIndex := 25, attributes := #[] }])
  fields := #[{ name := "U", type := (.object "jdk/internal/misc/Unsafe"), accessFlags := 24, slot := 0, constantValue := 0 }, { name := "BIG_ENDIAN", type := .boolean, accessFlags := 26, slot := 1, constantValue := 0 }, { name := "LOG2_ARRAY_BOOLEAN_INDEX_SCALE", type := .int, accessFlags := 25, slot := 2, constantValue := 0 }, { name := "LOG2_ARRAY_BYTE_INDEX_SCALE", type := .int, accessFlags := 25, slot := 3, constantValue := 0 }, { name := "LOG2_ARRAY_CHAR_INDEX_SCALE", type := .int, accessFlags := 25, slot := 4, constantValue := 0 }, { name := "LOG2_ARRAY_SHORT_INDEX_SCALE", type := .int, accessFlags := 25, slot := 5, constantValue := 0 }, { name := "LOG2_ARRAY_INT_INDEX_SCALE", type := .int, accessFlags := 25, slot := 6, constantValue := 0 }, { name := "LOG2_ARRAY_LONG_INDEX_SCALE", type := .int, accessFlags := 25, slot := 7, constantValue := 0 }, { name := "LOG2_ARRAY_FLOAT_INDEX_SCALE", type := .int, accessFlags := 25, slot := 8, constantValue := 0 }, { name := "LOG2_ARRAY_DOUBLE_INDEX_SCALE", type := .int, accessFlags := 25, slot := 9, constantValue := 0 }, { name := "LOG2_BYTE_BIT_SIZE", type := .int, accessFlags := 26, slot := 10, constantValue := 0 }, { name := "T_BOOLEAN", type := .int, accessFlags := 25, slot := 11, constantValue := 0 }, { name := "T_CHAR", type := .int, accessFlags := 25, slot := 12, constantValue := 0 }, { name := "T_FLOAT", type := .int, accessFlags := 25, slot := 13, constantValue := 0 }, { name := "T_DOUBLE", type := .int, accessFlags := 25, slot := 14, constantValue := 0 }, { name := "T_BYTE", type := .int, accessFlags := 25, slot := 15, constantValue := 0 }, { name := "T_SHORT", type := .int, accessFlags := 25, slot := 16, constantValue := 0 }, { name := "T_INT", type := .int, accessFlags := 25, slot := 17, constantValue := 0 }, { name := "T_LONG", type := .int, accessFlags := 25, slot := 18, constantValue := 0 }, { name := "JLA", type := (.object "jdk/internal/access/JavaLangAccess"), accessFlags := 26, slot := 19, constantValue := 0 }, { name := "SOFT_MAX_ARRAY_LENGTH", type := .int, accessFlags := 25, slot := 20, constantValue := 0 }]
  methods := #[k18m0]
  instanceTypes := #[]
  staticTypes := #[(.object "jdk/internal/misc/Unsafe"), .boolean, .int, .int, .int, .int, .int, .int, .int, .int, .int, .int, .int, .int, .int, .int, .int, .int, .int, (.object "jdk/internal/access/JavaLangAccess"), .int]
  resolved := Array.replicate 378 none
  statics := none }

/-- the primitive byte -/
def k19 : Class := { plain "byte" none with kind := .primitive 'B', accessFlags := 0x411 }
/-- [B -/
def k20 : Class := { plain "[B" (some 0) with kind := .array 19 .byte, interfaces := #[12, 2], accessFlags := 1041 }

/-- the primitive int -/
def k21 : Class := { plain "int" none with kind := .primitive 'I', accessFlags := 0x411 }
/-- [I -/
def k22 : Class := { plain "[I" (some 0) with kind := .array 21 .int, interfaces := #[12, 2], accessFlags := 1041 }

def heap : Heap := #[{ cls := 7, slots := #[.long 0, .int 1, .null, .int 0, .null, .int 0, .int 0], vm := .statics 7 },
  { cls := 17, slots := #[.null, .null, .null], vm := .statics 17 }]
def classes : Array Class := #[k0, k1, k2, k3, k4, k5, k6, k7, k8, k9, k10, k11, k12, k13, k14, k15, k16, k17, k18, k19, k20, k21, k22]
def interned : List (Array UInt16 × Addr) := []
def slotsUsed : Nat := 10
def theMethod : MethodId := ⟨1, 3⟩
def args0 : Array Value := #[.int 5, .int 3, .int 65, .int 66]
def aboutOver (below : List Frame) : State where
  vm := { classes := classes, interned := interned.toArray }
  heap := heap
  slotsUsed := slotsUsed
  threads := #[{ frames := .invoking theMethod args0 :: below }]
def below0 : List Frame := [.native { method := ⟨0, 0⟩, args := #[] }]
def about1 : State := aboutOver below0
def p0 : Program := .bare "" "" ""
def e0 : Env := launch0.env 0 0 0
theorem w_frames : about1.frames = Frame.invoking theMethod args0 :: below0 := rfl
set_option maxRecDepth 65536 in
theorem w_args : argsFit about1.vm theMethod args0 = true := by decide +kernel
set_option maxRecDepth 65536 in
theorem w_heap : heapFits about1 = true := by decide +kernel
set_option maxRecDepth 65536 in
theorem w_runnable : about1.curStatus? = some .runnable := by decide +kernel
set_option maxRecDepth 65536 in
theorem w_alone : about1.alone = true := by decide +kernel
set_option maxRecDepth 65536 in
theorem w_named : about1.methodNamed? x = some theMethod := by decide +kernel
set_option maxRecDepth 65536 in
theorem w_hears : about1.hears theMethod below0 = true := by decide +kernel
set_option maxRecDepth 65536 in
theorem w_ripe : about1.ripe theMethod args0 below0 = true := by decide +kernel
theorem w_running : about1.status = .running := rfl
set_option maxRecDepth 65536 in
theorem w_room : about1.hasRoom e0.platform room_1 = true :=
  launch0.hasRoom_least _ room_1 (by decide +kernel) (by decide +kernel) (by decide +kernel) (by decide +kernel) (by decide +kernel) (by decide +kernel)
theorem allAtoms_all (ts : List Jvm.Cond) (a : Array Jvm.Value) (st : Jvm.State) : (allAtoms ts).before a st = ts.all (fun c => c.before a st) := by
  induction ts with
  | nil => rfl
  | cons c t ih =>
    show (Jvm.Cond.and c (allAtoms t)).before a st = _
    rw [Jvm.Cond.before_and, ih, List.all_cons]
def words1 : List Jvm.Cond := Jvm.Cond.code x code maxLocals ret :: tables_1
/-- a 'code' word, met by the world's own term for the bytes: nothing is compared byte by byte -/
theorem code_word {y : MethodName} {bytes : ByteArray} {mx : Nat} {rt : Option FieldType} {a : Array Value} {s : State} {m : MethodId} {meth : Method} {c : Code} (h1 : s.methodNamed? y = some m) (h2 : s.vm.method? m = some meth) (h3 : meth.code = some c) (h4 : c.code = bytes)
    (h5 : (c.maxLocals == mx && c.exceptionTable.isEmpty && decide (c.maxStack ≤ mostOperands) && decide (meth.sig.returnType = rt) && !meth.locks && decide (parseMethodDescriptor y.desc = some meth.sig)) = true) : (Jvm.Cond.code y bytes mx rt).before a s = true := by
  simp only [Bool.and_eq_true, beq_iff_eq, Bool.not_eq_true', decide_eq_true_eq] at h5
  obtain ⟨⟨⟨⟨⟨g1, g2⟩, g3⟩, g4⟩, g5⟩, g6⟩ := h5
  simp [Cond.before, Cond.holds, Cond.value, h1, h2, h3, h4, g1, g2, g3, g4, g5, g6]
def isCode : Jvm.Cond → Bool
  | .code _ _ _ _ => true
  | _ => false
theorem all_split {L : List Jvm.Cond} {P : Jvm.Cond → Bool} (h1 : L.all (fun c => isCode c || P c) = true) (h2 : ∀ c ∈ L.filter isCode, P c = true) : L.all P = true := by
  refine List.all_eq_true.mpr fun c hc => ?_
  have h := List.all_eq_true.mp h1 c hc
  rcases Bool.eq_false_or_eq_true (isCode c) with hi | hi
  · exact h2 c (List.mem_filter.mpr ⟨hc, hi⟩)
  · simpa [hi] using h
set_option maxRecDepth 65536 in
theorem w_c0 : (Jvm.Cond.code x code maxLocals ret).before args0 about1 = true := code_word (m := ⟨1, 3⟩) (meth := k1m3) (c := k1c3) (by decide +kernel) rfl rfl rfl (by decide +kernel)
set_option maxRecDepth 65536 in
theorem w_c1 : (Jvm.Cond.code ({ cls := "java/lang/String", name := "valueOf", desc := "(C)Ljava/lang/String;" } : Jvm.MethodName) jdk_42_method_139_code (1 : Nat) (Option.some (Jvm.ClassFile.FieldType.object "java/lang/String"))).before args0 about1 = true := code_word (m := ⟨7, 1⟩) (meth := k7m1) (c := k7c1) (by decide +kernel) rfl rfl rfl (by decide +kernel)
set_option maxRecDepth 65536 in
theorem w_c2 : (Jvm.Cond.code ({ cls := "java/lang/StringLatin1", name := "canEncode", desc := "(C)Z" } : Jvm.MethodName) jdk_43_method_3_code (1 : Nat) (Option.some Jvm.ClassFile.FieldType.boolean)).before args0 about1 = true := code_word (m := ⟨8, 1⟩) (meth := k8m1) (c := k8c1) (by decide +kernel) rfl rfl rfl (by decide +kernel)
set_option maxRecDepth 65536 in
theorem w_c3 : (Jvm.Cond.code ({ cls := "java/lang/StringLatin1", name := "toBytes", desc := "(C)[B" } : Jvm.MethodName) jdk_43_method_46_code (1 : Nat) (Option.some (Jvm.ClassFile.FieldType.array Jvm.ClassFile.FieldType.byte))).before args0 about1 = true := code_word (m := ⟨8, 2⟩) (meth := k8m2) (c := k8c2) (by decide +kernel) rfl rfl rfl (by decide +kernel)
set_option maxRecDepth 65536 in
theorem w_c4 : (Jvm.Cond.code ({ cls := "java/lang/String", name := "<init>", desc := "([BB)V" } : Jvm.MethodName) jdk_42_method_151_code (3 : Nat) (Option.none : Option Jvm.ClassFile.FieldType)).before args0 about1 = true := code_word (m := ⟨7, 2⟩) (meth := k7m2) (c := k7c2) (by decide +kernel) rfl rfl rfl (by decide +kernel)
set_option maxRecDepth 65536 in
theorem w_c5 : (Jvm.Cond.code ({ cls := "java/lang/Object", name := "<init>", desc := "()V" } : Jvm.MethodName) object_method_1_code (1 : Nat) (Option.none : Option Jvm.ClassFile.FieldType)).before args0 about1 = true := code_word (m := ⟨0, 0⟩) (meth := k0m0) (c := k0c0) (by decide +kernel) rfl rfl rfl (by decide +kernel)
set_option maxRecDepth 65536 in
theorem w_c6 : (Jvm.Cond.code ({ cls := "com/example/variloom/variloom/model/Variable", name := "<init>", desc := "(Ljava/lang/String;Ljava/lang/String;Lcom/example/variloom/variloom/model/Type;Lcom/example/variloom/variloom/Location;Z)V" } : Jvm.MethodName) prog_92_method_1_code (6 : Nat) (Option.none : Option Jvm.ClassFile.FieldType)).before args0 about1 = true := code_word (m := ⟨9, 0⟩) (meth := k9m0) (c := k9c0) (by decide +kernel) rfl rfl rfl (by decide +kernel)
set_option maxRecDepth 65536 in
theorem w_c7 : (Jvm.Cond.code ({ cls := "java/util/LinkedHashMap", name := "<init>", desc := "()V" } : Jvm.MethodName) jdk_94_method_16_code (1 : Nat) (Option.none : Option Jvm.ClassFile.FieldType)).before args0 about1 = true := code_word (m := ⟨15, 0⟩) (meth := k15m0) (c := k15c0) (by decide +kernel) rfl rfl rfl (by decide +kernel)
set_option maxRecDepth 65536 in
theorem w_c8 : (Jvm.Cond.code ({ cls := "java/util/HashMap", name := "<init>", desc := "()V" } : Jvm.MethodName) jdk_69_method_7_code (1 : Nat) (Option.none : Option Jvm.ClassFile.FieldType)).before args0 about1 = true := code_word (m := ⟨13, 0⟩) (meth := k13m0) (c := k13c0) (by decide +kernel) rfl rfl rfl (by decide +kernel)
set_option maxRecDepth 65536 in
theorem w_c9 : (Jvm.Cond.code ({ cls := "java/util/AbstractMap", name := "<init>", desc := "()V" } : Jvm.MethodName) jdk_71_method_1_code (1 : Nat) (Option.none : Option Jvm.ClassFile.FieldType)).before args0 about1 = true := code_word (m := ⟨11, 0⟩) (meth := k11m0) (c := k11c0) (by decide +kernel) rfl rfl rfl (by decide +kernel)
set_option maxRecDepth 65536 in
theorem w_c10 : (Jvm.Cond.code ({ cls := "com/example/variloom/variloom/model/ReferenceEqualsPinLaw", name := "pick", desc := "(ILcom/example/variloom/variloom/model/Variable;Lcom/example/variloom/variloom/model/Variable;)Lcom/example/variloom/variloom/model/Variable;" } : Jvm.MethodName) method_2_code (4 : Nat) (Option.some (Jvm.ClassFile.FieldType.object "com/example/variloom/variloom/model/Variable"))).before args0 about1 = true := code_word (m := ⟨1, 1⟩) (meth := k1m1) (c := k1c1) (by decide +kernel) rfl rfl rfl (by decide +kernel)
set_option maxRecDepth 65536 in
theorem w_c11 : (Jvm.Cond.code ({ cls := "com/example/variloom/variloom/model/Reference", name := "<init>", desc := "(Lcom/example/variloom/variloom/model/Variable;)V" } : Jvm.MethodName) prog_74_method_1_code (2 : Nat) (Option.none : Option Jvm.ClassFile.FieldType)).before args0 about1 = true := code_word (m := ⟨16, 0⟩) (meth := k16m0) (c := k16c0) (by decide +kernel) rfl rfl rfl (by decide +kernel)
set_option maxRecDepth 65536 in
theorem w_c12 : (Jvm.Cond.code ({ cls := "com/example/variloom/variloom/model/ReferenceEqualsPinLaw", name := "kind", desc := "(I)I" } : Jvm.MethodName) method_3_code (2 : Nat) (Option.some Jvm.ClassFile.FieldType.int)).before args0 about1 = true := code_word (m := ⟨1, 2⟩) (meth := k1m2) (c := k1c2) (by decide +kernel) rfl rfl rfl (by decide +kernel)
set_option maxRecDepth 65536 in
theorem w_c13 : (Jvm.Cond.code ({ cls := "com/example/variloom/variloom/model/Reference", name := "equals", desc := "(Ljava/lang/Object;)Z" } : Jvm.MethodName) prog_74_method_3_code (3 : Nat) (Option.some Jvm.ClassFile.FieldType.boolean)).before args0 about1 = true := code_word (m := ⟨16, 1⟩) (meth := k16m1) (c := k16c1) (by decide +kernel) rfl rfl rfl (by decide +kernel)
def codes1 : List Jvm.Cond := [Jvm.Cond.code x code maxLocals ret, Jvm.Cond.code ({ cls := "java/lang/String", name := "valueOf", desc := "(C)Ljava/lang/String;" } : Jvm.MethodName) jdk_42_method_139_code (1 : Nat) (Option.some (Jvm.ClassFile.FieldType.object "java/lang/String")), Jvm.Cond.code ({ cls := "java/lang/StringLatin1", name := "canEncode", desc := "(C)Z" } : Jvm.MethodName) jdk_43_method_3_code (1 : Nat) (Option.some Jvm.ClassFile.FieldType.boolean), Jvm.Cond.code ({ cls := "java/lang/StringLatin1", name := "toBytes", desc := "(C)[B" } : Jvm.MethodName) jdk_43_method_46_code (1 : Nat) (Option.some (Jvm.ClassFile.FieldType.array Jvm.ClassFile.FieldType.byte)), Jvm.Cond.code ({ cls := "java/lang/String", name := "<init>", desc := "([BB)V" } : Jvm.MethodName) jdk_42_method_151_code (3 : Nat) (Option.none : Option Jvm.ClassFile.FieldType), Jvm.Cond.code ({ cls := "java/lang/Object", name := "<init>", desc := "()V" } : Jvm.MethodName) object_method_1_code (1 : Nat) (Option.none : Option Jvm.ClassFile.FieldType), Jvm.Cond.code ({ cls := "com/example/variloom/variloom/model/Variable", name := "<init>", desc := "(Ljava/lang/String;Ljava/lang/String;Lcom/example/variloom/variloom/model/Type;Lcom/example/variloom/variloom/Location;Z)V" } : Jvm.MethodName) prog_92_method_1_code (6 : Nat) (Option.none : Option Jvm.ClassFile.FieldType), Jvm.Cond.code ({ cls := "java/util/LinkedHashMap", name := "<init>", desc := "()V" } : Jvm.MethodName) jdk_94_method_16_code (1 : Nat) (Option.none : Option Jvm.ClassFile.FieldType), Jvm.Cond.code ({ cls := "java/util/HashMap", name := "<init>", desc := "()V" } : Jvm.MethodName) jdk_69_method_7_code (1 : Nat) (Option.none : Option Jvm.ClassFile.FieldType), Jvm.Cond.code ({ cls := "java/util/AbstractMap", name := "<init>", desc := "()V" } : Jvm.MethodName) jdk_71_method_1_code (1 : Nat) (Option.none : Option Jvm.ClassFile.FieldType), Jvm.Cond.code ({ cls := "com/example/variloom/variloom/model/ReferenceEqualsPinLaw", name := "pick", desc := "(ILcom/example/variloom/variloom/model/Variable;Lcom/example/variloom/variloom/model/Variable;)Lcom/example/variloom/variloom/model/Variable;" } : Jvm.MethodName) method_2_code (4 : Nat) (Option.some (Jvm.ClassFile.FieldType.object "com/example/variloom/variloom/model/Variable")), Jvm.Cond.code ({ cls := "com/example/variloom/variloom/model/Reference", name := "<init>", desc := "(Lcom/example/variloom/variloom/model/Variable;)V" } : Jvm.MethodName) prog_74_method_1_code (2 : Nat) (Option.none : Option Jvm.ClassFile.FieldType), Jvm.Cond.code ({ cls := "com/example/variloom/variloom/model/ReferenceEqualsPinLaw", name := "kind", desc := "(I)I" } : Jvm.MethodName) method_3_code (2 : Nat) (Option.some Jvm.ClassFile.FieldType.int), Jvm.Cond.code ({ cls := "com/example/variloom/variloom/model/Reference", name := "equals", desc := "(Ljava/lang/Object;)Z" } : Jvm.MethodName) prog_74_method_3_code (3 : Nat) (Option.some Jvm.ClassFile.FieldType.boolean)]
set_option maxRecDepth 65536 in
theorem codes_eq : words1.filter isCode = codes1 := rfl
theorem w_codes : ∀ c ∈ words1.filter isCode, c.before args0 about1 = true := by
  rw [codes_eq]
  intro c hc
  simp only [codes1, List.mem_cons, List.not_mem_nil, or_false] at hc
  rcases hc with rfl | rfl | rfl | rfl | rfl | rfl | rfl | rfl | rfl | rfl | rfl | rfl | rfl | rfl
  · exact w_c0
  · exact w_c1
  · exact w_c2
  · exact w_c3
  · exact w_c4
  · exact w_c5
  · exact w_c6
  · exact w_c7
  · exact w_c8
  · exact w_c9
  · exact w_c10
  · exact w_c11
  · exact w_c12
  · exact w_c13
set_option maxRecDepth 65536 in
theorem w_t1 : (words1.take 24).all (fun c => isCode c || c.before args0 about1) = true := by decide +kernel
set_option maxRecDepth 65536 in
theorem w_t2 : ((words1.drop 24).take 24).all (fun c => isCode c || c.before args0 about1) = true := by decide +kernel
set_option maxRecDepth 65536 in
theorem w_t3 : (((words1.drop 24).drop 24).take 24).all (fun c => isCode c || c.before args0 about1) = true := by decide +kernel
set_option maxRecDepth 65536 in
theorem w_t4 : ((((words1.drop 24).drop 24).drop 24).take 24).all (fun c => isCode c || c.before args0 about1) = true := by decide +kernel
set_option maxRecDepth 65536 in
theorem w_t5 : ((((words1.drop 24).drop 24).drop 24).drop 24).all (fun c => isCode c || c.before args0 about1) = true := by decide +kernel
theorem w_tables : (allAtoms (Jvm.Cond.code x code maxLocals ret :: tables_1)).before args0 about1 = true := by
  rw [allAtoms_all]
  show words1.all (fun c => c.before args0 about1) = true
  refine all_split ?_ w_codes
  rw [← List.take_append_drop 24 words1, List.all_append, w_t1, ← List.take_append_drop 24 (words1.drop 24), List.all_append, w_t2, ← List.take_append_drop 24 ((words1.drop 24).drop 24), List.all_append, w_t3, ← List.take_append_drop 24 (((words1.drop 24).drop 24).drop 24), List.all_append, w_t4, w_t5]
  rfl
set_option maxRecDepth 65536 in
theorem w_rest : rest_1_c.before args0 about1 = true := by decide +kernel
set_option maxRecDepth 65536 in
theorem w_case : (Jvm.Cond.and given_1 narrow_1).before args0 about1 = true := by decide +kernel
theorem w_applies : (headSpec (Jvm.Cond.code x code maxLocals ret :: tables_1) room_1).applies x e0.platform about1 = true :=
  (Spec.applies_iff w_frames).mpr ⟨w_running, w_runnable, w_alone, w_named, w_hears, w_ripe, w_room, w_tables⟩
theorem atStart : AtStart classFile x code maxLocals ret World_1 tables_1 room_1 Calls_1 rest_1 Pre_1 launch0 p0 e0 about1 theMethod args0 below0 :=
  ⟨lists_1, trivial, launch0.admits_env _ _ _, launch0.least_env, fairChoices_fair.cas, fairChoices_fair.clock, w_frames, w_args, w_heap, w_applies, trivial, w_rest, w_case⟩
end start1
theorem witness_1 : WitnessClaimed_1 := ⟨start1.p0, start1.e0, start1.about1, start1.theMethod, start1.args0, start1.below0, start1.atStart⟩
end Jvm.Pilot.@@N@@
