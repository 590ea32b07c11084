import JvmDerived
import JvmDerived.Pilot.@@N@@Statement
import JvmDerived.Pilot.@@N@@Code
set_option linter.unusedVariables false
set_option linter.unusedSimpArgs false
namespace Jvm.Pilot.@@N@@
open Jvm Jvm.ClassFile Sem Op Lib Jvm.Free Jvm.Stand Jvm.LawKit Jvm.RoadKit Bundle Jvm.Pilot.@@N@@.Jvm.D
/-- from here the run comes to a return, and Q holds of what it returns, of the heap and of the places written -/
def own_Go (p : Program) (e : Env) (below : List Frame) (s : State) (kc ks : Nat) (Q : Option Value → Heap → List Loc → Prop) (T : State) (g : JFrame) : Prop :=
  ∃ s₂ o, Steps p.tables e below (T.setTop g) s₂ ∧ s₂.status = .running ∧ Ended s₂ below o ∧ ∃ v L, o = .returned v ∧ Q v s₂.heap L ∧ FrameEnd s o s₂ L kc ks
theorem own_step {p : Program} {e : Env} {below : List Frame} {s : State} {kc ks : Nat} {Q : Option Value → Heap → List Loc → Prop} {T T' : State} {g g' : JFrame}
    (h : ∀ t, Steps p.tables e below (T'.setTop g') t → Steps p.tables e below (T.setTop g) t) (k : own_Go p e below s kc ks Q T' g') : own_Go p e below s kc ks Q T g := by
  obtain ⟨s₂, o, h1, r⟩ := k
  exact ⟨s₂, o, h _ h1, r⟩
section Own
variable {p : Program} {l : Launch} {e : Env} {R : Room} {s : State} {m : MethodId} {args : Array Value} {below : List Frame} {meth : Method} {c : Code} {T : State} {locs : List Loc} {cells slots kc ks : Nat} {Q : Option Value → Heap → List Loc → Prop}
theorem own_ret (X : Stand p l e R s m args below meth c T locs cells slots) (hx : p.tables.exec = Jvm.exec) (hlk : meth.locks = false) {pc : Nat} {Ls : Array Slot} {w : Value} {t : FieldType} {i : Instr} {rest : List Value} (hret : meth.sig.returnType = some t) (hn : narrow t w = w)
    (hi : (i = .ireturn ∧ (t = .int ∨ t = .boolean ∨ t = .byte ∨ t = .char ∨ t = .short) ∧ ∃ z, w = .int z) ∨ (i = .lreturn ∧ t = .long ∧ ∃ z, w = .long z) ∨ (i = .dreturn ∧ t = .double ∧ ∃ z, w = .double z) ∨ (i = .freturn ∧ t = .float ∧ ∃ z, w = .float z) ∨ (i = .areturn ∧ t.isReference = true ∧ w.isRef = true))
    (hd : decode c.code pc = .ok (i, 1)) (hc : cells ≤ kc) (hs : slots ≤ ks) (hQ : Q (some w) T.heap locs) : own_Go p e below s kc ks Q T (mkF m pc Ls (w :: rest)) := by
  obtain ⟨fs, hr, hrun, hended, hW, hsame⟩ := X.leave (v := some w) (fun h => by rw [hret] at h; cases h) hlk
  exact ⟨_, _, retOut X hx hret hn hi hd hr, hrun, hended, _, _, rfl, hQ, ⟨_, rfl⟩, hW, hsame.mono hc hs⟩
theorem own_retV (X : Stand p l e R s m args below meth c T locs cells slots) (hx : p.tables.exec = Jvm.exec) (hlk : meth.locks = false) {pc : Nat} {Ls : Array Slot} (hret : meth.sig.returnType = none)
    (hd : decode c.code pc = .ok (.return_, 1)) (hc : cells ≤ kc) (hs : slots ≤ ks) (hQ : Q none T.heap locs) : own_Go p e below s kc ks Q T (mkF m pc Ls []) := by
  obtain ⟨fs, hr, hrun, hended, hW, hsame⟩ := X.leave (v := none) (fun _ => rfl) hlk
  exact ⟨_, _, X.returnOut hx hret hd hr, hrun, hended, _, _, rfl, hQ, ⟨_, rfl⟩, hW, hsame.mono hc hs⟩
theorem own_narZ {z : Int32} (hz : z = 0 ∨ z = 1) : narrow .boolean (.int z) = .int z := by rcases hz with rfl | rfl <;> rfl
end Own
/-- an int array of n places, each an int -/
def own_Ints (Z : State) (h : Heap) (a : Addr) (n : Nat) : Prop := ∃ cl : Cell, Arr Z h a cl .int ∧ cl.slots.size = n ∧ ∀ i, i < n → ∃ z : Int32, cl.slots[i]? = some (.int z)
theorem own_ints_new {Z : State} {h : Heap} {a : Addr} {k : ClassId} {z : Int32} {n : Nat} (A : Arr Z h a (newA k .int z) .int) (hn : z.toNatClampNeg = n) : own_Ints Z h a n := by
  refine ⟨_, A, (sz_new _ _ _).trans hn, fun i hi => ⟨0, ?_⟩⟩
  subst hn
  simp [newA, hi, defaultValue]
theorem own_ints_set {Z : State} {h h' : Heap} {a : Addr} {n j : Nat} {x : Int32} (I : own_Ints Z h a n) (W : Wr h h' a j (.int x)) : own_Ints Z h' a n := by
  obtain ⟨cl, A, S, H⟩ := I
  refine ⟨_, A.same W, (sz_set _ _ _).trans S, fun i hi => ?_⟩
  by_cases q : i = j
  · subst q
    refine ⟨x, ?_⟩
    simp [Cell.setSlot, S, hi]
  · obtain ⟨z, hz⟩ := H i hi
    refine ⟨z, ?_⟩
    rw [← hz]
    exact Array.getElem?_setIfInBounds_ne (fun e => q e.symm)
theorem own_in {j : Int32} {n : Nat} (h0 : 0 ≤ j.toInt) (h1 : j.toInt < n) : ¬ (j < 0 ∨ n ≤ j.toNatClampNeg) := by
  simp only [Int32.lt_iff_toInt_lt, Int32.toNatClampNeg, Int32.reduceToInt]; omega
section OwnArr
variable {p : Program} {l : Launch} {e : Env} {R : Room} {s : State} {m : MethodId} {args : Array Value} {below : List Frame} {meth : Method} {c : Code} {T : State} {locs : List Loc} {cells slots : Nat} {Z : State} {h : Heap}
theorem own_stI (X : Stand p l e R s m args below meth c T locs cells slots) (hx : p.tables.exec = Jvm.exec) (hZ : Z.Warmed39 s.vm) (eT : T.heap = h) {a : Addr} {n : Nat} (I : own_Ints Z h a n) {j x : Int32} (hj : ¬ (j < 0 ∨ n ≤ j.toNatClampNeg)) {g : JFrame} (hg : g.method = m) {rest : List Value} (hs : g.stack = .int x :: .int j :: .ref a :: rest) (hd : decode c.code g.pc = .ok (.iastore, 1)) :
    ∃ T' h', Stand p l e R s m args below meth c T' (locs ++ [⟨a, j.toNatClampNeg⟩]) cells slots ∧ T'.heap = h' ∧ Wr h h' a j.toNatClampNeg (.int x) ∧ own_Ints Z h' a n ∧ ∀ target, Steps p.tables e below (T'.setTop { g with pc := g.pc + 1, stack := rest }) target → Steps p.tables e below (T.setTop g) target := by
  have I' := I
  obtain ⟨cl, A, S, H⟩ := I
  obtain ⟨T', h', X', e', W, st⟩ := stI X hx hZ eT A (j := j) (x := x) (by rw [S]; exact hj) hg hs hd
  exact ⟨T', h', X', e', W, own_ints_set I' W, st⟩
theorem own_ldI (X : Stand p l e R s m args below meth c T locs cells slots) (hx : p.tables.exec = Jvm.exec) (hZ : Z.Warmed39 s.vm) (eT : T.heap = h) {a : Addr} {n : Nat} (I : own_Ints Z h a n) {j : Int32} (hj : ¬ (j < 0 ∨ n ≤ j.toNatClampNeg)) {g : JFrame} (hg : g.method = m) {rest : List Value} (hs : g.stack = .int j :: .ref a :: rest) (hd : decode c.code g.pc = .ok (.iaload, 1)) :
    ∃ z : Int32, ∀ target, Steps p.tables e below (T.setTop { g with pc := g.pc + 1, stack := .int z :: rest }) target → Steps p.tables e below (T.setTop g) target := by
  obtain ⟨cl, A, S, H⟩ := I
  obtain ⟨z, hz⟩ := H j.toNatClampNeg (Nat.lt_of_not_le fun q => hj (Or.inr q))
  exact ⟨z, fun t k => X.iaload hx (by rw [eT]; exact A.1) (State.isArrayOf_alike hZ.alike A.2.1) A.2.2 (by rw [S]; exact hj) hz hg hs hd t k⟩
theorem own_len (X : Stand p l e R s m args below meth c T locs cells slots) (hx : p.tables.exec = Jvm.exec) (hZ : Z.Warmed39 s.vm) (eT : T.heap = h) {a : Addr} {n : Nat} (I : own_Ints Z h a n) {k : Int32} (hk : n.toInt32 = k) {g : JFrame} (hg : g.method = m) {rest : List Value} (hs : g.stack = .ref a :: rest) (hd : decode c.code g.pc = .ok (.arraylength, 1)) :
    ∀ target, Steps p.tables e below (T.setTop { g with pc := g.pc + 1, stack := .int k :: rest }) target → Steps p.tables e below (T.setTop g) target := by
  obtain ⟨cl, A, S, H⟩ := I
  exact fun t q => X.lengthOf hx (by rw [eT]; exact A.1) (State.isArrayOf_alike hZ.alike A.2.1) (by rw [S]; exact hk) hg hs hd t q
end OwnArr
def own_vC (c : Int32) : Int32 := if c.toInt = 9 ∨ c.toInt = 10 ∨ c.toInt = 13 ∨ (32 ≤ c.toInt ∧ c.toInt ≤ 55295) ∨ (57344 ≤ c.toInt ∧ c.toInt ≤ 65533) ∨ (65536 ≤ c.toInt ∧ c.toInt ≤ 1114111) then 1 else 0
theorem own_idx (p : Int32) : ¬ ((p.toUInt32 >>> ((1 : Int32) &&& 31).toUInt32).toInt32 % 13 < 0 ∨ 13 ≤ ((p.toUInt32 >>> ((1 : Int32) &&& 31).toUInt32).toInt32 % 13).toNatClampNeg) := by
  have h := c_iushr p 1 1 (by decide) (by decide)
  have r := rng32 p
  have q : 0 ≤ ((p.toUInt32 >>> ((1 : Int32) &&& 31).toUInt32).toInt32).toInt := by rw [h]; omega
  have k := (c_irem ((p.toUInt32 >>> ((1 : Int32) &&& 31).toUInt32).toInt32) 13 13 (by decide)).1 q
  exact own_in (by rw [k]; omega) (by rw [k]; omega)
theorem d1_0 : decode prog_9_method_3_code 0 = .ok (.iload_n 0, 1) := by decide +kernel
theorem d1_1 : decode prog_9_method_3_code 1 = .ok (.bipush 32, 2) := by decide +kernel
theorem d1_3 : decode prog_9_method_3_code 3 = .ok (.if_icmp .ge 27, 3) := by decide +kernel
theorem d1_6 : decode prog_9_method_3_code 6 = .ok (.iload_n 0, 1) := by decide +kernel
theorem d1_7 : decode prog_9_method_3_code 7 = .ok (.bipush 9, 2) := by decide +kernel
theorem d1_9 : decode prog_9_method_3_code 9 = .ok (.if_icmp .eq 15, 3) := by decide +kernel
theorem d1_12 : decode prog_9_method_3_code 12 = .ok (.iload_n 0, 1) := by decide +kernel
theorem d1_13 : decode prog_9_method_3_code 13 = .ok (.bipush 10, 2) := by decide +kernel
theorem d1_15 : decode prog_9_method_3_code 15 = .ok (.if_icmp .eq 9, 3) := by decide +kernel
theorem d1_18 : decode prog_9_method_3_code 18 = .ok (.iload_n 0, 1) := by decide +kernel
theorem d1_19 : decode prog_9_method_3_code 19 = .ok (.bipush 13, 2) := by decide +kernel
theorem d1_21 : decode prog_9_method_3_code 21 = .ok (.if_icmp .ne 7, 3) := by decide +kernel
theorem d1_24 : decode prog_9_method_3_code 24 = .ok (.iconst 1, 1) := by decide +kernel
theorem d1_25 : decode prog_9_method_3_code 25 = .ok (.goto 4, 3) := by decide +kernel
theorem d1_28 : decode prog_9_method_3_code 28 = .ok (.iconst 0, 1) := by decide +kernel
theorem d1_29 : decode prog_9_method_3_code 29 = .ok (.ireturn, 1) := by decide +kernel
theorem d1_30 : decode prog_9_method_3_code 30 = .ok (.iload_n 0, 1) := by decide +kernel
theorem d1_31 : decode prog_9_method_3_code 31 = .ok (.ldc 9, 2) := by decide +kernel
theorem d1_33 : decode prog_9_method_3_code 33 = .ok (.if_icmp .le 27, 3) := by decide +kernel
theorem d1_36 : decode prog_9_method_3_code 36 = .ok (.iload_n 0, 1) := by decide +kernel
theorem d1_37 : decode prog_9_method_3_code 37 = .ok (.ldc 10, 2) := by decide +kernel
theorem d1_39 : decode prog_9_method_3_code 39 = .ok (.if_icmp .lt 9, 3) := by decide +kernel
theorem d1_42 : decode prog_9_method_3_code 42 = .ok (.iload_n 0, 1) := by decide +kernel
theorem d1_43 : decode prog_9_method_3_code 43 = .ok (.ldc 11, 2) := by decide +kernel
theorem d1_45 : decode prog_9_method_3_code 45 = .ok (.if_icmp .le 15, 3) := by decide +kernel
theorem d1_48 : decode prog_9_method_3_code 48 = .ok (.iload_n 0, 1) := by decide +kernel
theorem d1_49 : decode prog_9_method_3_code 49 = .ok (.ldc 12, 2) := by decide +kernel
theorem d1_51 : decode prog_9_method_3_code 51 = .ok (.if_icmp .lt 13, 3) := by decide +kernel
theorem d1_54 : decode prog_9_method_3_code 54 = .ok (.iload_n 0, 1) := by decide +kernel
theorem d1_55 : decode prog_9_method_3_code 55 = .ok (.ldc 13, 2) := by decide +kernel
theorem d1_57 : decode prog_9_method_3_code 57 = .ok (.if_icmp .gt 7, 3) := by decide +kernel
theorem d1_60 : decode prog_9_method_3_code 60 = .ok (.iconst 1, 1) := by decide +kernel
theorem d1_61 : decode prog_9_method_3_code 61 = .ok (.goto 4, 3) := by decide +kernel
theorem d1_64 : decode prog_9_method_3_code 64 = .ok (.iconst 0, 1) := by decide +kernel
theorem d1_65 : decode prog_9_method_3_code 65 = .ok (.ireturn, 1) := by decide +kernel
theorem own_pn1 : plainName "com/example/xylem/xylem/XmlChars" = true := by first | (simp [plainName, overriddenIn]; done) | decide +kernel
theorem own_ef1 (m : MethodId) (x0 : Int32) : entryFrame m #[(.int x0)] 1 = mkF m 0 #[.val (.int x0)] [] := by first | (simp [entryFrame, mkF, argsToLocals, Value.category]; done) | rfl
def own_Q1 (Z : State) (p1 : Int32) (h0 : Heap) (n0 : Nat) (v : Option Value) (h : Heap) (L : List Loc) : Prop := v = some (.int (own_vC p1)) ∧ Fr n0 L ∧ h = h0
set_option maxRecDepth 65536 in
set_option maxHeartbeats 40000000 in
theorem own_rm1 (l : Launch) (Z : State) (a0 : Array Value) (hw : ∀ d ∈ tables_1, d.before a0 Z = true) (ws : List Jvm.Cond) (p1 : Int32) (h0 : Heap) (n0 : Nat) (Z0 : n0 ≤ h0.size)  :
    MetFree l (⟨"com/example/xylem/xylem/XmlChars", "isChar", "(I)Z"⟩ : MethodName) (head1 (Jvm.Cond.code (⟨"com/example/xylem/xylem/XmlChars", "isChar", "(I)Z"⟩ : MethodName) prog_9_method_3_code 1 (some .boolean) :: ws) ({ frames := 0, cells := 0, slots := 0, locals := 0 } : Room)) (fun a U => a = #[(.int p1)] ∧ Z.Warmed39 U.vm ∧ U.heap = h0) (fun _ _ _ _ _ => True) (fun _ U o U' => ∃ v L, o = .returned v ∧ own_Q1 Z p1 h0 n0 v U'.heap L ∧ FrameEnd U o U' L ({ frames := 0, cells := 0, slots := 0, locals := 0 } : Room).cells ({ frames := 0, cells := 0, slots := 0, locals := 0 } : Room).slots) := by
  refine MetFree.of_bodySF (plainFor_of_name own_pn1) hisR ?_
  intro p e s m args below meth c s₁ Bd hml0 hP hK
  obtain ⟨rfl, hZ, hh⟩ := hP
  have hx := Bd.exec
  have hby := Bd.bytes
  have hml : c.maxLocals = 1 := hml0
  have hlk : meth.locks = false := BodyLoose.notSynchronized Bd
  have hown : s.vm.findClass "com/example/xylem/xylem/XmlChars" = some m.cls := findClass_of_methodNamed Bd.named
  have hnm := (name_of_methodNamed Bd.named Bd.method).1
  have X0 : Stand p l e ({ frames := 0, cells := 0, slots := 0, locals := 0 } : Room) s m #[(.int p1)] below meth c s₁ [] 0 0 := Stand.of_body Bd
  have e0 : s₁.heap = h0 := by rw [← hh, Bd.state]; rfl
  have N0 := Fr.nil n0
  show own_Go p e below s ({ frames := 0, cells := 0, slots := 0, locals := 0 } : Room).cells ({ frames := 0, cells := 0, slots := 0, locals := 0 } : Room).slots (own_Q1 Z p1 h0 n0) s₁ (entryFrame m #[(.int p1)] 1)
  refine own_step (fun t k => castTop (own_ef1 m p1) k) ?_
  show own_Go _ _ _ _ _ _ _ s₁ (mkF m 0 #[.val (.int p1)] [])
  refine own_step (fun t k => XS.iloadN X0.here hx rfl (hb hby d1_0) rfl k) ?_
  show own_Go _ _ _ _ _ _ _ s₁ (mkF m 1 #[.val (.int p1)] [(.int p1)])
  refine own_step (fun t k => XS.bipush X0.here hx rfl (hb hby d1_1) k) ?_
  rcases Classical.em (p1 < (32 : Int32)) with c3_1 | c3_1
  · show own_Go _ _ _ _ _ _ _ s₁ (mkF m 3 #[.val (.int p1)] [(.int (32 : Int32)), (.int p1)])
    refine own_step (fun t k => XS.icmpNo X0.here hx rfl (hb hby d1_3) rfl (tlt (c3_1)).2.1 k) ?_
    show own_Go _ _ _ _ _ _ _ s₁ (mkF m 6 #[.val (.int p1)] [])
    refine own_step (fun t k => XS.iloadN X0.here hx rfl (hb hby d1_6) rfl k) ?_
    show own_Go _ _ _ _ _ _ _ s₁ (mkF m 7 #[.val (.int p1)] [(.int p1)])
    refine own_step (fun t k => XS.bipush X0.here hx rfl (hb hby d1_7) k) ?_
    rcases Classical.em (p1 = (9 : Int32)) with c9_2 | c9_2
    · show own_Go _ _ _ _ _ _ _ s₁ (mkF m 9 #[.val (.int p1)] [(.int (9 : Int32)), (.int p1)])
      refine own_step (fun t k => XS.icmpYes X0.here hx rfl (pc0 := 9) (pc' := 24) rfl (hb hby d1_9) rfl (teq (c9_2)).1 (by decide) (by decide) k) ?_
      show own_Go _ _ _ _ _ _ _ s₁ (mkF m 24 #[.val (.int p1)] [])
      refine own_step (fun t k => XS.iconst X0.here hx rfl (hb hby d1_24) k) ?_
      show own_Go _ _ _ _ _ _ _ s₁ (mkF m 25 #[.val (.int p1)] [(.int (1 : Int32))])
      refine own_step (fun t k => XS.goto X0.here hx rfl (pc0 := 25) (pc' := 29) rfl (hb hby d1_25) (by decide) (by decide) k) ?_
      simp only [Int32.lt_iff_toInt_lt, ← Int32.toInt_inj, Int32.reduceToInt] at c3_1 c9_2
      show own_Go _ _ _ _ _ _ _ s₁ (mkF m 29 #[.val (.int p1)] [(.int (1 : Int32))])
      refine own_ret X0 hx hlk Bd.returns rfl (Or.inl ⟨rfl, Or.inr (Or.inl rfl), _, rfl⟩) (hb hby d1_29) (by decide) (by decide) ?_
      show own_Q1 Z p1 h0 n0 (some (.int (1 : Int32))) s₁.heap _
      rw [e0]
      exact ⟨by rw [own_vC, if_pos (by omega)], N0, rfl⟩
    · show own_Go _ _ _ _ _ _ _ s₁ (mkF m 9 #[.val (.int p1)] [(.int (9 : Int32)), (.int p1)])
      refine own_step (fun t k => XS.icmpNo X0.here hx rfl (hb hby d1_9) rfl (feq (c9_2)).1 k) ?_
      show own_Go _ _ _ _ _ _ _ s₁ (mkF m 12 #[.val (.int p1)] [])
      refine own_step (fun t k => XS.iloadN X0.here hx rfl (hb hby d1_12) rfl k) ?_
      show own_Go _ _ _ _ _ _ _ s₁ (mkF m 13 #[.val (.int p1)] [(.int p1)])
      refine own_step (fun t k => XS.bipush X0.here hx rfl (hb hby d1_13) k) ?_
      rcases Classical.em (p1 = (10 : Int32)) with c15_3 | c15_3
      · show own_Go _ _ _ _ _ _ _ s₁ (mkF m 15 #[.val (.int p1)] [(.int (10 : Int32)), (.int p1)])
        refine own_step (fun t k => XS.icmpYes X0.here hx rfl (pc0 := 15) (pc' := 24) rfl (hb hby d1_15) rfl (teq (c15_3)).1 (by decide) (by decide) k) ?_
        show own_Go _ _ _ _ _ _ _ s₁ (mkF m 24 #[.val (.int p1)] [])
        refine own_step (fun t k => XS.iconst X0.here hx rfl (hb hby d1_24) k) ?_
        show own_Go _ _ _ _ _ _ _ s₁ (mkF m 25 #[.val (.int p1)] [(.int (1 : Int32))])
        refine own_step (fun t k => XS.goto X0.here hx rfl (pc0 := 25) (pc' := 29) rfl (hb hby d1_25) (by decide) (by decide) k) ?_
        simp only [Int32.lt_iff_toInt_lt, ← Int32.toInt_inj, Int32.reduceToInt] at c3_1 c9_2 c15_3
        show own_Go _ _ _ _ _ _ _ s₁ (mkF m 29 #[.val (.int p1)] [(.int (1 : Int32))])
        refine own_ret X0 hx hlk Bd.returns rfl (Or.inl ⟨rfl, Or.inr (Or.inl rfl), _, rfl⟩) (hb hby d1_29) (by decide) (by decide) ?_
        show own_Q1 Z p1 h0 n0 (some (.int (1 : Int32))) s₁.heap _
        rw [e0]
        exact ⟨by rw [own_vC, if_pos (by omega)], N0, rfl⟩
      · show own_Go _ _ _ _ _ _ _ s₁ (mkF m 15 #[.val (.int p1)] [(.int (10 : Int32)), (.int p1)])
        refine own_step (fun t k => XS.icmpNo X0.here hx rfl (hb hby d1_15) rfl (feq (c15_3)).1 k) ?_
        show own_Go _ _ _ _ _ _ _ s₁ (mkF m 18 #[.val (.int p1)] [])
        refine own_step (fun t k => XS.iloadN X0.here hx rfl (hb hby d1_18) rfl k) ?_
        show own_Go _ _ _ _ _ _ _ s₁ (mkF m 19 #[.val (.int p1)] [(.int p1)])
        refine own_step (fun t k => XS.bipush X0.here hx rfl (hb hby d1_19) k) ?_
        rcases Classical.em (p1 = (13 : Int32)) with c21_4 | c21_4
        · show own_Go _ _ _ _ _ _ _ s₁ (mkF m 21 #[.val (.int p1)] [(.int (13 : Int32)), (.int p1)])
          refine own_step (fun t k => XS.icmpNo X0.here hx rfl (hb hby d1_21) rfl (teq (c21_4)).2 k) ?_
          show own_Go _ _ _ _ _ _ _ s₁ (mkF m 24 #[.val (.int p1)] [])
          refine own_step (fun t k => XS.iconst X0.here hx rfl (hb hby d1_24) k) ?_
          show own_Go _ _ _ _ _ _ _ s₁ (mkF m 25 #[.val (.int p1)] [(.int (1 : Int32))])
          refine own_step (fun t k => XS.goto X0.here hx rfl (pc0 := 25) (pc' := 29) rfl (hb hby d1_25) (by decide) (by decide) k) ?_
          simp only [Int32.lt_iff_toInt_lt, ← Int32.toInt_inj, Int32.reduceToInt] at c3_1 c9_2 c15_3 c21_4
          show own_Go _ _ _ _ _ _ _ s₁ (mkF m 29 #[.val (.int p1)] [(.int (1 : Int32))])
          refine own_ret X0 hx hlk Bd.returns rfl (Or.inl ⟨rfl, Or.inr (Or.inl rfl), _, rfl⟩) (hb hby d1_29) (by decide) (by decide) ?_
          show own_Q1 Z p1 h0 n0 (some (.int (1 : Int32))) s₁.heap _
          rw [e0]
          exact ⟨by rw [own_vC, if_pos (by omega)], N0, rfl⟩
        · show own_Go _ _ _ _ _ _ _ s₁ (mkF m 21 #[.val (.int p1)] [(.int (13 : Int32)), (.int p1)])
          refine own_step (fun t k => XS.icmpYes X0.here hx rfl (pc0 := 21) (pc' := 28) rfl (hb hby d1_21) rfl (feq (c21_4)).2 (by decide) (by decide) k) ?_
          show own_Go _ _ _ _ _ _ _ s₁ (mkF m 28 #[.val (.int p1)] [])
          refine own_step (fun t k => XS.iconst X0.here hx rfl (hb hby d1_28) k) ?_
          simp only [Int32.lt_iff_toInt_lt, ← Int32.toInt_inj, Int32.reduceToInt] at c3_1 c9_2 c15_3 c21_4
          show own_Go _ _ _ _ _ _ _ s₁ (mkF m 29 #[.val (.int p1)] [(.int (0 : Int32))])
          refine own_ret X0 hx hlk Bd.returns rfl (Or.inl ⟨rfl, Or.inr (Or.inl rfl), _, rfl⟩) (hb hby d1_29) (by decide) (by decide) ?_
          show own_Q1 Z p1 h0 n0 (some (.int (0 : Int32))) s₁.heap _
          rw [e0]
          exact ⟨by rw [own_vC, if_neg (by omega)], N0, rfl⟩
  · show own_Go _ _ _ _ _ _ _ s₁ (mkF m 3 #[.val (.int p1)] [(.int (32 : Int32)), (.int p1)])
    refine own_step (fun t k => XS.icmpYes X0.here hx rfl (pc0 := 3) (pc' := 30) rfl (hb hby d1_3) rfl (flt (c3_1)).2.1 (by decide) (by decide) k) ?_
    show own_Go _ _ _ _ _ _ _ s₁ (mkF m 30 #[.val (.int p1)] [])
    refine own_step (fun t k => XS.iloadN X0.here hx rfl (hb hby d1_30) rfl k) ?_
    show own_Go _ _ _ _ _ _ _ s₁ (mkF m 31 #[.val (.int p1)] [(.int p1)])
    refine own_step (fun t k => X0.ldcInt hx hown (mvT hZ (hw _ (List.mem_of_getElem? (i := 18) rfl))) (g := (mkF m 31 #[.val (.int p1)] [(.int p1)])) rfl (hb hby d1_31) t k) ?_
    rcases Classical.em ((55295 : Int32) < p1) with c33_5 | c33_5
    · show own_Go _ _ _ _ _ _ _ s₁ (mkF m 33 #[.val (.int p1)] [(.int (55295 : Int32)), (.int p1)])
      refine own_step (fun t k => XS.icmpNo X0.here hx rfl (hb hby d1_33) rfl (tlt (c33_5)).2.2.2 k) ?_
      show own_Go _ _ _ _ _ _ _ s₁ (mkF m 36 #[.val (.int p1)] [])
      refine own_step (fun t k => XS.iloadN X0.here hx rfl (hb hby d1_36) rfl k) ?_
      show own_Go _ _ _ _ _ _ _ s₁ (mkF m 37 #[.val (.int p1)] [(.int p1)])
      refine own_step (fun t k => X0.ldcInt hx hown (mvT hZ (hw _ (List.mem_of_getElem? (i := 21) rfl))) (g := (mkF m 37 #[.val (.int p1)] [(.int p1)])) rfl (hb hby d1_37) t k) ?_
      rcases Classical.em (p1 < (57344 : Int32)) with c39_6 | c39_6
      · show own_Go _ _ _ _ _ _ _ s₁ (mkF m 39 #[.val (.int p1)] [(.int (57344 : Int32)), (.int p1)])
        refine own_step (fun t k => XS.icmpYes X0.here hx rfl (pc0 := 39) (pc' := 48) rfl (hb hby d1_39) rfl (tlt (c39_6)).1 (by decide) (by decide) k) ?_
        show own_Go _ _ _ _ _ _ _ s₁ (mkF m 48 #[.val (.int p1)] [])
        refine own_step (fun t k => XS.iloadN X0.here hx rfl (hb hby d1_48) rfl k) ?_
        show own_Go _ _ _ _ _ _ _ s₁ (mkF m 49 #[.val (.int p1)] [(.int p1)])
        refine own_step (fun t k => X0.ldcInt hx hown (mvT hZ (hw _ (List.mem_of_getElem? (i := 23) rfl))) (g := (mkF m 49 #[.val (.int p1)] [(.int p1)])) rfl (hb hby d1_49) t k) ?_
        rcases Classical.em (p1 < (65536 : Int32)) with c51_7 | c51_7
        · show own_Go _ _ _ _ _ _ _ s₁ (mkF m 51 #[.val (.int p1)] [(.int (65536 : Int32)), (.int p1)])
          refine own_step (fun t k => XS.icmpYes X0.here hx rfl (pc0 := 51) (pc' := 64) rfl (hb hby d1_51) rfl (tlt (c51_7)).1 (by decide) (by decide) k) ?_
          show own_Go _ _ _ _ _ _ _ s₁ (mkF m 64 #[.val (.int p1)] [])
          refine own_step (fun t k => XS.iconst X0.here hx rfl (hb hby d1_64) k) ?_
          simp only [Int32.lt_iff_toInt_lt, ← Int32.toInt_inj, Int32.reduceToInt] at c3_1 c33_5 c39_6 c51_7
          show own_Go _ _ _ _ _ _ _ s₁ (mkF m 65 #[.val (.int p1)] [(.int (0 : Int32))])
          refine own_ret X0 hx hlk Bd.returns rfl (Or.inl ⟨rfl, Or.inr (Or.inl rfl), _, rfl⟩) (hb hby d1_65) (by decide) (by decide) ?_
          show own_Q1 Z p1 h0 n0 (some (.int (0 : Int32))) s₁.heap _
          rw [e0]
          exact ⟨by rw [own_vC, if_neg (by omega)], N0, rfl⟩
        · show own_Go _ _ _ _ _ _ _ s₁ (mkF m 51 #[.val (.int p1)] [(.int (65536 : Int32)), (.int p1)])
          refine own_step (fun t k => XS.icmpNo X0.here hx rfl (hb hby d1_51) rfl (flt (c51_7)).1 k) ?_
          show own_Go _ _ _ _ _ _ _ s₁ (mkF m 54 #[.val (.int p1)] [])
          refine own_step (fun t k => XS.iloadN X0.here hx rfl (hb hby d1_54) rfl k) ?_
          show own_Go _ _ _ _ _ _ _ s₁ (mkF m 55 #[.val (.int p1)] [(.int p1)])
          refine own_step (fun t k => X0.ldcInt hx hown (mvT hZ (hw _ (List.mem_of_getElem? (i := 24) rfl))) (g := (mkF m 55 #[.val (.int p1)] [(.int p1)])) rfl (hb hby d1_55) t k) ?_
          rcases Classical.em ((1114111 : Int32) < p1) with c57_8 | c57_8
          · show own_Go _ _ _ _ _ _ _ s₁ (mkF m 57 #[.val (.int p1)] [(.int (1114111 : Int32)), (.int p1)])
            refine own_step (fun t k => XS.icmpYes X0.here hx rfl (pc0 := 57) (pc' := 64) rfl (hb hby d1_57) rfl (tlt (c57_8)).2.2.1 (by decide) (by decide) k) ?_
            show own_Go _ _ _ _ _ _ _ s₁ (mkF m 64 #[.val (.int p1)] [])
            refine own_step (fun t k => XS.iconst X0.here hx rfl (hb hby d1_64) k) ?_
            simp only [Int32.lt_iff_toInt_lt, ← Int32.toInt_inj, Int32.reduceToInt] at c3_1 c33_5 c39_6 c51_7 c57_8
            show own_Go _ _ _ _ _ _ _ s₁ (mkF m 65 #[.val (.int p1)] [(.int (0 : Int32))])
            refine own_ret X0 hx hlk Bd.returns rfl (Or.inl ⟨rfl, Or.inr (Or.inl rfl), _, rfl⟩) (hb hby d1_65) (by decide) (by decide) ?_
            show own_Q1 Z p1 h0 n0 (some (.int (0 : Int32))) s₁.heap _
            rw [e0]
            exact ⟨by rw [own_vC, if_neg (by omega)], N0, rfl⟩
          · show own_Go _ _ _ _ _ _ _ s₁ (mkF m 57 #[.val (.int p1)] [(.int (1114111 : Int32)), (.int p1)])
            refine own_step (fun t k => XS.icmpNo X0.here hx rfl (hb hby d1_57) rfl (flt (c57_8)).2.2.1 k) ?_
            show own_Go _ _ _ _ _ _ _ s₁ (mkF m 60 #[.val (.int p1)] [])
            refine own_step (fun t k => XS.iconst X0.here hx rfl (hb hby d1_60) k) ?_
            show own_Go _ _ _ _ _ _ _ s₁ (mkF m 61 #[.val (.int p1)] [(.int (1 : Int32))])
            refine own_step (fun t k => XS.goto X0.here hx rfl (pc0 := 61) (pc' := 65) rfl (hb hby d1_61) (by decide) (by decide) k) ?_
            simp only [Int32.lt_iff_toInt_lt, ← Int32.toInt_inj, Int32.reduceToInt] at c3_1 c33_5 c39_6 c51_7 c57_8
            show own_Go _ _ _ _ _ _ _ s₁ (mkF m 65 #[.val (.int p1)] [(.int (1 : Int32))])
            refine own_ret X0 hx hlk Bd.returns rfl (Or.inl ⟨rfl, Or.inr (Or.inl rfl), _, rfl⟩) (hb hby d1_65) (by decide) (by decide) ?_
            show own_Q1 Z p1 h0 n0 (some (.int (1 : Int32))) s₁.heap _
            rw [e0]
            exact ⟨by rw [own_vC, if_pos (by omega)], N0, rfl⟩
      · show own_Go _ _ _ _ _ _ _ s₁ (mkF m 39 #[.val (.int p1)] [(.int (57344 : Int32)), (.int p1)])
        refine own_step (fun t k => XS.icmpNo X0.here hx rfl (hb hby d1_39) rfl (flt (c39_6)).1 k) ?_
        show own_Go _ _ _ _ _ _ _ s₁ (mkF m 42 #[.val (.int p1)] [])
        refine own_step (fun t k => XS.iloadN X0.here hx rfl (hb hby d1_42) rfl k) ?_
        show own_Go _ _ _ _ _ _ _ s₁ (mkF m 43 #[.val (.int p1)] [(.int p1)])
        refine own_step (fun t k => X0.ldcInt hx hown (mvT hZ (hw _ (List.mem_of_getElem? (i := 22) rfl))) (g := (mkF m 43 #[.val (.int p1)] [(.int p1)])) rfl (hb hby d1_43) t k) ?_
        rcases Classical.em ((65533 : Int32) < p1) with c45_9 | c45_9
        · show own_Go _ _ _ _ _ _ _ s₁ (mkF m 45 #[.val (.int p1)] [(.int (65533 : Int32)), (.int p1)])
          refine own_step (fun t k => XS.icmpNo X0.here hx rfl (hb hby d1_45) rfl (tlt (c45_9)).2.2.2 k) ?_
          show own_Go _ _ _ _ _ _ _ s₁ (mkF m 48 #[.val (.int p1)] [])
          refine own_step (fun t k => XS.iloadN X0.here hx rfl (hb hby d1_48) rfl k) ?_
          show own_Go _ _ _ _ _ _ _ s₁ (mkF m 49 #[.val (.int p1)] [(.int p1)])
          refine own_step (fun t k => X0.ldcInt hx hown (mvT hZ (hw _ (List.mem_of_getElem? (i := 23) rfl))) (g := (mkF m 49 #[.val (.int p1)] [(.int p1)])) rfl (hb hby d1_49) t k) ?_
          rcases Classical.em (p1 < (65536 : Int32)) with c51_10 | c51_10
          · show own_Go _ _ _ _ _ _ _ s₁ (mkF m 51 #[.val (.int p1)] [(.int (65536 : Int32)), (.int p1)])
            refine own_step (fun t k => XS.icmpYes X0.here hx rfl (pc0 := 51) (pc' := 64) rfl (hb hby d1_51) rfl (tlt (c51_10)).1 (by decide) (by decide) k) ?_
            show own_Go _ _ _ _ _ _ _ s₁ (mkF m 64 #[.val (.int p1)] [])
            refine own_step (fun t k => XS.iconst X0.here hx rfl (hb hby d1_64) k) ?_
            simp only [Int32.lt_iff_toInt_lt, ← Int32.toInt_inj, Int32.reduceToInt] at c3_1 c33_5 c39_6 c45_9 c51_10
            show own_Go _ _ _ _ _ _ _ s₁ (mkF m 65 #[.val (.int p1)] [(.int (0 : Int32))])
            refine own_ret X0 hx hlk Bd.returns rfl (Or.inl ⟨rfl, Or.inr (Or.inl rfl), _, rfl⟩) (hb hby d1_65) (by decide) (by decide) ?_
            show own_Q1 Z p1 h0 n0 (some (.int (0 : Int32))) s₁.heap _
            rw [e0]
            exact ⟨by rw [own_vC, if_neg (by omega)], N0, rfl⟩
          · show own_Go _ _ _ _ _ _ _ s₁ (mkF m 51 #[.val (.int p1)] [(.int (65536 : Int32)), (.int p1)])
            refine own_step (fun t k => XS.icmpNo X0.here hx rfl (hb hby d1_51) rfl (flt (c51_10)).1 k) ?_
            show own_Go _ _ _ _ _ _ _ s₁ (mkF m 54 #[.val (.int p1)] [])
            refine own_step (fun t k => XS.iloadN X0.here hx rfl (hb hby d1_54) rfl k) ?_
            show own_Go _ _ _ _ _ _ _ s₁ (mkF m 55 #[.val (.int p1)] [(.int p1)])
            refine own_step (fun t k => X0.ldcInt hx hown (mvT hZ (hw _ (List.mem_of_getElem? (i := 24) rfl))) (g := (mkF m 55 #[.val (.int p1)] [(.int p1)])) rfl (hb hby d1_55) t k) ?_
            rcases Classical.em ((1114111 : Int32) < p1) with c57_11 | c57_11
            · show own_Go _ _ _ _ _ _ _ s₁ (mkF m 57 #[.val (.int p1)] [(.int (1114111 : Int32)), (.int p1)])
              refine own_step (fun t k => XS.icmpYes X0.here hx rfl (pc0 := 57) (pc' := 64) rfl (hb hby d1_57) rfl (tlt (c57_11)).2.2.1 (by decide) (by decide) k) ?_
              show own_Go _ _ _ _ _ _ _ s₁ (mkF m 64 #[.val (.int p1)] [])
              refine own_step (fun t k => XS.iconst X0.here hx rfl (hb hby d1_64) k) ?_
              simp only [Int32.lt_iff_toInt_lt, ← Int32.toInt_inj, Int32.reduceToInt] at c3_1 c33_5 c39_6 c45_9 c51_10 c57_11
              show own_Go _ _ _ _ _ _ _ s₁ (mkF m 65 #[.val (.int p1)] [(.int (0 : Int32))])
              refine own_ret X0 hx hlk Bd.returns rfl (Or.inl ⟨rfl, Or.inr (Or.inl rfl), _, rfl⟩) (hb hby d1_65) (by decide) (by decide) ?_
              show own_Q1 Z p1 h0 n0 (some (.int (0 : Int32))) s₁.heap _
              rw [e0]
              exact ⟨by rw [own_vC, if_neg (by omega)], N0, rfl⟩
            · show own_Go _ _ _ _ _ _ _ s₁ (mkF m 57 #[.val (.int p1)] [(.int (1114111 : Int32)), (.int p1)])
              refine own_step (fun t k => XS.icmpNo X0.here hx rfl (hb hby d1_57) rfl (flt (c57_11)).2.2.1 k) ?_
              show own_Go _ _ _ _ _ _ _ s₁ (mkF m 60 #[.val (.int p1)] [])
              refine own_step (fun t k => XS.iconst X0.here hx rfl (hb hby d1_60) k) ?_
              show own_Go _ _ _ _ _ _ _ s₁ (mkF m 61 #[.val (.int p1)] [(.int (1 : Int32))])
              refine own_step (fun t k => XS.goto X0.here hx rfl (pc0 := 61) (pc' := 65) rfl (hb hby d1_61) (by decide) (by decide) k) ?_
              simp only [Int32.lt_iff_toInt_lt, ← Int32.toInt_inj, Int32.reduceToInt] at c3_1 c33_5 c39_6 c45_9 c51_10 c57_11
              show own_Go _ _ _ _ _ _ _ s₁ (mkF m 65 #[.val (.int p1)] [(.int (1 : Int32))])
              refine own_ret X0 hx hlk Bd.returns rfl (Or.inl ⟨rfl, Or.inr (Or.inl rfl), _, rfl⟩) (hb hby d1_65) (by decide) (by decide) ?_
              show own_Q1 Z p1 h0 n0 (some (.int (1 : Int32))) s₁.heap _
              rw [e0]
              exact ⟨by rw [own_vC, if_pos (by omega)], N0, rfl⟩
        · show own_Go _ _ _ _ _ _ _ s₁ (mkF m 45 #[.val (.int p1)] [(.int (65533 : Int32)), (.int p1)])
          refine own_step (fun t k => XS.icmpYes X0.here hx rfl (pc0 := 45) (pc' := 60) rfl (hb hby d1_45) rfl (flt (c45_9)).2.2.2 (by decide) (by decide) k) ?_
          show own_Go _ _ _ _ _ _ _ s₁ (mkF m 60 #[.val (.int p1)] [])
          refine own_step (fun t k => XS.iconst X0.here hx rfl (hb hby d1_60) k) ?_
          show own_Go _ _ _ _ _ _ _ s₁ (mkF m 61 #[.val (.int p1)] [(.int (1 : Int32))])
          refine own_step (fun t k => XS.goto X0.here hx rfl (pc0 := 61) (pc' := 65) rfl (hb hby d1_61) (by decide) (by decide) k) ?_
          simp only [Int32.lt_iff_toInt_lt, ← Int32.toInt_inj, Int32.reduceToInt] at c3_1 c33_5 c39_6 c45_9
          show own_Go _ _ _ _ _ _ _ s₁ (mkF m 65 #[.val (.int p1)] [(.int (1 : Int32))])
          refine own_ret X0 hx hlk Bd.returns rfl (Or.inl ⟨rfl, Or.inr (Or.inl rfl), _, rfl⟩) (hb hby d1_65) (by decide) (by decide) ?_
          show own_Q1 Z p1 h0 n0 (some (.int (1 : Int32))) s₁.heap _
          rw [e0]
          exact ⟨by rw [own_vC, if_pos (by omega)], N0, rfl⟩
    · show own_Go _ _ _ _ _ _ _ s₁ (mkF m 33 #[.val (.int p1)] [(.int (55295 : Int32)), (.int p1)])
      refine own_step (fun t k => XS.icmpYes X0.here hx rfl (pc0 := 33) (pc' := 60) rfl (hb hby d1_33) rfl (flt (c33_5)).2.2.2 (by decide) (by decide) k) ?_
      show own_Go _ _ _ _ _ _ _ s₁ (mkF m 60 #[.val (.int p1)] [])
      refine own_step (fun t k => XS.iconst X0.here hx rfl (hb hby d1_60) k) ?_
      show own_Go _ _ _ _ _ _ _ s₁ (mkF m 61 #[.val (.int p1)] [(.int (1 : Int32))])
      refine own_step (fun t k => XS.goto X0.here hx rfl (pc0 := 61) (pc' := 65) rfl (hb hby d1_61) (by decide) (by decide) k) ?_
      simp only [Int32.lt_iff_toInt_lt, ← Int32.toInt_inj, Int32.reduceToInt] at c3_1 c33_5
      show own_Go _ _ _ _ _ _ _ s₁ (mkF m 65 #[.val (.int p1)] [(.int (1 : Int32))])
      refine own_ret X0 hx hlk Bd.returns rfl (Or.inl ⟨rfl, Or.inr (Or.inl rfl), _, rfl⟩) (hb hby d1_65) (by decide) (by decide) ?_
      show own_Q1 Z p1 h0 n0 (some (.int (1 : Int32))) s₁.heap _
      rw [e0]
      exact ⟨by rw [own_vC, if_pos (by omega)], N0, rfl⟩
theorem d2_0 : decode method_2_code 0 = .ok (.iload_n 0, 1) := by decide +kernel
theorem d2_1 : decode method_2_code 1 = .ok (.bipush 9, 2) := by decide +kernel
theorem d2_3 : decode method_2_code 3 = .ok (.if_icmp .eq 15, 3) := by decide +kernel
theorem d2_6 : decode method_2_code 6 = .ok (.iload_n 0, 1) := by decide +kernel
theorem d2_7 : decode method_2_code 7 = .ok (.bipush 10, 2) := by decide +kernel
theorem d2_9 : decode method_2_code 9 = .ok (.if_icmp .eq 9, 3) := by decide +kernel
theorem d2_12 : decode method_2_code 12 = .ok (.iload_n 0, 1) := by decide +kernel
theorem d2_13 : decode method_2_code 13 = .ok (.bipush 13, 2) := by decide +kernel
theorem d2_15 : decode method_2_code 15 = .ok (.if_icmp .ne 5, 3) := by decide +kernel
theorem d2_18 : decode method_2_code 18 = .ok (.iconst 1, 1) := by decide +kernel
theorem d2_19 : decode method_2_code 19 = .ok (.ireturn, 1) := by decide +kernel
theorem d2_20 : decode method_2_code 20 = .ok (.iload_n 0, 1) := by decide +kernel
theorem d2_21 : decode method_2_code 21 = .ok (.bipush 32, 2) := by decide +kernel
theorem d2_23 : decode method_2_code 23 = .ok (.if_icmp .lt 9, 3) := by decide +kernel
theorem d2_26 : decode method_2_code 26 = .ok (.iload_n 0, 1) := by decide +kernel
theorem d2_27 : decode method_2_code 27 = .ok (.ldc 7, 2) := by decide +kernel
theorem d2_29 : decode method_2_code 29 = .ok (.if_icmp .le 5, 3) := by decide +kernel
theorem d2_32 : decode method_2_code 32 = .ok (.iconst 0, 1) := by decide +kernel
theorem d2_33 : decode method_2_code 33 = .ok (.ireturn, 1) := by decide +kernel
theorem d2_34 : decode method_2_code 34 = .ok (.iload_n 0, 1) := by decide +kernel
theorem d2_35 : decode method_2_code 35 = .ok (.ldc 8, 2) := by decide +kernel
theorem d2_37 : decode method_2_code 37 = .ok (.if_icmp .lt 11, 3) := by decide +kernel
theorem d2_40 : decode method_2_code 40 = .ok (.iload_n 0, 1) := by decide +kernel
theorem d2_41 : decode method_2_code 41 = .ok (.ldc 9, 2) := by decide +kernel
theorem d2_43 : decode method_2_code 43 = .ok (.if_icmp .gt 5, 3) := by decide +kernel
theorem d2_46 : decode method_2_code 46 = .ok (.iconst 0, 1) := by decide +kernel
theorem d2_47 : decode method_2_code 47 = .ok (.ireturn, 1) := by decide +kernel
theorem d2_48 : decode method_2_code 48 = .ok (.iload_n 0, 1) := by decide +kernel
theorem d2_49 : decode method_2_code 49 = .ok (.ldc 10, 2) := by decide +kernel
theorem d2_51 : decode method_2_code 51 = .ok (.if_icmp .eq 9, 3) := by decide +kernel
theorem d2_54 : decode method_2_code 54 = .ok (.iload_n 0, 1) := by decide +kernel
theorem d2_55 : decode method_2_code 55 = .ok (.ldc 11, 2) := by decide +kernel
theorem d2_57 : decode method_2_code 57 = .ok (.if_icmp .ne 5, 3) := by decide +kernel
theorem d2_60 : decode method_2_code 60 = .ok (.iconst 0, 1) := by decide +kernel
theorem d2_61 : decode method_2_code 61 = .ok (.ireturn, 1) := by decide +kernel
theorem d2_62 : decode method_2_code 62 = .ok (.iconst 1, 1) := by decide +kernel
theorem d2_63 : decode method_2_code 63 = .ok (.ireturn, 1) := by decide +kernel
theorem own_pn2 : plainName "com/example/xylem/xylem/XmlCharsIsCharPinLaw" = true := by first | (simp [plainName, overriddenIn]; done) | decide +kernel
theorem own_ef2 (m : MethodId) (x0 : Int32) : entryFrame m #[(.int x0)] 1 = mkF m 0 #[.val (.int x0)] [] := by first | (simp [entryFrame, mkF, argsToLocals, Value.category]; done) | rfl
def own_Q2 (Z : State) (p1 : Int32) (h0 : Heap) (n0 : Nat) (v : Option Value) (h : Heap) (L : List Loc) : Prop := v = some (.int (own_vC p1)) ∧ Fr n0 L ∧ h = h0
set_option maxRecDepth 65536 in
set_option maxHeartbeats 40000000 in
theorem own_rm2 (l : Launch) (Z : State) (a0 : Array Value) (hw : ∀ d ∈ tables_1, d.before a0 Z = true) (ws : List Jvm.Cond) (p1 : Int32) (h0 : Heap) (n0 : Nat) (Z0 : n0 ≤ h0.size)  :
    MetFree l (⟨"com/example/xylem/xylem/XmlCharsIsCharPinLaw", "expected", "(I)Z"⟩ : MethodName) (head1 (Jvm.Cond.code (⟨"com/example/xylem/xylem/XmlCharsIsCharPinLaw", "expected", "(I)Z"⟩ : MethodName) method_2_code 1 (some .boolean) :: ws) ({ frames := 0, cells := 0, slots := 0, locals := 0 } : Room)) (fun a U => a = #[(.int p1)] ∧ Z.Warmed39 U.vm ∧ U.heap = h0) (fun _ _ _ _ _ => True) (fun _ U o U' => ∃ v L, o = .returned v ∧ own_Q2 Z p1 h0 n0 v U'.heap L ∧ FrameEnd U o U' L ({ frames := 0, cells := 0, slots := 0, locals := 0 } : Room).cells ({ frames := 0, cells := 0, slots := 0, locals := 0 } : Room).slots) := by
  refine MetFree.of_bodySF (plainFor_of_name own_pn2) hisR ?_
  intro p e s m args below meth c s₁ Bd hml0 hP hK
  obtain ⟨rfl, hZ, hh⟩ := hP
  have hx := Bd.exec
  have hby := Bd.bytes
  have hml : c.maxLocals = 1 := hml0
  have hlk : meth.locks = false := BodyLoose.notSynchronized Bd
  have hown : s.vm.findClass "com/example/xylem/xylem/XmlCharsIsCharPinLaw" = some m.cls := findClass_of_methodNamed Bd.named
  have hnm := (name_of_methodNamed Bd.named Bd.method).1
  have X0 : Stand p l e ({ frames := 0, cells := 0, slots := 0, locals := 0 } : Room) s m #[(.int p1)] below meth c s₁ [] 0 0 := Stand.of_body Bd
  have e0 : s₁.heap = h0 := by rw [← hh, Bd.state]; rfl
  have N0 := Fr.nil n0
  show own_Go p e below s ({ frames := 0, cells := 0, slots := 0, locals := 0 } : Room).cells ({ frames := 0, cells := 0, slots := 0, locals := 0 } : Room).slots (own_Q2 Z p1 h0 n0) s₁ (entryFrame m #[(.int p1)] 1)
  refine own_step (fun t k => castTop (own_ef2 m p1) k) ?_
  show own_Go _ _ _ _ _ _ _ s₁ (mkF m 0 #[.val (.int p1)] [])
  refine own_step (fun t k => XS.iloadN X0.here hx rfl (hb hby d2_0) rfl k) ?_
  show own_Go _ _ _ _ _ _ _ s₁ (mkF m 1 #[.val (.int p1)] [(.int p1)])
  refine own_step (fun t k => XS.bipush X0.here hx rfl (hb hby d2_1) k) ?_
  rcases Classical.em (p1 = (9 : Int32)) with c3_1 | c3_1
  · show own_Go _ _ _ _ _ _ _ s₁ (mkF m 3 #[.val (.int p1)] [(.int (9 : Int32)), (.int p1)])
    refine own_step (fun t k => XS.icmpYes X0.here hx rfl (pc0 := 3) (pc' := 18) rfl (hb hby d2_3) rfl (teq (c3_1)).1 (by decide) (by decide) k) ?_
    show own_Go _ _ _ _ _ _ _ s₁ (mkF m 18 #[.val (.int p1)] [])
    refine own_step (fun t k => XS.iconst X0.here hx rfl (hb hby d2_18) k) ?_
    simp only [Int32.lt_iff_toInt_lt, ← Int32.toInt_inj, Int32.reduceToInt] at c3_1
    show own_Go _ _ _ _ _ _ _ s₁ (mkF m 19 #[.val (.int p1)] [(.int (1 : Int32))])
    refine own_ret X0 hx hlk Bd.returns rfl (Or.inl ⟨rfl, Or.inr (Or.inl rfl), _, rfl⟩) (hb hby d2_19) (by decide) (by decide) ?_
    show own_Q2 Z p1 h0 n0 (some (.int (1 : Int32))) s₁.heap _
    rw [e0]
    exact ⟨by rw [own_vC, if_pos (by omega)], N0, rfl⟩
  · show own_Go _ _ _ _ _ _ _ s₁ (mkF m 3 #[.val (.int p1)] [(.int (9 : Int32)), (.int p1)])
    refine own_step (fun t k => XS.icmpNo X0.here hx rfl (hb hby d2_3) rfl (feq (c3_1)).1 k) ?_
    show own_Go _ _ _ _ _ _ _ s₁ (mkF m 6 #[.val (.int p1)] [])
    refine own_step (fun t k => XS.iloadN X0.here hx rfl (hb hby d2_6) rfl k) ?_
    show own_Go _ _ _ _ _ _ _ s₁ (mkF m 7 #[.val (.int p1)] [(.int p1)])
    refine own_step (fun t k => XS.bipush X0.here hx rfl (hb hby d2_7) k) ?_
    rcases Classical.em (p1 = (10 : Int32)) with c9_2 | c9_2
    · show own_Go _ _ _ _ _ _ _ s₁ (mkF m 9 #[.val (.int p1)] [(.int (10 : Int32)), (.int p1)])
      refine own_step (fun t k => XS.icmpYes X0.here hx rfl (pc0 := 9) (pc' := 18) rfl (hb hby d2_9) rfl (teq (c9_2)).1 (by decide) (by decide) k) ?_
      show own_Go _ _ _ _ _ _ _ s₁ (mkF m 18 #[.val (.int p1)] [])
      refine own_step (fun t k => XS.iconst X0.here hx rfl (hb hby d2_18) k) ?_
      simp only [Int32.lt_iff_toInt_lt, ← Int32.toInt_inj, Int32.reduceToInt] at c3_1 c9_2
      show own_Go _ _ _ _ _ _ _ s₁ (mkF m 19 #[.val (.int p1)] [(.int (1 : Int32))])
      refine own_ret X0 hx hlk Bd.returns rfl (Or.inl ⟨rfl, Or.inr (Or.inl rfl), _, rfl⟩) (hb hby d2_19) (by decide) (by decide) ?_
      show own_Q2 Z p1 h0 n0 (some (.int (1 : Int32))) s₁.heap _
      rw [e0]
      exact ⟨by rw [own_vC, if_pos (by omega)], N0, rfl⟩
    · show own_Go _ _ _ _ _ _ _ s₁ (mkF m 9 #[.val (.int p1)] [(.int (10 : Int32)), (.int p1)])
      refine own_step (fun t k => XS.icmpNo X0.here hx rfl (hb hby d2_9) rfl (feq (c9_2)).1 k) ?_
      show own_Go _ _ _ _ _ _ _ s₁ (mkF m 12 #[.val (.int p1)] [])
      refine own_step (fun t k => XS.iloadN X0.here hx rfl (hb hby d2_12) rfl k) ?_
      show own_Go _ _ _ _ _ _ _ s₁ (mkF m 13 #[.val (.int p1)] [(.int p1)])
      refine own_step (fun t k => XS.bipush X0.here hx rfl (hb hby d2_13) k) ?_
      rcases Classical.em (p1 = (13 : Int32)) with c15_3 | c15_3
      · show own_Go _ _ _ _ _ _ _ s₁ (mkF m 15 #[.val (.int p1)] [(.int (13 : Int32)), (.int p1)])
        refine own_step (fun t k => XS.icmpNo X0.here hx rfl (hb hby d2_15) rfl (teq (c15_3)).2 k) ?_
        show own_Go _ _ _ _ _ _ _ s₁ (mkF m 18 #[.val (.int p1)] [])
        refine own_step (fun t k => XS.iconst X0.here hx rfl (hb hby d2_18) k) ?_
        simp only [Int32.lt_iff_toInt_lt, ← Int32.toInt_inj, Int32.reduceToInt] at c3_1 c9_2 c15_3
        show own_Go _ _ _ _ _ _ _ s₁ (mkF m 19 #[.val (.int p1)] [(.int (1 : Int32))])
        refine own_ret X0 hx hlk Bd.returns rfl (Or.inl ⟨rfl, Or.inr (Or.inl rfl), _, rfl⟩) (hb hby d2_19) (by decide) (by decide) ?_
        show own_Q2 Z p1 h0 n0 (some (.int (1 : Int32))) s₁.heap _
        rw [e0]
        exact ⟨by rw [own_vC, if_pos (by omega)], N0, rfl⟩
      · show own_Go _ _ _ _ _ _ _ s₁ (mkF m 15 #[.val (.int p1)] [(.int (13 : Int32)), (.int p1)])
        refine own_step (fun t k => XS.icmpYes X0.here hx rfl (pc0 := 15) (pc' := 20) rfl (hb hby d2_15) rfl (feq (c15_3)).2 (by decide) (by decide) k) ?_
        show own_Go _ _ _ _ _ _ _ s₁ (mkF m 20 #[.val (.int p1)] [])
        refine own_step (fun t k => XS.iloadN X0.here hx rfl (hb hby d2_20) rfl k) ?_
        show own_Go _ _ _ _ _ _ _ s₁ (mkF m 21 #[.val (.int p1)] [(.int p1)])
        refine own_step (fun t k => XS.bipush X0.here hx rfl (hb hby d2_21) k) ?_
        rcases Classical.em (p1 < (32 : Int32)) with c23_4 | c23_4
        · show own_Go _ _ _ _ _ _ _ s₁ (mkF m 23 #[.val (.int p1)] [(.int (32 : Int32)), (.int p1)])
          refine own_step (fun t k => XS.icmpYes X0.here hx rfl (pc0 := 23) (pc' := 32) rfl (hb hby d2_23) rfl (tlt (c23_4)).1 (by decide) (by decide) k) ?_
          show own_Go _ _ _ _ _ _ _ s₁ (mkF m 32 #[.val (.int p1)] [])
          refine own_step (fun t k => XS.iconst X0.here hx rfl (hb hby d2_32) k) ?_
          simp only [Int32.lt_iff_toInt_lt, ← Int32.toInt_inj, Int32.reduceToInt] at c3_1 c9_2 c15_3 c23_4
          show own_Go _ _ _ _ _ _ _ s₁ (mkF m 33 #[.val (.int p1)] [(.int (0 : Int32))])
          refine own_ret X0 hx hlk Bd.returns rfl (Or.inl ⟨rfl, Or.inr (Or.inl rfl), _, rfl⟩) (hb hby d2_33) (by decide) (by decide) ?_
          show own_Q2 Z p1 h0 n0 (some (.int (0 : Int32))) s₁.heap _
          rw [e0]
          exact ⟨by rw [own_vC, if_neg (by omega)], N0, rfl⟩
        · show own_Go _ _ _ _ _ _ _ s₁ (mkF m 23 #[.val (.int p1)] [(.int (32 : Int32)), (.int p1)])
          refine own_step (fun t k => XS.icmpNo X0.here hx rfl (hb hby d2_23) rfl (flt (c23_4)).1 k) ?_
          show own_Go _ _ _ _ _ _ _ s₁ (mkF m 26 #[.val (.int p1)] [])
          refine own_step (fun t k => XS.iloadN X0.here hx rfl (hb hby d2_26) rfl k) ?_
          show own_Go _ _ _ _ _ _ _ s₁ (mkF m 27 #[.val (.int p1)] [(.int p1)])
          refine own_step (fun t k => X0.ldcInt hx hown (mvT hZ (hw _ (List.mem_of_getElem? (i := 7) rfl))) (g := (mkF m 27 #[.val (.int p1)] [(.int p1)])) rfl (hb hby d2_27) t k) ?_
          rcases Classical.em ((1114111 : Int32) < p1) with c29_5 | c29_5
          · show own_Go _ _ _ _ _ _ _ s₁ (mkF m 29 #[.val (.int p1)] [(.int (1114111 : Int32)), (.int p1)])
            refine own_step (fun t k => XS.icmpNo X0.here hx rfl (hb hby d2_29) rfl (tlt (c29_5)).2.2.2 k) ?_
            show own_Go _ _ _ _ _ _ _ s₁ (mkF m 32 #[.val (.int p1)] [])
            refine own_step (fun t k => XS.iconst X0.here hx rfl (hb hby d2_32) k) ?_
            simp only [Int32.lt_iff_toInt_lt, ← Int32.toInt_inj, Int32.reduceToInt] at c3_1 c9_2 c15_3 c23_4 c29_5
            show own_Go _ _ _ _ _ _ _ s₁ (mkF m 33 #[.val (.int p1)] [(.int (0 : Int32))])
            refine own_ret X0 hx hlk Bd.returns rfl (Or.inl ⟨rfl, Or.inr (Or.inl rfl), _, rfl⟩) (hb hby d2_33) (by decide) (by decide) ?_
            show own_Q2 Z p1 h0 n0 (some (.int (0 : Int32))) s₁.heap _
            rw [e0]
            exact ⟨by rw [own_vC, if_neg (by omega)], N0, rfl⟩
          · show own_Go _ _ _ _ _ _ _ s₁ (mkF m 29 #[.val (.int p1)] [(.int (1114111 : Int32)), (.int p1)])
            refine own_step (fun t k => XS.icmpYes X0.here hx rfl (pc0 := 29) (pc' := 34) rfl (hb hby d2_29) rfl (flt (c29_5)).2.2.2 (by decide) (by decide) k) ?_
            show own_Go _ _ _ _ _ _ _ s₁ (mkF m 34 #[.val (.int p1)] [])
            refine own_step (fun t k => XS.iloadN X0.here hx rfl (hb hby d2_34) rfl k) ?_
            show own_Go _ _ _ _ _ _ _ s₁ (mkF m 35 #[.val (.int p1)] [(.int p1)])
            refine own_step (fun t k => X0.ldcInt hx hown (mvT hZ (hw _ (List.mem_of_getElem? (i := 2) rfl))) (g := (mkF m 35 #[.val (.int p1)] [(.int p1)])) rfl (hb hby d2_35) t k) ?_
            rcases Classical.em (p1 < (55296 : Int32)) with c37_6 | c37_6
            · show own_Go _ _ _ _ _ _ _ s₁ (mkF m 37 #[.val (.int p1)] [(.int (55296 : Int32)), (.int p1)])
              refine own_step (fun t k => XS.icmpYes X0.here hx rfl (pc0 := 37) (pc' := 48) rfl (hb hby d2_37) rfl (tlt (c37_6)).1 (by decide) (by decide) k) ?_
              show own_Go _ _ _ _ _ _ _ s₁ (mkF m 48 #[.val (.int p1)] [])
              refine own_step (fun t k => XS.iloadN X0.here hx rfl (hb hby d2_48) rfl k) ?_
              show own_Go _ _ _ _ _ _ _ s₁ (mkF m 49 #[.val (.int p1)] [(.int p1)])
              refine own_step (fun t k => X0.ldcInt hx hown (mvT hZ (hw _ (List.mem_of_getElem? (i := 19) rfl))) (g := (mkF m 49 #[.val (.int p1)] [(.int p1)])) rfl (hb hby d2_49) t k) ?_
              rcases Classical.em (p1 = (65534 : Int32)) with c51_7 | c51_7
              · show own_Go _ _ _ _ _ _ _ s₁ (mkF m 51 #[.val (.int p1)] [(.int (65534 : Int32)), (.int p1)])
                refine own_step (fun t k => XS.icmpYes X0.here hx rfl (pc0 := 51) (pc' := 60) rfl (hb hby d2_51) rfl (teq (c51_7)).1 (by decide) (by decide) k) ?_
                show own_Go _ _ _ _ _ _ _ s₁ (mkF m 60 #[.val (.int p1)] [])
                refine own_step (fun t k => XS.iconst X0.here hx rfl (hb hby d2_60) k) ?_
                simp only [Int32.lt_iff_toInt_lt, ← Int32.toInt_inj, Int32.reduceToInt] at c3_1 c9_2 c15_3 c23_4 c29_5 c37_6 c51_7
                show own_Go _ _ _ _ _ _ _ s₁ (mkF m 61 #[.val (.int p1)] [(.int (0 : Int32))])
                refine own_ret X0 hx hlk Bd.returns rfl (Or.inl ⟨rfl, Or.inr (Or.inl rfl), _, rfl⟩) (hb hby d2_61) (by decide) (by decide) ?_
                show own_Q2 Z p1 h0 n0 (some (.int (0 : Int32))) s₁.heap _
                rw [e0]
                exact ⟨by rw [own_vC, if_neg (by omega)], N0, rfl⟩
              · show own_Go _ _ _ _ _ _ _ s₁ (mkF m 51 #[.val (.int p1)] [(.int (65534 : Int32)), (.int p1)])
                refine own_step (fun t k => XS.icmpNo X0.here hx rfl (hb hby d2_51) rfl (feq (c51_7)).1 k) ?_
                show own_Go _ _ _ _ _ _ _ s₁ (mkF m 54 #[.val (.int p1)] [])
                refine own_step (fun t k => XS.iloadN X0.here hx rfl (hb hby d2_54) rfl k) ?_
                show own_Go _ _ _ _ _ _ _ s₁ (mkF m 55 #[.val (.int p1)] [(.int p1)])
                refine own_step (fun t k => X0.ldcInt hx hown (mvT hZ (hw _ (List.mem_of_getElem? (i := 20) rfl))) (g := (mkF m 55 #[.val (.int p1)] [(.int p1)])) rfl (hb hby d2_55) t k) ?_
                rcases Classical.em (p1 = (65535 : Int32)) with c57_8 | c57_8
                · show own_Go _ _ _ _ _ _ _ s₁ (mkF m 57 #[.val (.int p1)] [(.int (65535 : Int32)), (.int p1)])
                  refine own_step (fun t k => XS.icmpNo X0.here hx rfl (hb hby d2_57) rfl (teq (c57_8)).2 k) ?_
                  show own_Go _ _ _ _ _ _ _ s₁ (mkF m 60 #[.val (.int p1)] [])
                  refine own_step (fun t k => XS.iconst X0.here hx rfl (hb hby d2_60) k) ?_
                  simp only [Int32.lt_iff_toInt_lt, ← Int32.toInt_inj, Int32.reduceToInt] at c3_1 c9_2 c15_3 c23_4 c29_5 c37_6 c51_7 c57_8
                  show own_Go _ _ _ _ _ _ _ s₁ (mkF m 61 #[.val (.int p1)] [(.int (0 : Int32))])
                  refine own_ret X0 hx hlk Bd.returns rfl (Or.inl ⟨rfl, Or.inr (Or.inl rfl), _, rfl⟩) (hb hby d2_61) (by decide) (by decide) ?_
                  show own_Q2 Z p1 h0 n0 (some (.int (0 : Int32))) s₁.heap _
                  rw [e0]
                  exact ⟨by rw [own_vC, if_neg (by omega)], N0, rfl⟩
                · show own_Go _ _ _ _ _ _ _ s₁ (mkF m 57 #[.val (.int p1)] [(.int (65535 : Int32)), (.int p1)])
                  refine own_step (fun t k => XS.icmpYes X0.here hx rfl (pc0 := 57) (pc' := 62) rfl (hb hby d2_57) rfl (feq (c57_8)).2 (by decide) (by decide) k) ?_
                  show own_Go _ _ _ _ _ _ _ s₁ (mkF m 62 #[.val (.int p1)] [])
                  refine own_step (fun t k => XS.iconst X0.here hx rfl (hb hby d2_62) k) ?_
                  simp only [Int32.lt_iff_toInt_lt, ← Int32.toInt_inj, Int32.reduceToInt] at c3_1 c9_2 c15_3 c23_4 c29_5 c37_6 c51_7 c57_8
                  show own_Go _ _ _ _ _ _ _ s₁ (mkF m 63 #[.val (.int p1)] [(.int (1 : Int32))])
                  refine own_ret X0 hx hlk Bd.returns rfl (Or.inl ⟨rfl, Or.inr (Or.inl rfl), _, rfl⟩) (hb hby d2_63) (by decide) (by decide) ?_
                  show own_Q2 Z p1 h0 n0 (some (.int (1 : Int32))) s₁.heap _
                  rw [e0]
                  exact ⟨by rw [own_vC, if_pos (by omega)], N0, rfl⟩
            · show own_Go _ _ _ _ _ _ _ s₁ (mkF m 37 #[.val (.int p1)] [(.int (55296 : Int32)), (.int p1)])
              refine own_step (fun t k => XS.icmpNo X0.here hx rfl (hb hby d2_37) rfl (flt (c37_6)).1 k) ?_
              show own_Go _ _ _ _ _ _ _ s₁ (mkF m 40 #[.val (.int p1)] [])
              refine own_step (fun t k => XS.iloadN X0.here hx rfl (hb hby d2_40) rfl k) ?_
              show own_Go _ _ _ _ _ _ _ s₁ (mkF m 41 #[.val (.int p1)] [(.int p1)])
              refine own_step (fun t k => X0.ldcInt hx hown (mvT hZ (hw _ (List.mem_of_getElem? (i := 3) rfl))) (g := (mkF m 41 #[.val (.int p1)] [(.int p1)])) rfl (hb hby d2_41) t k) ?_
              rcases Classical.em ((57343 : Int32) < p1) with c43_9 | c43_9
              · show own_Go _ _ _ _ _ _ _ s₁ (mkF m 43 #[.val (.int p1)] [(.int (57343 : Int32)), (.int p1)])
                refine own_step (fun t k => XS.icmpYes X0.here hx rfl (pc0 := 43) (pc' := 48) rfl (hb hby d2_43) rfl (tlt (c43_9)).2.2.1 (by decide) (by decide) k) ?_
                show own_Go _ _ _ _ _ _ _ s₁ (mkF m 48 #[.val (.int p1)] [])
                refine own_step (fun t k => XS.iloadN X0.here hx rfl (hb hby d2_48) rfl k) ?_
                show own_Go _ _ _ _ _ _ _ s₁ (mkF m 49 #[.val (.int p1)] [(.int p1)])
                refine own_step (fun t k => X0.ldcInt hx hown (mvT hZ (hw _ (List.mem_of_getElem? (i := 19) rfl))) (g := (mkF m 49 #[.val (.int p1)] [(.int p1)])) rfl (hb hby d2_49) t k) ?_
                rcases Classical.em (p1 = (65534 : Int32)) with c51_10 | c51_10
                · show own_Go _ _ _ _ _ _ _ s₁ (mkF m 51 #[.val (.int p1)] [(.int (65534 : Int32)), (.int p1)])
                  refine own_step (fun t k => XS.icmpYes X0.here hx rfl (pc0 := 51) (pc' := 60) rfl (hb hby d2_51) rfl (teq (c51_10)).1 (by decide) (by decide) k) ?_
                  show own_Go _ _ _ _ _ _ _ s₁ (mkF m 60 #[.val (.int p1)] [])
                  refine own_step (fun t k => XS.iconst X0.here hx rfl (hb hby d2_60) k) ?_
                  simp only [Int32.lt_iff_toInt_lt, ← Int32.toInt_inj, Int32.reduceToInt] at c3_1 c9_2 c15_3 c23_4 c29_5 c37_6 c43_9 c51_10
                  show own_Go _ _ _ _ _ _ _ s₁ (mkF m 61 #[.val (.int p1)] [(.int (0 : Int32))])
                  refine own_ret X0 hx hlk Bd.returns rfl (Or.inl ⟨rfl, Or.inr (Or.inl rfl), _, rfl⟩) (hb hby d2_61) (by decide) (by decide) ?_
                  show own_Q2 Z p1 h0 n0 (some (.int (0 : Int32))) s₁.heap _
                  rw [e0]
                  exact ⟨by rw [own_vC, if_neg (by omega)], N0, rfl⟩
                · show own_Go _ _ _ _ _ _ _ s₁ (mkF m 51 #[.val (.int p1)] [(.int (65534 : Int32)), (.int p1)])
                  refine own_step (fun t k => XS.icmpNo X0.here hx rfl (hb hby d2_51) rfl (feq (c51_10)).1 k) ?_
                  show own_Go _ _ _ _ _ _ _ s₁ (mkF m 54 #[.val (.int p1)] [])
                  refine own_step (fun t k => XS.iloadN X0.here hx rfl (hb hby d2_54) rfl k) ?_
                  show own_Go _ _ _ _ _ _ _ s₁ (mkF m 55 #[.val (.int p1)] [(.int p1)])
                  refine own_step (fun t k => X0.ldcInt hx hown (mvT hZ (hw _ (List.mem_of_getElem? (i := 20) rfl))) (g := (mkF m 55 #[.val (.int p1)] [(.int p1)])) rfl (hb hby d2_55) t k) ?_
                  rcases Classical.em (p1 = (65535 : Int32)) with c57_11 | c57_11
                  · show own_Go _ _ _ _ _ _ _ s₁ (mkF m 57 #[.val (.int p1)] [(.int (65535 : Int32)), (.int p1)])
                    refine own_step (fun t k => XS.icmpNo X0.here hx rfl (hb hby d2_57) rfl (teq (c57_11)).2 k) ?_
                    show own_Go _ _ _ _ _ _ _ s₁ (mkF m 60 #[.val (.int p1)] [])
                    refine own_step (fun t k => XS.iconst X0.here hx rfl (hb hby d2_60) k) ?_
                    simp only [Int32.lt_iff_toInt_lt, ← Int32.toInt_inj, Int32.reduceToInt] at c3_1 c9_2 c15_3 c23_4 c29_5 c37_6 c43_9 c51_10 c57_11
                    show own_Go _ _ _ _ _ _ _ s₁ (mkF m 61 #[.val (.int p1)] [(.int (0 : Int32))])
                    refine own_ret X0 hx hlk Bd.returns rfl (Or.inl ⟨rfl, Or.inr (Or.inl rfl), _, rfl⟩) (hb hby d2_61) (by decide) (by decide) ?_
                    show own_Q2 Z p1 h0 n0 (some (.int (0 : Int32))) s₁.heap _
                    rw [e0]
                    exact ⟨by rw [own_vC, if_neg (by omega)], N0, rfl⟩
                  · show own_Go _ _ _ _ _ _ _ s₁ (mkF m 57 #[.val (.int p1)] [(.int (65535 : Int32)), (.int p1)])
                    refine own_step (fun t k => XS.icmpYes X0.here hx rfl (pc0 := 57) (pc' := 62) rfl (hb hby d2_57) rfl (feq (c57_11)).2 (by decide) (by decide) k) ?_
                    show own_Go _ _ _ _ _ _ _ s₁ (mkF m 62 #[.val (.int p1)] [])
                    refine own_step (fun t k => XS.iconst X0.here hx rfl (hb hby d2_62) k) ?_
                    simp only [Int32.lt_iff_toInt_lt, ← Int32.toInt_inj, Int32.reduceToInt] at c3_1 c9_2 c15_3 c23_4 c29_5 c37_6 c43_9 c51_10 c57_11
                    show own_Go _ _ _ _ _ _ _ s₁ (mkF m 63 #[.val (.int p1)] [(.int (1 : Int32))])
                    refine own_ret X0 hx hlk Bd.returns rfl (Or.inl ⟨rfl, Or.inr (Or.inl rfl), _, rfl⟩) (hb hby d2_63) (by decide) (by decide) ?_
                    show own_Q2 Z p1 h0 n0 (some (.int (1 : Int32))) s₁.heap _
                    rw [e0]
                    exact ⟨by rw [own_vC, if_pos (by omega)], N0, rfl⟩
              · show own_Go _ _ _ _ _ _ _ s₁ (mkF m 43 #[.val (.int p1)] [(.int (57343 : Int32)), (.int p1)])
                refine own_step (fun t k => XS.icmpNo X0.here hx rfl (hb hby d2_43) rfl (flt (c43_9)).2.2.1 k) ?_
                show own_Go _ _ _ _ _ _ _ s₁ (mkF m 46 #[.val (.int p1)] [])
                refine own_step (fun t k => XS.iconst X0.here hx rfl (hb hby d2_46) k) ?_
                simp only [Int32.lt_iff_toInt_lt, ← Int32.toInt_inj, Int32.reduceToInt] at c3_1 c9_2 c15_3 c23_4 c29_5 c37_6 c43_9
                show own_Go _ _ _ _ _ _ _ s₁ (mkF m 47 #[.val (.int p1)] [(.int (0 : Int32))])
                refine own_ret X0 hx hlk Bd.returns rfl (Or.inl ⟨rfl, Or.inr (Or.inl rfl), _, rfl⟩) (hb hby d2_47) (by decide) (by decide) ?_
                show own_Q2 Z p1 h0 n0 (some (.int (0 : Int32))) s₁.heap _
                rw [e0]
                exact ⟨by rw [own_vC, if_neg (by omega)], N0, rfl⟩
theorem own_pn0 : plainName "com/example/xylem/xylem/XmlCharsIsCharPinLaw" = true := by first | (simp [plainName, overriddenIn]; done) | decide +kernel
theorem own_pd0_0 : parseMethodDescriptor "(I)Z" = some ⟨[.int], some .boolean⟩ := by decide +kernel
theorem own_ef0 (m : MethodId) (x0 : Int32) (x1 : Int32) (x2 : Int32) : entryFrame m #[(.int x0), (.int x1), (.int x2)] maxLocals = mkF m 0 #[.val (.int x0), .val (.int x1), .val (.int x2), .unset, .unset] [] := by first | (simp [entryFrame, mkF, argsToLocals, Value.category, maxLocals]; done) | rfl
def own_Q0 (Z : State) (p1 : Int32) (p2 : Int32) (p3 : Int32) (h0 : Heap) (n0 : Nat) (v : Option Value) (h : Heap) (L : List Loc) : Prop := v = some (.int 1) ∧ Fr n0 L
set_option maxRecDepth 65536 in
set_option maxHeartbeats 40000000 in
theorem own_rm0 (l : Launch) (Z : State) (a0 : Array Value) (hw : ∀ d ∈ tables_1, d.before a0 Z = true) (ws : List Jvm.Cond) (p1 : Int32) (p2 : Int32) (p3 : Int32) (h0 : Heap) (n0 : Nat) (Z0 : n0 ≤ h0.size)  :
    MetFree l x (head1 (Jvm.Cond.code x code maxLocals ret :: ws) room_1) (fun a U => a = #[(.int p1), (.int p2), (.int p3)] ∧ Z.Warmed39 U.vm ∧ U.heap = h0) (fun _ _ _ _ _ => True) (fun _ U o U' => ∃ v L, o = .returned v ∧ own_Q0 Z p1 p2 p3 h0 n0 v U'.heap L ∧ FrameEnd U o U' L room_1.cells room_1.slots) := by
  refine MetFree.of_bodySF (plainFor_of_name own_pn0) hisR ?_
  intro p e s m args below meth c s₁ Bd hml0 hP hK
  obtain ⟨rfl, hZ, hh⟩ := hP
  have hx := Bd.exec
  have hby := Bd.bytes
  have hml : c.maxLocals = 5 := hml0
  have hlk : meth.locks = false := BodyLoose.notSynchronized Bd
  have hown : s.vm.findClass "com/example/xylem/xylem/XmlCharsIsCharPinLaw" = some m.cls := findClass_of_methodNamed Bd.named
  have hnm := (name_of_methodNamed Bd.named Bd.method).1
  have X0 : Stand p l e room_1 s m #[(.int p1), (.int p2), (.int p3)] below meth c s₁ [] 0 0 := Stand.of_body Bd
  have e0 : s₁.heap = h0 := by rw [← hh, Bd.state]; rfl
  have N0 := Fr.nil n0
  show own_Go p e below s room_1.cells room_1.slots (own_Q0 Z p1 p2 p3 h0 n0) s₁ (entryFrame m #[(.int p1), (.int p2), (.int p3)] maxLocals)
  refine own_step (fun t k => castTop (own_ef0 m p1 p2 p3) k) ?_
  show own_Go _ _ _ _ _ _ _ s₁ (mkF m 0 #[.val (.int p1), .val (.int p2), .val (.int p3), .unset, .unset] [])
  refine own_step (fun t k => XS.bipush X0.here hx rfl (hb hby at_0) k) ?_
  show own_Go _ _ _ _ _ _ _ s₁ (mkF m 2 #[.val (.int p1), .val (.int p2), .val (.int p3), .unset, .unset] [(.int (13 : Int32))])
  obtain ⟨T1, h1, ca1, X1, e1, E1, A1, st1⟩ := newP X0 hx hZ (hw _ (List.mem_of_getElem? (i := 0) rfl)) e0 (g := (mkF m 2 #[.val (.int p1), .val (.int p2), .val (.int p3), .unset, .unset] [(.int (13 : Int32))])) rfl (hb hby at_2) rfl (by decide) (cap := 13) (by decide) (by decide) (by decide) (by decide)
  obtain ⟨b1, g1⟩ : ∃ z, z = h0.size := ⟨_, rfl⟩
  rw [← g1] at A1 st1
  have I1 : own_Ints Z h1 b1 13 := own_ints_new A1 (by decide)
  have nb1 : n0 ≤ b1 := Nat.le_trans (Z0) (Nat.le_of_eq g1.symm)
  have K1 : Keep h0 h1 [] := (Keep.refl h0 []).ext E1
  have sb1 : h0.size ≤ b1 := Nat.le_of_eq g1.symm
  refine own_step st1 ?_
  show own_Go _ _ _ _ _ _ _ T1 (mkF m 4 #[.val (.int p1), .val (.int p2), .val (.int p3), .unset, .unset] [(.ref b1)])
  refine own_step (fun t k => XS.dup X1.here hx rfl (hb hby at_4) rfl rfl k) ?_
  show own_Go _ _ _ _ _ _ _ T1 (mkF m 5 #[.val (.int p1), .val (.int p2), .val (.int p3), .unset, .unset] [(.ref b1), (.ref b1)])
  refine own_step (fun t k => XS.iconst X1.here hx rfl (hb hby at_5) k) ?_
  show own_Go _ _ _ _ _ _ _ T1 (mkF m 6 #[.val (.int p1), .val (.int p2), .val (.int p3), .unset, .unset] [(.int (0 : Int32)), (.ref b1), (.ref b1)])
  refine own_step (fun t k => XS.iconst X1.here hx rfl (hb hby at_6) k) ?_
  show own_Go _ _ _ _ _ _ _ T1 (mkF m 7 #[.val (.int p1), .val (.int p2), .val (.int p3), .unset, .unset] [(.int (0 : Int32)), (.int (0 : Int32)), (.ref b1), (.ref b1)])
  obtain ⟨T2, h2, X2, e2, W2, I2, st2⟩ := own_stI X1 hx hZ e1 I1 (by decide) (g := (mkF m 7 #[.val (.int p1), .val (.int p2), .val (.int p3), .unset, .unset] [(.int (0 : Int32)), (.int (0 : Int32)), (.ref b1), (.ref b1)])) rfl rfl (hb hby at_7)
  have N2 := Fr.snoc X2 N0 nb1
  have K2 : Keep h0 h2 [] := K1.wr W2 (Or.inr sb1)
  refine own_step st2 ?_
  show own_Go _ _ _ _ _ _ _ T2 (mkF m 8 #[.val (.int p1), .val (.int p2), .val (.int p3), .unset, .unset] [(.ref b1)])
  refine own_step (fun t k => XS.dup X2.here hx rfl (hb hby at_8) rfl rfl k) ?_
  show own_Go _ _ _ _ _ _ _ T2 (mkF m 9 #[.val (.int p1), .val (.int p2), .val (.int p3), .unset, .unset] [(.ref b1), (.ref b1)])
  refine own_step (fun t k => XS.iconst X2.here hx rfl (hb hby at_9) k) ?_
  show own_Go _ _ _ _ _ _ _ T2 (mkF m 10 #[.val (.int p1), .val (.int p2), .val (.int p3), .unset, .unset] [(.int (1 : Int32)), (.ref b1), (.ref b1)])
  refine own_step (fun t k => XS.bipush X2.here hx rfl (hb hby at_10) k) ?_
  show own_Go _ _ _ _ _ _ _ T2 (mkF m 12 #[.val (.int p1), .val (.int p2), .val (.int p3), .unset, .unset] [(.int (9 : Int32)), (.int (1 : Int32)), (.ref b1), (.ref b1)])
  obtain ⟨T3, h3, X3, e3, W3, I3, st3⟩ := own_stI X2 hx hZ e2 I2 (by decide) (g := (mkF m 12 #[.val (.int p1), .val (.int p2), .val (.int p3), .unset, .unset] [(.int (9 : Int32)), (.int (1 : Int32)), (.ref b1), (.ref b1)])) rfl rfl (hb hby at_12)
  have N3 := Fr.snoc X3 N2 nb1
  have K3 : Keep h0 h3 [] := K2.wr W3 (Or.inr sb1)
  refine own_step st3 ?_
  show own_Go _ _ _ _ _ _ _ T3 (mkF m 13 #[.val (.int p1), .val (.int p2), .val (.int p3), .unset, .unset] [(.ref b1)])
  refine own_step (fun t k => XS.dup X3.here hx rfl (hb hby at_13) rfl rfl k) ?_
  show own_Go _ _ _ _ _ _ _ T3 (mkF m 14 #[.val (.int p1), .val (.int p2), .val (.int p3), .unset, .unset] [(.ref b1), (.ref b1)])
  refine own_step (fun t k => XS.iconst X3.here hx rfl (hb hby at_14) k) ?_
  show own_Go _ _ _ _ _ _ _ T3 (mkF m 15 #[.val (.int p1), .val (.int p2), .val (.int p3), .unset, .unset] [(.int (2 : Int32)), (.ref b1), (.ref b1)])
  refine own_step (fun t k => XS.bipush X3.here hx rfl (hb hby at_15) k) ?_
  show own_Go _ _ _ _ _ _ _ T3 (mkF m 17 #[.val (.int p1), .val (.int p2), .val (.int p3), .unset, .unset] [(.int (13 : Int32)), (.int (2 : Int32)), (.ref b1), (.ref b1)])
  obtain ⟨T4, h4, X4, e4, W4, I4, st4⟩ := own_stI X3 hx hZ e3 I3 (by decide) (g := (mkF m 17 #[.val (.int p1), .val (.int p2), .val (.int p3), .unset, .unset] [(.int (13 : Int32)), (.int (2 : Int32)), (.ref b1), (.ref b1)])) rfl rfl (hb hby at_17)
  have N4 := Fr.snoc X4 N3 nb1
  have K4 : Keep h0 h4 [] := K3.wr W4 (Or.inr sb1)
  refine own_step st4 ?_
  show own_Go _ _ _ _ _ _ _ T4 (mkF m 18 #[.val (.int p1), .val (.int p2), .val (.int p3), .unset, .unset] [(.ref b1)])
  refine own_step (fun t k => XS.dup X4.here hx rfl (hb hby at_18) rfl rfl k) ?_
  show own_Go _ _ _ _ _ _ _ T4 (mkF m 19 #[.val (.int p1), .val (.int p2), .val (.int p3), .unset, .unset] [(.ref b1), (.ref b1)])
  refine own_step (fun t k => XS.iconst X4.here hx rfl (hb hby at_19) k) ?_
  show own_Go _ _ _ _ _ _ _ T4 (mkF m 20 #[.val (.int p1), .val (.int p2), .val (.int p3), .unset, .unset] [(.int (3 : Int32)), (.ref b1), (.ref b1)])
  refine own_step (fun t k => XS.bipush X4.here hx rfl (hb hby at_20) k) ?_
  show own_Go _ _ _ _ _ _ _ T4 (mkF m 22 #[.val (.int p1), .val (.int p2), .val (.int p3), .unset, .unset] [(.int (32 : Int32)), (.int (3 : Int32)), (.ref b1), (.ref b1)])
  obtain ⟨T5, h5, X5, e5, W5, I5, st5⟩ := own_stI X4 hx hZ e4 I4 (by decide) (g := (mkF m 22 #[.val (.int p1), .val (.int p2), .val (.int p3), .unset, .unset] [(.int (32 : Int32)), (.int (3 : Int32)), (.ref b1), (.ref b1)])) rfl rfl (hb hby at_22)
  have N5 := Fr.snoc X5 N4 nb1
  have K5 : Keep h0 h5 [] := K4.wr W5 (Or.inr sb1)
  refine own_step st5 ?_
  show own_Go _ _ _ _ _ _ _ T5 (mkF m 23 #[.val (.int p1), .val (.int p2), .val (.int p3), .unset, .unset] [(.ref b1)])
  refine own_step (fun t k => XS.dup X5.here hx rfl (hb hby at_23) rfl rfl k) ?_
  show own_Go _ _ _ _ _ _ _ T5 (mkF m 24 #[.val (.int p1), .val (.int p2), .val (.int p3), .unset, .unset] [(.ref b1), (.ref b1)])
  refine own_step (fun t k => XS.iconst X5.here hx rfl (hb hby at_24) k) ?_
  show own_Go _ _ _ _ _ _ _ T5 (mkF m 25 #[.val (.int p1), .val (.int p2), .val (.int p3), .unset, .unset] [(.int (4 : Int32)), (.ref b1), (.ref b1)])
  refine own_step (fun t k => X5.ldcInt hx hown (mvT hZ (hw _ (List.mem_of_getElem? (i := 1) rfl))) (g := (mkF m 25 #[.val (.int p1), .val (.int p2), .val (.int p3), .unset, .unset] [(.int (4 : Int32)), (.ref b1), (.ref b1)])) rfl (hb hby at_25) t k) ?_
  show own_Go _ _ _ _ _ _ _ T5 (mkF m 27 #[.val (.int p1), .val (.int p2), .val (.int p3), .unset, .unset] [(.int (55295 : Int32)), (.int (4 : Int32)), (.ref b1), (.ref b1)])
  obtain ⟨T6, h6, X6, e6, W6, I6, st6⟩ := own_stI X5 hx hZ e5 I5 (by decide) (g := (mkF m 27 #[.val (.int p1), .val (.int p2), .val (.int p3), .unset, .unset] [(.int (55295 : Int32)), (.int (4 : Int32)), (.ref b1), (.ref b1)])) rfl rfl (hb hby at_27)
  have N6 := Fr.snoc X6 N5 nb1
  have K6 : Keep h0 h6 [] := K5.wr W6 (Or.inr sb1)
  refine own_step st6 ?_
  show own_Go _ _ _ _ _ _ _ T6 (mkF m 28 #[.val (.int p1), .val (.int p2), .val (.int p3), .unset, .unset] [(.ref b1)])
  refine own_step (fun t k => XS.dup X6.here hx rfl (hb hby at_28) rfl rfl k) ?_
  show own_Go _ _ _ _ _ _ _ T6 (mkF m 29 #[.val (.int p1), .val (.int p2), .val (.int p3), .unset, .unset] [(.ref b1), (.ref b1)])
  refine own_step (fun t k => XS.iconst X6.here hx rfl (hb hby at_29) k) ?_
  show own_Go _ _ _ _ _ _ _ T6 (mkF m 30 #[.val (.int p1), .val (.int p2), .val (.int p3), .unset, .unset] [(.int (5 : Int32)), (.ref b1), (.ref b1)])
  refine own_step (fun t k => X6.ldcInt hx hown (mvT hZ (hw _ (List.mem_of_getElem? (i := 2) rfl))) (g := (mkF m 30 #[.val (.int p1), .val (.int p2), .val (.int p3), .unset, .unset] [(.int (5 : Int32)), (.ref b1), (.ref b1)])) rfl (hb hby at_30) t k) ?_
  show own_Go _ _ _ _ _ _ _ T6 (mkF m 32 #[.val (.int p1), .val (.int p2), .val (.int p3), .unset, .unset] [(.int (55296 : Int32)), (.int (5 : Int32)), (.ref b1), (.ref b1)])
  obtain ⟨T7, h7, X7, e7, W7, I7, st7⟩ := own_stI X6 hx hZ e6 I6 (by decide) (g := (mkF m 32 #[.val (.int p1), .val (.int p2), .val (.int p3), .unset, .unset] [(.int (55296 : Int32)), (.int (5 : Int32)), (.ref b1), (.ref b1)])) rfl rfl (hb hby at_32)
  have N7 := Fr.snoc X7 N6 nb1
  have K7 : Keep h0 h7 [] := K6.wr W7 (Or.inr sb1)
  refine own_step st7 ?_
  show own_Go _ _ _ _ _ _ _ T7 (mkF m 33 #[.val (.int p1), .val (.int p2), .val (.int p3), .unset, .unset] [(.ref b1)])
  refine own_step (fun t k => XS.dup X7.here hx rfl (hb hby at_33) rfl rfl k) ?_
  show own_Go _ _ _ _ _ _ _ T7 (mkF m 34 #[.val (.int p1), .val (.int p2), .val (.int p3), .unset, .unset] [(.ref b1), (.ref b1)])
  refine own_step (fun t k => XS.bipush X7.here hx rfl (hb hby at_34) k) ?_
  show own_Go _ _ _ _ _ _ _ T7 (mkF m 36 #[.val (.int p1), .val (.int p2), .val (.int p3), .unset, .unset] [(.int (6 : Int32)), (.ref b1), (.ref b1)])
  refine own_step (fun t k => X7.ldcInt hx hown (mvT hZ (hw _ (List.mem_of_getElem? (i := 3) rfl))) (g := (mkF m 36 #[.val (.int p1), .val (.int p2), .val (.int p3), .unset, .unset] [(.int (6 : Int32)), (.ref b1), (.ref b1)])) rfl (hb hby at_36) t k) ?_
  show own_Go _ _ _ _ _ _ _ T7 (mkF m 38 #[.val (.int p1), .val (.int p2), .val (.int p3), .unset, .unset] [(.int (57343 : Int32)), (.int (6 : Int32)), (.ref b1), (.ref b1)])
  obtain ⟨T8, h8, X8, e8, W8, I8, st8⟩ := own_stI X7 hx hZ e7 I7 (by decide) (g := (mkF m 38 #[.val (.int p1), .val (.int p2), .val (.int p3), .unset, .unset] [(.int (57343 : Int32)), (.int (6 : Int32)), (.ref b1), (.ref b1)])) rfl rfl (hb hby at_38)
  have N8 := Fr.snoc X8 N7 nb1
  have K8 : Keep h0 h8 [] := K7.wr W8 (Or.inr sb1)
  refine own_step st8 ?_
  show own_Go _ _ _ _ _ _ _ T8 (mkF m 39 #[.val (.int p1), .val (.int p2), .val (.int p3), .unset, .unset] [(.ref b1)])
  refine own_step (fun t k => XS.dup X8.here hx rfl (hb hby at_39) rfl rfl k) ?_
  show own_Go _ _ _ _ _ _ _ T8 (mkF m 40 #[.val (.int p1), .val (.int p2), .val (.int p3), .unset, .unset] [(.ref b1), (.ref b1)])
  refine own_step (fun t k => XS.bipush X8.here hx rfl (hb hby at_40) k) ?_
  show own_Go _ _ _ _ _ _ _ T8 (mkF m 42 #[.val (.int p1), .val (.int p2), .val (.int p3), .unset, .unset] [(.int (7 : Int32)), (.ref b1), (.ref b1)])
  refine own_step (fun t k => X8.ldcInt hx hown (mvT hZ (hw _ (List.mem_of_getElem? (i := 4) rfl))) (g := (mkF m 42 #[.val (.int p1), .val (.int p2), .val (.int p3), .unset, .unset] [(.int (7 : Int32)), (.ref b1), (.ref b1)])) rfl (hb hby at_42) t k) ?_
  show own_Go _ _ _ _ _ _ _ T8 (mkF m 44 #[.val (.int p1), .val (.int p2), .val (.int p3), .unset, .unset] [(.int (57344 : Int32)), (.int (7 : Int32)), (.ref b1), (.ref b1)])
  obtain ⟨T9, h9, X9, e9, W9, I9, st9⟩ := own_stI X8 hx hZ e8 I8 (by decide) (g := (mkF m 44 #[.val (.int p1), .val (.int p2), .val (.int p3), .unset, .unset] [(.int (57344 : Int32)), (.int (7 : Int32)), (.ref b1), (.ref b1)])) rfl rfl (hb hby at_44)
  have N9 := Fr.snoc X9 N8 nb1
  have K9 : Keep h0 h9 [] := K8.wr W9 (Or.inr sb1)
  refine own_step st9 ?_
  show own_Go _ _ _ _ _ _ _ T9 (mkF m 45 #[.val (.int p1), .val (.int p2), .val (.int p3), .unset, .unset] [(.ref b1)])
  refine own_step (fun t k => XS.dup X9.here hx rfl (hb hby at_45) rfl rfl k) ?_
  show own_Go _ _ _ _ _ _ _ T9 (mkF m 46 #[.val (.int p1), .val (.int p2), .val (.int p3), .unset, .unset] [(.ref b1), (.ref b1)])
  refine own_step (fun t k => XS.bipush X9.here hx rfl (hb hby at_46) k) ?_
  show own_Go _ _ _ _ _ _ _ T9 (mkF m 48 #[.val (.int p1), .val (.int p2), .val (.int p3), .unset, .unset] [(.int (8 : Int32)), (.ref b1), (.ref b1)])
  refine own_step (fun t k => X9.ldcInt hx hown (mvT hZ (hw _ (List.mem_of_getElem? (i := 5) rfl))) (g := (mkF m 48 #[.val (.int p1), .val (.int p2), .val (.int p3), .unset, .unset] [(.int (8 : Int32)), (.ref b1), (.ref b1)])) rfl (hb hby at_48) t k) ?_
  show own_Go _ _ _ _ _ _ _ T9 (mkF m 50 #[.val (.int p1), .val (.int p2), .val (.int p3), .unset, .unset] [(.int (65533 : Int32)), (.int (8 : Int32)), (.ref b1), (.ref b1)])
  obtain ⟨T10, h10, X10, e10, W10, I10, st10⟩ := own_stI X9 hx hZ e9 I9 (by decide) (g := (mkF m 50 #[.val (.int p1), .val (.int p2), .val (.int p3), .unset, .unset] [(.int (65533 : Int32)), (.int (8 : Int32)), (.ref b1), (.ref b1)])) rfl rfl (hb hby at_50)
  have N10 := Fr.snoc X10 N9 nb1
  have K10 : Keep h0 h10 [] := K9.wr W10 (Or.inr sb1)
  refine own_step st10 ?_
  show own_Go _ _ _ _ _ _ _ T10 (mkF m 51 #[.val (.int p1), .val (.int p2), .val (.int p3), .unset, .unset] [(.ref b1)])
  refine own_step (fun t k => XS.dup X10.here hx rfl (hb hby at_51) rfl rfl k) ?_
  show own_Go _ _ _ _ _ _ _ T10 (mkF m 52 #[.val (.int p1), .val (.int p2), .val (.int p3), .unset, .unset] [(.ref b1), (.ref b1)])
  refine own_step (fun t k => XS.bipush X10.here hx rfl (hb hby at_52) k) ?_
  show own_Go _ _ _ _ _ _ _ T10 (mkF m 54 #[.val (.int p1), .val (.int p2), .val (.int p3), .unset, .unset] [(.int (9 : Int32)), (.ref b1), (.ref b1)])
  refine own_step (fun t k => X10.ldcInt hx hown (mvT hZ (hw _ (List.mem_of_getElem? (i := 6) rfl))) (g := (mkF m 54 #[.val (.int p1), .val (.int p2), .val (.int p3), .unset, .unset] [(.int (9 : Int32)), (.ref b1), (.ref b1)])) rfl (hb hby at_54) t k) ?_
  show own_Go _ _ _ _ _ _ _ T10 (mkF m 56 #[.val (.int p1), .val (.int p2), .val (.int p3), .unset, .unset] [(.int (65536 : Int32)), (.int (9 : Int32)), (.ref b1), (.ref b1)])
  obtain ⟨T11, h11, X11, e11, W11, I11, st11⟩ := own_stI X10 hx hZ e10 I10 (by decide) (g := (mkF m 56 #[.val (.int p1), .val (.int p2), .val (.int p3), .unset, .unset] [(.int (65536 : Int32)), (.int (9 : Int32)), (.ref b1), (.ref b1)])) rfl rfl (hb hby at_56)
  have N11 := Fr.snoc X11 N10 nb1
  have K11 : Keep h0 h11 [] := K10.wr W11 (Or.inr sb1)
  refine own_step st11 ?_
  show own_Go _ _ _ _ _ _ _ T11 (mkF m 57 #[.val (.int p1), .val (.int p2), .val (.int p3), .unset, .unset] [(.ref b1)])
  refine own_step (fun t k => XS.dup X11.here hx rfl (hb hby at_57) rfl rfl k) ?_
  show own_Go _ _ _ _ _ _ _ T11 (mkF m 58 #[.val (.int p1), .val (.int p2), .val (.int p3), .unset, .unset] [(.ref b1), (.ref b1)])
  refine own_step (fun t k => XS.bipush X11.here hx rfl (hb hby at_58) k) ?_
  show own_Go _ _ _ _ _ _ _ T11 (mkF m 60 #[.val (.int p1), .val (.int p2), .val (.int p3), .unset, .unset] [(.int (10 : Int32)), (.ref b1), (.ref b1)])
  refine own_step (fun t k => X11.ldcInt hx hown (mvT hZ (hw _ (List.mem_of_getElem? (i := 7) rfl))) (g := (mkF m 60 #[.val (.int p1), .val (.int p2), .val (.int p3), .unset, .unset] [(.int (10 : Int32)), (.ref b1), (.ref b1)])) rfl (hb hby at_60) t k) ?_
  show own_Go _ _ _ _ _ _ _ T11 (mkF m 62 #[.val (.int p1), .val (.int p2), .val (.int p3), .unset, .unset] [(.int (1114111 : Int32)), (.int (10 : Int32)), (.ref b1), (.ref b1)])
  obtain ⟨T12, h12, X12, e12, W12, I12, st12⟩ := own_stI X11 hx hZ e11 I11 (by decide) (g := (mkF m 62 #[.val (.int p1), .val (.int p2), .val (.int p3), .unset, .unset] [(.int (1114111 : Int32)), (.int (10 : Int32)), (.ref b1), (.ref b1)])) rfl rfl (hb hby at_62)
  have N12 := Fr.snoc X12 N11 nb1
  have K12 : Keep h0 h12 [] := K11.wr W12 (Or.inr sb1)
  refine own_step st12 ?_
  show own_Go _ _ _ _ _ _ _ T12 (mkF m 63 #[.val (.int p1), .val (.int p2), .val (.int p3), .unset, .unset] [(.ref b1)])
  refine own_step (fun t k => XS.dup X12.here hx rfl (hb hby at_63) rfl rfl k) ?_
  show own_Go _ _ _ _ _ _ _ T12 (mkF m 64 #[.val (.int p1), .val (.int p2), .val (.int p3), .unset, .unset] [(.ref b1), (.ref b1)])
  refine own_step (fun t k => XS.bipush X12.here hx rfl (hb hby at_64) k) ?_
  show own_Go _ _ _ _ _ _ _ T12 (mkF m 66 #[.val (.int p1), .val (.int p2), .val (.int p3), .unset, .unset] [(.int (11 : Int32)), (.ref b1), (.ref b1)])
  refine own_step (fun t k => X12.ldcInt hx hown (mvT hZ (hw _ (List.mem_of_getElem? (i := 8) rfl))) (g := (mkF m 66 #[.val (.int p1), .val (.int p2), .val (.int p3), .unset, .unset] [(.int (11 : Int32)), (.ref b1), (.ref b1)])) rfl (hb hby at_66) t k) ?_
  show own_Go _ _ _ _ _ _ _ T12 (mkF m 68 #[.val (.int p1), .val (.int p2), .val (.int p3), .unset, .unset] [(.int (-2147483648 : Int32)), (.int (11 : Int32)), (.ref b1), (.ref b1)])
  obtain ⟨T13, h13, X13, e13, W13, I13, st13⟩ := own_stI X12 hx hZ e12 I12 (by decide) (g := (mkF m 68 #[.val (.int p1), .val (.int p2), .val (.int p3), .unset, .unset] [(.int (-2147483648 : Int32)), (.int (11 : Int32)), (.ref b1), (.ref b1)])) rfl rfl (hb hby at_68)
  have N13 := Fr.snoc X13 N12 nb1
  have K13 : Keep h0 h13 [] := K12.wr W13 (Or.inr sb1)
  refine own_step st13 ?_
  show own_Go _ _ _ _ _ _ _ T13 (mkF m 69 #[.val (.int p1), .val (.int p2), .val (.int p3), .unset, .unset] [(.ref b1)])
  refine own_step (fun t k => XS.dup X13.here hx rfl (hb hby at_69) rfl rfl k) ?_
  show own_Go _ _ _ _ _ _ _ T13 (mkF m 70 #[.val (.int p1), .val (.int p2), .val (.int p3), .unset, .unset] [(.ref b1), (.ref b1)])
  refine own_step (fun t k => XS.bipush X13.here hx rfl (hb hby at_70) k) ?_
  show own_Go _ _ _ _ _ _ _ T13 (mkF m 72 #[.val (.int p1), .val (.int p2), .val (.int p3), .unset, .unset] [(.int (12 : Int32)), (.ref b1), (.ref b1)])
  refine own_step (fun t k => X13.ldcInt hx hown (mvT hZ (hw _ (List.mem_of_getElem? (i := 9) rfl))) (g := (mkF m 72 #[.val (.int p1), .val (.int p2), .val (.int p3), .unset, .unset] [(.int (12 : Int32)), (.ref b1), (.ref b1)])) rfl (hb hby at_72) t k) ?_
  show own_Go _ _ _ _ _ _ _ T13 (mkF m 74 #[.val (.int p1), .val (.int p2), .val (.int p3), .unset, .unset] [(.int (2147483647 : Int32)), (.int (12 : Int32)), (.ref b1), (.ref b1)])
  obtain ⟨T14, h14, X14, e14, W14, I14, st14⟩ := own_stI X13 hx hZ e13 I13 (by decide) (g := (mkF m 74 #[.val (.int p1), .val (.int p2), .val (.int p3), .unset, .unset] [(.int (2147483647 : Int32)), (.int (12 : Int32)), (.ref b1), (.ref b1)])) rfl rfl (hb hby at_74)
  have N14 := Fr.snoc X14 N13 nb1
  have K14 : Keep h0 h14 [] := K13.wr W14 (Or.inr sb1)
  refine own_step st14 ?_
  show own_Go _ _ _ _ _ _ _ T14 (mkF m 75 #[.val (.int p1), .val (.int p2), .val (.int p3), .unset, .unset] [(.ref b1)])
  refine own_step (fun t k => XS.astoreN X14.here hx rfl (hb hby at_75) rfl rfl (l' := #[.val (.int p1), .val (.int p2), .val (.int p3), .val (.ref b1), .unset]) rfl k) ?_
  show own_Go _ _ _ _ _ _ _ T14 (mkF m 76 #[.val (.int p1), .val (.int p2), .val (.int p3), .val (.ref b1), .unset] [])
  refine own_step (fun t k => XS.iloadN X14.here hx rfl (hb hby at_76) rfl k) ?_
  show own_Go _ _ _ _ _ _ _ T14 (mkF m 77 #[.val (.int p1), .val (.int p2), .val (.int p3), .val (.ref b1), .unset] [(.int p2)])
  refine own_step (fun t k => XS.iconst X14.here hx rfl (hb hby at_77) k) ?_
  show own_Go _ _ _ _ _ _ _ T14 (mkF m 78 #[.val (.int p1), .val (.int p2), .val (.int p3), .val (.ref b1), .unset] [(.int (1 : Int32)), (.int p2)])
  refine own_step (fun t k => XS.iand X14.here hx rfl (hb hby at_78) rfl k) ?_
  have J105 : ∀ v : Int32, own_Go p e below s room_1.cells room_1.slots (own_Q0 Z p1 p2 p3 h0 n0) T14 (mkF m 105 #[.val (.int p1), .val (.int p2), .val (.int p3), .val (.ref b1), .val (.int v)] []) := by
    intro v
    show own_Go _ _ _ _ _ _ _ T14 (mkF m 105 #[.val (.int p1), .val (.int p2), .val (.int p3), .val (.ref b1), .val (.int v)] [])
    refine own_step (fun t k => XS.iload X14.here hx rfl (hb hby at_105) rfl k) ?_
    show own_Go _ _ _ _ _ _ _ T14 (mkF m 107 #[.val (.int p1), .val (.int p2), .val (.int p3), .val (.ref b1), .val (.int v)] [(.int v)])
    obtain ⟨_, _, ⟨T15, L15, k15, n15⟩, -, X15, ⟨Lc15, hQ15, l15, y15, z15⟩, st15⟩ := Jvm.LawKit.callS X14 hx (y := (⟨"com/example/xylem/xylem/XmlChars", "isChar", "(I)Z"⟩ : MethodName)) hown (mvT hZ (hw _ (List.mem_of_getElem? (i := 10) rfl))) (mvT hZ (hw _ (List.mem_of_getElem? (i := 11) rfl))) (mvT hZ (hw _ (List.mem_of_getElem? (i := 12) rfl))) (mvT hZ (hw _ (List.mem_of_getElem? (i := 13) rfl))) (by decide) (backOf (W := 0) (own_rm1 l Z a0 hw [] v h14 n0 (Nat.le_trans Z0 K14.1)) hZ (hw _ (List.mem_of_getElem? (i := 13) rfl)) (hw _ (List.mem_of_getElem? (i := 12) rfl)) (by decide) (by decide)) (g := (mkF m 107 #[.val (.int p1), .val (.int p2), .val (.int p3), .val (.ref b1), .val (.int v)] [(.int v)])) rfl (by rw [hml]; rfl) (argsL := [(.int v)]) (rest := []) (lenOf own_pd0_0 rfl) rfl (by show 2 * 0 + _ ≤ _; exact Nat.le_of_eq rfl) (hb hby at_107) (fun _ _ => ⟨rfl, e14, (by decide : 1 + 0 ≤ _), (by decide : 13 + 0 ≤ _)⟩)
    dsimp only [Pt.U, Pt.locs, Pt.cells, Pt.slots] at X15 l15 y15 z15 st15 hQ15
    subst l15 y15 z15
    obtain ⟨rfl, Nq15, e15⟩ := hQ15
    have N15 := Fr.app N14 Nq15
    refine own_step (fun t k => st15 t k) ?_
    show own_Go _ _ _ _ _ _ _ T15 (mkF m 110 #[.val (.int p1), .val (.int p2), .val (.int p3), .val (.ref b1), .val (.int v)] [(.int (own_vC v))])
    refine own_step (fun t k => XS.iload X15.here hx rfl (hb hby at_110) rfl k) ?_
    show own_Go _ _ _ _ _ _ _ T15 (mkF m 112 #[.val (.int p1), .val (.int p2), .val (.int p3), .val (.ref b1), .val (.int v)] [(.int v), (.int (own_vC v))])
    obtain ⟨_, _, ⟨T16, L16, k16, n16⟩, -, X16, ⟨Lc16, hQ16, l16, y16, z16⟩, st16⟩ := Jvm.LawKit.callS X15 hx (y := (⟨"com/example/xylem/xylem/XmlCharsIsCharPinLaw", "expected", "(I)Z"⟩ : MethodName)) hown (mvT hZ (hw _ (List.mem_of_getElem? (i := 14) rfl))) (mvT hZ (hw _ (List.mem_of_getElem? (i := 15) rfl))) (mvT hZ (hw _ (List.mem_of_getElem? (i := 16) rfl))) (mvT hZ (hw _ (List.mem_of_getElem? (i := 17) rfl))) (by decide) (backOf (W := 1) (own_rm2 l Z a0 hw [] v h14 n0 (Nat.le_trans Z0 K14.1)) hZ (hw _ (List.mem_of_getElem? (i := 17) rfl)) (hw _ (List.mem_of_getElem? (i := 16) rfl)) (by decide) (by decide)) (g := (mkF m 112 #[.val (.int p1), .val (.int p2), .val (.int p3), .val (.ref b1), .val (.int v)] [(.int v), (.int (own_vC v))])) rfl (by rw [hml]; rfl) (argsL := [(.int v)]) (rest := [(.int (own_vC v))]) (lenOf own_pd0_0 rfl) rfl (by show 2 * 0 + _ ≤ _; exact Nat.le_of_eq rfl) (hb hby at_112) (fun _ _ => ⟨rfl, e15, (by decide : 1 + 0 ≤ _), (by decide : 13 + 0 ≤ _)⟩)
    dsimp only [Pt.U, Pt.locs, Pt.cells, Pt.slots] at X16 l16 y16 z16 st16 hQ16
    subst l16 y16 z16
    obtain ⟨rfl, Nq16, e16⟩ := hQ16
    have N16 := Fr.app N15 Nq16
    refine own_step (fun t k => st16 t k) ?_
    show own_Go _ _ _ _ _ _ _ T16 (mkF m 115 #[.val (.int p1), .val (.int p2), .val (.int p3), .val (.ref b1), .val (.int v)] [(.int (own_vC v)), (.int (own_vC v))])
    refine own_step (fun t k => XS.icmpNo X16.here hx rfl (hb hby at_115) rfl (teq (rfl)).2 k) ?_
    show own_Go _ _ _ _ _ _ _ T16 (mkF m 118 #[.val (.int p1), .val (.int p2), .val (.int p3), .val (.ref b1), .val (.int v)] [])
    refine own_step (fun t k => XS.iconst X16.here hx rfl (hb hby at_118) k) ?_
    show own_Go _ _ _ _ _ _ _ T16 (mkF m 119 #[.val (.int p1), .val (.int p2), .val (.int p3), .val (.ref b1), .val (.int v)] [(.int (1 : Int32))])
    refine own_step (fun t k => XS.goto X16.here hx rfl (pc0 := 119) (pc' := 123) rfl (hb hby at_119) (by decide) (by decide) k) ?_
    show own_Go _ _ _ _ _ _ _ T16 (mkF m 123 #[.val (.int p1), .val (.int p2), .val (.int p3), .val (.ref b1), .val (.int v)] [(.int (1 : Int32))])
    refine own_ret X16 hx hlk Bd.returns rfl (Or.inl ⟨rfl, Or.inr (Or.inl rfl), _, rfl⟩) (hb hby at_123) (by decide) (by decide) ?_
    show own_Q0 Z p1 p2 p3 h0 n0 (some (.int (1 : Int32))) T16.heap _
    rw [e16]
    exact ⟨rfl, N16⟩
  rcases Classical.em ((p2 &&& (1 : Int32)) = (0 : Int32)) with c79_17 | c79_17
  · show own_Go _ _ _ _ _ _ _ T14 (mkF m 79 #[.val (.int p1), .val (.int p2), .val (.int p3), .val (.ref b1), .unset] [(.int (p2 &&& (1 : Int32)))])
    refine own_step (fun t k => XS.ifNo X14.here hx rfl (hb hby at_79) rfl ((if0 _ _).trans (teq (c79_17)).2) k) ?_
    show own_Go _ _ _ _ _ _ _ T14 (mkF m 82 #[.val (.int p1), .val (.int p2), .val (.int p3), .val (.ref b1), .unset] [])
    refine own_step (fun t k => XS.iloadN X14.here hx rfl (hb hby at_82) rfl k) ?_
    show own_Go _ _ _ _ _ _ _ T14 (mkF m 83 #[.val (.int p1), .val (.int p2), .val (.int p3), .val (.ref b1), .unset] [(.int p1)])
    refine own_step (fun t k => XS.istore X14.here hx rfl (hb hby at_83) rfl (l' := #[.val (.int p1), .val (.int p2), .val (.int p3), .val (.ref b1), .val (.int p1)]) rfl k) ?_
    show own_Go _ _ _ _ _ _ _ T14 (mkF m 85 #[.val (.int p1), .val (.int p2), .val (.int p3), .val (.ref b1), .val (.int p1)] [])
    refine own_step (fun t k => XS.goto X14.here hx rfl (pc0 := 85) (pc' := 105) rfl (hb hby at_85) (by decide) (by decide) k) ?_
    show own_Go _ _ _ _ _ _ _ T14 (mkF m 105 #[.val (.int p1), .val (.int p2), .val (.int p3), .val (.ref b1), .val (.int p1)] [])
    exact J105 _
  · show own_Go _ _ _ _ _ _ _ T14 (mkF m 79 #[.val (.int p1), .val (.int p2), .val (.int p3), .val (.ref b1), .unset] [(.int (p2 &&& (1 : Int32)))])
    refine own_step (fun t k => XS.ifYes X14.here hx rfl (pc0 := 79) (pc' := 88) rfl (hb hby at_79) rfl ((if0 _ _).trans (feq (c79_17)).2) (by decide) (by decide) k) ?_
    show own_Go _ _ _ _ _ _ _ T14 (mkF m 88 #[.val (.int p1), .val (.int p2), .val (.int p3), .val (.ref b1), .unset] [])
    refine own_step (fun t k => XS.aloadN X14.here hx rfl (hb hby at_88) rfl rfl k) ?_
    show own_Go _ _ _ _ _ _ _ T14 (mkF m 89 #[.val (.int p1), .val (.int p2), .val (.int p3), .val (.ref b1), .unset] [(.ref b1)])
    refine own_step (fun t k => XS.iloadN X14.here hx rfl (hb hby at_89) rfl k) ?_
    show own_Go _ _ _ _ _ _ _ T14 (mkF m 90 #[.val (.int p1), .val (.int p2), .val (.int p3), .val (.ref b1), .unset] [(.int p2), (.ref b1)])
    refine own_step (fun t k => XS.iconst X14.here hx rfl (hb hby at_90) k) ?_
    show own_Go _ _ _ _ _ _ _ T14 (mkF m 91 #[.val (.int p1), .val (.int p2), .val (.int p3), .val (.ref b1), .unset] [(.int (1 : Int32)), (.int p2), (.ref b1)])
    refine own_step (fun t k => XS.iushr X14.here hx rfl (hb hby at_91) rfl k) ?_
    show own_Go _ _ _ _ _ _ _ T14 (mkF m 92 #[.val (.int p1), .val (.int p2), .val (.int p3), .val (.ref b1), .unset] [(.int ((p2.toUInt32 >>> ((1 : Int32) &&& 31).toUInt32).toInt32)), (.ref b1)])
    refine own_step (fun t k => XS.bipush X14.here hx rfl (hb hby at_92) k) ?_
    show own_Go _ _ _ _ _ _ _ T14 (mkF m 94 #[.val (.int p1), .val (.int p2), .val (.int p3), .val (.ref b1), .unset] [(.int (13 : Int32)), (.int ((p2.toUInt32 >>> ((1 : Int32) &&& 31).toUInt32).toInt32)), (.ref b1)])
    refine own_step (fun t k => iremM X14 hx rfl (hb hby at_94) rfl (by decide) k) ?_
    show own_Go _ _ _ _ _ _ _ T14 (mkF m 95 #[.val (.int p1), .val (.int p2), .val (.int p3), .val (.ref b1), .unset] [(.int (((p2.toUInt32 >>> ((1 : Int32) &&& 31).toUInt32).toInt32) % (13 : Int32))), (.ref b1)])
    obtain ⟨z18, st18⟩ := own_ldI X14 hx hZ e14 I14 (own_idx p2) (g := (mkF m 95 #[.val (.int p1), .val (.int p2), .val (.int p3), .val (.ref b1), .unset] [(.int (((p2.toUInt32 >>> ((1 : Int32) &&& 31).toUInt32).toInt32) % (13 : Int32))), (.ref b1)])) rfl rfl (hb hby at_95)
    refine own_step st18 ?_
    show own_Go _ _ _ _ _ _ _ T14 (mkF m 96 #[.val (.int p1), .val (.int p2), .val (.int p3), .val (.ref b1), .unset] [(.int z18)])
    refine own_step (fun t k => XS.iloadN X14.here hx rfl (hb hby at_96) rfl k) ?_
    show own_Go _ _ _ _ _ _ _ T14 (mkF m 97 #[.val (.int p1), .val (.int p2), .val (.int p3), .val (.ref b1), .unset] [(.int p3), (.int z18)])
    refine own_step (fun t k => XS.bipush X14.here hx rfl (hb hby at_97) k) ?_
    show own_Go _ _ _ _ _ _ _ T14 (mkF m 99 #[.val (.int p1), .val (.int p2), .val (.int p3), .val (.ref b1), .unset] [(.int (7 : Int32)), (.int p3), (.int z18)])
    refine own_step (fun t k => XS.iand X14.here hx rfl (hb hby at_99) rfl k) ?_
    show own_Go _ _ _ _ _ _ _ T14 (mkF m 100 #[.val (.int p1), .val (.int p2), .val (.int p3), .val (.ref b1), .unset] [(.int (p3 &&& (7 : Int32))), (.int z18)])
    refine own_step (fun t k => XS.iconst X14.here hx rfl (hb hby at_100) k) ?_
    show own_Go _ _ _ _ _ _ _ T14 (mkF m 101 #[.val (.int p1), .val (.int p2), .val (.int p3), .val (.ref b1), .unset] [(.int (3 : Int32)), (.int (p3 &&& (7 : Int32))), (.int z18)])
    refine own_step (fun t k => XS.isub X14.here hx rfl (hb hby at_101) rfl k) ?_
    show own_Go _ _ _ _ _ _ _ T14 (mkF m 102 #[.val (.int p1), .val (.int p2), .val (.int p3), .val (.ref b1), .unset] [(.int ((p3 &&& (7 : Int32)) - (3 : Int32))), (.int z18)])
    refine own_step (fun t k => XS.iadd X14.here hx rfl (hb hby at_102) rfl k) ?_
    show own_Go _ _ _ _ _ _ _ T14 (mkF m 103 #[.val (.int p1), .val (.int p2), .val (.int p3), .val (.ref b1), .unset] [(.int (z18 + ((p3 &&& (7 : Int32)) - (3 : Int32))))])
    refine own_step (fun t k => XS.istore X14.here hx rfl (hb hby at_103) rfl (l' := #[.val (.int p1), .val (.int p2), .val (.int p3), .val (.ref b1), .val (.int (z18 + ((p3 &&& (7 : Int32)) - (3 : Int32))))]) rfl k) ?_
    show own_Go _ _ _ _ _ _ _ T14 (mkF m 105 #[.val (.int p1), .val (.int p2), .val (.int p3), .val (.ref b1), .val (.int (z18 + ((p3 &&& (7 : Int32)) - (3 : Int32))))] [])
    exact J105 _
set_option maxRecDepth 65536 in
set_option maxHeartbeats 40000000 in
theorem own_comes_1 {Post : Tables → Env → Array Value → State → Outcome → State → Prop} (hpost : ∀ tb e args s v u, (limb_1_1.after args s (.returned v) u = true ∧ limb_1_2.after args s (.returned v) u = true ∧ True) → FrameEnd s (.returned v) u (Jvm.fieldLocs frame_1_writes args s ++ Jvm.arrayLocs frame_1_arrays args s ++ Jvm.staticLocs frame_1_statics s) 16 128 → Post tb e args s (.returned v) u) :
    ArmFor flags0 classFile x code maxLocals ret World_1 tables_1 room_1 Calls_1 rest_1 Pre_1 Post := by
  intro l hfl _ _ p e ha hc hk s m args below hf hA hF happ hP
  obtain ⟨hcalls, hrest, hpre⟩ := hP
  obtain ⟨-, -, -, hnamed, -, -, -, hat⟩ := (Spec.applies_iff hf).mp happ
  obtain ⟨hg, hn⟩ := and_e (Cond.before_iff.mp (show (Jvm.Cond.and given_1 narrow_1).before args s = true from hpre))
  obtain ⟨g0, r0⟩ := and_e hg
  obtain ⟨g1, r1⟩ := and_e r0
  obtain ⟨g2, r2⟩ := and_e r1
  have g3 := r2
  obtain ⟨w0, w1, w2, rfl⟩ : ∃ w0 w1 w2 : Value, args = #[w0, w1, w2] := by
    have hs : args.size = 3 := by simpa [Cond.value, given_1] using g0
    obtain ⟨L⟩ := args
    match L, hs with
    | [w0, w1, w2], _ => exact ⟨w0, w1, w2, rfl⟩
  have hw := fun d (hd : d ∈ tables_1) => atoms_spec (ws := Jvm.Cond.code x code maxLocals ret :: tables_1) hat d (List.mem_cons_of_mem _ hd)
  have hfit : Fit s := fun {y c} hc i hi => by
    obtain ⟨ha, rfl⟩ := Array.getElem?_eq_some_iff.mp hc
    have q := List.all_eq_true.mp ((Array.all_eq_true_iff_forall_mem.mp hF) _ (Array.getElem_mem ha)) i (List.mem_range.mpr hi)
    simpa [Array.getElem?_eq_getElem hi] using q
  obtain ⟨i0, ei0⟩ := is_v g1
  obtain rfl : w0 = (.int i0) := Option.some.inj ei0
  obtain ⟨i1, ei1⟩ := is_v g2
  obtain rfl : w1 = (.int i1) := Option.some.inj ei1
  obtain ⟨i2, ei2⟩ := is_v g3
  obtain rfl : w2 = (.int i2) := Option.some.inj ei2
  obtain ⟨n, o, h1, h2, h3, _, L, rfl, ⟨rfl, N⟩, hq⟩ := own_rm0 l s _ hw tables_1 i0 i1 i2 s.heap s.heap.size (Nat.le_refl _) p e ha hc hk s m _ below hf ((Spec.applies_iff_loose hf).mp happ).1 ⟨rfl, State.Warmed39.refl s, rfl⟩ trivial
  refine ⟨n, _, h1, h2, h3, hpost _ _ _ _ _ _ ⟨Cond.after_iff.mpr rfl, Cond.after_iff.mpr (eq_i res_at (Term.int_eval (1)) rfl), trivial⟩ ⟨hq.1, hq.2.1, (hq.2.2.sift fun y hy => Or.inr (N y hy)).mono (by decide) (by decide)⟩⟩
theorem main_1_1 : Claimed_1_1 := own_comes_1 fun _ _ _ _ _ _ h hF => ⟨h.1, hF⟩
theorem main_1_2 : Claimed_1_2 := own_comes_1 fun _ _ _ _ _ _ h hF => ⟨h.2.1, hF⟩
end Jvm.Pilot.@@N@@
namespace Jvm.Pilot.@@N@@
open Jvm Jvm.ClassFile Sem Op Lib Jvm.Free Jvm.Stand Jvm.Pilot.@@N@@.Jvm.D
/-! MADE BY PROGRAM (witnessworld.py) out of the Statement's table words and the real class files: 9 classes; the members and pool entries that the words name. The judged class is class 1, her method 2. -/
namespace start1
open Jvm.ClassFile
def u (s : String) : CpInfo := .utf8 (stringToUtf16 s)
/-- a pool by its gaps: so many unusable entries, then the entry; so many at the end -/
def gap : Nat → List CpInfo → List CpInfo
  | 0, r => r
  | n + 1, r => .unusable :: gap n r
def poolList (es : List (Nat × CpInfo)) (last : Nat) : List CpInfo := es.foldr (fun e r => gap e.1 (e.2 :: r)) (gap last [])
def pool (es : List (Nat × CpInfo)) (last : Nat) : Array CpInfo := ⟨poolList es last⟩
def fileOf (pool : Array CpInfo) (this : Nat) (attrs : Array Attribute := #[]) (ms : Array MethodInfo := #[]) (fl : Nat := 33) (sup : Nat := 0) (ifs : Array Nat := #[]) (fds : Array FieldInfo := #[]) : ClassFile where
  minorVersion := 0
  majorVersion := 65
  constantPool := pool
  accessFlags := fl
  thisClass := this
  superClass := sup
  interfaces := ifs
  fields := fds
  methods := ms
  attributes := attrs
def plain (name : String) (sup : Option ClassId) : Class where
  name := name
  kind := .ordinary
  loader := none
  accessFlags := 33
  super := sup
  interfaces := #[]
  cf := none
  fields := #[]
  methods := #[]
  instanceTypes := #[]
  staticTypes := #[]
  resolved := #[]
  callSites := []
  init := .initialized
  statics := none
  mirror := none

def pool0 : Array CpInfo := pool [(5, u "<init>"), (0, u "()V"), (1, .class_ 10), (1, u "java/lang/Object")] 113

def k0m0 : Method := { name := "<init>", desc := "()V", sig := { parameters := [], returnType := none }, accessFlags := 1, code := none }
/-- java/lang/Object -/
def k0 : Class := { plain "java/lang/Object" none with
  accessFlags := 33
  interfaces := #[]
  cf := some (fileOf pool0 8 #[] #[{ accessFlags := 1, nameIndex := 5, descriptorIndex := 6, attributes := #[] }] 33 0 #[] #[])
  fields := #[]
  methods := #[k0m0]
  instanceTypes := #[]
  staticTypes := #[]
  resolved := Array.replicate 124 none
  statics := none }

def pool1 : Array CpInfo := pool [(2, .class_ 4), (1, u "java/lang/Object"), (0, u "<init>"), (0, u "()V"), (0, .integer 1114111), (0, .integer 55296), (0, .integer 57343), (0, .integer 65534), (0, .integer 65535), (0, .integer 55295), (0, .integer 57344), (0, .integer 65533), (0, .integer 65536), (2, .integer 2147483648), (0, .integer 2147483647), (0, .methodref 21 22), (0, .class_ 23), (0, .nameAndType 24 25), (0, u "com/example/xylem/xylem/XmlChars"), (0, u "isChar"), (0, u "(I)Z"), (0, .methodref 27 28), (0, .class_ 29), (0, .nameAndType 30 25), (0, u "com/example/xylem/xylem/XmlCharsIsCharPinLaw"), (0, u "expected"), (3, u "law"), (0, u "(III)Z")] 4

def k1m0 : Method := { name := "<init>", desc := "()V", sig := { parameters := [], returnType := none }, accessFlags := 2, code := none }
def k1c1 : Code := { maxStack := 2, maxLocals := 1, code := method_2_code, exceptionTable := #[], attributes := #[] }
def k1m1 : Method := { name := "expected", desc := "(I)Z", sig := { parameters := [.int], returnType := some .boolean }, accessFlags := 10, code := some k1c1 }
def k1c2 : Code := { maxStack := 4, maxLocals := 5, code := code, exceptionTable := #[], attributes := #[] }
def k1m2 : Method := { name := "law", desc := "(III)Z", sig := { parameters := [.int, .int, .int], returnType := some .boolean }, accessFlags := 9, code := some k1c2 }
/-- com/example/xylem/xylem/XmlCharsIsCharPinLaw -/
def k1 : Class := { plain "com/example/xylem/xylem/XmlCharsIsCharPinLaw" (some 0) with
  accessFlags := 49
  interfaces := #[]
  cf := some (fileOf pool1 27 #[] #[{ accessFlags := 2, nameIndex := 5, descriptorIndex := 6, attributes := #[] }, { accessFlags := 10, nameIndex := 30, descriptorIndex := 25, attributes := #[] }, { accessFlags := 9, nameIndex := 34, descriptorIndex := 35, attributes := #[] }] 49 2 #[] #[])
  fields := #[]
  methods := #[k1m0, k1m1, k1m2]
  instanceTypes := #[]
  staticTypes := #[]
  resolved := Array.replicate 40 none
  statics := none }

def pool2 : Array CpInfo := pool [(2, .class_ 4), (1, u "java/lang/Object"), (0, u "<init>"), (0, u "()V"), (0, .class_ 8), (0, u "com/example/xylem/xylem/XmlChars"), (0, .integer 55295), (0, .integer 57344), (0, .integer 65533), (0, .integer 65536), (0, .integer 1114111), (3, u "(I)Z"), (20, u "ASCII_NAMES"), (0, u "[B"), (37, u "NAME_START"), (0, u "B"), (2, u "NAME"), (1, u "PUBID_MARKS"), (0, u "Ljava/lang/String;"), (4, u "isChar")] 7

def k2m0 : Method := { name := "<init>", desc := "()V", sig := { parameters := [], returnType := none }, accessFlags := 2, code := none }
def k2c1 : Code := { maxStack := 2, maxLocals := 1, code := prog_9_method_3_code, exceptionTable := #[], attributes := #[] }
def k2m1 : Method := { name := "isChar", desc := "(I)Z", sig := { parameters := [.int], returnType := some .boolean }, accessFlags := 9, code := some k2c1 }
/-- com/example/xylem/xylem/XmlChars -/
def k2 : Class := { plain "com/example/xylem/xylem/XmlChars" (some 0) with
  accessFlags := 49
  interfaces := #[]
  cf := some (fileOf pool2 7 #[] #[{ accessFlags := 2, nameIndex := 5, descriptorIndex := 6, attributes := #[] }, { accessFlags := 9, nameIndex := 89, descriptorIndex := 17, attributes := #[] }] 49 2 #[] #[{ accessFlags := 26, nameIndex := 77, descriptorIndex := 78, attributes := #[] }, { accessFlags := 26, nameIndex := 81, descriptorIndex := 78, attributes := #[] }, { accessFlags := 26, nameIndex := 38, descriptorIndex := 39, attributes := #[] }, { accessFlags := 26, nameIndex := 83, descriptorIndex := 84, attributes := #[] }])
  fields := #[{ name := "NAME_START", type := .byte, accessFlags := 26, slot := 0, constantValue := 0 }, { name := "NAME", type := .byte, accessFlags := 26, slot := 1, constantValue := 0 }, { name := "ASCII_NAMES", type := (.array .byte), accessFlags := 26, slot := 2, constantValue := 0 }, { name := "PUBID_MARKS", type := (.object "java/lang/String"), accessFlags := 26, slot := 3, constantValue := 0 }]
  methods := #[k2m0, k2m1]
  instanceTypes := #[]
  staticTypes := #[.byte, .byte, (.array .byte), (.object "java/lang/String")]
  resolved := Array.replicate 97 none
  statics := none }

def pool3 : Array CpInfo := pool [(1, u "java/lang/Cloneable"), (0, .class_ 1), (0, u "java/lang/Object"), (0, .class_ 3)] 3

/-- java/lang/Cloneable -/
def k3 : Class := { plain "java/lang/Cloneable" (some 0) with
  accessFlags := 1537
  interfaces := #[]
  cf := some (fileOf pool3 2 #[] #[] 1537 4 #[] #[])
  fields := #[]
  methods := #[]
  instanceTypes := #[]
  staticTypes := #[]
  resolved := Array.replicate 8 none
  statics := none }

def pool4 : Array CpInfo := pool [(1, u "java/io/Serializable"), (0, .class_ 1), (0, u "java/lang/Object"), (0, .class_ 3)] 3

/-- java/io/Serializable -/
def k4 : Class := { plain "java/io/Serializable" (some 0) with
  accessFlags := 1537
  interfaces := #[]
  cf := some (fileOf pool4 2 #[] #[] 1537 4 #[] #[])
  fields := #[]
  methods := #[]
  instanceTypes := #[]
  staticTypes := #[]
  resolved := Array.replicate 8 none
  statics := none }

/-- the primitive byte -/
def k5 : Class := { plain "byte" none with kind := .primitive 'B', accessFlags := 0x411 }
/-- [B -/
def k6 : Class := { plain "[B" (some 0) with kind := .array 5 .byte, interfaces := #[3, 4], accessFlags := 1041 }

/-- the primitive int -/
def k7 : Class := { plain "int" none with kind := .primitive 'I', accessFlags := 0x411 }
/-- [I -/
def k8 : Class := { plain "[I" (some 0) with kind := .array 7 .int, interfaces := #[3, 4], accessFlags := 1041 }

def heap : Heap := #[]
def classes : Array Class := #[k0, k1, k2, k3, k4, k5, k6, k7, k8]
def interned : List (Array UInt16 × Addr) := []
def slotsUsed : Nat := 0
def theMethod : MethodId := ⟨1, 2⟩
def args0 : Array Value := #[.int 5, .int 3, .int 2]
def aboutOver (below : List Frame) : State where
  vm := { classes := classes, interned := interned.toArray }
  heap := heap
  slotsUsed := slotsUsed
  threads := #[{ frames := .invoking theMethod args0 :: below }]
def below0 : List Frame := [.native { method := ⟨0, 0⟩, args := #[] }]
def about1 : State := aboutOver below0
def p0 : Program := .bare "" "" ""
def e0 : Env := launch0.env 0 0 0
theorem w_frames : about1.frames = Frame.invoking theMethod args0 :: below0 := rfl
set_option maxRecDepth 65536 in
theorem w_args : argsFit about1.vm theMethod args0 = true := by decide +kernel
set_option maxRecDepth 65536 in
theorem w_heap : heapFits about1 = true := by decide +kernel
set_option maxRecDepth 65536 in
theorem w_runnable : about1.curStatus? = some .runnable := by decide +kernel
set_option maxRecDepth 65536 in
theorem w_alone : about1.alone = true := by decide +kernel
set_option maxRecDepth 65536 in
theorem w_named : about1.methodNamed? x = some theMethod := by decide +kernel
set_option maxRecDepth 65536 in
theorem w_hears : about1.hears theMethod below0 = true := by decide +kernel
set_option maxRecDepth 65536 in
theorem w_ripe : about1.ripe theMethod args0 below0 = true := by decide +kernel
theorem w_running : about1.status = .running := rfl
set_option maxRecDepth 65536 in
theorem w_room : about1.hasRoom e0.platform room_1 = true :=
  launch0.hasRoom_least _ room_1 (by decide +kernel) (by decide +kernel) (by decide +kernel) (by decide +kernel) (by decide +kernel) (by decide +kernel)
theorem allAtoms_all (ts : List Jvm.Cond) (a : Array Jvm.Value) (st : Jvm.State) : (allAtoms ts).before a st = ts.all (fun c => c.before a st) := by
  induction ts with
  | nil => rfl
  | cons c t ih =>
    show (Jvm.Cond.and c (allAtoms t)).before a st = _
    rw [Jvm.Cond.before_and, ih, List.all_cons]
def words1 : List Jvm.Cond := Jvm.Cond.code x code maxLocals ret :: tables_1
/-- a 'code' word, met by the world's own term for the bytes: nothing is compared byte by byte -/
theorem code_word {y : MethodName} {bytes : ByteArray} {mx : Nat} {rt : Option FieldType} {a : Array Value} {s : State} {m : MethodId} {meth : Method} {c : Code} (h1 : s.methodNamed? y = some m) (h2 : s.vm.method? m = some meth) (h3 : meth.code = some c) (h4 : c.code = bytes)
    (h5 : (c.maxLocals == mx && c.exceptionTable.isEmpty && decide (c.maxStack ≤ mostOperands) && decide (meth.sig.returnType = rt) && !meth.locks && decide (parseMethodDescriptor y.desc = some meth.sig)) = true) : (Jvm.Cond.code y bytes mx rt).before a s = true := by
  simp only [Bool.and_eq_true, beq_iff_eq, Bool.not_eq_true', decide_eq_true_eq] at h5
  obtain ⟨⟨⟨⟨⟨g1, g2⟩, g3⟩, g4⟩, g5⟩, g6⟩ := h5
  simp [Cond.before, Cond.holds, Cond.value, h1, h2, h3, h4, g1, g2, g3, g4, g5, g6]
def isCode : Jvm.Cond → Bool
  | .code _ _ _ _ => true
  | _ => false
theorem all_split {L : List Jvm.Cond} {P : Jvm.Cond → Bool} (h1 : L.all (fun c => isCode c || P c) = true) (h2 : ∀ c ∈ L.filter isCode, P c = true) : L.all P = true := by
  refine List.all_eq_true.mpr fun c hc => ?_
  have h := List.all_eq_true.mp h1 c hc
  rcases Bool.eq_false_or_eq_true (isCode c) with hi | hi
  · exact h2 c (List.mem_filter.mpr ⟨hc, hi⟩)
  · simpa [hi] using h
set_option maxRecDepth 65536 in
theorem w_c0 : (Jvm.Cond.code x code maxLocals ret).before args0 about1 = true := code_word (m := ⟨1, 2⟩) (meth := k1m2) (c := k1c2) (by decide +kernel) rfl rfl rfl (by decide +kernel)
set_option maxRecDepth 65536 in
theorem w_c1 : (Jvm.Cond.code ({ cls := "com/example/xylem/xylem/XmlChars", name := "isChar", desc := "(I)Z" } : Jvm.MethodName) prog_9_method_3_code (1 : Nat) (Option.some Jvm.ClassFile.FieldType.boolean)).before args0 about1 = true := code_word (m := ⟨2, 1⟩) (meth := k2m1) (c := k2c1) (by decide +kernel) rfl rfl rfl (by decide +kernel)
set_option maxRecDepth 65536 in
theorem w_c2 : (Jvm.Cond.code ({ cls := "com/example/xylem/xylem/XmlCharsIsCharPinLaw", name := "expected", desc := "(I)Z" } : Jvm.MethodName) method_2_code (1 : Nat) (Option.some Jvm.ClassFile.FieldType.boolean)).before args0 about1 = true := code_word (m := ⟨1, 1⟩) (meth := k1m1) (c := k1c1) (by decide +kernel) rfl rfl rfl (by decide +kernel)
def codes1 : List Jvm.Cond := [Jvm.Cond.code x code maxLocals ret, Jvm.Cond.code ({ cls := "com/example/xylem/xylem/XmlChars", name := "isChar", desc := "(I)Z" } : Jvm.MethodName) prog_9_method_3_code (1 : Nat) (Option.some Jvm.ClassFile.FieldType.boolean), Jvm.Cond.code ({ cls := "com/example/xylem/xylem/XmlCharsIsCharPinLaw", name := "expected", desc := "(I)Z" } : Jvm.MethodName) method_2_code (1 : Nat) (Option.some Jvm.ClassFile.FieldType.boolean)]
set_option maxRecDepth 65536 in
theorem codes_eq : words1.filter isCode = codes1 := rfl
theorem w_codes : ∀ c ∈ words1.filter isCode, c.before args0 about1 = true := by
  rw [codes_eq]
  intro c hc
  simp only [codes1, List.mem_cons, List.not_mem_nil, or_false] at hc
  rcases hc with rfl | rfl | rfl
  · exact w_c0
  · exact w_c1
  · exact w_c2
set_option maxRecDepth 65536 in
theorem w_t1 : (words1.take 24).all (fun c => isCode c || c.before args0 about1) = true := by decide +kernel
set_option maxRecDepth 65536 in
theorem w_t2 : (words1.drop 24).all (fun c => isCode c || c.before args0 about1) = true := by decide +kernel
theorem w_tables : (allAtoms (Jvm.Cond.code x code maxLocals ret :: tables_1)).before args0 about1 = true := by
  rw [allAtoms_all]
  show words1.all (fun c => c.before args0 about1) = true
  refine all_split ?_ w_codes
  rw [← List.take_append_drop 24 words1, List.all_append, w_t1, w_t2]
  rfl
set_option maxRecDepth 65536 in
theorem w_case : (Jvm.Cond.and given_1 narrow_1).before args0 about1 = true := by decide +kernel
theorem w_applies : (headSpec (Jvm.Cond.code x code maxLocals ret :: tables_1) room_1).applies x e0.platform about1 = true :=
  (Spec.applies_iff w_frames).mpr ⟨w_running, w_runnable, w_alone, w_named, w_hears, w_ripe, w_room, w_tables⟩
theorem atStart : AtStart classFile x code maxLocals ret World_1 tables_1 room_1 Calls_1 rest_1 Pre_1 launch0 p0 e0 about1 theMethod args0 below0 :=
  ⟨lists_1, trivial, launch0.admits_env _ _ _, launch0.least_env, fairChoices_fair.cas, fairChoices_fair.clock, w_frames, w_args, w_heap, w_applies, trivial, trivial, w_case⟩
end start1
theorem witness_1 : WitnessClaimed_1 := ⟨start1.p0, start1.e0, start1.about1, start1.theMethod, start1.args0, start1.below0, start1.atStart⟩
end Jvm.Pilot.@@N@@
