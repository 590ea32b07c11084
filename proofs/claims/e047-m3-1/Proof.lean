import JvmDerived
import JvmDerived.Pilot.@@N@@Statement
import JvmDerived.Pilot.@@N@@Code
set_option linter.unusedVariables false
set_option linter.unusedSimpArgs false
namespace Jvm.Pilot.@@N@@
open Jvm Jvm.ClassFile Sem Op Lib Jvm.Free Jvm.Stand Jvm.LawKit Jvm.RoadKit Bundle Jvm.Pilot.@@N@@.Jvm.D
/-- from here the run comes to a return, and Q holds of what it returns, of the heap and of the places written -/
def own_Go (p : Program) (e : Env) (below : List Frame) (s : State) (kc ks : Nat) (Q : Option Value → Heap → List Loc → Prop) (T : State) (g : JFrame) : Prop :=
  ∃ s₂ o, Steps p.tables e below (T.setTop g) s₂ ∧ s₂.status = .running ∧ Ended s₂ below o ∧ ∃ v L, o = .returned v ∧ Q v s₂.heap L ∧ FrameEnd s o s₂ L kc ks
theorem own_step {p : Program} {e : Env} {below : List Frame} {s : State} {kc ks : Nat} {Q : Option Value → Heap → List Loc → Prop} {T T' : State} {g g' : JFrame}
    (h : ∀ t, Steps p.tables e below (T'.setTop g') t → Steps p.tables e below (T.setTop g) t) (k : own_Go p e below s kc ks Q T' g') : own_Go p e below s kc ks Q T g := by
  obtain ⟨s₂, o, h1, r⟩ := k
  exact ⟨s₂, o, h _ h1, r⟩
section Own
variable {p : Program} {l : Launch} {e : Env} {R : Room} {s : State} {m : MethodId} {args : Array Value} {below : List Frame} {meth : Method} {c : Code} {T : State} {locs : List Loc} {cells slots kc ks : Nat} {Q : Option Value → Heap → List Loc → Prop}
theorem own_ret (X : Stand p l e R s m args below meth c T locs cells slots) (hx : p.tables.exec = Jvm.exec) (hlk : meth.locks = false) {pc : Nat} {Ls : Array Slot} {w : Value} {t : FieldType} {i : Instr} {rest : List Value} (hret : meth.sig.returnType = some t) (hn : narrow t w = w)
    (hi : (i = .ireturn ∧ (t = .int ∨ t = .boolean ∨ t = .byte ∨ t = .char ∨ t = .short) ∧ ∃ z, w = .int z) ∨ (i = .lreturn ∧ t = .long ∧ ∃ z, w = .long z) ∨ (i = .dreturn ∧ t = .double ∧ ∃ z, w = .double z) ∨ (i = .freturn ∧ t = .float ∧ ∃ z, w = .float z) ∨ (i = .areturn ∧ t.isReference = true ∧ w.isRef = true))
    (hd : decode c.code pc = .ok (i, 1)) (hc : cells ≤ kc) (hs : slots ≤ ks) (hQ : Q (some w) T.heap locs) : own_Go p e below s kc ks Q T (mkF m pc Ls (w :: rest)) := by
  obtain ⟨fs, hr, hrun, hended, hW, hsame⟩ := X.leave (v := some w) (fun h => by rw [hret] at h; cases h) hlk
  exact ⟨_, _, retOut X hx hret hn hi hd hr, hrun, hended, _, _, rfl, hQ, ⟨_, rfl⟩, hW, hsame.mono hc hs⟩
theorem own_retV (X : Stand p l e R s m args below meth c T locs cells slots) (hx : p.tables.exec = Jvm.exec) (hlk : meth.locks = false) {pc : Nat} {Ls : Array Slot} (hret : meth.sig.returnType = none)
    (hd : decode c.code pc = .ok (.return_, 1)) (hc : cells ≤ kc) (hs : slots ≤ ks) (hQ : Q none T.heap locs) : own_Go p e below s kc ks Q T (mkF m pc Ls []) := by
  obtain ⟨fs, hr, hrun, hended, hW, hsame⟩ := X.leave (v := none) (fun _ => rfl) hlk
  exact ⟨_, _, X.returnOut hx hret hd hr, hrun, hended, _, _, rfl, hQ, ⟨_, rfl⟩, hW, hsame.mono hc hs⟩
theorem own_narZ {z : Int32} (hz : z = 0 ∨ z = 1) : narrow .boolean (.int z) = .int z := by rcases hz with rfl | rfl <;> rfl
end Own
theorem own_acE {a b : Addr} (h : a = b) : if_acmp.holds .eq (some a) (some b) = true ∧ if_acmp.holds .ne (some a) (some b) = false := by simp [if_acmp.holds, h]
theorem own_acN {a b : Addr} (h : ¬ a = b) : if_acmp.holds .eq (some a) (some b) = false ∧ if_acmp.holds .ne (some a) (some b) = true := by simp [if_acmp.holds, h]
theorem own_ord {s : State} {args : Array Value} {t : Term} {C nm d : String} {n : Int32} {y : Addr} (ev : t.eval args s none [] s = some (.ref y)) (h : (Cond.eq (Term.field t C nm d) (Term.int n)).value args s none s [] = some true) : Fld s s.heap y C nm d (.int n) := by
  refine Fld.start ?_
  have q := fld_at (C := C) (n := nm) (dd := d) ev
  simp only [Cond.value, q] at h
  cases hf : s.fieldOf? y C nm d with
  | none => simp [hf] at h
  | some v => cases v <;> simp [hf, Term.eval] at h; rw [h]
def own_pick (w0 w1 w2 w3 w4 w5 w6 w7 w8 w9 w10 w11 w12 : Addr) (p : Int32) : Addr := if p = 0 then w0 else if p = 1 then w1 else if p = 2 then w2 else if p = 3 then w3 else if p = 4 then w4 else if p = 5 then w5 else if p = 6 then w6 else if p = 7 then w7 else if p = 8 then w8 else if p = 9 then w9 else if p = 10 then w10 else if p = 11 then w11 else w12
theorem own_AA {Z : State} {h : Heap} (w0 w1 w2 w3 w4 w5 w6 w7 w8 w9 w10 w11 w12 : Addr) (k : Int32) (A0 : Exa Z h w0 "com/example/variloom/variloom/model/IteratorCall$Kind") (A1 : Exa Z h w1 "com/example/variloom/variloom/model/IteratorCall$Kind") (A2 : Exa Z h w2 "com/example/variloom/variloom/model/IteratorCall$Kind") (A3 : Exa Z h w3 "com/example/variloom/variloom/model/IteratorCall$Kind") (A4 : Exa Z h w4 "com/example/variloom/variloom/model/IteratorCall$Kind") (A5 : Exa Z h w5 "com/example/variloom/variloom/model/IteratorCall$Kind") (A6 : Exa Z h w6 "com/example/variloom/variloom/model/IteratorCall$Kind") (A7 : Exa Z h w7 "com/example/variloom/variloom/model/IteratorCall$Kind") (A8 : Exa Z h w8 "com/example/variloom/variloom/model/IteratorCall$Kind") (A9 : Exa Z h w9 "com/example/variloom/variloom/model/IteratorCall$Kind") (A10 : Exa Z h w10 "com/example/variloom/variloom/model/IteratorCall$Kind") (A11 : Exa Z h w11 "com/example/variloom/variloom/model/IteratorCall$Kind") (A12 : Exa Z h w12 "com/example/variloom/variloom/model/IteratorCall$Kind") : Exa Z h (own_pick w0 w1 w2 w3 w4 w5 w6 w7 w8 w9 w10 w11 w12 k) "com/example/variloom/variloom/model/IteratorCall$Kind" := by
  unfold own_pick
  by_cases q0 : k = 0
  · rw [if_pos q0]; exact A0
  rw [if_neg q0]
  by_cases q1 : k = 1
  · rw [if_pos q1]; exact A1
  rw [if_neg q1]
  by_cases q2 : k = 2
  · rw [if_pos q2]; exact A2
  rw [if_neg q2]
  by_cases q3 : k = 3
  · rw [if_pos q3]; exact A3
  rw [if_neg q3]
  by_cases q4 : k = 4
  · rw [if_pos q4]; exact A4
  rw [if_neg q4]
  by_cases q5 : k = 5
  · rw [if_pos q5]; exact A5
  rw [if_neg q5]
  by_cases q6 : k = 6
  · rw [if_pos q6]; exact A6
  rw [if_neg q6]
  by_cases q7 : k = 7
  · rw [if_pos q7]; exact A7
  rw [if_neg q7]
  by_cases q8 : k = 8
  · rw [if_pos q8]; exact A8
  rw [if_neg q8]
  by_cases q9 : k = 9
  · rw [if_pos q9]; exact A9
  rw [if_neg q9]
  by_cases q10 : k = 10
  · rw [if_pos q10]; exact A10
  rw [if_neg q10]
  by_cases q11 : k = 11
  · rw [if_pos q11]; exact A11
  rw [if_neg q11]
  exact A12
theorem d1_0 : decode method_3_code 0 = .ok (.iload_n 0, 1) := by decide +kernel
theorem d1_1 : decode method_3_code 1 = .ok (.ifCond .ne 7, 3) := by decide +kernel
theorem d1_4 : decode method_3_code 4 = .ok (.getstatic 20, 3) := by decide +kernel
theorem d1_7 : decode method_3_code 7 = .ok (.areturn, 1) := by decide +kernel
theorem d1_8 : decode method_3_code 8 = .ok (.iload_n 0, 1) := by decide +kernel
theorem d1_9 : decode method_3_code 9 = .ok (.iconst 1, 1) := by decide +kernel
theorem d1_10 : decode method_3_code 10 = .ok (.if_icmp .ne 7, 3) := by decide +kernel
theorem d1_13 : decode method_3_code 13 = .ok (.getstatic 24, 3) := by decide +kernel
theorem d1_16 : decode method_3_code 16 = .ok (.areturn, 1) := by decide +kernel
theorem d1_17 : decode method_3_code 17 = .ok (.iload_n 0, 1) := by decide +kernel
theorem d1_18 : decode method_3_code 18 = .ok (.iconst 2, 1) := by decide +kernel
theorem d1_19 : decode method_3_code 19 = .ok (.if_icmp .ne 7, 3) := by decide +kernel
theorem d1_22 : decode method_3_code 22 = .ok (.getstatic 27, 3) := by decide +kernel
theorem d1_25 : decode method_3_code 25 = .ok (.areturn, 1) := by decide +kernel
theorem d1_26 : decode method_3_code 26 = .ok (.iload_n 0, 1) := by decide +kernel
theorem d1_27 : decode method_3_code 27 = .ok (.iconst 3, 1) := by decide +kernel
theorem d1_28 : decode method_3_code 28 = .ok (.if_icmp .ne 7, 3) := by decide +kernel
theorem d1_31 : decode method_3_code 31 = .ok (.getstatic 30, 3) := by decide +kernel
theorem d1_34 : decode method_3_code 34 = .ok (.areturn, 1) := by decide +kernel
theorem d1_35 : decode method_3_code 35 = .ok (.iload_n 0, 1) := by decide +kernel
theorem d1_36 : decode method_3_code 36 = .ok (.iconst 4, 1) := by decide +kernel
theorem d1_37 : decode method_3_code 37 = .ok (.if_icmp .ne 7, 3) := by decide +kernel
theorem d1_40 : decode method_3_code 40 = .ok (.getstatic 33, 3) := by decide +kernel
theorem d1_43 : decode method_3_code 43 = .ok (.areturn, 1) := by decide +kernel
theorem d1_44 : decode method_3_code 44 = .ok (.iload_n 0, 1) := by decide +kernel
theorem d1_45 : decode method_3_code 45 = .ok (.iconst 5, 1) := by decide +kernel
theorem d1_46 : decode method_3_code 46 = .ok (.if_icmp .ne 7, 3) := by decide +kernel
theorem d1_49 : decode method_3_code 49 = .ok (.getstatic 36, 3) := by decide +kernel
theorem d1_52 : decode method_3_code 52 = .ok (.areturn, 1) := by decide +kernel
theorem d1_53 : decode method_3_code 53 = .ok (.iload_n 0, 1) := by decide +kernel
theorem d1_54 : decode method_3_code 54 = .ok (.bipush 6, 2) := by decide +kernel
theorem d1_56 : decode method_3_code 56 = .ok (.if_icmp .ne 7, 3) := by decide +kernel
theorem d1_59 : decode method_3_code 59 = .ok (.getstatic 39, 3) := by decide +kernel
theorem d1_62 : decode method_3_code 62 = .ok (.areturn, 1) := by decide +kernel
theorem d1_63 : decode method_3_code 63 = .ok (.iload_n 0, 1) := by decide +kernel
theorem d1_64 : decode method_3_code 64 = .ok (.bipush 7, 2) := by decide +kernel
theorem d1_66 : decode method_3_code 66 = .ok (.if_icmp .ne 7, 3) := by decide +kernel
theorem d1_69 : decode method_3_code 69 = .ok (.getstatic 42, 3) := by decide +kernel
theorem d1_72 : decode method_3_code 72 = .ok (.areturn, 1) := by decide +kernel
theorem d1_73 : decode method_3_code 73 = .ok (.iload_n 0, 1) := by decide +kernel
theorem d1_74 : decode method_3_code 74 = .ok (.bipush 8, 2) := by decide +kernel
theorem d1_76 : decode method_3_code 76 = .ok (.if_icmp .ne 7, 3) := by decide +kernel
theorem d1_79 : decode method_3_code 79 = .ok (.getstatic 45, 3) := by decide +kernel
theorem d1_82 : decode method_3_code 82 = .ok (.areturn, 1) := by decide +kernel
theorem d1_83 : decode method_3_code 83 = .ok (.iload_n 0, 1) := by decide +kernel
theorem d1_84 : decode method_3_code 84 = .ok (.bipush 9, 2) := by decide +kernel
theorem d1_86 : decode method_3_code 86 = .ok (.if_icmp .ne 7, 3) := by decide +kernel
theorem d1_89 : decode method_3_code 89 = .ok (.getstatic 48, 3) := by decide +kernel
theorem d1_92 : decode method_3_code 92 = .ok (.areturn, 1) := by decide +kernel
theorem d1_93 : decode method_3_code 93 = .ok (.iload_n 0, 1) := by decide +kernel
theorem d1_94 : decode method_3_code 94 = .ok (.bipush 10, 2) := by decide +kernel
theorem d1_96 : decode method_3_code 96 = .ok (.if_icmp .ne 7, 3) := by decide +kernel
theorem d1_99 : decode method_3_code 99 = .ok (.getstatic 51, 3) := by decide +kernel
theorem d1_102 : decode method_3_code 102 = .ok (.areturn, 1) := by decide +kernel
theorem d1_103 : decode method_3_code 103 = .ok (.iload_n 0, 1) := by decide +kernel
theorem d1_104 : decode method_3_code 104 = .ok (.bipush 11, 2) := by decide +kernel
theorem d1_106 : decode method_3_code 106 = .ok (.if_icmp .ne 7, 3) := by decide +kernel
theorem d1_109 : decode method_3_code 109 = .ok (.getstatic 54, 3) := by decide +kernel
theorem d1_112 : decode method_3_code 112 = .ok (.areturn, 1) := by decide +kernel
theorem d1_113 : decode method_3_code 113 = .ok (.getstatic 57, 3) := by decide +kernel
theorem d1_116 : decode method_3_code 116 = .ok (.areturn, 1) := by decide +kernel
theorem own_pn1 : plainName "com/example/variloom/variloom/model/KindTakesTuplesPinLaw" = true := by first | (simp [plainName, overriddenIn]; done) | decide +kernel
theorem own_ef1 (m : MethodId) (x0 : Int32) : entryFrame m #[(.int x0)] 1 = mkF m 0 #[.val (.int x0)] [] := by first | (simp [entryFrame, mkF, argsToLocals, Value.category]; done) | rfl
def own_Q1 (Z : State) (p1 : Int32) (w0 : Addr) (w1 : Addr) (w2 : Addr) (w3 : Addr) (w4 : Addr) (w5 : Addr) (w6 : Addr) (w7 : Addr) (w8 : Addr) (w9 : Addr) (w10 : Addr) (w11 : Addr) (w12 : Addr) (h0 : Heap) (n0 : Nat) (v : Option Value) (h : Heap) (L : List Loc) : Prop := v = some (.ref (own_pick w0 w1 w2 w3 w4 w5 w6 w7 w8 w9 w10 w11 w12 p1)) ∧ Fr n0 L ∧ h = h0
set_option maxRecDepth 65536 in
set_option maxHeartbeats 40000000 in
theorem own_rm1 (l : Launch) (Z : State) (a0 : Array Value) (hw : ∀ d ∈ tables_1, d.before a0 Z = true) (ws : List Jvm.Cond) (p1 : Int32) (w0 : Addr) (w1 : Addr) (w2 : Addr) (w3 : Addr) (w4 : Addr) (w5 : Addr) (w6 : Addr) (w7 : Addr) (w8 : Addr) (w9 : Addr) (w10 : Addr) (w11 : Addr) (w12 : Addr) (h0 : Heap) (n0 : Nat) (Z0 : n0 ≤ h0.size) (S0 : Sta Z h0 "com/example/variloom/variloom/model/IteratorCall$Kind" "FOR_ALL" "Lcom/example/variloom/variloom/model/IteratorCall$Kind;" (.ref w0)) (S1 : Sta Z h0 "com/example/variloom/variloom/model/IteratorCall$Kind" "EXISTS" "Lcom/example/variloom/variloom/model/IteratorCall$Kind;" (.ref w1)) (S2 : Sta Z h0 "com/example/variloom/variloom/model/IteratorCall$Kind" "ONE" "Lcom/example/variloom/variloom/model/IteratorCall$Kind;" (.ref w2)) (S3 : Sta Z h0 "com/example/variloom/variloom/model/IteratorCall$Kind" "ANY" "Lcom/example/variloom/variloom/model/IteratorCall$Kind;" (.ref w3)) (S4 : Sta Z h0 "com/example/variloom/variloom/model/IteratorCall$Kind" "SELECT" "Lcom/example/variloom/variloom/model/IteratorCall$Kind;" (.ref w4)) (S5 : Sta Z h0 "com/example/variloom/variloom/model/IteratorCall$Kind" "REJECT" "Lcom/example/variloom/variloom/model/IteratorCall$Kind;" (.ref w5)) (S6 : Sta Z h0 "com/example/variloom/variloom/model/IteratorCall$Kind" "COLLECT" "Lcom/example/variloom/variloom/model/IteratorCall$Kind;" (.ref w6)) (S7 : Sta Z h0 "com/example/variloom/variloom/model/IteratorCall$Kind" "COLLECT_NESTED" "Lcom/example/variloom/variloom/model/IteratorCall$Kind;" (.ref w7)) (S8 : Sta Z h0 "com/example/variloom/variloom/model/IteratorCall$Kind" "IS_UNIQUE" "Lcom/example/variloom/variloom/model/IteratorCall$Kind;" (.ref w8)) (S9 : Sta Z h0 "com/example/variloom/variloom/model/IteratorCall$Kind" "SORTED_BY" "Lcom/example/variloom/variloom/model/IteratorCall$Kind;" (.ref w9)) (S10 : Sta Z h0 "com/example/variloom/variloom/model/IteratorCall$Kind" "CLOSURE" "Lcom/example/variloom/variloom/model/IteratorCall$Kind;" (.ref w10)) (S11 : Sta Z h0 "com/example/variloom/variloom/model/IteratorCall$Kind" "IS_ACYCLIC" "Lcom/example/variloom/variloom/model/IteratorCall$Kind;" (.ref w11)) (S12 : Sta Z h0 "com/example/variloom/variloom/model/IteratorCall$Kind" "ITERATE" "Lcom/example/variloom/variloom/model/IteratorCall$Kind;" (.ref w12)) :
    MetFree l (⟨"com/example/variloom/variloom/model/KindTakesTuplesPinLaw", "pick", "(I)Lcom/example/variloom/variloom/model/IteratorCall$Kind;"⟩ : MethodName) (head1 (Jvm.Cond.code (⟨"com/example/variloom/variloom/model/KindTakesTuplesPinLaw", "pick", "(I)Lcom/example/variloom/variloom/model/IteratorCall$Kind;"⟩ : MethodName) method_3_code 1 (some (.object "com/example/variloom/variloom/model/IteratorCall$Kind")) :: ws) ({ frames := 0, cells := 0, slots := 0, locals := 0 } : Room)) (fun a U => a = #[(.int p1)] ∧ Z.Warmed39 U.vm ∧ U.heap = h0) (fun _ _ _ _ _ => True) (fun _ U o U' => ∃ v L, o = .returned v ∧ own_Q1 Z p1 w0 w1 w2 w3 w4 w5 w6 w7 w8 w9 w10 w11 w12 h0 n0 v U'.heap L ∧ FrameEnd U o U' L ({ frames := 0, cells := 0, slots := 0, locals := 0 } : Room).cells ({ frames := 0, cells := 0, slots := 0, locals := 0 } : Room).slots) := by
  refine MetFree.of_bodySF (plainFor_of_name own_pn1) hisR ?_
  intro p e s m args below meth c s₁ Bd hml0 hP hK
  obtain ⟨rfl, hZ, hh⟩ := hP
  have hx := Bd.exec
  have hby := Bd.bytes
  have hml : c.maxLocals = 1 := hml0
  have hlk : meth.locks = false := BodyLoose.notSynchronized Bd
  have hown : s.vm.findClass "com/example/variloom/variloom/model/KindTakesTuplesPinLaw" = some m.cls := findClass_of_methodNamed Bd.named
  have hnm := (name_of_methodNamed Bd.named Bd.method).1
  have X0 : Stand p l e ({ frames := 0, cells := 0, slots := 0, locals := 0 } : Room) s m #[(.int p1)] below meth c s₁ [] 0 0 := Stand.of_body Bd
  have e0 : s₁.heap = h0 := by rw [← hh, Bd.state]; rfl
  have N0 := Fr.nil n0
  show own_Go p e below s ({ frames := 0, cells := 0, slots := 0, locals := 0 } : Room).cells ({ frames := 0, cells := 0, slots := 0, locals := 0 } : Room).slots (own_Q1 Z p1 w0 w1 w2 w3 w4 w5 w6 w7 w8 w9 w10 w11 w12 h0 n0) s₁ (entryFrame m #[(.int p1)] 1)
  refine own_step (fun t k => castTop (own_ef1 m p1) k) ?_
  show own_Go _ _ _ _ _ _ _ s₁ (mkF m 0 #[.val (.int p1)] [])
  refine own_step (fun t k => XS.iloadN X0.here hx rfl (hb hby d1_0) rfl k) ?_
  rcases Classical.em (p1 = (0 : Int32)) with c1_1 | c1_1
  · show own_Go _ _ _ _ _ _ _ s₁ (mkF m 1 #[.val (.int p1)] [(.int p1)])
    refine own_step (fun t k => XS.ifNo X0.here hx rfl (hb hby d1_1) rfl ((if0 _ _).trans (teq (c1_1)).2) k) ?_
    show own_Go _ _ _ _ _ _ _ s₁ (mkF m 4 #[.val (.int p1)] [])
    obtain ⟨T2, X2, e2, st2⟩ := getS2 X0 hx hZ hown (host := "") (Or.inl (hw _ (List.mem_of_getElem? (i := 5) rfl))) Via.refl e0 S0 (g := (mkF m 4 #[.val (.int p1)] [])) rfl (hb hby d1_4)
    refine own_step st2 ?_
    show own_Go _ _ _ _ _ _ _ T2 (mkF m 7 #[.val (.int p1)] [(.ref w0)])
    refine own_ret X2 hx hlk Bd.returns rfl (Or.inr (Or.inr (Or.inr (Or.inr ⟨rfl, rfl, rfl⟩)))) (hb hby d1_7) (by decide) (by decide) ?_
    show own_Q1 Z p1 w0 w1 w2 w3 w4 w5 w6 w7 w8 w9 w10 w11 w12 h0 n0 (some (.ref w0)) T2.heap _
    rw [e2]
    exact ⟨by simp [own_pick, c1_1], N0, rfl⟩
  · show own_Go _ _ _ _ _ _ _ s₁ (mkF m 1 #[.val (.int p1)] [(.int p1)])
    refine own_step (fun t k => XS.ifYes X0.here hx rfl (pc0 := 1) (pc' := 8) rfl (hb hby d1_1) rfl ((if0 _ _).trans (feq (c1_1)).2) (by decide) (by decide) k) ?_
    show own_Go _ _ _ _ _ _ _ s₁ (mkF m 8 #[.val (.int p1)] [])
    refine own_step (fun t k => XS.iloadN X0.here hx rfl (hb hby d1_8) rfl k) ?_
    show own_Go _ _ _ _ _ _ _ s₁ (mkF m 9 #[.val (.int p1)] [(.int p1)])
    refine own_step (fun t k => XS.iconst X0.here hx rfl (hb hby d1_9) k) ?_
    rcases Classical.em (p1 = (1 : Int32)) with c10_3 | c10_3
    · show own_Go _ _ _ _ _ _ _ s₁ (mkF m 10 #[.val (.int p1)] [(.int (1 : Int32)), (.int p1)])
      refine own_step (fun t k => XS.icmpNo X0.here hx rfl (hb hby d1_10) rfl (teq (c10_3)).2 k) ?_
      show own_Go _ _ _ _ _ _ _ s₁ (mkF m 13 #[.val (.int p1)] [])
      obtain ⟨T4, X4, e4, st4⟩ := getS2 X0 hx hZ hown (host := "") (Or.inl (hw _ (List.mem_of_getElem? (i := 30) rfl))) Via.refl e0 S1 (g := (mkF m 13 #[.val (.int p1)] [])) rfl (hb hby d1_13)
      refine own_step st4 ?_
      show own_Go _ _ _ _ _ _ _ T4 (mkF m 16 #[.val (.int p1)] [(.ref w1)])
      refine own_ret X4 hx hlk Bd.returns rfl (Or.inr (Or.inr (Or.inr (Or.inr ⟨rfl, rfl, rfl⟩)))) (hb hby d1_16) (by decide) (by decide) ?_
      show own_Q1 Z p1 w0 w1 w2 w3 w4 w5 w6 w7 w8 w9 w10 w11 w12 h0 n0 (some (.ref w1)) T4.heap _
      rw [e4]
      exact ⟨by simp [own_pick, c1_1, c10_3], N0, rfl⟩
    · show own_Go _ _ _ _ _ _ _ s₁ (mkF m 10 #[.val (.int p1)] [(.int (1 : Int32)), (.int p1)])
      refine own_step (fun t k => XS.icmpYes X0.here hx rfl (pc0 := 10) (pc' := 17) rfl (hb hby d1_10) rfl (feq (c10_3)).2 (by decide) (by decide) k) ?_
      show own_Go _ _ _ _ _ _ _ s₁ (mkF m 17 #[.val (.int p1)] [])
      refine own_step (fun t k => XS.iloadN X0.here hx rfl (hb hby d1_17) rfl k) ?_
      show own_Go _ _ _ _ _ _ _ s₁ (mkF m 18 #[.val (.int p1)] [(.int p1)])
      refine own_step (fun t k => XS.iconst X0.here hx rfl (hb hby d1_18) k) ?_
      rcases Classical.em (p1 = (2 : Int32)) with c19_5 | c19_5
      · show own_Go _ _ _ _ _ _ _ s₁ (mkF m 19 #[.val (.int p1)] [(.int (2 : Int32)), (.int p1)])
        refine own_step (fun t k => XS.icmpNo X0.here hx rfl (hb hby d1_19) rfl (teq (c19_5)).2 k) ?_
        show own_Go _ _ _ _ _ _ _ s₁ (mkF m 22 #[.val (.int p1)] [])
        obtain ⟨T6, X6, e6, st6⟩ := getS2 X0 hx hZ hown (host := "") (Or.inl (hw _ (List.mem_of_getElem? (i := 26) rfl))) Via.refl e0 S2 (g := (mkF m 22 #[.val (.int p1)] [])) rfl (hb hby d1_22)
        refine own_step st6 ?_
        show own_Go _ _ _ _ _ _ _ T6 (mkF m 25 #[.val (.int p1)] [(.ref w2)])
        refine own_ret X6 hx hlk Bd.returns rfl (Or.inr (Or.inr (Or.inr (Or.inr ⟨rfl, rfl, rfl⟩)))) (hb hby d1_25) (by decide) (by decide) ?_
        show own_Q1 Z p1 w0 w1 w2 w3 w4 w5 w6 w7 w8 w9 w10 w11 w12 h0 n0 (some (.ref w2)) T6.heap _
        rw [e6]
        exact ⟨by simp [own_pick, c1_1, c10_3, c19_5], N0, rfl⟩
      · show own_Go _ _ _ _ _ _ _ s₁ (mkF m 19 #[.val (.int p1)] [(.int (2 : Int32)), (.int p1)])
        refine own_step (fun t k => XS.icmpYes X0.here hx rfl (pc0 := 19) (pc' := 26) rfl (hb hby d1_19) rfl (feq (c19_5)).2 (by decide) (by decide) k) ?_
        show own_Go _ _ _ _ _ _ _ s₁ (mkF m 26 #[.val (.int p1)] [])
        refine own_step (fun t k => XS.iloadN X0.here hx rfl (hb hby d1_26) rfl k) ?_
        show own_Go _ _ _ _ _ _ _ s₁ (mkF m 27 #[.val (.int p1)] [(.int p1)])
        refine own_step (fun t k => XS.iconst X0.here hx rfl (hb hby d1_27) k) ?_
        rcases Classical.em (p1 = (3 : Int32)) with c28_7 | c28_7
        · show own_Go _ _ _ _ _ _ _ s₁ (mkF m 28 #[.val (.int p1)] [(.int (3 : Int32)), (.int p1)])
          refine own_step (fun t k => XS.icmpNo X0.here hx rfl (hb hby d1_28) rfl (teq (c28_7)).2 k) ?_
          show own_Go _ _ _ _ _ _ _ s₁ (mkF m 31 #[.val (.int p1)] [])
          obtain ⟨T8, X8, e8, st8⟩ := getS2 X0 hx hZ hown (host := "") (Or.inl (hw _ (List.mem_of_getElem? (i := 14) rfl))) Via.refl e0 S3 (g := (mkF m 31 #[.val (.int p1)] [])) rfl (hb hby d1_31)
          refine own_step st8 ?_
          show own_Go _ _ _ _ _ _ _ T8 (mkF m 34 #[.val (.int p1)] [(.ref w3)])
          refine own_ret X8 hx hlk Bd.returns rfl (Or.inr (Or.inr (Or.inr (Or.inr ⟨rfl, rfl, rfl⟩)))) (hb hby d1_34) (by decide) (by decide) ?_
          show own_Q1 Z p1 w0 w1 w2 w3 w4 w5 w6 w7 w8 w9 w10 w11 w12 h0 n0 (some (.ref w3)) T8.heap _
          rw [e8]
          exact ⟨by simp [own_pick, c1_1, c10_3, c19_5, c28_7], N0, rfl⟩
        · show own_Go _ _ _ _ _ _ _ s₁ (mkF m 28 #[.val (.int p1)] [(.int (3 : Int32)), (.int p1)])
          refine own_step (fun t k => XS.icmpYes X0.here hx rfl (pc0 := 28) (pc' := 35) rfl (hb hby d1_28) rfl (feq (c28_7)).2 (by decide) (by decide) k) ?_
          show own_Go _ _ _ _ _ _ _ s₁ (mkF m 35 #[.val (.int p1)] [])
          refine own_step (fun t k => XS.iloadN X0.here hx rfl (hb hby d1_35) rfl k) ?_
          show own_Go _ _ _ _ _ _ _ s₁ (mkF m 36 #[.val (.int p1)] [(.int p1)])
          refine own_step (fun t k => XS.iconst X0.here hx rfl (hb hby d1_36) k) ?_
          rcases Classical.em (p1 = (4 : Int32)) with c37_9 | c37_9
          · show own_Go _ _ _ _ _ _ _ s₁ (mkF m 37 #[.val (.int p1)] [(.int (4 : Int32)), (.int p1)])
            refine own_step (fun t k => XS.icmpNo X0.here hx rfl (hb hby d1_37) rfl (teq (c37_9)).2 k) ?_
            show own_Go _ _ _ _ _ _ _ s₁ (mkF m 40 #[.val (.int p1)] [])
            obtain ⟨T10, X10, e10, st10⟩ := getS2 X0 hx hZ hown (host := "") (Or.inl (hw _ (List.mem_of_getElem? (i := 37) rfl))) Via.refl e0 S4 (g := (mkF m 40 #[.val (.int p1)] [])) rfl (hb hby d1_40)
            refine own_step st10 ?_
            show own_Go _ _ _ _ _ _ _ T10 (mkF m 43 #[.val (.int p1)] [(.ref w4)])
            refine own_ret X10 hx hlk Bd.returns rfl (Or.inr (Or.inr (Or.inr (Or.inr ⟨rfl, rfl, rfl⟩)))) (hb hby d1_43) (by decide) (by decide) ?_
            show own_Q1 Z p1 w0 w1 w2 w3 w4 w5 w6 w7 w8 w9 w10 w11 w12 h0 n0 (some (.ref w4)) T10.heap _
            rw [e10]
            exact ⟨by simp [own_pick, c1_1, c10_3, c19_5, c28_7, c37_9], N0, rfl⟩
          · show own_Go _ _ _ _ _ _ _ s₁ (mkF m 37 #[.val (.int p1)] [(.int (4 : Int32)), (.int p1)])
            refine own_step (fun t k => XS.icmpYes X0.here hx rfl (pc0 := 37) (pc' := 44) rfl (hb hby d1_37) rfl (feq (c37_9)).2 (by decide) (by decide) k) ?_
            show own_Go _ _ _ _ _ _ _ s₁ (mkF m 44 #[.val (.int p1)] [])
            refine own_step (fun t k => XS.iloadN X0.here hx rfl (hb hby d1_44) rfl k) ?_
            show own_Go _ _ _ _ _ _ _ s₁ (mkF m 45 #[.val (.int p1)] [(.int p1)])
            refine own_step (fun t k => XS.iconst X0.here hx rfl (hb hby d1_45) k) ?_
            rcases Classical.em (p1 = (5 : Int32)) with c46_11 | c46_11
            · show own_Go _ _ _ _ _ _ _ s₁ (mkF m 46 #[.val (.int p1)] [(.int (5 : Int32)), (.int p1)])
              refine own_step (fun t k => XS.icmpNo X0.here hx rfl (hb hby d1_46) rfl (teq (c46_11)).2 k) ?_
              show own_Go _ _ _ _ _ _ _ s₁ (mkF m 49 #[.val (.int p1)] [])
              obtain ⟨T12, X12, e12, st12⟩ := getS2 X0 hx hZ hown (host := "") (Or.inl (hw _ (List.mem_of_getElem? (i := 20) rfl))) Via.refl e0 S5 (g := (mkF m 49 #[.val (.int p1)] [])) rfl (hb hby d1_49)
              refine own_step st12 ?_
              show own_Go _ _ _ _ _ _ _ T12 (mkF m 52 #[.val (.int p1)] [(.ref w5)])
              refine own_ret X12 hx hlk Bd.returns rfl (Or.inr (Or.inr (Or.inr (Or.inr ⟨rfl, rfl, rfl⟩)))) (hb hby d1_52) (by decide) (by decide) ?_
              show own_Q1 Z p1 w0 w1 w2 w3 w4 w5 w6 w7 w8 w9 w10 w11 w12 h0 n0 (some (.ref w5)) T12.heap _
              rw [e12]
              exact ⟨by simp [own_pick, c1_1, c10_3, c19_5, c28_7, c37_9, c46_11], N0, rfl⟩
            · show own_Go _ _ _ _ _ _ _ s₁ (mkF m 46 #[.val (.int p1)] [(.int (5 : Int32)), (.int p1)])
              refine own_step (fun t k => XS.icmpYes X0.here hx rfl (pc0 := 46) (pc' := 53) rfl (hb hby d1_46) rfl (feq (c46_11)).2 (by decide) (by decide) k) ?_
              show own_Go _ _ _ _ _ _ _ s₁ (mkF m 53 #[.val (.int p1)] [])
              refine own_step (fun t k => XS.iloadN X0.here hx rfl (hb hby d1_53) rfl k) ?_
              show own_Go _ _ _ _ _ _ _ s₁ (mkF m 54 #[.val (.int p1)] [(.int p1)])
              refine own_step (fun t k => XS.bipush X0.here hx rfl (hb hby d1_54) k) ?_
              rcases Classical.em (p1 = (6 : Int32)) with c56_13 | c56_13
              · show own_Go _ _ _ _ _ _ _ s₁ (mkF m 56 #[.val (.int p1)] [(.int (6 : Int32)), (.int p1)])
                refine own_step (fun t k => XS.icmpNo X0.here hx rfl (hb hby d1_56) rfl (teq (c56_13)).2 k) ?_
                show own_Go _ _ _ _ _ _ _ s₁ (mkF m 59 #[.val (.int p1)] [])
                obtain ⟨T14, X14, e14, st14⟩ := getS2 X0 hx hZ hown (host := "") (Or.inl (hw _ (List.mem_of_getElem? (i := 18) rfl))) Via.refl e0 S6 (g := (mkF m 59 #[.val (.int p1)] [])) rfl (hb hby d1_59)
                refine own_step st14 ?_
                show own_Go _ _ _ _ _ _ _ T14 (mkF m 62 #[.val (.int p1)] [(.ref w6)])
                refine own_ret X14 hx hlk Bd.returns rfl (Or.inr (Or.inr (Or.inr (Or.inr ⟨rfl, rfl, rfl⟩)))) (hb hby d1_62) (by decide) (by decide) ?_
                show own_Q1 Z p1 w0 w1 w2 w3 w4 w5 w6 w7 w8 w9 w10 w11 w12 h0 n0 (some (.ref w6)) T14.heap _
                rw [e14]
                exact ⟨by simp [own_pick, c1_1, c10_3, c19_5, c28_7, c37_9, c46_11, c56_13], N0, rfl⟩
              · show own_Go _ _ _ _ _ _ _ s₁ (mkF m 56 #[.val (.int p1)] [(.int (6 : Int32)), (.int p1)])
                refine own_step (fun t k => XS.icmpYes X0.here hx rfl (pc0 := 56) (pc' := 63) rfl (hb hby d1_56) rfl (feq (c56_13)).2 (by decide) (by decide) k) ?_
                show own_Go _ _ _ _ _ _ _ s₁ (mkF m 63 #[.val (.int p1)] [])
                refine own_step (fun t k => XS.iloadN X0.here hx rfl (hb hby d1_63) rfl k) ?_
                show own_Go _ _ _ _ _ _ _ s₁ (mkF m 64 #[.val (.int p1)] [(.int p1)])
                refine own_step (fun t k => XS.bipush X0.here hx rfl (hb hby d1_64) k) ?_
                rcases Classical.em (p1 = (7 : Int32)) with c66_15 | c66_15
                · show own_Go _ _ _ _ _ _ _ s₁ (mkF m 66 #[.val (.int p1)] [(.int (7 : Int32)), (.int p1)])
                  refine own_step (fun t k => XS.icmpNo X0.here hx rfl (hb hby d1_66) rfl (teq (c66_15)).2 k) ?_
                  show own_Go _ _ _ _ _ _ _ s₁ (mkF m 69 #[.val (.int p1)] [])
                  obtain ⟨T16, X16, e16, st16⟩ := getS2 X0 hx hZ hown (host := "") (Or.inl (hw _ (List.mem_of_getElem? (i := 22) rfl))) Via.refl e0 S7 (g := (mkF m 69 #[.val (.int p1)] [])) rfl (hb hby d1_69)
                  refine own_step st16 ?_
                  show own_Go _ _ _ _ _ _ _ T16 (mkF m 72 #[.val (.int p1)] [(.ref w7)])
                  refine own_ret X16 hx hlk Bd.returns rfl (Or.inr (Or.inr (Or.inr (Or.inr ⟨rfl, rfl, rfl⟩)))) (hb hby d1_72) (by decide) (by decide) ?_
                  show own_Q1 Z p1 w0 w1 w2 w3 w4 w5 w6 w7 w8 w9 w10 w11 w12 h0 n0 (some (.ref w7)) T16.heap _
                  rw [e16]
                  exact ⟨by simp [own_pick, c1_1, c10_3, c19_5, c28_7, c37_9, c46_11, c56_13, c66_15], N0, rfl⟩
                · show own_Go _ _ _ _ _ _ _ s₁ (mkF m 66 #[.val (.int p1)] [(.int (7 : Int32)), (.int p1)])
                  refine own_step (fun t k => XS.icmpYes X0.here hx rfl (pc0 := 66) (pc' := 73) rfl (hb hby d1_66) rfl (feq (c66_15)).2 (by decide) (by decide) k) ?_
                  show own_Go _ _ _ _ _ _ _ s₁ (mkF m 73 #[.val (.int p1)] [])
                  refine own_step (fun t k => XS.iloadN X0.here hx rfl (hb hby d1_73) rfl k) ?_
                  show own_Go _ _ _ _ _ _ _ s₁ (mkF m 74 #[.val (.int p1)] [(.int p1)])
                  refine own_step (fun t k => XS.bipush X0.here hx rfl (hb hby d1_74) k) ?_
                  rcases Classical.em (p1 = (8 : Int32)) with c76_17 | c76_17
                  · show own_Go _ _ _ _ _ _ _ s₁ (mkF m 76 #[.val (.int p1)] [(.int (8 : Int32)), (.int p1)])
                    refine own_step (fun t k => XS.icmpNo X0.here hx rfl (hb hby d1_76) rfl (teq (c76_17)).2 k) ?_
                    show own_Go _ _ _ _ _ _ _ s₁ (mkF m 79 #[.val (.int p1)] [])
                    obtain ⟨T18, X18, e18, st18⟩ := getS2 X0 hx hZ hown (host := "") (Or.inl (hw _ (List.mem_of_getElem? (i := 31) rfl))) Via.refl e0 S8 (g := (mkF m 79 #[.val (.int p1)] [])) rfl (hb hby d1_79)
                    refine own_step st18 ?_
                    show own_Go _ _ _ _ _ _ _ T18 (mkF m 82 #[.val (.int p1)] [(.ref w8)])
                    refine own_ret X18 hx hlk Bd.returns rfl (Or.inr (Or.inr (Or.inr (Or.inr ⟨rfl, rfl, rfl⟩)))) (hb hby d1_82) (by decide) (by decide) ?_
                    show own_Q1 Z p1 w0 w1 w2 w3 w4 w5 w6 w7 w8 w9 w10 w11 w12 h0 n0 (some (.ref w8)) T18.heap _
                    rw [e18]
                    exact ⟨by simp [own_pick, c1_1, c10_3, c19_5, c28_7, c37_9, c46_11, c56_13, c66_15, c76_17], N0, rfl⟩
                  · show own_Go _ _ _ _ _ _ _ s₁ (mkF m 76 #[.val (.int p1)] [(.int (8 : Int32)), (.int p1)])
                    refine own_step (fun t k => XS.icmpYes X0.here hx rfl (pc0 := 76) (pc' := 83) rfl (hb hby d1_76) rfl (feq (c76_17)).2 (by decide) (by decide) k) ?_
                    show own_Go _ _ _ _ _ _ _ s₁ (mkF m 83 #[.val (.int p1)] [])
                    refine own_step (fun t k => XS.iloadN X0.here hx rfl (hb hby d1_83) rfl k) ?_
                    show own_Go _ _ _ _ _ _ _ s₁ (mkF m 84 #[.val (.int p1)] [(.int p1)])
                    refine own_step (fun t k => XS.bipush X0.here hx rfl (hb hby d1_84) k) ?_
                    rcases Classical.em (p1 = (9 : Int32)) with c86_19 | c86_19
                    · show own_Go _ _ _ _ _ _ _ s₁ (mkF m 86 #[.val (.int p1)] [(.int (9 : Int32)), (.int p1)])
                      refine own_step (fun t k => XS.icmpNo X0.here hx rfl (hb hby d1_86) rfl (teq (c86_19)).2 k) ?_
                      show own_Go _ _ _ _ _ _ _ s₁ (mkF m 89 #[.val (.int p1)] [])
                      obtain ⟨T20, X20, e20, st20⟩ := getS2 X0 hx hZ hown (host := "") (Or.inl (hw _ (List.mem_of_getElem? (i := 24) rfl))) Via.refl e0 S9 (g := (mkF m 89 #[.val (.int p1)] [])) rfl (hb hby d1_89)
                      refine own_step st20 ?_
                      show own_Go _ _ _ _ _ _ _ T20 (mkF m 92 #[.val (.int p1)] [(.ref w9)])
                      refine own_ret X20 hx hlk Bd.returns rfl (Or.inr (Or.inr (Or.inr (Or.inr ⟨rfl, rfl, rfl⟩)))) (hb hby d1_92) (by decide) (by decide) ?_
                      show own_Q1 Z p1 w0 w1 w2 w3 w4 w5 w6 w7 w8 w9 w10 w11 w12 h0 n0 (some (.ref w9)) T20.heap _
                      rw [e20]
                      exact ⟨by simp [own_pick, c1_1, c10_3, c19_5, c28_7, c37_9, c46_11, c56_13, c66_15, c76_17, c86_19], N0, rfl⟩
                    · show own_Go _ _ _ _ _ _ _ s₁ (mkF m 86 #[.val (.int p1)] [(.int (9 : Int32)), (.int p1)])
                      refine own_step (fun t k => XS.icmpYes X0.here hx rfl (pc0 := 86) (pc' := 93) rfl (hb hby d1_86) rfl (feq (c86_19)).2 (by decide) (by decide) k) ?_
                      show own_Go _ _ _ _ _ _ _ s₁ (mkF m 93 #[.val (.int p1)] [])
                      refine own_step (fun t k => XS.iloadN X0.here hx rfl (hb hby d1_93) rfl k) ?_
                      show own_Go _ _ _ _ _ _ _ s₁ (mkF m 94 #[.val (.int p1)] [(.int p1)])
                      refine own_step (fun t k => XS.bipush X0.here hx rfl (hb hby d1_94) k) ?_
                      rcases Classical.em (p1 = (10 : Int32)) with c96_21 | c96_21
                      · show own_Go _ _ _ _ _ _ _ s₁ (mkF m 96 #[.val (.int p1)] [(.int (10 : Int32)), (.int p1)])
                        refine own_step (fun t k => XS.icmpNo X0.here hx rfl (hb hby d1_96) rfl (teq (c96_21)).2 k) ?_
                        show own_Go _ _ _ _ _ _ _ s₁ (mkF m 99 #[.val (.int p1)] [])
                        obtain ⟨T22, X22, e22, st22⟩ := getS2 X0 hx hZ hown (host := "") (Or.inl (hw _ (List.mem_of_getElem? (i := 33) rfl))) Via.refl e0 S10 (g := (mkF m 99 #[.val (.int p1)] [])) rfl (hb hby d1_99)
                        refine own_step st22 ?_
                        show own_Go _ _ _ _ _ _ _ T22 (mkF m 102 #[.val (.int p1)] [(.ref w10)])
                        refine own_ret X22 hx hlk Bd.returns rfl (Or.inr (Or.inr (Or.inr (Or.inr ⟨rfl, rfl, rfl⟩)))) (hb hby d1_102) (by decide) (by decide) ?_
                        show own_Q1 Z p1 w0 w1 w2 w3 w4 w5 w6 w7 w8 w9 w10 w11 w12 h0 n0 (some (.ref w10)) T22.heap _
                        rw [e22]
                        exact ⟨by simp [own_pick, c1_1, c10_3, c19_5, c28_7, c37_9, c46_11, c56_13, c66_15, c76_17, c86_19, c96_21], N0, rfl⟩
                      · show own_Go _ _ _ _ _ _ _ s₁ (mkF m 96 #[.val (.int p1)] [(.int (10 : Int32)), (.int p1)])
                        refine own_step (fun t k => XS.icmpYes X0.here hx rfl (pc0 := 96) (pc' := 103) rfl (hb hby d1_96) rfl (feq (c96_21)).2 (by decide) (by decide) k) ?_
                        show own_Go _ _ _ _ _ _ _ s₁ (mkF m 103 #[.val (.int p1)] [])
                        refine own_step (fun t k => XS.iloadN X0.here hx rfl (hb hby d1_103) rfl k) ?_
                        show own_Go _ _ _ _ _ _ _ s₁ (mkF m 104 #[.val (.int p1)] [(.int p1)])
                        refine own_step (fun t k => XS.bipush X0.here hx rfl (hb hby d1_104) k) ?_
                        rcases Classical.em (p1 = (11 : Int32)) with c106_23 | c106_23
                        · show own_Go _ _ _ _ _ _ _ s₁ (mkF m 106 #[.val (.int p1)] [(.int (11 : Int32)), (.int p1)])
                          refine own_step (fun t k => XS.icmpNo X0.here hx rfl (hb hby d1_106) rfl (teq (c106_23)).2 k) ?_
                          show own_Go _ _ _ _ _ _ _ s₁ (mkF m 109 #[.val (.int p1)] [])
                          obtain ⟨T24, X24, e24, st24⟩ := getS2 X0 hx hZ hown (host := "") (Or.inl (hw _ (List.mem_of_getElem? (i := 28) rfl))) Via.refl e0 S11 (g := (mkF m 109 #[.val (.int p1)] [])) rfl (hb hby d1_109)
                          refine own_step st24 ?_
                          show own_Go _ _ _ _ _ _ _ T24 (mkF m 112 #[.val (.int p1)] [(.ref w11)])
                          refine own_ret X24 hx hlk Bd.returns rfl (Or.inr (Or.inr (Or.inr (Or.inr ⟨rfl, rfl, rfl⟩)))) (hb hby d1_112) (by decide) (by decide) ?_
                          show own_Q1 Z p1 w0 w1 w2 w3 w4 w5 w6 w7 w8 w9 w10 w11 w12 h0 n0 (some (.ref w11)) T24.heap _
                          rw [e24]
                          exact ⟨by simp [own_pick, c1_1, c10_3, c19_5, c28_7, c37_9, c46_11, c56_13, c66_15, c76_17, c86_19, c96_21, c106_23], N0, rfl⟩
                        · show own_Go _ _ _ _ _ _ _ s₁ (mkF m 106 #[.val (.int p1)] [(.int (11 : Int32)), (.int p1)])
                          refine own_step (fun t k => XS.icmpYes X0.here hx rfl (pc0 := 106) (pc' := 113) rfl (hb hby d1_106) rfl (feq (c106_23)).2 (by decide) (by decide) k) ?_
                          show own_Go _ _ _ _ _ _ _ s₁ (mkF m 113 #[.val (.int p1)] [])
                          obtain ⟨T25, X25, e25, st25⟩ := getS2 X0 hx hZ hown (host := "") (Or.inl (hw _ (List.mem_of_getElem? (i := 35) rfl))) Via.refl e0 S12 (g := (mkF m 113 #[.val (.int p1)] [])) rfl (hb hby d1_113)
                          refine own_step st25 ?_
                          show own_Go _ _ _ _ _ _ _ T25 (mkF m 116 #[.val (.int p1)] [(.ref w12)])
                          refine own_ret X25 hx hlk Bd.returns rfl (Or.inr (Or.inr (Or.inr (Or.inr ⟨rfl, rfl, rfl⟩)))) (hb hby d1_116) (by decide) (by decide) ?_
                          show own_Q1 Z p1 w0 w1 w2 w3 w4 w5 w6 w7 w8 w9 w10 w11 w12 h0 n0 (some (.ref w12)) T25.heap _
                          rw [e25]
                          exact ⟨by simp [own_pick, c1_1, c10_3, c19_5, c28_7, c37_9, c46_11, c56_13, c66_15, c76_17, c86_19, c96_21, c106_23], N0, rfl⟩
theorem d2_0 : decode prog_63_method_5_code 0 = .ok (.aload_n 0, 1) := by decide +kernel
theorem d2_1 : decode prog_63_method_5_code 1 = .ok (.getstatic 3, 3) := by decide +kernel
theorem d2_4 : decode prog_63_method_5_code 4 = .ok (.if_acmp .eq 10, 3) := by decide +kernel
theorem d2_7 : decode prog_63_method_5_code 7 = .ok (.aload_n 0, 1) := by decide +kernel
theorem d2_8 : decode prog_63_method_5_code 8 = .ok (.getstatic 7, 3) := by decide +kernel
theorem d2_11 : decode prog_63_method_5_code 11 = .ok (.if_acmp .ne 7, 3) := by decide +kernel
theorem d2_14 : decode prog_63_method_5_code 14 = .ok (.iconst 1, 1) := by decide +kernel
theorem d2_15 : decode prog_63_method_5_code 15 = .ok (.goto 4, 3) := by decide +kernel
theorem d2_18 : decode prog_63_method_5_code 18 = .ok (.iconst 0, 1) := by decide +kernel
theorem d2_19 : decode prog_63_method_5_code 19 = .ok (.ireturn, 1) := by decide +kernel
theorem own_pn2 : plainName "com/example/variloom/variloom/model/IteratorCall$Kind" = true := by first | (simp [plainName, overriddenIn]; done) | decide +kernel
theorem own_ef2 (m : MethodId) (x0 : Addr) : entryFrame m #[(.ref x0)] 1 = mkF m 0 #[.val (.ref x0)] [] := by first | (simp [entryFrame, mkF, argsToLocals, Value.category]; done) | rfl
def own_Q2 (Z : State) (a1 : Addr) (w0 : Addr) (w1 : Addr) (h0 : Heap) (n0 : Nat) (v : Option Value) (h : Heap) (L : List Loc) : Prop := v = some (.int (if a1 = w0 ∨ a1 = w1 then 1 else 0)) ∧ Fr n0 L ∧ h = h0
set_option maxRecDepth 65536 in
set_option maxHeartbeats 40000000 in
theorem own_rm2 (l : Launch) (Z : State) (a0 : Array Value) (hw : ∀ d ∈ tables_1, d.before a0 Z = true) (ws : List Jvm.Cond) (a1 : Addr) (w0 : Addr) (w1 : Addr) (h0 : Heap) (n0 : Nat) (Z0 : n0 ≤ h0.size) (S0 : Sta Z h0 "com/example/variloom/variloom/model/IteratorCall$Kind" "FOR_ALL" "Lcom/example/variloom/variloom/model/IteratorCall$Kind;" (.ref w0)) (S1 : Sta Z h0 "com/example/variloom/variloom/model/IteratorCall$Kind" "EXISTS" "Lcom/example/variloom/variloom/model/IteratorCall$Kind;" (.ref w1)) :
    MetFree l (⟨"com/example/variloom/variloom/model/IteratorCall$Kind", "takesTuples", "()Z"⟩ : MethodName) (head1 (Jvm.Cond.code (⟨"com/example/variloom/variloom/model/IteratorCall$Kind", "takesTuples", "()Z"⟩ : MethodName) prog_63_method_5_code 1 (some .boolean) :: ws) ({ frames := 0, cells := 0, slots := 0, locals := 0 } : Room)) (fun a U => a = #[(.ref a1)] ∧ Z.Warmed39 U.vm ∧ U.heap = h0) (fun _ _ _ _ _ => True) (fun _ U o U' => ∃ v L, o = .returned v ∧ own_Q2 Z a1 w0 w1 h0 n0 v U'.heap L ∧ FrameEnd U o U' L ({ frames := 0, cells := 0, slots := 0, locals := 0 } : Room).cells ({ frames := 0, cells := 0, slots := 0, locals := 0 } : Room).slots) := by
  refine MetFree.of_bodySF (plainFor_of_name own_pn2) hisR ?_
  intro p e s m args below meth c s₁ Bd hml0 hP hK
  obtain ⟨rfl, hZ, hh⟩ := hP
  have hx := Bd.exec
  have hby := Bd.bytes
  have hml : c.maxLocals = 1 := hml0
  have hlk : meth.locks = false := BodyLoose.notSynchronized Bd
  have hown : s.vm.findClass "com/example/variloom/variloom/model/IteratorCall$Kind" = some m.cls := findClass_of_methodNamed Bd.named
  have hnm := (name_of_methodNamed Bd.named Bd.method).1
  have X0 : Stand p l e ({ frames := 0, cells := 0, slots := 0, locals := 0 } : Room) s m #[(.ref a1)] below meth c s₁ [] 0 0 := Stand.of_body Bd
  have e0 : s₁.heap = h0 := by rw [← hh, Bd.state]; rfl
  have N0 := Fr.nil n0
  show own_Go p e below s ({ frames := 0, cells := 0, slots := 0, locals := 0 } : Room).cells ({ frames := 0, cells := 0, slots := 0, locals := 0 } : Room).slots (own_Q2 Z a1 w0 w1 h0 n0) s₁ (entryFrame m #[(.ref a1)] 1)
  refine own_step (fun t k => castTop (own_ef2 m a1) k) ?_
  show own_Go _ _ _ _ _ _ _ s₁ (mkF m 0 #[.val (.ref a1)] [])
  refine own_step (fun t k => XS.aloadN X0.here hx rfl (hb hby d2_0) rfl rfl k) ?_
  show own_Go _ _ _ _ _ _ _ s₁ (mkF m 1 #[.val (.ref a1)] [(.ref a1)])
  obtain ⟨T1, X1, e1, st1⟩ := getS2 X0 hx hZ hown (host := "") (Or.inl (hw _ (List.mem_of_getElem? (i := 13) rfl))) Via.refl e0 S0 (g := (mkF m 1 #[.val (.ref a1)] [(.ref a1)])) rfl (hb hby d2_1)
  refine own_step st1 ?_
  rcases Classical.em (a1 = w0) with c4 | c4
  · show own_Go _ _ _ _ _ _ _ T1 (mkF m 4 #[.val (.ref a1)] [(.ref w0), (.ref a1)])
    refine own_step (fun t k => XS.acmpYes X1.here hx rfl (pc0 := 4) (pc' := 14) rfl (hb hby d2_4) rfl (own_acE c4).1 (by decide) (by decide) k) ?_
    show own_Go _ _ _ _ _ _ _ T1 (mkF m 14 #[.val (.ref a1)] [])
    refine own_step (fun t k => XS.iconst X1.here hx rfl (hb hby d2_14) k) ?_
    show own_Go _ _ _ _ _ _ _ T1 (mkF m 15 #[.val (.ref a1)] [(.int (1 : Int32))])
    refine own_step (fun t k => XS.goto X1.here hx rfl (pc0 := 15) (pc' := 19) rfl (hb hby d2_15) (by decide) (by decide) k) ?_
    show own_Go _ _ _ _ _ _ _ T1 (mkF m 19 #[.val (.ref a1)] [(.int (1 : Int32))])
    refine own_ret X1 hx hlk Bd.returns rfl (Or.inl ⟨rfl, Or.inr (Or.inl rfl), _, rfl⟩) (hb hby d2_19) (by decide) (by decide) ?_
    show own_Q2 Z a1 w0 w1 h0 n0 (some (.int (1 : Int32))) T1.heap _
    rw [e1]
    exact ⟨by simp [c4], N0, rfl⟩
  · show own_Go _ _ _ _ _ _ _ T1 (mkF m 4 #[.val (.ref a1)] [(.ref w0), (.ref a1)])
    refine own_step (fun t k => XS.acmpNo X1.here hx rfl (hb hby d2_4) rfl (own_acN c4).1 k) ?_
    show own_Go _ _ _ _ _ _ _ T1 (mkF m 7 #[.val (.ref a1)] [])
    refine own_step (fun t k => XS.aloadN X1.here hx rfl (hb hby d2_7) rfl rfl k) ?_
    show own_Go _ _ _ _ _ _ _ T1 (mkF m 8 #[.val (.ref a1)] [(.ref a1)])
    obtain ⟨T2, X2, e2, st2⟩ := getS2 X1 hx hZ hown (host := "") (Or.inl (hw _ (List.mem_of_getElem? (i := 16) rfl))) Via.refl e1 S1 (g := (mkF m 8 #[.val (.ref a1)] [(.ref a1)])) rfl (hb hby d2_8)
    refine own_step st2 ?_
    rcases Classical.em (a1 = w1) with c11 | c11
    · show own_Go _ _ _ _ _ _ _ T2 (mkF m 11 #[.val (.ref a1)] [(.ref w1), (.ref a1)])
      refine own_step (fun t k => XS.acmpNo X2.here hx rfl (hb hby d2_11) rfl (own_acE c11).2 k) ?_
      show own_Go _ _ _ _ _ _ _ T2 (mkF m 14 #[.val (.ref a1)] [])
      refine own_step (fun t k => XS.iconst X2.here hx rfl (hb hby d2_14) k) ?_
      show own_Go _ _ _ _ _ _ _ T2 (mkF m 15 #[.val (.ref a1)] [(.int (1 : Int32))])
      refine own_step (fun t k => XS.goto X2.here hx rfl (pc0 := 15) (pc' := 19) rfl (hb hby d2_15) (by decide) (by decide) k) ?_
      show own_Go _ _ _ _ _ _ _ T2 (mkF m 19 #[.val (.ref a1)] [(.int (1 : Int32))])
      refine own_ret X2 hx hlk Bd.returns rfl (Or.inl ⟨rfl, Or.inr (Or.inl rfl), _, rfl⟩) (hb hby d2_19) (by decide) (by decide) ?_
      show own_Q2 Z a1 w0 w1 h0 n0 (some (.int (1 : Int32))) T2.heap _
      rw [e2]
      exact ⟨by simp [c4, c11], N0, rfl⟩
    · show own_Go _ _ _ _ _ _ _ T2 (mkF m 11 #[.val (.ref a1)] [(.ref w1), (.ref a1)])
      refine own_step (fun t k => XS.acmpYes X2.here hx rfl (pc0 := 11) (pc' := 18) rfl (hb hby d2_11) rfl (own_acN c11).2 (by decide) (by decide) k) ?_
      show own_Go _ _ _ _ _ _ _ T2 (mkF m 18 #[.val (.ref a1)] [])
      refine own_step (fun t k => XS.iconst X2.here hx rfl (hb hby d2_18) k) ?_
      show own_Go _ _ _ _ _ _ _ T2 (mkF m 19 #[.val (.ref a1)] [(.int (0 : Int32))])
      refine own_ret X2 hx hlk Bd.returns rfl (Or.inl ⟨rfl, Or.inr (Or.inl rfl), _, rfl⟩) (hb hby d2_19) (by decide) (by decide) ?_
      show own_Q2 Z a1 w0 w1 h0 n0 (some (.int (0 : Int32))) T2.heap _
      rw [e2]
      exact ⟨by simp [c4, c11], N0, rfl⟩
theorem own_fin (w0 w1 w2 w3 w4 w5 w6 w7 w8 w9 w10 w11 w12 : Addr) (k : Int32) (d2_0 : ¬ w2 = w0) (d2_1 : ¬ w2 = w1) (d3_0 : ¬ w3 = w0) (d3_1 : ¬ w3 = w1) (d4_0 : ¬ w4 = w0) (d4_1 : ¬ w4 = w1) (d5_0 : ¬ w5 = w0) (d5_1 : ¬ w5 = w1) (d6_0 : ¬ w6 = w0) (d6_1 : ¬ w6 = w1) (d7_0 : ¬ w7 = w0) (d7_1 : ¬ w7 = w1) (d8_0 : ¬ w8 = w0) (d8_1 : ¬ w8 = w1) (d9_0 : ¬ w9 = w0) (d9_1 : ¬ w9 = w1) (d10_0 : ¬ w10 = w0) (d10_1 : ¬ w10 = w1) (d11_0 : ¬ w11 = w0) (d11_1 : ¬ w11 = w1) (d12_0 : ¬ w12 = w0) (d12_1 : ¬ w12 = w1) : ((own_pick w0 w1 w2 w3 w4 w5 w6 w7 w8 w9 w10 w11 w12 k) = w0 ∨ (own_pick w0 w1 w2 w3 w4 w5 w6 w7 w8 w9 w10 w11 w12 k) = w1) ↔ (k = 0 ∨ k = 1) := by
  unfold own_pick
  by_cases q0 : k = 0
  · subst q0; simp []
  by_cases q1 : k = 1
  · subst q1; simp []
  by_cases q2 : k = 2
  · subst q2; simp [d2_0, d2_1]
  by_cases q3 : k = 3
  · subst q3; simp [d3_0, d3_1]
  by_cases q4 : k = 4
  · subst q4; simp [d4_0, d4_1]
  by_cases q5 : k = 5
  · subst q5; simp [d5_0, d5_1]
  by_cases q6 : k = 6
  · subst q6; simp [d6_0, d6_1]
  by_cases q7 : k = 7
  · subst q7; simp [d7_0, d7_1]
  by_cases q8 : k = 8
  · subst q8; simp [d8_0, d8_1]
  by_cases q9 : k = 9
  · subst q9; simp [d9_0, d9_1]
  by_cases q10 : k = 10
  · subst q10; simp [d10_0, d10_1]
  by_cases q11 : k = 11
  · subst q11; simp [d11_0, d11_1]
  simp [q0, q1, q2, q3, q4, q5, q6, q7, q8, q9, q10, q11, d12_0, d12_1]
theorem own_pn0 : plainName "com/example/variloom/variloom/model/KindTakesTuplesPinLaw" = true := by first | (simp [plainName, overriddenIn]; done) | decide +kernel
theorem own_pd0_0 : parseMethodDescriptor "(I)Lcom/example/variloom/variloom/model/IteratorCall$Kind;" = some ⟨[.int], some (.object "com/example/variloom/variloom/model/IteratorCall$Kind")⟩ := by decide +kernel
theorem own_pd0_1 : parseMethodDescriptor "()Z" = some ⟨[], some .boolean⟩ := by decide +kernel
theorem own_ef0 (m : MethodId) (x0 : Int32) : entryFrame m #[(.int x0)] maxLocals = mkF m 0 #[.val (.int x0), .unset, .unset, .unset] [] := by first | (simp [entryFrame, mkF, argsToLocals, Value.category, maxLocals]; done) | rfl
def own_Q0 (Z : State) (p1 : Int32) (w0 : Addr) (w1 : Addr) (w2 : Addr) (w3 : Addr) (w4 : Addr) (w5 : Addr) (w6 : Addr) (w7 : Addr) (w8 : Addr) (w9 : Addr) (w10 : Addr) (w11 : Addr) (w12 : Addr) (h0 : Heap) (n0 : Nat) (v : Option Value) (h : Heap) (L : List Loc) : Prop := v = some (.int 1) ∧ Fr n0 L
set_option maxRecDepth 65536 in
set_option maxHeartbeats 40000000 in
theorem own_rm0 (l : Launch) (Z : State) (a0 : Array Value) (hw : ∀ d ∈ tables_1, d.before a0 Z = true) (ws : List Jvm.Cond) (p1 : Int32) (w0 : Addr) (w1 : Addr) (w2 : Addr) (w3 : Addr) (w4 : Addr) (w5 : Addr) (w6 : Addr) (w7 : Addr) (w8 : Addr) (w9 : Addr) (w10 : Addr) (w11 : Addr) (w12 : Addr) (h0 : Heap) (n0 : Nat) (Z0 : n0 ≤ h0.size) (S0 : Sta Z h0 "com/example/variloom/variloom/model/IteratorCall$Kind" "FOR_ALL" "Lcom/example/variloom/variloom/model/IteratorCall$Kind;" (.ref w0)) (S1 : Sta Z h0 "com/example/variloom/variloom/model/IteratorCall$Kind" "EXISTS" "Lcom/example/variloom/variloom/model/IteratorCall$Kind;" (.ref w1)) (S2 : Sta Z h0 "com/example/variloom/variloom/model/IteratorCall$Kind" "ONE" "Lcom/example/variloom/variloom/model/IteratorCall$Kind;" (.ref w2)) (S3 : Sta Z h0 "com/example/variloom/variloom/model/IteratorCall$Kind" "ANY" "Lcom/example/variloom/variloom/model/IteratorCall$Kind;" (.ref w3)) (S4 : Sta Z h0 "com/example/variloom/variloom/model/IteratorCall$Kind" "SELECT" "Lcom/example/variloom/variloom/model/IteratorCall$Kind;" (.ref w4)) (S5 : Sta Z h0 "com/example/variloom/variloom/model/IteratorCall$Kind" "REJECT" "Lcom/example/variloom/variloom/model/IteratorCall$Kind;" (.ref w5)) (S6 : Sta Z h0 "com/example/variloom/variloom/model/IteratorCall$Kind" "COLLECT" "Lcom/example/variloom/variloom/model/IteratorCall$Kind;" (.ref w6)) (S7 : Sta Z h0 "com/example/variloom/variloom/model/IteratorCall$Kind" "COLLECT_NESTED" "Lcom/example/variloom/variloom/model/IteratorCall$Kind;" (.ref w7)) (S8 : Sta Z h0 "com/example/variloom/variloom/model/IteratorCall$Kind" "IS_UNIQUE" "Lcom/example/variloom/variloom/model/IteratorCall$Kind;" (.ref w8)) (S9 : Sta Z h0 "com/example/variloom/variloom/model/IteratorCall$Kind" "SORTED_BY" "Lcom/example/variloom/variloom/model/IteratorCall$Kind;" (.ref w9)) (S10 : Sta Z h0 "com/example/variloom/variloom/model/IteratorCall$Kind" "CLOSURE" "Lcom/example/variloom/variloom/model/IteratorCall$Kind;" (.ref w10)) (S11 : Sta Z h0 "com/example/variloom/variloom/model/IteratorCall$Kind" "IS_ACYCLIC" "Lcom/example/variloom/variloom/model/IteratorCall$Kind;" (.ref w11)) (S12 : Sta Z h0 "com/example/variloom/variloom/model/IteratorCall$Kind" "ITERATE" "Lcom/example/variloom/variloom/model/IteratorCall$Kind;" (.ref w12)) (A0 : Exa Z h0 w0 "com/example/variloom/variloom/model/IteratorCall$Kind") (A1 : Exa Z h0 w1 "com/example/variloom/variloom/model/IteratorCall$Kind") (A2 : Exa Z h0 w2 "com/example/variloom/variloom/model/IteratorCall$Kind") (A3 : Exa Z h0 w3 "com/example/variloom/variloom/model/IteratorCall$Kind") (A4 : Exa Z h0 w4 "com/example/variloom/variloom/model/IteratorCall$Kind") (A5 : Exa Z h0 w5 "com/example/variloom/variloom/model/IteratorCall$Kind") (A6 : Exa Z h0 w6 "com/example/variloom/variloom/model/IteratorCall$Kind") (A7 : Exa Z h0 w7 "com/example/variloom/variloom/model/IteratorCall$Kind") (A8 : Exa Z h0 w8 "com/example/variloom/variloom/model/IteratorCall$Kind") (A9 : Exa Z h0 w9 "com/example/variloom/variloom/model/IteratorCall$Kind") (A10 : Exa Z h0 w10 "com/example/variloom/variloom/model/IteratorCall$Kind") (A11 : Exa Z h0 w11 "com/example/variloom/variloom/model/IteratorCall$Kind") (A12 : Exa Z h0 w12 "com/example/variloom/variloom/model/IteratorCall$Kind") (d2_0 : ¬ w2 = w0) (d2_1 : ¬ w2 = w1) (d3_0 : ¬ w3 = w0) (d3_1 : ¬ w3 = w1) (d4_0 : ¬ w4 = w0) (d4_1 : ¬ w4 = w1) (d5_0 : ¬ w5 = w0) (d5_1 : ¬ w5 = w1) (d6_0 : ¬ w6 = w0) (d6_1 : ¬ w6 = w1) (d7_0 : ¬ w7 = w0) (d7_1 : ¬ w7 = w1) (d8_0 : ¬ w8 = w0) (d8_1 : ¬ w8 = w1) (d9_0 : ¬ w9 = w0) (d9_1 : ¬ w9 = w1) (d10_0 : ¬ w10 = w0) (d10_1 : ¬ w10 = w1) (d11_0 : ¬ w11 = w0) (d11_1 : ¬ w11 = w1) (d12_0 : ¬ w12 = w0) (d12_1 : ¬ w12 = w1) :
    MetFree l x (head1 (Jvm.Cond.code x code maxLocals ret :: ws) room_1) (fun a U => a = #[(.int p1)] ∧ Z.Warmed39 U.vm ∧ U.heap = h0) (fun _ _ _ _ _ => True) (fun _ U o U' => ∃ v L, o = .returned v ∧ own_Q0 Z p1 w0 w1 w2 w3 w4 w5 w6 w7 w8 w9 w10 w11 w12 h0 n0 v U'.heap L ∧ FrameEnd U o U' L room_1.cells room_1.slots) := by
  refine MetFree.of_bodySF (plainFor_of_name own_pn0) hisR ?_
  intro p e s m args below meth c s₁ Bd hml0 hP hK
  obtain ⟨rfl, hZ, hh⟩ := hP
  have hx := Bd.exec
  have hby := Bd.bytes
  have hml : c.maxLocals = 4 := hml0
  have hlk : meth.locks = false := BodyLoose.notSynchronized Bd
  have hown : s.vm.findClass "com/example/variloom/variloom/model/KindTakesTuplesPinLaw" = some m.cls := findClass_of_methodNamed Bd.named
  have hnm := (name_of_methodNamed Bd.named Bd.method).1
  have X0 : Stand p l e room_1 s m #[(.int p1)] below meth c s₁ [] 0 0 := Stand.of_body Bd
  have e0 : s₁.heap = h0 := by rw [← hh, Bd.state]; rfl
  have N0 := Fr.nil n0
  show own_Go p e below s room_1.cells room_1.slots (own_Q0 Z p1 w0 w1 w2 w3 w4 w5 w6 w7 w8 w9 w10 w11 w12 h0 n0) s₁ (entryFrame m #[(.int p1)] maxLocals)
  refine own_step (fun t k => castTop (own_ef0 m p1) k) ?_
  show own_Go _ _ _ _ _ _ _ s₁ (mkF m 0 #[.val (.int p1), .unset, .unset, .unset] [])
  refine own_step (fun t k => XS.iloadN X0.here hx rfl (hb hby at_0) rfl k) ?_
  show own_Go _ _ _ _ _ _ _ s₁ (mkF m 1 #[.val (.int p1), .unset, .unset, .unset] [(.int p1)])
  refine own_step (fun t k => X0.ldcInt hx hown (mvT hZ (hw _ (List.mem_of_getElem? (i := 0) rfl))) (g := (mkF m 1 #[.val (.int p1), .unset, .unset, .unset] [(.int p1)])) rfl (hb hby at_1) t k) ?_
  show own_Go _ _ _ _ _ _ _ s₁ (mkF m 3 #[.val (.int p1), .unset, .unset, .unset] [(.int (2147483647 : Int32)), (.int p1)])
  refine own_step (fun t k => XS.iand X0.here hx rfl (hb hby at_3) rfl k) ?_
  show own_Go _ _ _ _ _ _ _ s₁ (mkF m 4 #[.val (.int p1), .unset, .unset, .unset] [(.int (p1 &&& (2147483647 : Int32)))])
  refine own_step (fun t k => XS.bipush X0.here hx rfl (hb hby at_4) k) ?_
  show own_Go _ _ _ _ _ _ _ s₁ (mkF m 6 #[.val (.int p1), .unset, .unset, .unset] [(.int (13 : Int32)), (.int (p1 &&& (2147483647 : Int32)))])
  refine own_step (fun t k => iremM X0 hx rfl (hb hby at_6) rfl (by decide) k) ?_
  show own_Go _ _ _ _ _ _ _ s₁ (mkF m 7 #[.val (.int p1), .unset, .unset, .unset] [(.int ((p1 &&& (2147483647 : Int32)) % (13 : Int32)))])
  refine own_step (fun t k => XS.istoreN X0.here hx rfl (hb hby at_7) rfl (l' := #[.val (.int p1), .val (.int ((p1 &&& (2147483647 : Int32)) % (13 : Int32))), .unset, .unset]) rfl k) ?_
  obtain ⟨kk, hkk⟩ : ∃ z, z = ((p1 &&& (2147483647 : Int32)) % (13 : Int32)) := ⟨_, rfl⟩
  show own_Go _ _ _ _ _ _ _ s₁ (mkF m 8 #[.val (.int p1), .val (.int ((p1 &&& (2147483647 : Int32)) % (13 : Int32))), .unset, .unset] [])
  rw [← hkk]
  show own_Go _ _ _ _ _ _ _ s₁ (mkF m 8 #[.val (.int p1), .val (.int kk), .unset, .unset] [])
  refine own_step (fun t k => XS.iloadN X0.here hx rfl (hb hby at_8) rfl k) ?_
  show own_Go _ _ _ _ _ _ _ s₁ (mkF m 9 #[.val (.int p1), .val (.int kk), .unset, .unset] [(.int kk)])
  obtain ⟨_, _, ⟨T1, L1, k1, n1⟩, -, X1, ⟨Lc1, hQ1, l1, y1, z1⟩, st1⟩ := Jvm.LawKit.callS X0 hx (y := (⟨"com/example/variloom/variloom/model/KindTakesTuplesPinLaw", "pick", "(I)Lcom/example/variloom/variloom/model/IteratorCall$Kind;"⟩ : MethodName)) hown (mvT hZ (hw _ (List.mem_of_getElem? (i := 1) rfl))) (mvT hZ (hw _ (List.mem_of_getElem? (i := 2) rfl))) (mvT hZ (hw _ (List.mem_of_getElem? (i := 3) rfl))) (mvT hZ (hw _ (List.mem_of_getElem? (i := 4) rfl))) (by decide) (backOf (W := 0) (own_rm1 l Z a0 hw [] kk w0 w1 w2 w3 w4 w5 w6 w7 w8 w9 w10 w11 w12 h0 n0 Z0 S0 S1 S2 S3 S4 S5 S6 S7 S8 S9 S10 S11 S12) hZ (hw _ (List.mem_of_getElem? (i := 4) rfl)) (hw _ (List.mem_of_getElem? (i := 3) rfl)) (by decide) (by decide)) (g := (mkF m 9 #[.val (.int p1), .val (.int kk), .unset, .unset] [(.int kk)])) rfl (by rw [hml]; rfl) (argsL := [(.int kk)]) (rest := []) (lenOf own_pd0_0 rfl) rfl (by show 2 * 0 + _ ≤ _; exact Nat.le_of_eq rfl) (hb hby at_9) (fun _ _ => ⟨rfl, e0, (by decide : 0 + 0 ≤ _), (by decide : 0 + 0 ≤ _)⟩)
  dsimp only [Pt.U, Pt.locs, Pt.cells, Pt.slots] at X1 l1 y1 z1 st1 hQ1
  subst l1 y1 z1
  obtain ⟨rfl, Nq1, e1⟩ := hQ1
  have N1 := Fr.app N0 Nq1
  refine own_step (fun t k => st1 t k) ?_
  show own_Go _ _ _ _ _ _ _ T1 (mkF m 12 #[.val (.int p1), .val (.int kk), .unset, .unset] [(.ref (own_pick w0 w1 w2 w3 w4 w5 w6 w7 w8 w9 w10 w11 w12 kk))])
  refine own_step (fun t k => XS.astoreN X1.here hx rfl (hb hby at_12) rfl rfl (l' := #[.val (.int p1), .val (.int kk), .val (.ref (own_pick w0 w1 w2 w3 w4 w5 w6 w7 w8 w9 w10 w11 w12 kk)), .unset]) rfl k) ?_
  show own_Go _ _ _ _ _ _ _ T1 (mkF m 13 #[.val (.int p1), .val (.int kk), .val (.ref (own_pick w0 w1 w2 w3 w4 w5 w6 w7 w8 w9 w10 w11 w12 kk)), .unset] [])
  refine own_step (fun t k => XS.iloadN X1.here hx rfl (hb hby at_13) rfl k) ?_
  rcases Classical.em (kk = (0 : Int32)) with c14_2 | c14_2
  · show own_Go _ _ _ _ _ _ _ T1 (mkF m 14 #[.val (.int p1), .val (.int kk), .val (.ref (own_pick w0 w1 w2 w3 w4 w5 w6 w7 w8 w9 w10 w11 w12 kk)), .unset] [(.int kk)])
    refine own_step (fun t k => XS.ifYes X1.here hx rfl (pc0 := 14) (pc' := 22) rfl (hb hby at_14) rfl ((if0 _ _).trans (teq (c14_2)).1) (by decide) (by decide) k) ?_
    show own_Go _ _ _ _ _ _ _ T1 (mkF m 22 #[.val (.int p1), .val (.int kk), .val (.ref (own_pick w0 w1 w2 w3 w4 w5 w6 w7 w8 w9 w10 w11 w12 kk)), .unset] [])
    refine own_step (fun t k => XS.iconst X1.here hx rfl (hb hby at_22) k) ?_
    show own_Go _ _ _ _ _ _ _ T1 (mkF m 23 #[.val (.int p1), .val (.int kk), .val (.ref (own_pick w0 w1 w2 w3 w4 w5 w6 w7 w8 w9 w10 w11 w12 kk)), .unset] [(.int (1 : Int32))])
    refine own_step (fun t k => XS.goto X1.here hx rfl (pc0 := 23) (pc' := 27) rfl (hb hby at_23) (by decide) (by decide) k) ?_
    show own_Go _ _ _ _ _ _ _ T1 (mkF m 27 #[.val (.int p1), .val (.int kk), .val (.ref (own_pick w0 w1 w2 w3 w4 w5 w6 w7 w8 w9 w10 w11 w12 kk)), .unset] [(.int (1 : Int32))])
    refine own_step (fun t k => XS.istoreN X1.here hx rfl (hb hby at_27) rfl (l' := #[.val (.int p1), .val (.int kk), .val (.ref (own_pick w0 w1 w2 w3 w4 w5 w6 w7 w8 w9 w10 w11 w12 kk)), .val (.int (1 : Int32))]) rfl k) ?_
    show own_Go _ _ _ _ _ _ _ T1 (mkF m 28 #[.val (.int p1), .val (.int kk), .val (.ref (own_pick w0 w1 w2 w3 w4 w5 w6 w7 w8 w9 w10 w11 w12 kk)), .val (.int (1 : Int32))] [])
    refine own_step (fun t k => XS.aloadN X1.here hx rfl (hb hby at_28) rfl rfl k) ?_
    have AA : Exa Z h0 (own_pick w0 w1 w2 w3 w4 w5 w6 w7 w8 w9 w10 w11 w12 kk) "com/example/variloom/variloom/model/IteratorCall$Kind" := own_AA w0 w1 w2 w3 w4 w5 w6 w7 w8 w9 w10 w11 w12 kk A0 A1 A2 A3 A4 A5 A6 A7 A8 A9 A10 A11 A12
    show own_Go _ _ _ _ _ _ _ T1 (mkF m 29 #[.val (.int p1), .val (.int kk), .val (.ref (own_pick w0 w1 w2 w3 w4 w5 w6 w7 w8 w9 w10 w11 w12 kk)), .val (.int (1 : Int32))] [(.ref (own_pick w0 w1 w2 w3 w4 w5 w6 w7 w8 w9 w10 w11 w12 kk))])
    obtain ⟨cq3, kq3, q3a, q3b, q3c⟩ := isOf hZ e1 AA
    obtain ⟨_, _, ⟨T3, L3, k3, n3⟩, -, X3, ⟨Lc3, hQ3, l3, y3, z3⟩, st3⟩ := X1.virtualBack hx (y := (⟨"com/example/variloom/variloom/model/IteratorCall$Kind", "takesTuples", "()Z"⟩ : MethodName)) (z := (⟨"com/example/variloom/variloom/model/IteratorCall$Kind", "takesTuples", "()Z"⟩ : MethodName)) hown (mvT hZ (hw _ (List.mem_of_getElem? (i := 8) rfl))) (mvT hZ (hw _ (List.mem_of_getElem? (i := 9) rfl))) (notFace_of_selects (args := #[]) (mvT hZ (hw _ (List.mem_of_getElem? (i := 11) rfl)))) (mvT hZ (hw _ (List.mem_of_getElem? (i := 11) rfl))) (mvT hZ (hw _ (List.mem_of_getElem? (i := 10) rfl))) (by decide) (backOf (W := 0) (own_rm2 l Z a0 hw [] (own_pick w0 w1 w2 w3 w4 w5 w6 w7 w8 w9 w10 w11 w12 kk) w0 w1 h0 n0 Z0 S0 S1) hZ (hw _ (List.mem_of_getElem? (i := 12) rfl)) (hw _ (List.mem_of_getElem? (i := 6) rfl)) (by decide) (by decide)) q3a q3c (g := (mkF m 29 #[.val (.int p1), .val (.int kk), .val (.ref (own_pick w0 w1 w2 w3 w4 w5 w6 w7 w8 w9 w10 w11 w12 kk)), .val (.int (1 : Int32))] [(.ref (own_pick w0 w1 w2 w3 w4 w5 w6 w7 w8 w9 w10 w11 w12 kk))])) rfl (by rw [hml]; rfl) (Steps.refl _) (argsL := []) (rest := []) (lenOf own_pd0_1 rfl) rfl (by show 2 * 0 + _ ≤ _; exact Nat.le_of_eq rfl) (hb hby at_29) (fun _ _ => ⟨rfl, e1, (by decide : 0 + 0 ≤ _), (by decide : 0 + 0 ≤ _)⟩)
    dsimp only [Pt.U, Pt.locs, Pt.cells, Pt.slots] at X3 l3 y3 z3 st3 hQ3
    subst l3 y3 z3
    obtain ⟨rfl, Nq3, e3⟩ := hQ3
    have N3 := Fr.app N1 Nq3
    refine own_step (fun t k => st3.trans k) ?_
    show own_Go _ _ _ _ _ _ _ T3 (mkF m 32 #[.val (.int p1), .val (.int kk), .val (.ref (own_pick w0 w1 w2 w3 w4 w5 w6 w7 w8 w9 w10 w11 w12 kk)), .val (.int (1 : Int32))] [(.int (if (own_pick w0 w1 w2 w3 w4 w5 w6 w7 w8 w9 w10 w11 w12 kk) = w0 ∨ (own_pick w0 w1 w2 w3 w4 w5 w6 w7 w8 w9 w10 w11 w12 kk) = w1 then 1 else 0))])
    refine own_step (fun t k => XS.iloadN X3.here hx rfl (hb hby at_32) rfl k) ?_
    have fin : (if (own_pick w0 w1 w2 w3 w4 w5 w6 w7 w8 w9 w10 w11 w12 kk) = w0 ∨ (own_pick w0 w1 w2 w3 w4 w5 w6 w7 w8 w9 w10 w11 w12 kk) = w1 then (1 : Int32) else 0) = (1 : Int32) := by
      exact if_pos ((own_fin w0 w1 w2 w3 w4 w5 w6 w7 w8 w9 w10 w11 w12 kk d2_0 d2_1 d3_0 d3_1 d4_0 d4_1 d5_0 d5_1 d6_0 d6_1 d7_0 d7_1 d8_0 d8_1 d9_0 d9_1 d10_0 d10_1 d11_0 d11_1 d12_0 d12_1).mpr (by simp [c14_2]))
    show own_Go _ _ _ _ _ _ _ T3 (mkF m 33 #[.val (.int p1), .val (.int kk), .val (.ref (own_pick w0 w1 w2 w3 w4 w5 w6 w7 w8 w9 w10 w11 w12 kk)), .val (.int (1 : Int32))] [(.int (1 : Int32)), (.int (if (own_pick w0 w1 w2 w3 w4 w5 w6 w7 w8 w9 w10 w11 w12 kk) = w0 ∨ (own_pick w0 w1 w2 w3 w4 w5 w6 w7 w8 w9 w10 w11 w12 kk) = w1 then 1 else 0))])
    refine own_step (fun t k => XS.icmpNo X3.here hx rfl (hb hby at_33) rfl (teq (fin)).2 k) ?_
    show own_Go _ _ _ _ _ _ _ T3 (mkF m 36 #[.val (.int p1), .val (.int kk), .val (.ref (own_pick w0 w1 w2 w3 w4 w5 w6 w7 w8 w9 w10 w11 w12 kk)), .val (.int (1 : Int32))] [])
    refine own_step (fun t k => XS.iconst X3.here hx rfl (hb hby at_36) k) ?_
    show own_Go _ _ _ _ _ _ _ T3 (mkF m 37 #[.val (.int p1), .val (.int kk), .val (.ref (own_pick w0 w1 w2 w3 w4 w5 w6 w7 w8 w9 w10 w11 w12 kk)), .val (.int (1 : Int32))] [(.int (1 : Int32))])
    refine own_step (fun t k => XS.goto X3.here hx rfl (pc0 := 37) (pc' := 41) rfl (hb hby at_37) (by decide) (by decide) k) ?_
    show own_Go _ _ _ _ _ _ _ T3 (mkF m 41 #[.val (.int p1), .val (.int kk), .val (.ref (own_pick w0 w1 w2 w3 w4 w5 w6 w7 w8 w9 w10 w11 w12 kk)), .val (.int (1 : Int32))] [(.int (1 : Int32))])
    refine own_ret X3 hx hlk Bd.returns rfl (Or.inl ⟨rfl, Or.inr (Or.inl rfl), _, rfl⟩) (hb hby at_41) (by decide) (by decide) ?_
    show own_Q0 Z p1 w0 w1 w2 w3 w4 w5 w6 w7 w8 w9 w10 w11 w12 h0 n0 (some (.int (1 : Int32))) T3.heap _
    rw [e3]
    exact ⟨rfl, N3⟩
  · show own_Go _ _ _ _ _ _ _ T1 (mkF m 14 #[.val (.int p1), .val (.int kk), .val (.ref (own_pick w0 w1 w2 w3 w4 w5 w6 w7 w8 w9 w10 w11 w12 kk)), .unset] [(.int kk)])
    refine own_step (fun t k => XS.ifNo X1.here hx rfl (hb hby at_14) rfl ((if0 _ _).trans (feq (c14_2)).1) k) ?_
    show own_Go _ _ _ _ _ _ _ T1 (mkF m 17 #[.val (.int p1), .val (.int kk), .val (.ref (own_pick w0 w1 w2 w3 w4 w5 w6 w7 w8 w9 w10 w11 w12 kk)), .unset] [])
    refine own_step (fun t k => XS.iloadN X1.here hx rfl (hb hby at_17) rfl k) ?_
    show own_Go _ _ _ _ _ _ _ T1 (mkF m 18 #[.val (.int p1), .val (.int kk), .val (.ref (own_pick w0 w1 w2 w3 w4 w5 w6 w7 w8 w9 w10 w11 w12 kk)), .unset] [(.int kk)])
    refine own_step (fun t k => XS.iconst X1.here hx rfl (hb hby at_18) k) ?_
    rcases Classical.em (kk = (1 : Int32)) with c19_4 | c19_4
    · show own_Go _ _ _ _ _ _ _ T1 (mkF m 19 #[.val (.int p1), .val (.int kk), .val (.ref (own_pick w0 w1 w2 w3 w4 w5 w6 w7 w8 w9 w10 w11 w12 kk)), .unset] [(.int (1 : Int32)), (.int kk)])
      refine own_step (fun t k => XS.icmpNo X1.here hx rfl (hb hby at_19) rfl (teq (c19_4)).2 k) ?_
      show own_Go _ _ _ _ _ _ _ T1 (mkF m 22 #[.val (.int p1), .val (.int kk), .val (.ref (own_pick w0 w1 w2 w3 w4 w5 w6 w7 w8 w9 w10 w11 w12 kk)), .unset] [])
      refine own_step (fun t k => XS.iconst X1.here hx rfl (hb hby at_22) k) ?_
      show own_Go _ _ _ _ _ _ _ T1 (mkF m 23 #[.val (.int p1), .val (.int kk), .val (.ref (own_pick w0 w1 w2 w3 w4 w5 w6 w7 w8 w9 w10 w11 w12 kk)), .unset] [(.int (1 : Int32))])
      refine own_step (fun t k => XS.goto X1.here hx rfl (pc0 := 23) (pc' := 27) rfl (hb hby at_23) (by decide) (by decide) k) ?_
      show own_Go _ _ _ _ _ _ _ T1 (mkF m 27 #[.val (.int p1), .val (.int kk), .val (.ref (own_pick w0 w1 w2 w3 w4 w5 w6 w7 w8 w9 w10 w11 w12 kk)), .unset] [(.int (1 : Int32))])
      refine own_step (fun t k => XS.istoreN X1.here hx rfl (hb hby at_27) rfl (l' := #[.val (.int p1), .val (.int kk), .val (.ref (own_pick w0 w1 w2 w3 w4 w5 w6 w7 w8 w9 w10 w11 w12 kk)), .val (.int (1 : Int32))]) rfl k) ?_
      show own_Go _ _ _ _ _ _ _ T1 (mkF m 28 #[.val (.int p1), .val (.int kk), .val (.ref (own_pick w0 w1 w2 w3 w4 w5 w6 w7 w8 w9 w10 w11 w12 kk)), .val (.int (1 : Int32))] [])
      refine own_step (fun t k => XS.aloadN X1.here hx rfl (hb hby at_28) rfl rfl k) ?_
      have AA : Exa Z h0 (own_pick w0 w1 w2 w3 w4 w5 w6 w7 w8 w9 w10 w11 w12 kk) "com/example/variloom/variloom/model/IteratorCall$Kind" := own_AA w0 w1 w2 w3 w4 w5 w6 w7 w8 w9 w10 w11 w12 kk A0 A1 A2 A3 A4 A5 A6 A7 A8 A9 A10 A11 A12
      show own_Go _ _ _ _ _ _ _ T1 (mkF m 29 #[.val (.int p1), .val (.int kk), .val (.ref (own_pick w0 w1 w2 w3 w4 w5 w6 w7 w8 w9 w10 w11 w12 kk)), .val (.int (1 : Int32))] [(.ref (own_pick w0 w1 w2 w3 w4 w5 w6 w7 w8 w9 w10 w11 w12 kk))])
      obtain ⟨cq5, kq5, q5a, q5b, q5c⟩ := isOf hZ e1 AA
      obtain ⟨_, _, ⟨T5, L5, k5, n5⟩, -, X5, ⟨Lc5, hQ5, l5, y5, z5⟩, st5⟩ := X1.virtualBack hx (y := (⟨"com/example/variloom/variloom/model/IteratorCall$Kind", "takesTuples", "()Z"⟩ : MethodName)) (z := (⟨"com/example/variloom/variloom/model/IteratorCall$Kind", "takesTuples", "()Z"⟩ : MethodName)) hown (mvT hZ (hw _ (List.mem_of_getElem? (i := 8) rfl))) (mvT hZ (hw _ (List.mem_of_getElem? (i := 9) rfl))) (notFace_of_selects (args := #[]) (mvT hZ (hw _ (List.mem_of_getElem? (i := 11) rfl)))) (mvT hZ (hw _ (List.mem_of_getElem? (i := 11) rfl))) (mvT hZ (hw _ (List.mem_of_getElem? (i := 10) rfl))) (by decide) (backOf (W := 0) (own_rm2 l Z a0 hw [] (own_pick w0 w1 w2 w3 w4 w5 w6 w7 w8 w9 w10 w11 w12 kk) w0 w1 h0 n0 Z0 S0 S1) hZ (hw _ (List.mem_of_getElem? (i := 12) rfl)) (hw _ (List.mem_of_getElem? (i := 6) rfl)) (by decide) (by decide)) q5a q5c (g := (mkF m 29 #[.val (.int p1), .val (.int kk), .val (.ref (own_pick w0 w1 w2 w3 w4 w5 w6 w7 w8 w9 w10 w11 w12 kk)), .val (.int (1 : Int32))] [(.ref (own_pick w0 w1 w2 w3 w4 w5 w6 w7 w8 w9 w10 w11 w12 kk))])) rfl (by rw [hml]; rfl) (Steps.refl _) (argsL := []) (rest := []) (lenOf own_pd0_1 rfl) rfl (by show 2 * 0 + _ ≤ _; exact Nat.le_of_eq rfl) (hb hby at_29) (fun _ _ => ⟨rfl, e1, (by decide : 0 + 0 ≤ _), (by decide : 0 + 0 ≤ _)⟩)
      dsimp only [Pt.U, Pt.locs, Pt.cells, Pt.slots] at X5 l5 y5 z5 st5 hQ5
      subst l5 y5 z5
      obtain ⟨rfl, Nq5, e5⟩ := hQ5
      have N5 := Fr.app N1 Nq5
      refine own_step (fun t k => st5.trans k) ?_
      show own_Go _ _ _ _ _ _ _ T5 (mkF m 32 #[.val (.int p1), .val (.int kk), .val (.ref (own_pick w0 w1 w2 w3 w4 w5 w6 w7 w8 w9 w10 w11 w12 kk)), .val (.int (1 : Int32))] [(.int (if (own_pick w0 w1 w2 w3 w4 w5 w6 w7 w8 w9 w10 w11 w12 kk) = w0 ∨ (own_pick w0 w1 w2 w3 w4 w5 w6 w7 w8 w9 w10 w11 w12 kk) = w1 then 1 else 0))])
      refine own_step (fun t k => XS.iloadN X5.here hx rfl (hb hby at_32) rfl k) ?_
      have fin : (if (own_pick w0 w1 w2 w3 w4 w5 w6 w7 w8 w9 w10 w11 w12 kk) = w0 ∨ (own_pick w0 w1 w2 w3 w4 w5 w6 w7 w8 w9 w10 w11 w12 kk) = w1 then (1 : Int32) else 0) = (1 : Int32) := by
        exact if_pos ((own_fin w0 w1 w2 w3 w4 w5 w6 w7 w8 w9 w10 w11 w12 kk d2_0 d2_1 d3_0 d3_1 d4_0 d4_1 d5_0 d5_1 d6_0 d6_1 d7_0 d7_1 d8_0 d8_1 d9_0 d9_1 d10_0 d10_1 d11_0 d11_1 d12_0 d12_1).mpr (by simp [c14_2, c19_4]))
      show own_Go _ _ _ _ _ _ _ T5 (mkF m 33 #[.val (.int p1), .val (.int kk), .val (.ref (own_pick w0 w1 w2 w3 w4 w5 w6 w7 w8 w9 w10 w11 w12 kk)), .val (.int (1 : Int32))] [(.int (1 : Int32)), (.int (if (own_pick w0 w1 w2 w3 w4 w5 w6 w7 w8 w9 w10 w11 w12 kk) = w0 ∨ (own_pick w0 w1 w2 w3 w4 w5 w6 w7 w8 w9 w10 w11 w12 kk) = w1 then 1 else 0))])
      refine own_step (fun t k => XS.icmpNo X5.here hx rfl (hb hby at_33) rfl (teq (fin)).2 k) ?_
      show own_Go _ _ _ _ _ _ _ T5 (mkF m 36 #[.val (.int p1), .val (.int kk), .val (.ref (own_pick w0 w1 w2 w3 w4 w5 w6 w7 w8 w9 w10 w11 w12 kk)), .val (.int (1 : Int32))] [])
      refine own_step (fun t k => XS.iconst X5.here hx rfl (hb hby at_36) k) ?_
      show own_Go _ _ _ _ _ _ _ T5 (mkF m 37 #[.val (.int p1), .val (.int kk), .val (.ref (own_pick w0 w1 w2 w3 w4 w5 w6 w7 w8 w9 w10 w11 w12 kk)), .val (.int (1 : Int32))] [(.int (1 : Int32))])
      refine own_step (fun t k => XS.goto X5.here hx rfl (pc0 := 37) (pc' := 41) rfl (hb hby at_37) (by decide) (by decide) k) ?_
      show own_Go _ _ _ _ _ _ _ T5 (mkF m 41 #[.val (.int p1), .val (.int kk), .val (.ref (own_pick w0 w1 w2 w3 w4 w5 w6 w7 w8 w9 w10 w11 w12 kk)), .val (.int (1 : Int32))] [(.int (1 : Int32))])
      refine own_ret X5 hx hlk Bd.returns rfl (Or.inl ⟨rfl, Or.inr (Or.inl rfl), _, rfl⟩) (hb hby at_41) (by decide) (by decide) ?_
      show own_Q0 Z p1 w0 w1 w2 w3 w4 w5 w6 w7 w8 w9 w10 w11 w12 h0 n0 (some (.int (1 : Int32))) T5.heap _
      rw [e5]
      exact ⟨rfl, N5⟩
    · show own_Go _ _ _ _ _ _ _ T1 (mkF m 19 #[.val (.int p1), .val (.int kk), .val (.ref (own_pick w0 w1 w2 w3 w4 w5 w6 w7 w8 w9 w10 w11 w12 kk)), .unset] [(.int (1 : Int32)), (.int kk)])
      refine own_step (fun t k => XS.icmpYes X1.here hx rfl (pc0 := 19) (pc' := 26) rfl (hb hby at_19) rfl (feq (c19_4)).2 (by decide) (by decide) k) ?_
      show own_Go _ _ _ _ _ _ _ T1 (mkF m 26 #[.val (.int p1), .val (.int kk), .val (.ref (own_pick w0 w1 w2 w3 w4 w5 w6 w7 w8 w9 w10 w11 w12 kk)), .unset] [])
      refine own_step (fun t k => XS.iconst X1.here hx rfl (hb hby at_26) k) ?_
      show own_Go _ _ _ _ _ _ _ T1 (mkF m 27 #[.val (.int p1), .val (.int kk), .val (.ref (own_pick w0 w1 w2 w3 w4 w5 w6 w7 w8 w9 w10 w11 w12 kk)), .unset] [(.int (0 : Int32))])
      refine own_step (fun t k => XS.istoreN X1.here hx rfl (hb hby at_27) rfl (l' := #[.val (.int p1), .val (.int kk), .val (.ref (own_pick w0 w1 w2 w3 w4 w5 w6 w7 w8 w9 w10 w11 w12 kk)), .val (.int (0 : Int32))]) rfl k) ?_
      show own_Go _ _ _ _ _ _ _ T1 (mkF m 28 #[.val (.int p1), .val (.int kk), .val (.ref (own_pick w0 w1 w2 w3 w4 w5 w6 w7 w8 w9 w10 w11 w12 kk)), .val (.int (0 : Int32))] [])
      refine own_step (fun t k => XS.aloadN X1.here hx rfl (hb hby at_28) rfl rfl k) ?_
      have AA : Exa Z h0 (own_pick w0 w1 w2 w3 w4 w5 w6 w7 w8 w9 w10 w11 w12 kk) "com/example/variloom/variloom/model/IteratorCall$Kind" := own_AA w0 w1 w2 w3 w4 w5 w6 w7 w8 w9 w10 w11 w12 kk A0 A1 A2 A3 A4 A5 A6 A7 A8 A9 A10 A11 A12
      show own_Go _ _ _ _ _ _ _ T1 (mkF m 29 #[.val (.int p1), .val (.int kk), .val (.ref (own_pick w0 w1 w2 w3 w4 w5 w6 w7 w8 w9 w10 w11 w12 kk)), .val (.int (0 : Int32))] [(.ref (own_pick w0 w1 w2 w3 w4 w5 w6 w7 w8 w9 w10 w11 w12 kk))])
      obtain ⟨cq6, kq6, q6a, q6b, q6c⟩ := isOf hZ e1 AA
      obtain ⟨_, _, ⟨T6, L6, k6, n6⟩, -, X6, ⟨Lc6, hQ6, l6, y6, z6⟩, st6⟩ := X1.virtualBack hx (y := (⟨"com/example/variloom/variloom/model/IteratorCall$Kind", "takesTuples", "()Z"⟩ : MethodName)) (z := (⟨"com/example/variloom/variloom/model/IteratorCall$Kind", "takesTuples", "()Z"⟩ : MethodName)) hown (mvT hZ (hw _ (List.mem_of_getElem? (i := 8) rfl))) (mvT hZ (hw _ (List.mem_of_getElem? (i := 9) rfl))) (notFace_of_selects (args := #[]) (mvT hZ (hw _ (List.mem_of_getElem? (i := 11) rfl)))) (mvT hZ (hw _ (List.mem_of_getElem? (i := 11) rfl))) (mvT hZ (hw _ (List.mem_of_getElem? (i := 10) rfl))) (by decide) (backOf (W := 0) (own_rm2 l Z a0 hw [] (own_pick w0 w1 w2 w3 w4 w5 w6 w7 w8 w9 w10 w11 w12 kk) w0 w1 h0 n0 Z0 S0 S1) hZ (hw _ (List.mem_of_getElem? (i := 12) rfl)) (hw _ (List.mem_of_getElem? (i := 6) rfl)) (by decide) (by decide)) q6a q6c (g := (mkF m 29 #[.val (.int p1), .val (.int kk), .val (.ref (own_pick w0 w1 w2 w3 w4 w5 w6 w7 w8 w9 w10 w11 w12 kk)), .val (.int (0 : Int32))] [(.ref (own_pick w0 w1 w2 w3 w4 w5 w6 w7 w8 w9 w10 w11 w12 kk))])) rfl (by rw [hml]; rfl) (Steps.refl _) (argsL := []) (rest := []) (lenOf own_pd0_1 rfl) rfl (by show 2 * 0 + _ ≤ _; exact Nat.le_of_eq rfl) (hb hby at_29) (fun _ _ => ⟨rfl, e1, (by decide : 0 + 0 ≤ _), (by decide : 0 + 0 ≤ _)⟩)
      dsimp only [Pt.U, Pt.locs, Pt.cells, Pt.slots] at X6 l6 y6 z6 st6 hQ6
      subst l6 y6 z6
      obtain ⟨rfl, Nq6, e6⟩ := hQ6
      have N6 := Fr.app N1 Nq6
      refine own_step (fun t k => st6.trans k) ?_
      show own_Go _ _ _ _ _ _ _ T6 (mkF m 32 #[.val (.int p1), .val (.int kk), .val (.ref (own_pick w0 w1 w2 w3 w4 w5 w6 w7 w8 w9 w10 w11 w12 kk)), .val (.int (0 : Int32))] [(.int (if (own_pick w0 w1 w2 w3 w4 w5 w6 w7 w8 w9 w10 w11 w12 kk) = w0 ∨ (own_pick w0 w1 w2 w3 w4 w5 w6 w7 w8 w9 w10 w11 w12 kk) = w1 then 1 else 0))])
      refine own_step (fun t k => XS.iloadN X6.here hx rfl (hb hby at_32) rfl k) ?_
      have fin : (if (own_pick w0 w1 w2 w3 w4 w5 w6 w7 w8 w9 w10 w11 w12 kk) = w0 ∨ (own_pick w0 w1 w2 w3 w4 w5 w6 w7 w8 w9 w10 w11 w12 kk) = w1 then (1 : Int32) else 0) = (0 : Int32) := by
        exact if_neg (fun q => (by simp [c14_2, c19_4] : ¬ (kk = 0 ∨ kk = 1)) ((own_fin w0 w1 w2 w3 w4 w5 w6 w7 w8 w9 w10 w11 w12 kk d2_0 d2_1 d3_0 d3_1 d4_0 d4_1 d5_0 d5_1 d6_0 d6_1 d7_0 d7_1 d8_0 d8_1 d9_0 d9_1 d10_0 d10_1 d11_0 d11_1 d12_0 d12_1).mp q))
      show own_Go _ _ _ _ _ _ _ T6 (mkF m 33 #[.val (.int p1), .val (.int kk), .val (.ref (own_pick w0 w1 w2 w3 w4 w5 w6 w7 w8 w9 w10 w11 w12 kk)), .val (.int (0 : Int32))] [(.int (0 : Int32)), (.int (if (own_pick w0 w1 w2 w3 w4 w5 w6 w7 w8 w9 w10 w11 w12 kk) = w0 ∨ (own_pick w0 w1 w2 w3 w4 w5 w6 w7 w8 w9 w10 w11 w12 kk) = w1 then 1 else 0))])
      refine own_step (fun t k => XS.icmpNo X6.here hx rfl (hb hby at_33) rfl (teq (fin)).2 k) ?_
      show own_Go _ _ _ _ _ _ _ T6 (mkF m 36 #[.val (.int p1), .val (.int kk), .val (.ref (own_pick w0 w1 w2 w3 w4 w5 w6 w7 w8 w9 w10 w11 w12 kk)), .val (.int (0 : Int32))] [])
      refine own_step (fun t k => XS.iconst X6.here hx rfl (hb hby at_36) k) ?_
      show own_Go _ _ _ _ _ _ _ T6 (mkF m 37 #[.val (.int p1), .val (.int kk), .val (.ref (own_pick w0 w1 w2 w3 w4 w5 w6 w7 w8 w9 w10 w11 w12 kk)), .val (.int (0 : Int32))] [(.int (1 : Int32))])
      refine own_step (fun t k => XS.goto X6.here hx rfl (pc0 := 37) (pc' := 41) rfl (hb hby at_37) (by decide) (by decide) k) ?_
      show own_Go _ _ _ _ _ _ _ T6 (mkF m 41 #[.val (.int p1), .val (.int kk), .val (.ref (own_pick w0 w1 w2 w3 w4 w5 w6 w7 w8 w9 w10 w11 w12 kk)), .val (.int (0 : Int32))] [(.int (1 : Int32))])
      refine own_ret X6 hx hlk Bd.returns rfl (Or.inl ⟨rfl, Or.inr (Or.inl rfl), _, rfl⟩) (hb hby at_41) (by decide) (by decide) ?_
      show own_Q0 Z p1 w0 w1 w2 w3 w4 w5 w6 w7 w8 w9 w10 w11 w12 h0 n0 (some (.int (1 : Int32))) T6.heap _
      rw [e6]
      exact ⟨rfl, N6⟩
set_option maxRecDepth 65536 in
set_option maxHeartbeats 40000000 in
theorem own_comes_1 {Post : Tables → Env → Array Value → State → Outcome → State → Prop} (hpost : ∀ tb e args s v u, (limb_1_1.after args s (.returned v) u = true ∧ limb_1_2.after args s (.returned v) u = true ∧ True) → FrameEnd s (.returned v) u (Jvm.fieldLocs frame_1_writes args s ++ Jvm.arrayLocs frame_1_arrays args s ++ Jvm.staticLocs frame_1_statics s) 0 0 → Post tb e args s (.returned v) u) :
    ArmFor flags0 classFile x code maxLocals ret World_1 tables_1 room_1 Calls_1 rest_1 Pre_1 Post := by
  intro l hfl _ _ p e ha hc hk s m args below hf hA hF happ hP
  obtain ⟨hcalls, hrest, hpre⟩ := hP
  obtain ⟨-, -, -, hnamed, -, -, -, hat⟩ := (Spec.applies_iff hf).mp happ
  obtain ⟨hg, hn⟩ := and_e (Cond.before_iff.mp (show (Jvm.Cond.and given_1 narrow_1).before args s = true from hpre))
  obtain ⟨g0, r0⟩ := and_e hg
  have g1 := r0
  obtain ⟨w0, rfl⟩ : ∃ w0 : Value, args = #[w0] := by
    have hs : args.size = 1 := by simpa [Cond.value, given_1] using g0
    obtain ⟨L⟩ := args
    match L, hs with
    | [w0], _ => exact ⟨w0, rfl⟩
  have hw := fun d (hd : d ∈ tables_1) => atoms_spec (ws := Jvm.Cond.code x code maxLocals ret :: tables_1) hat d (List.mem_cons_of_mem _ hd)
  have hfit : Fit s := fun {y c} hc i hi => by
    obtain ⟨ha, rfl⟩ := Array.getElem?_eq_some_iff.mp hc
    have q := List.all_eq_true.mp ((Array.all_eq_true_iff_forall_mem.mp hF) _ (Array.getElem_mem ha)) i (List.mem_range.mpr hi)
    simpa [Array.getElem?_eq_getElem hi] using q
  obtain ⟨i0, ei0⟩ := is_v g1
  obtain rfl : w0 = (.int i0) := Option.some.inj ei0
  unfold narrow_1 at hn
  obtain ⟨nA0, hn⟩ := and_e hn
  obtain ⟨nA3, hn⟩ := and_e hn
  obtain ⟨no3, hn⟩ := and_e hn
  obtain ⟨no0, hn⟩ := and_e hn
  obtain ⟨nA1, hn⟩ := and_e hn
  obtain ⟨no1, hn⟩ := and_e hn
  obtain ⟨nA6, hn⟩ := and_e hn
  obtain ⟨no6, hn⟩ := and_e hn
  obtain ⟨nA5, hn⟩ := and_e hn
  obtain ⟨no5, hn⟩ := and_e hn
  obtain ⟨nA7, hn⟩ := and_e hn
  obtain ⟨no7, hn⟩ := and_e hn
  obtain ⟨nA9, hn⟩ := and_e hn
  obtain ⟨no9, hn⟩ := and_e hn
  obtain ⟨nA2, hn⟩ := and_e hn
  obtain ⟨no2, hn⟩ := and_e hn
  obtain ⟨nA11, hn⟩ := and_e hn
  obtain ⟨no11, hn⟩ := and_e hn
  obtain ⟨nA8, hn⟩ := and_e hn
  obtain ⟨no8, hn⟩ := and_e hn
  obtain ⟨nA10, hn⟩ := and_e hn
  obtain ⟨no10, hn⟩ := and_e hn
  obtain ⟨nA12, hn⟩ := and_e hn
  obtain ⟨no12, hn⟩ := and_e hn
  obtain ⟨nA4, no4⟩ := and_e hn
  obtain ⟨w0, ev0⟩ := exa_v nA0
  have S0 := Sta.start ev0 (Or.inr ⟨(hw _ (List.mem_of_getElem? (i := 6) rfl)), (hw _ (List.mem_of_getElem? (i := 7) rfl))⟩)
  have B0 := Exa.start ev0 nA0
  have F0 := own_ord ev0 no0
  obtain ⟨w1, ev1⟩ := exa_v nA1
  have S1 := Sta.start ev1 (Or.inr ⟨(hw _ (List.mem_of_getElem? (i := 6) rfl)), (hw _ (List.mem_of_getElem? (i := 17) rfl))⟩)
  have B1 := Exa.start ev1 nA1
  have F1 := own_ord ev1 no1
  obtain ⟨w2, ev2⟩ := exa_v nA2
  have S2 := Sta.start ev2 (Or.inr ⟨(hw _ (List.mem_of_getElem? (i := 6) rfl)), (hw _ (List.mem_of_getElem? (i := 27) rfl))⟩)
  have B2 := Exa.start ev2 nA2
  have F2 := own_ord ev2 no2
  obtain ⟨w3, ev3⟩ := exa_v nA3
  have S3 := Sta.start ev3 (Or.inr ⟨(hw _ (List.mem_of_getElem? (i := 6) rfl)), (hw _ (List.mem_of_getElem? (i := 15) rfl))⟩)
  have B3 := Exa.start ev3 nA3
  have F3 := own_ord ev3 no3
  obtain ⟨w4, ev4⟩ := exa_v nA4
  have S4 := Sta.start ev4 (Or.inr ⟨(hw _ (List.mem_of_getElem? (i := 6) rfl)), (hw _ (List.mem_of_getElem? (i := 38) rfl))⟩)
  have B4 := Exa.start ev4 nA4
  have F4 := own_ord ev4 no4
  obtain ⟨w5, ev5⟩ := exa_v nA5
  have S5 := Sta.start ev5 (Or.inr ⟨(hw _ (List.mem_of_getElem? (i := 6) rfl)), (hw _ (List.mem_of_getElem? (i := 21) rfl))⟩)
  have B5 := Exa.start ev5 nA5
  have F5 := own_ord ev5 no5
  obtain ⟨w6, ev6⟩ := exa_v nA6
  have S6 := Sta.start ev6 (Or.inr ⟨(hw _ (List.mem_of_getElem? (i := 6) rfl)), (hw _ (List.mem_of_getElem? (i := 19) rfl))⟩)
  have B6 := Exa.start ev6 nA6
  have F6 := own_ord ev6 no6
  obtain ⟨w7, ev7⟩ := exa_v nA7
  have S7 := Sta.start ev7 (Or.inr ⟨(hw _ (List.mem_of_getElem? (i := 6) rfl)), (hw _ (List.mem_of_getElem? (i := 23) rfl))⟩)
  have B7 := Exa.start ev7 nA7
  have F7 := own_ord ev7 no7
  obtain ⟨w8, ev8⟩ := exa_v nA8
  have S8 := Sta.start ev8 (Or.inr ⟨(hw _ (List.mem_of_getElem? (i := 6) rfl)), (hw _ (List.mem_of_getElem? (i := 32) rfl))⟩)
  have B8 := Exa.start ev8 nA8
  have F8 := own_ord ev8 no8
  obtain ⟨w9, ev9⟩ := exa_v nA9
  have S9 := Sta.start ev9 (Or.inr ⟨(hw _ (List.mem_of_getElem? (i := 6) rfl)), (hw _ (List.mem_of_getElem? (i := 25) rfl))⟩)
  have B9 := Exa.start ev9 nA9
  have F9 := own_ord ev9 no9
  obtain ⟨w10, ev10⟩ := exa_v nA10
  have S10 := Sta.start ev10 (Or.inr ⟨(hw _ (List.mem_of_getElem? (i := 6) rfl)), (hw _ (List.mem_of_getElem? (i := 34) rfl))⟩)
  have B10 := Exa.start ev10 nA10
  have F10 := own_ord ev10 no10
  obtain ⟨w11, ev11⟩ := exa_v nA11
  have S11 := Sta.start ev11 (Or.inr ⟨(hw _ (List.mem_of_getElem? (i := 6) rfl)), (hw _ (List.mem_of_getElem? (i := 29) rfl))⟩)
  have B11 := Exa.start ev11 nA11
  have F11 := own_ord ev11 no11
  obtain ⟨w12, ev12⟩ := exa_v nA12
  have S12 := Sta.start ev12 (Or.inr ⟨(hw _ (List.mem_of_getElem? (i := 6) rfl)), (hw _ (List.mem_of_getElem? (i := 36) rfl))⟩)
  have B12 := Exa.start ev12 nA12
  have F12 := own_ord ev12 no12
  have d2_0 := Fld.ne F2 F0 (by decide)
  have d2_1 := Fld.ne F2 F1 (by decide)
  have d3_0 := Fld.ne F3 F0 (by decide)
  have d3_1 := Fld.ne F3 F1 (by decide)
  have d4_0 := Fld.ne F4 F0 (by decide)
  have d4_1 := Fld.ne F4 F1 (by decide)
  have d5_0 := Fld.ne F5 F0 (by decide)
  have d5_1 := Fld.ne F5 F1 (by decide)
  have d6_0 := Fld.ne F6 F0 (by decide)
  have d6_1 := Fld.ne F6 F1 (by decide)
  have d7_0 := Fld.ne F7 F0 (by decide)
  have d7_1 := Fld.ne F7 F1 (by decide)
  have d8_0 := Fld.ne F8 F0 (by decide)
  have d8_1 := Fld.ne F8 F1 (by decide)
  have d9_0 := Fld.ne F9 F0 (by decide)
  have d9_1 := Fld.ne F9 F1 (by decide)
  have d10_0 := Fld.ne F10 F0 (by decide)
  have d10_1 := Fld.ne F10 F1 (by decide)
  have d11_0 := Fld.ne F11 F0 (by decide)
  have d11_1 := Fld.ne F11 F1 (by decide)
  have d12_0 := Fld.ne F12 F0 (by decide)
  have d12_1 := Fld.ne F12 F1 (by decide)
  obtain ⟨n, o, h1, h2, h3, _, L, rfl, ⟨rfl, N⟩, hq⟩ := own_rm0 l s _ hw tables_1 i0 w0 w1 w2 w3 w4 w5 w6 w7 w8 w9 w10 w11 w12 s.heap s.heap.size (Nat.le_refl _) S0 S1 S2 S3 S4 S5 S6 S7 S8 S9 S10 S11 S12 B0 B1 B2 B3 B4 B5 B6 B7 B8 B9 B10 B11 B12 d2_0 d2_1 d3_0 d3_1 d4_0 d4_1 d5_0 d5_1 d6_0 d6_1 d7_0 d7_1 d8_0 d8_1 d9_0 d9_1 d10_0 d10_1 d11_0 d11_1 d12_0 d12_1 p e ha hc hk s m _ below hf ((Spec.applies_iff_loose hf).mp happ).1 ⟨rfl, State.Warmed39.refl s, rfl⟩ trivial
  refine ⟨n, _, h1, h2, h3, hpost _ _ _ _ _ _ ⟨Cond.after_iff.mpr rfl, Cond.after_iff.mpr (eq_i res_at (Term.int_eval (1)) rfl), trivial⟩ ⟨hq.1, hq.2.1, (hq.2.2.sift fun y hy => Or.inr (N y hy)).mono (by decide) (by decide)⟩⟩
theorem main_1_1 : Claimed_1_1 := own_comes_1 fun _ _ _ _ _ _ h hF => ⟨h.1, hF⟩
theorem main_1_2 : Claimed_1_2 := own_comes_1 fun _ _ _ _ _ _ h hF => ⟨h.2.1, hF⟩
end Jvm.Pilot.@@N@@
namespace Jvm.Pilot.@@N@@
open Jvm Jvm.ClassFile Sem Op Lib Jvm.Free Jvm.Stand Jvm.Pilot.@@N@@.Jvm.D
/-! MADE BY PROGRAM (witnessworld.py) out of the Statement's table words and the real class files: 12 classes; the members and pool entries that the words name. The judged class is class 1, her method 1. -/
namespace start1
open Jvm.ClassFile
def u (s : String) : CpInfo := .utf8 (stringToUtf16 s)
/-- a pool by its gaps: so many unusable entries, then the entry; so many at the end -/
def gap : Nat → List CpInfo → List CpInfo
  | 0, r => r
  | n + 1, r => .unusable :: gap n r
def poolList (es : List (Nat × CpInfo)) (last : Nat) : List CpInfo := es.foldr (fun e r => gap e.1 (e.2 :: r)) (gap last [])
def pool (es : List (Nat × CpInfo)) (last : Nat) : Array CpInfo := ⟨poolList es last⟩
def fileOf (pool : Array CpInfo) (this : Nat) (attrs : Array Attribute := #[]) (ms : Array MethodInfo := #[]) (fl : Nat := 33) (sup : Nat := 0) (ifs : Array Nat := #[]) (fds : Array FieldInfo := #[]) : ClassFile where
  minorVersion := 0
  majorVersion := 65
  constantPool := pool
  accessFlags := fl
  thisClass := this
  superClass := sup
  interfaces := ifs
  fields := fds
  methods := ms
  attributes := attrs
def plain (name : String) (sup : Option ClassId) : Class where
  name := name
  kind := .ordinary
  loader := none
  accessFlags := 33
  super := sup
  interfaces := #[]
  cf := none
  fields := #[]
  methods := #[]
  instanceTypes := #[]
  staticTypes := #[]
  resolved := #[]
  callSites := []
  init := .initialized
  statics := none
  mirror := none

def pool0 : Array CpInfo := pool [(5, u "<init>"), (0, u "()V"), (1, .class_ 10), (1, u "java/lang/Object")] 113

def k0m0 : Method := { name := "<init>", desc := "()V", sig := { parameters := [], returnType := none }, accessFlags := 1, code := none }
/-- java/lang/Object -/
def k0 : Class := { plain "java/lang/Object" none with
  accessFlags := 33
  interfaces := #[]
  cf := some (fileOf pool0 8 #[] #[{ accessFlags := 1, nameIndex := 5, descriptorIndex := 6, attributes := #[] }] 33 0 #[] #[])
  fields := #[]
  methods := #[k0m0]
  instanceTypes := #[]
  staticTypes := #[]
  resolved := Array.replicate 124 none
  statics := none }

def pool1 : Array CpInfo := pool [(2, .class_ 4), (1, u "java/lang/Object"), (0, u "<init>"), (0, u "()V"), (0, .integer 2147483647), (0, .methodref 9 10), (0, .class_ 11), (0, .nameAndType 12 13), (0, u "com/example/variloom/variloom/model/KindTakesTuplesPinLaw"), (0, u "pick"), (0, u "(I)Lcom/example/variloom/variloom/model/IteratorCall$Kind;"), (0, .methodref 15 16), (0, .class_ 17), (0, .nameAndType 18 19), (0, u "com/example/variloom/variloom/model/IteratorCall$Kind"), (0, u "takesTuples"), (0, u "()Z"), (0, .fieldref 15 21), (0, .nameAndType 22 23), (0, u "FOR_ALL"), (0, u "Lcom/example/variloom/variloom/model/IteratorCall$Kind;"), (0, .fieldref 15 25), (0, .nameAndType 26 23), (0, u "EXISTS"), (0, .fieldref 15 28), (0, .nameAndType 29 23), (0, u "ONE"), (0, .fieldref 15 31), (0, .nameAndType 32 23), (0, u "ANY"), (0, .fieldref 15 34), (0, .nameAndType 35 23), (0, u "SELECT"), (0, .fieldref 15 37), (0, .nameAndType 38 23), (0, u "REJECT"), (0, .fieldref 15 40), (0, .nameAndType 41 23), (0, u "COLLECT"), (0, .fieldref 15 43), (0, .nameAndType 44 23), (0, u "COLLECT_NESTED"), (0, .fieldref 15 46), (0, .nameAndType 47 23), (0, u "IS_UNIQUE"), (0, .fieldref 15 49), (0, .nameAndType 50 23), (0, u "SORTED_BY"), (0, .fieldref 15 52), (0, .nameAndType 53 23), (0, u "CLOSURE"), (0, .fieldref 15 55), (0, .nameAndType 56 23), (0, u "IS_ACYCLIC"), (0, .fieldref 15 58), (0, .nameAndType 59 23), (0, u "ITERATE"), (2, u "law"), (0, u "(I)Z")] 7

def k1m0 : Method := { name := "<init>", desc := "()V", sig := { parameters := [], returnType := none }, accessFlags := 1, code := none }
def k1c1 : Code := { maxStack := 2, maxLocals := 4, code := code, exceptionTable := #[], attributes := #[] }
def k1m1 : Method := { name := "law", desc := "(I)Z", sig := { parameters := [.int], returnType := some .boolean }, accessFlags := 9, code := some k1c1 }
def k1c2 : Code := { maxStack := 2, maxLocals := 1, code := method_3_code, exceptionTable := #[], attributes := #[] }
def k1m2 : Method := { name := "pick", desc := "(I)Lcom/example/variloom/variloom/model/IteratorCall$Kind;", sig := { parameters := [.int], returnType := some (.object "com/example/variloom/variloom/model/IteratorCall$Kind") }, accessFlags := 10, code := some k1c2 }
/-- com/example/variloom/variloom/model/KindTakesTuplesPinLaw -/
def k1 : Class := { plain "com/example/variloom/variloom/model/KindTakesTuplesPinLaw" (some 0) with
  accessFlags := 49
  interfaces := #[]
  cf := some (fileOf pool1 9 #[] #[{ accessFlags := 1, nameIndex := 5, descriptorIndex := 6, attributes := #[] }, { accessFlags := 9, nameIndex := 62, descriptorIndex := 63, attributes := #[] }, { accessFlags := 10, nameIndex := 12, descriptorIndex := 13, attributes := #[] }] 49 2 #[] #[])
  fields := #[]
  methods := #[k1m0, k1m1, k1m2]
  instanceTypes := #[]
  staticTypes := #[]
  resolved := Array.replicate 71 none
  statics := none }

def pool2 : Array CpInfo := pool [(1, .class_ 2), (0, u "java/lang/constant/Constable"), (0, .class_ 4), (0, u "java/lang/Object")] 6

/-- java/lang/constant/Constable -/
def k2 : Class := { plain "java/lang/constant/Constable" (some 0) with
  accessFlags := 1537
  interfaces := #[]
  cf := some (fileOf pool2 1 #[] #[] 1537 3 #[] #[])
  fields := #[]
  methods := #[]
  instanceTypes := #[]
  staticTypes := #[]
  resolved := Array.replicate 11 none
  statics := none }

def pool3 : Array CpInfo := pool [(1, .class_ 2), (0, u "java/lang/Comparable"), (0, .class_ 4), (0, u "java/lang/Object")] 7

/-- java/lang/Comparable -/
def k3 : Class := { plain "java/lang/Comparable" (some 0) with
  accessFlags := 1537
  interfaces := #[]
  cf := some (fileOf pool3 1 #[] #[] 1537 3 #[] #[])
  fields := #[]
  methods := #[]
  instanceTypes := #[]
  staticTypes := #[]
  resolved := Array.replicate 12 none
  statics := none }

def pool4 : Array CpInfo := pool [(1, .class_ 2), (0, u "java/io/Serializable"), (0, .class_ 4), (0, u "java/lang/Object")] 2

/-- java/io/Serializable -/
def k4 : Class := { plain "java/io/Serializable" (some 0) with
  accessFlags := 1537
  interfaces := #[]
  cf := some (fileOf pool4 1 #[] #[] 1537 3 #[] #[])
  fields := #[]
  methods := #[]
  instanceTypes := #[]
  staticTypes := #[]
  resolved := Array.replicate 7 none
  statics := none }

def pool5 : Array CpInfo := pool [(2, .class_ 4), (1, u "java/lang/Enum"), (0, u "name"), (0, u "Ljava/lang/String;"), (2, u "ordinal"), (0, u "I"), (1, .class_ 14), (1, u "java/lang/Object"), (4, u "hash"), (86, .class_ 108), (1, u "java/lang/Enum$EnumDesc"), (2, .class_ 112), (0, u "java/lang/constant/Constable"), (0, .class_ 114), (0, u "java/lang/Comparable"), (0, .class_ 116), (0, u "java/io/Serializable")] 87

/-- java/lang/Enum -/
def k5 : Class := { plain "java/lang/Enum" (some 0) with
  accessFlags := 1057
  interfaces := #[2, 3, 4]
  cf := some (fileOf pool5 2 #[.nestMembers #[106]] #[] 1057 12 #[111, 113, 115] #[{ accessFlags := 18, nameIndex := 5, descriptorIndex := 6, attributes := #[] }, { accessFlags := 18, nameIndex := 9, descriptorIndex := 10, attributes := #[] }, { accessFlags := 2, nameIndex := 19, descriptorIndex := 10, attributes := #[] }])
  fields := #[{ name := "name", type := (.object "java/lang/String"), accessFlags := 18, slot := 0, constantValue := 0 }, { name := "ordinal", type := .int, accessFlags := 18, slot := 1, constantValue := 0 }, { name := "hash", type := .int, accessFlags := 2, slot := 2, constantValue := 0 }]
  methods := #[]
  instanceTypes := #[(.object "java/lang/String"), .int, .int]
  staticTypes := #[]
  resolved := Array.replicate 204 none
  statics := none }

def pool6 : Array CpInfo := pool [(1, .class_ 2), (0, u "com/example/variloom/variloom/model/IteratorCall$Kind"), (0, .fieldref 1 4), (0, .nameAndType 5 6), (0, u "FOR_ALL"), (0, u "Lcom/example/variloom/variloom/model/IteratorCall$Kind;"), (0, .fieldref 1 8), (0, .nameAndType 9 6), (0, u "EXISTS"), (2, u "ONE"), (2, u "ANY"), (2, u "SELECT"), (2, u "REJECT"), (2, u "COLLECT"), (2, u "COLLECT_NESTED"), (2, u "IS_UNIQUE"), (2, u "SORTED_BY"), (2, u "CLOSURE"), (2, u "IS_ACYCLIC"), (2, u "ITERATE"), (2, u "$VALUES"), (0, u "[Lcom/example/variloom/variloom/model/IteratorCall$Kind;"), (6, .class_ 55), (1, u "java/lang/Enum"), (14, u "names"), (0, u "Ljava/util/List;"), (125, u "takesTuples"), (0, u "()Z"), (8, .class_ 208), (0, u "com/example/variloom/variloom/model/IteratorCall")] 2

def k6c0 : Code := { maxStack := 2, maxLocals := 1, code := prog_63_method_5_code, exceptionTable := #[], attributes := #[] }
def k6m0 : Method := { name := "takesTuples", desc := "()Z", sig := { parameters := [], returnType := some .boolean }, accessFlags := 1, code := some k6c0 }
/-- com/example/variloom/variloom/model/IteratorCall$Kind -/
def k6 : Class := { plain "com/example/variloom/variloom/model/IteratorCall$Kind" (some 5) with
  accessFlags := 16433
  interfaces := #[]
  cf := some (fileOf pool6 1 #[.nestHost 207] #[{ accessFlags := 1, nameIndex := 197, descriptorIndex := 198, attributes := #[] }] 16433 53 #[] #[{ accessFlags := 16409, nameIndex := 5, descriptorIndex := 6, attributes := #[] }, { accessFlags := 16409, nameIndex := 9, descriptorIndex := 6, attributes := #[] }, { accessFlags := 16409, nameIndex := 12, descriptorIndex := 6, attributes := #[] }, { accessFlags := 16409, nameIndex := 15, descriptorIndex := 6, attributes := #[] }, { accessFlags := 16409, nameIndex := 18, descriptorIndex := 6, attributes := #[] }, { accessFlags := 16409, nameIndex := 21, descriptorIndex := 6, attributes := #[] }, { accessFlags := 16409, nameIndex := 24, descriptorIndex := 6, attributes := #[] }, { accessFlags := 16409, nameIndex := 27, descriptorIndex := 6, attributes := #[] }, { accessFlags := 16409, nameIndex := 30, descriptorIndex := 6, attributes := #[] }, { accessFlags := 16409, nameIndex := 33, descriptorIndex := 6, attributes := #[] }, { accessFlags := 16409, nameIndex := 36, descriptorIndex := 6, attributes := #[] }, { accessFlags := 16409, nameIndex := 39, descriptorIndex := 6, attributes := #[] }, { accessFlags := 16409, nameIndex := 42, descriptorIndex := 6, attributes := #[] }, { accessFlags := 18, nameIndex := 70, descriptorIndex := 71, attributes := #[] }, { accessFlags := 4122, nameIndex := 45, descriptorIndex := 46, attributes := #[] }])
  fields := #[{ name := "FOR_ALL", type := (.object "com/example/variloom/variloom/model/IteratorCall$Kind"), accessFlags := 16409, slot := 0, constantValue := 0 }, { name := "EXISTS", type := (.object "com/example/variloom/variloom/model/IteratorCall$Kind"), accessFlags := 16409, slot := 1, constantValue := 0 }, { name := "ONE", type := (.object "com/example/variloom/variloom/model/IteratorCall$Kind"), accessFlags := 16409, slot := 2, constantValue := 0 }, { name := "ANY", type := (.object "com/example/variloom/variloom/model/IteratorCall$Kind"), accessFlags := 16409, slot := 3, constantValue := 0 }, { name := "SELECT", type := (.object "com/example/variloom/variloom/model/IteratorCall$Kind"), accessFlags := 16409, slot := 4, constantValue := 0 }, { name := "REJECT", type := (.object "com/example/variloom/variloom/model/IteratorCall$Kind"), accessFlags := 16409, slot := 5, constantValue := 0 }, { name := "COLLECT", type := (.object "com/example/variloom/variloom/model/IteratorCall$Kind"), accessFlags := 16409, slot := 6, constantValue := 0 }, { name := "COLLECT_NESTED", type := (.object "com/example/variloom/variloom/model/IteratorCall$Kind"), accessFlags := 16409, slot := 7, constantValue := 0 }, { name := "IS_UNIQUE", type := (.object "com/example/variloom/variloom/model/IteratorCall$Kind"), accessFlags := 16409, slot := 8, constantValue := 0 }, { name := "SORTED_BY", type := (.object "com/example/variloom/variloom/model/IteratorCall$Kind"), accessFlags := 16409, slot := 9, constantValue := 0 }, { name := "CLOSURE", type := (.object "com/example/variloom/variloom/model/IteratorCall$Kind"), accessFlags := 16409, slot := 10, constantValue := 0 }, { name := "IS_ACYCLIC", type := (.object "com/example/variloom/variloom/model/IteratorCall$Kind"), accessFlags := 16409, slot := 11, constantValue := 0 }, { name := "ITERATE", type := (.object "com/example/variloom/variloom/model/IteratorCall$Kind"), accessFlags := 16409, slot := 12, constantValue := 0 }, { name := "names", type := (.object "java/util/List"), accessFlags := 18, slot := 3, constantValue := 0 }, { name := "$VALUES", type := (.array (.object "com/example/variloom/variloom/model/IteratorCall$Kind")), accessFlags := 4122, slot := 13, constantValue := 0 }]
  methods := #[k6m0]
  instanceTypes := #[(.object "java/lang/String"), .int, .int, (.object "java/util/List")]
  staticTypes := #[(.object "com/example/variloom/variloom/model/IteratorCall$Kind"), (.object "com/example/variloom/variloom/model/IteratorCall$Kind"), (.object "com/example/variloom/variloom/model/IteratorCall$Kind"), (.object "com/example/variloom/variloom/model/IteratorCall$Kind"), (.object "com/example/variloom/variloom/model/IteratorCall$Kind"), (.object "com/example/variloom/variloom/model/IteratorCall$Kind"), (.object "com/example/variloom/variloom/model/IteratorCall$Kind"), (.object "com/example/variloom/variloom/model/IteratorCall$Kind"), (.object "com/example/variloom/variloom/model/IteratorCall$Kind"), (.object "com/example/variloom/variloom/model/IteratorCall$Kind"), (.object "com/example/variloom/variloom/model/IteratorCall$Kind"), (.object "com/example/variloom/variloom/model/IteratorCall$Kind"), (.object "com/example/variloom/variloom/model/IteratorCall$Kind"), (.array (.object "com/example/variloom/variloom/model/IteratorCall$Kind"))]
  resolved := Array.replicate 211 none
  statics := some 0 }

def pool7 : Array CpInfo := pool [(1, u "java/lang/Cloneable"), (0, .class_ 1), (0, u "java/lang/Object"), (0, .class_ 3)] 3

/-- java/lang/Cloneable -/
def k7 : Class := { plain "java/lang/Cloneable" (some 0) with
  accessFlags := 1537
  interfaces := #[]
  cf := some (fileOf pool7 2 #[] #[] 1537 4 #[] #[])
  fields := #[]
  methods := #[]
  instanceTypes := #[]
  staticTypes := #[]
  resolved := Array.replicate 8 none
  statics := none }

/-- the primitive byte -/
def k8 : Class := { plain "byte" none with kind := .primitive 'B', accessFlags := 0x411 }
/-- [B -/
def k9 : Class := { plain "[B" (some 0) with kind := .array 8 .byte, interfaces := #[7, 4], accessFlags := 1041 }

/-- the primitive int -/
def k10 : Class := { plain "int" none with kind := .primitive 'I', accessFlags := 0x411 }
/-- [I -/
def k11 : Class := { plain "[I" (some 0) with kind := .array 10 .int, interfaces := #[7, 4], accessFlags := 1041 }

def heap : Heap := #[{ cls := 6, slots := #[.ref 1, .ref 2, .ref 3, .ref 4, .ref 5, .ref 6, .ref 7, .ref 8, .ref 9, .ref 10, .ref 11, .ref 12, .ref 13, .null], vm := .statics 6 },
  { cls := 6, slots := #[.null, .int 0, .int 0, .null], vm := .none },
  { cls := 6, slots := #[.null, .int 1, .int 0, .null], vm := .none },
  { cls := 6, slots := #[.null, .int 2, .int 0, .null], vm := .none },
  { cls := 6, slots := #[.null, .int 3, .int 0, .null], vm := .none },
  { cls := 6, slots := #[.null, .int 4, .int 0, .null], vm := .none },
  { cls := 6, slots := #[.null, .int 5, .int 0, .null], vm := .none },
  { cls := 6, slots := #[.null, .int 6, .int 0, .null], vm := .none },
  { cls := 6, slots := #[.null, .int 7, .int 0, .null], vm := .none },
  { cls := 6, slots := #[.null, .int 8, .int 0, .null], vm := .none },
  { cls := 6, slots := #[.null, .int 9, .int 0, .null], vm := .none },
  { cls := 6, slots := #[.null, .int 10, .int 0, .null], vm := .none },
  { cls := 6, slots := #[.null, .int 11, .int 0, .null], vm := .none },
  { cls := 6, slots := #[.null, .int 12, .int 0, .null], vm := .none }]
def classes : Array Class := #[k0, k1, k2, k3, k4, k5, k6, k7, k8, k9, k10, k11]
def interned : List (Array UInt16 × Addr) := []
def slotsUsed : Nat := 66
def theMethod : MethodId := ⟨1, 1⟩
def args0 : Array Value := #[.int 5]
def aboutOver (below : List Frame) : State where
  vm := { classes := classes, interned := interned.toArray }
  heap := heap
  slotsUsed := slotsUsed
  threads := #[{ frames := .invoking theMethod args0 :: below }]
def below0 : List Frame := [.native { method := ⟨0, 0⟩, args := #[] }]
def about1 : State := aboutOver below0
def p0 : Program := .bare "" "" ""
def e0 : Env := launch0.env 0 0 0
theorem w_frames : about1.frames = Frame.invoking theMethod args0 :: below0 := rfl
set_option maxRecDepth 65536 in
theorem w_args : argsFit about1.vm theMethod args0 = true := by decide +kernel
set_option maxRecDepth 65536 in
theorem w_heap : heapFits about1 = true := by decide +kernel
set_option maxRecDepth 65536 in
theorem w_runnable : about1.curStatus? = some .runnable := by decide +kernel
set_option maxRecDepth 65536 in
theorem w_alone : about1.alone = true := by decide +kernel
set_option maxRecDepth 65536 in
theorem w_named : about1.methodNamed? x = some theMethod := by decide +kernel
set_option maxRecDepth 65536 in
theorem w_hears : about1.hears theMethod below0 = true := by decide +kernel
set_option maxRecDepth 65536 in
theorem w_ripe : about1.ripe theMethod args0 below0 = true := by decide +kernel
theorem w_running : about1.status = .running := rfl
set_option maxRecDepth 65536 in
theorem w_room : about1.hasRoom e0.platform room_1 = true :=
  launch0.hasRoom_least _ room_1 (by decide +kernel) (by decide +kernel) (by decide +kernel) (by decide +kernel) (by decide +kernel) (by decide +kernel)
theorem allAtoms_all (ts : List Jvm.Cond) (a : Array Jvm.Value) (st : Jvm.State) : (allAtoms ts).before a st = ts.all (fun c => c.before a st) := by
  induction ts with
  | nil => rfl
  | cons c t ih =>
    show (Jvm.Cond.and c (allAtoms t)).before a st = _
    rw [Jvm.Cond.before_and, ih, List.all_cons]
def words1 : List Jvm.Cond := Jvm.Cond.code x code maxLocals ret :: tables_1
/-- a 'code' word, met by the world's own term for the bytes: nothing is compared byte by byte -/
theorem code_word {y : MethodName} {bytes : ByteArray} {mx : Nat} {rt : Option FieldType} {a : Array Value} {s : State} {m : MethodId} {meth : Method} {c : Code} (h1 : s.methodNamed? y = some m) (h2 : s.vm.method? m = some meth) (h3 : meth.code = some c) (h4 : c.code = bytes)
    (h5 : (c.maxLocals == mx && c.exceptionTable.isEmpty && decide (c.maxStack ≤ mostOperands) && decide (meth.sig.returnType = rt) && !meth.locks && decide (parseMethodDescriptor y.desc = some meth.sig)) = true) : (Jvm.Cond.code y bytes mx rt).before a s = true := by
  simp only [Bool.and_eq_true, beq_iff_eq, Bool.not_eq_true', decide_eq_true_eq] at h5
  obtain ⟨⟨⟨⟨⟨g1, g2⟩, g3⟩, g4⟩, g5⟩, g6⟩ := h5
  simp [Cond.before, Cond.holds, Cond.value, h1, h2, h3, h4, g1, g2, g3, g4, g5, g6]
def isCode : Jvm.Cond → Bool
  | .code _ _ _ _ => true
  | _ => false
theorem all_split {L : List Jvm.Cond} {P : Jvm.Cond → Bool} (h1 : L.all (fun c => isCode c || P c) = true) (h2 : ∀ c ∈ L.filter isCode, P c = true) : L.all P = true := by
  refine List.all_eq_true.mpr fun c hc => ?_
  have h := List.all_eq_true.mp h1 c hc
  rcases Bool.eq_false_or_eq_true (isCode c) with hi | hi
  · exact h2 c (List.mem_filter.mpr ⟨hc, hi⟩)
  · simpa [hi] using h
set_option maxRecDepth 65536 in
theorem w_c0 : (Jvm.Cond.code x code maxLocals ret).before args0 about1 = true := code_word (m := ⟨1, 1⟩) (meth := k1m1) (c := k1c1) (by decide +kernel) rfl rfl rfl (by decide +kernel)
set_option maxRecDepth 65536 in
theorem w_c1 : (Jvm.Cond.code ({ cls := "com/example/variloom/variloom/model/KindTakesTuplesPinLaw", name := "pick", desc := "(I)Lcom/example/variloom/variloom/model/IteratorCall$Kind;" } : Jvm.MethodName) method_3_code (1 : Nat) (Option.some (Jvm.ClassFile.FieldType.object "com/example/variloom/variloom/model/IteratorCall$Kind"))).before args0 about1 = true := code_word (m := ⟨1, 2⟩) (meth := k1m2) (c := k1c2) (by decide +kernel) rfl rfl rfl (by decide +kernel)
set_option maxRecDepth 65536 in
theorem w_c2 : (Jvm.Cond.code ({ cls := "com/example/variloom/variloom/model/IteratorCall$Kind", name := "takesTuples", desc := "()Z" } : Jvm.MethodName) prog_63_method_5_code (1 : Nat) (Option.some Jvm.ClassFile.FieldType.boolean)).before args0 about1 = true := code_word (m := ⟨6, 0⟩) (meth := k6m0) (c := k6c0) (by decide +kernel) rfl rfl rfl (by decide +kernel)
def codes1 : List Jvm.Cond := [Jvm.Cond.code x code maxLocals ret, Jvm.Cond.code ({ cls := "com/example/variloom/variloom/model/KindTakesTuplesPinLaw", name := "pick", desc := "(I)Lcom/example/variloom/variloom/model/IteratorCall$Kind;" } : Jvm.MethodName) method_3_code (1 : Nat) (Option.some (Jvm.ClassFile.FieldType.object "com/example/variloom/variloom/model/IteratorCall$Kind")), Jvm.Cond.code ({ cls := "com/example/variloom/variloom/model/IteratorCall$Kind", name := "takesTuples", desc := "()Z" } : Jvm.MethodName) prog_63_method_5_code (1 : Nat) (Option.some Jvm.ClassFile.FieldType.boolean)]
set_option maxRecDepth 65536 in
theorem codes_eq : words1.filter isCode = codes1 := rfl
theorem w_codes : ∀ c ∈ words1.filter isCode, c.before args0 about1 = true := by
  rw [codes_eq]
  intro c hc
  simp only [codes1, List.mem_cons, List.not_mem_nil, or_false] at hc
  rcases hc with rfl | rfl | rfl
  · exact w_c0
  · exact w_c1
  · exact w_c2
set_option maxRecDepth 65536 in
theorem w_t1 : (words1.take 24).all (fun c => isCode c || c.before args0 about1) = true := by decide +kernel
set_option maxRecDepth 65536 in
theorem w_t2 : (words1.drop 24).all (fun c => isCode c || c.before args0 about1) = true := by decide +kernel
theorem w_tables : (allAtoms (Jvm.Cond.code x code maxLocals ret :: tables_1)).before args0 about1 = true := by
  rw [allAtoms_all]
  show words1.all (fun c => c.before args0 about1) = true
  refine all_split ?_ w_codes
  rw [← List.take_append_drop 24 words1, List.all_append, w_t1, w_t2]
  rfl
set_option maxRecDepth 65536 in
theorem w_case : (Jvm.Cond.and given_1 narrow_1).before args0 about1 = true := by decide +kernel
theorem w_applies : (headSpec (Jvm.Cond.code x code maxLocals ret :: tables_1) room_1).applies x e0.platform about1 = true :=
  (Spec.applies_iff w_frames).mpr ⟨w_running, w_runnable, w_alone, w_named, w_hears, w_ripe, w_room, w_tables⟩
theorem atStart : AtStart classFile x code maxLocals ret World_1 tables_1 room_1 Calls_1 rest_1 Pre_1 launch0 p0 e0 about1 theMethod args0 below0 :=
  ⟨lists_1, trivial, launch0.admits_env _ _ _, launch0.least_env, fairChoices_fair.cas, fairChoices_fair.clock, w_frames, w_args, w_heap, w_applies, trivial, trivial, w_case⟩
end start1
theorem witness_1 : WitnessClaimed_1 := ⟨start1.p0, start1.e0, start1.about1, start1.theMethod, start1.args0, start1.below0, start1.atStart⟩
end Jvm.Pilot.@@N@@
