import JvmDerived
import JvmDerived.Pilot.@@N@@Statement
import JvmDerived.Pilot.@@N@@Code
set_option linter.unusedVariables false
set_option linter.unusedSimpArgs false
namespace Jvm.Pilot.@@N@@
open Jvm Jvm.ClassFile Sem Op Lib Jvm.Free Jvm.Stand Jvm.LawKit Jvm.RoadKit Bundle Jvm.Pilot.@@N@@.Jvm.D
/-- from here the run comes to a return, and Q holds of what it returns, of the heap and of the places written -/
def own_Go (p : Program) (e : Env) (below : List Frame) (s : State) (kc ks : Nat) (Q : Option Value → Heap → List Loc → Prop) (T : State) (g : JFrame) : Prop :=
  ∃ s₂ o, Steps p.tables e below (T.setTop g) s₂ ∧ s₂.status = .running ∧ Ended s₂ below o ∧ ∃ v L, o = .returned v ∧ Q v s₂.heap L ∧ FrameEnd s o s₂ L kc ks
theorem own_step {p : Program} {e : Env} {below : List Frame} {s : State} {kc ks : Nat} {Q : Option Value → Heap → List Loc → Prop} {T T' : State} {g g' : JFrame}
    (h : ∀ t, Steps p.tables e below (T'.setTop g') t → Steps p.tables e below (T.setTop g) t) (k : own_Go p e below s kc ks Q T' g') : own_Go p e below s kc ks Q T g := by
  obtain ⟨s₂, o, h1, r⟩ := k
  exact ⟨s₂, o, h _ h1, r⟩
section Own
variable {p : Program} {l : Launch} {e : Env} {R : Room} {s : State} {m : MethodId} {args : Array Value} {below : List Frame} {meth : Method} {c : Code} {T : State} {locs : List Loc} {cells slots kc ks : Nat} {Q : Option Value → Heap → List Loc → Prop}
theorem own_ret (X : Stand p l e R s m args below meth c T locs cells slots) (hx : p.tables.exec = Jvm.exec) (hlk : meth.locks = false) {pc : Nat} {Ls : Array Slot} {w : Value} {t : FieldType} {i : Instr} {rest : List Value} (hret : meth.sig.returnType = some t) (hn : narrow t w = w)
    (hi : (i = .ireturn ∧ (t = .int ∨ t = .boolean ∨ t = .byte ∨ t = .char ∨ t = .short) ∧ ∃ z, w = .int z) ∨ (i = .lreturn ∧ t = .long ∧ ∃ z, w = .long z) ∨ (i = .dreturn ∧ t = .double ∧ ∃ z, w = .double z) ∨ (i = .freturn ∧ t = .float ∧ ∃ z, w = .float z) ∨ (i = .areturn ∧ t.isReference = true ∧ w.isRef = true))
    (hd : decode c.code pc = .ok (i, 1)) (hc : cells ≤ kc) (hs : slots ≤ ks) (hQ : Q (some w) T.heap locs) : own_Go p e below s kc ks Q T (mkF m pc Ls (w :: rest)) := by
  obtain ⟨fs, hr, hrun, hended, hW, hsame⟩ := X.leave (v := some w) (fun h => by rw [hret] at h; cases h) hlk
  exact ⟨_, _, retOut X hx hret hn hi hd hr, hrun, hended, _, _, rfl, hQ, ⟨_, rfl⟩, hW, hsame.mono hc hs⟩
theorem own_retV (X : Stand p l e R s m args below meth c T locs cells slots) (hx : p.tables.exec = Jvm.exec) (hlk : meth.locks = false) {pc : Nat} {Ls : Array Slot} (hret : meth.sig.returnType = none)
    (hd : decode c.code pc = .ok (.return_, 1)) (hc : cells ≤ kc) (hs : slots ≤ ks) (hQ : Q none T.heap locs) : own_Go p e below s kc ks Q T (mkF m pc Ls []) := by
  obtain ⟨fs, hr, hrun, hended, hW, hsame⟩ := X.leave (v := none) (fun _ => rfl) hlk
  exact ⟨_, _, X.returnOut hx hret hd hr, hrun, hended, _, _, rfl, hQ, ⟨_, rfl⟩, hW, hsame.mono hc hs⟩
theorem own_narZ {z : Int32} (hz : z = 0 ∨ z = 1) : narrow .boolean (.int z) = .int z := by rcases hz with rfl | rfl <;> rfl
end Own
theorem own_fitZ {z : Int32} (hz : z = 0 ∨ z = 1) : fits .boolean (.int z) = true := by rcases hz with rfl | rfl <;> rfl
def own_act (en tk hd : Int32) : Int32 := if en = 0 then 0 else if tk = 0 then (if hd = 0 then 0 else 1) else 0
def own_tk (en tk hd : Int32) : Int32 := tk ||| own_act en tk hd
theorem own_act01 (en tk hd : Int32) : own_act en tk hd = 0 ∨ own_act en tk hd = 1 := by unfold own_act; (repeat' split) <;> simp
theorem own_or01 {a b : Int32} (ha : a = 0 ∨ a = 1) (hb : b = 0 ∨ b = 1) : a ||| b = 0 ∨ a ||| b = 1 := by rcases ha with rfl | rfl <;> rcases hb with rfl | rfl <;> decide
theorem own_tk01 (en tk hd : Int32) (h : tk = 0 ∨ tk = 1) : own_tk en tk hd = 0 ∨ own_tk en tk hd = 1 := own_or01 h (own_act01 en tk hd)
def own_und (en tk : Int32) : Int32 := if en = 0 then 0 else if tk = 0 then 1 else 0
def own_one (br : Int32) : Int32 := if br = 1 then 1 else 0
def own_ea1 (e a b : Int32) : Int32 := if e = 0 then 0 else if a = 0 then (if b = 0 then 0 else 1) else 0
def own_eu1 (e a b : Int32) : Int32 := if e = 0 then 0 else if a = 0 then (if b = 0 then 1 else 0) else 0
def own_ea2 (e a b c : Int32) : Int32 := if e = 0 then 0 else if a = 0 then (if b = 0 then (if c = 0 then 0 else 1) else 0) else 0
def own_eu2 (e a b c : Int32) : Int32 := if e = 0 then 0 else if a = 0 then (if b = 0 then (if c = 0 then 1 else 0) else 0) else 0
theorem own_m1 {e a b : Int32} (he : e = 0 ∨ e = 1) (ha : a = 0 ∨ a = 1) (hb : b = 0 ∨ b = 1) : own_act e (own_tk e 0 a) b = own_ea1 e a b ∧ own_und e (own_tk e (own_tk e 0 a) b) = own_eu1 e a b := by
  rcases he with rfl | rfl <;> rcases ha with rfl | rfl <;> rcases hb with rfl | rfl <;> decide
theorem own_m2 {e a b c : Int32} (he : e = 0 ∨ e = 1) (ha : a = 0 ∨ a = 1) (hb : b = 0 ∨ b = 1) (hc : c = 0 ∨ c = 1) : own_act e (own_tk e (own_tk e 0 a) b) c = own_ea2 e a b c ∧ own_und e (own_tk e (own_tk e (own_tk e 0 a) b) c) = own_eu2 e a b c := by
  rcases he with rfl | rfl <;> rcases ha with rfl | rfl <;> rcases hb with rfl | rfl <;> rcases hc with rfl | rfl <;> decide
theorem d3_0 : decode prog_82_method_2_code 0 = .ok (.aload_n 0, 1) := by decide +kernel
theorem d3_1 : decode prog_82_method_2_code 1 = .ok (.aload_n 0, 1) := by decide +kernel
theorem d3_2 : decode prog_82_method_2_code 2 = .ok (.getfield 13, 3) := by decide +kernel
theorem d3_5 : decode prog_82_method_2_code 5 = .ok (.ifCond .eq 18, 3) := by decide +kernel
theorem d3_8 : decode prog_82_method_2_code 8 = .ok (.aload_n 0, 1) := by decide +kernel
theorem d3_9 : decode prog_82_method_2_code 9 = .ok (.getfield 21, 3) := by decide +kernel
theorem d3_12 : decode prog_82_method_2_code 12 = .ok (.ifCond .ne 11, 3) := by decide +kernel
theorem d3_15 : decode prog_82_method_2_code 15 = .ok (.iload_n 1, 1) := by decide +kernel
theorem d3_16 : decode prog_82_method_2_code 16 = .ok (.ifCond .eq 7, 3) := by decide +kernel
theorem d3_19 : decode prog_82_method_2_code 19 = .ok (.iconst 1, 1) := by decide +kernel
theorem d3_20 : decode prog_82_method_2_code 20 = .ok (.goto 4, 3) := by decide +kernel
theorem d3_23 : decode prog_82_method_2_code 23 = .ok (.iconst 0, 1) := by decide +kernel
theorem d3_24 : decode prog_82_method_2_code 24 = .ok (.putfield 24, 3) := by decide +kernel
theorem d3_27 : decode prog_82_method_2_code 27 = .ok (.aload_n 0, 1) := by decide +kernel
theorem d3_28 : decode prog_82_method_2_code 28 = .ok (.dup, 1) := by decide +kernel
theorem d3_29 : decode prog_82_method_2_code 29 = .ok (.getfield 21, 3) := by decide +kernel
theorem d3_32 : decode prog_82_method_2_code 32 = .ok (.aload_n 0, 1) := by decide +kernel
theorem d3_33 : decode prog_82_method_2_code 33 = .ok (.getfield 24, 3) := by decide +kernel
theorem d3_36 : decode prog_82_method_2_code 36 = .ok (.ior, 1) := by decide +kernel
theorem d3_37 : decode prog_82_method_2_code 37 = .ok (.putfield 21, 3) := by decide +kernel
theorem d3_40 : decode prog_82_method_2_code 40 = .ok (.aload_n 0, 1) := by decide +kernel
theorem d3_41 : decode prog_82_method_2_code 41 = .ok (.dup, 1) := by decide +kernel
theorem d3_42 : decode prog_82_method_2_code 42 = .ok (.getfield 27, 3) := by decide +kernel
theorem d3_45 : decode prog_82_method_2_code 45 = .ok (.iconst 1, 1) := by decide +kernel
theorem d3_46 : decode prog_82_method_2_code 46 = .ok (.iadd, 1) := by decide +kernel
theorem d3_47 : decode prog_82_method_2_code 47 = .ok (.putfield 27, 3) := by decide +kernel
theorem d3_50 : decode prog_82_method_2_code 50 = .ok (.return_, 1) := by decide +kernel
theorem own_pn3 : plainName "com/example/idlwright/idlwright/preprocessor/Conditional" = true := by first | (simp [plainName, overriddenIn]; done) | decide +kernel
theorem own_ef3 (m : MethodId) (x0 : Addr) (x1 : Int32) : entryFrame m #[(.ref x0), (.int x1)] 2 = mkF m 0 #[.val (.ref x0), .val (.int x1)] [] := by first | (simp [entryFrame, mkF, argsToLocals, Value.category]; done) | rfl
def own_Q3 (Z : State) (a1 : Addr) (p2 : Int32) (en : Int32) (ac : Int32) (tk : Int32) (br : Int32) (h0 : Heap) (n0 : Nat) (v : Option Value) (h : Heap) (L : List Loc) : Prop := v = none ∧ Fr n0 L ∧ Keep h0 h [a1] ∧ Exa Z h a1 "com/example/idlwright/idlwright/preprocessor/Conditional" ∧ Fld Z h a1 "com/example/idlwright/idlwright/preprocessor/Conditional" "enclosing" "Z" (.int en) ∧ Fld Z h a1 "com/example/idlwright/idlwright/preprocessor/Conditional" "active" "Z" (.int (own_act en tk p2)) ∧ Fld Z h a1 "com/example/idlwright/idlwright/preprocessor/Conditional" "taken" "Z" (.int (own_tk en tk p2)) ∧ Fld Z h a1 "com/example/idlwright/idlwright/preprocessor/Conditional" "branches" "I" (.int (br + 1))
set_option maxRecDepth 65536 in
set_option maxHeartbeats 40000000 in
theorem own_rm3 (l : Launch) (Z : State) (a0 : Array Value) (hw : ∀ d ∈ tables_1, d.before a0 Z = true) (ws : List Jvm.Cond) (a1 : Addr) (p2 : Int32) (en : Int32) (ac : Int32) (tk : Int32) (br : Int32) (h0 : Heap) (n0 : Nat) (Z0 : n0 ≤ h0.size) (Fenclosing : Fld Z h0 a1 "com/example/idlwright/idlwright/preprocessor/Conditional" "enclosing" "Z" (.int en)) (Factive : Fld Z h0 a1 "com/example/idlwright/idlwright/preprocessor/Conditional" "active" "Z" (.int ac)) (Ftaken : Fld Z h0 a1 "com/example/idlwright/idlwright/preprocessor/Conditional" "taken" "Z" (.int tk)) (Fbranches : Fld Z h0 a1 "com/example/idlwright/idlwright/preprocessor/Conditional" "branches" "I" (.int br)) (EX : Exa Z h0 a1 "com/example/idlwright/idlwright/preprocessor/Conditional") (ga : n0 ≤ a1) (htk : tk = 0 ∨ tk = 1) :
    MetFree l (⟨"com/example/idlwright/idlwright/preprocessor/Conditional", "branch", "(Z)V"⟩ : MethodName) (head1 (Jvm.Cond.code (⟨"com/example/idlwright/idlwright/preprocessor/Conditional", "branch", "(Z)V"⟩ : MethodName) prog_82_method_2_code 2 none :: ws) ({ frames := 0, cells := 0, slots := 0, locals := 0 } : Room)) (fun a U => a = #[(.ref a1), (.int p2)] ∧ Z.Warmed39 U.vm ∧ U.heap = h0) (fun _ _ _ _ _ => True) (fun _ U o U' => ∃ v L, o = .returned v ∧ own_Q3 Z a1 p2 en ac tk br h0 n0 v U'.heap L ∧ FrameEnd U o U' L ({ frames := 0, cells := 0, slots := 0, locals := 0 } : Room).cells ({ frames := 0, cells := 0, slots := 0, locals := 0 } : Room).slots) := by
  refine MetFree.of_bodySF (plainFor_of_name own_pn3) hisR ?_
  intro p e s m args below meth c s₁ Bd hml0 hP hK
  obtain ⟨rfl, hZ, hh⟩ := hP
  have hx := Bd.exec
  have hby := Bd.bytes
  have hml : c.maxLocals = 2 := hml0
  have hlk : meth.locks = false := BodyLoose.notSynchronized Bd
  have hown : s.vm.findClass "com/example/idlwright/idlwright/preprocessor/Conditional" = some m.cls := findClass_of_methodNamed Bd.named
  have hnm := (name_of_methodNamed Bd.named Bd.method).1
  have X0 : Stand p l e ({ frames := 0, cells := 0, slots := 0, locals := 0 } : Room) s m #[(.ref a1), (.int p2)] below meth c s₁ [] 0 0 := Stand.of_body Bd
  have e0 : s₁.heap = h0 := by rw [← hh, Bd.state]; rfl
  have N0 := Fr.nil n0
  show own_Go p e below s ({ frames := 0, cells := 0, slots := 0, locals := 0 } : Room).cells ({ frames := 0, cells := 0, slots := 0, locals := 0 } : Room).slots (own_Q3 Z a1 p2 en ac tk br h0 n0) s₁ (entryFrame m #[(.ref a1), (.int p2)] 2)
  refine own_step (fun t k => castTop (own_ef3 m a1 p2) k) ?_
  have J24 : ∀ (Tj : State) (Lj : List Loc) (Xj : Stand p l e ({ frames := 0, cells := 0, slots := 0, locals := 0 } : Room) s m #[(.ref a1), (.int p2)] below meth c Tj Lj 0 0) (ej : Tj.heap = h0) (Nj : Fr n0 Lj) (z : Int32) (hz : z = own_act en tk p2), own_Go p e below s ({ frames := 0, cells := 0, slots := 0, locals := 0 } : Room).cells ({ frames := 0, cells := 0, slots := 0, locals := 0 } : Room).slots (own_Q3 Z a1 p2 en ac tk br h0 n0) Tj (mkF m 24 #[.val (.ref a1), .val (.int p2)] [(.int z), (.ref a1)]) := by
    intro T1 L1 X1 e1 N1 z hz
    subst hz
    show own_Go _ _ _ _ _ _ _ T1 (mkF m 24 #[.val (.ref a1), .val (.int p2)] [(.int (own_act en tk p2)), (.ref a1)])
    obtain ⟨T2, h2, X2, e2, W2, st2⟩ := putF X1 hx hZ hown (host := "") (Or.inl (hw _ (List.mem_of_getElem? (i := 18) rfl))) Via.refl e1 Factive EX (Or.inl (hw _ (List.mem_of_getElem? (i := 19) rfl))) (hw _ (List.mem_of_getElem? (i := 1) rfl)) (ty := .boolean) (by decide) (own_narZ (own_act01 en tk p2)) (own_fitZ (own_act01 en tk p2)) (g := (mkF m 24 #[.val (.ref a1), .val (.int p2)] [(.int (own_act en tk p2)), (.ref a1)])) rfl rfl (hb hby d3_24)
    have N2 := Fr.snoc X2 N1 ga
    have E2_a1 := EX.wr W2
    have F2_a1_enclosing := Fenclosing.other W2 (Or.inr (slot_ne (Or.inr (hw _ (List.mem_of_getElem? (i := 12) rfl))) (Or.inl (hw _ (List.mem_of_getElem? (i := 19) rfl))) (by decide) (t := .boolean) (t' := .boolean) (by decide) (by decide)))
    have F2_a1_active := Factive.same W2
    have F2_a1_taken := Ftaken.other W2 (Or.inr (slot_ne (Or.inl (hw _ (List.mem_of_getElem? (i := 21) rfl))) (Or.inl (hw _ (List.mem_of_getElem? (i := 19) rfl))) (by decide) (t := .boolean) (t' := .boolean) (by decide) (by decide)))
    have F2_a1_branches := Fbranches.other W2 (Or.inr (slot_ne (Or.inl (hw _ (List.mem_of_getElem? (i := 23) rfl))) (Or.inl (hw _ (List.mem_of_getElem? (i := 19) rfl))) (by decide) (t := .int) (t' := .boolean) (by decide) (by decide)))
    have K2 : Keep h0 h2 [a1] := (Keep.refl h0 [a1]).wr W2 (Or.inl (List.mem_of_getElem? (i := 0) rfl))
    refine own_step st2 ?_
    show own_Go _ _ _ _ _ _ _ T2 (mkF m 27 #[.val (.ref a1), .val (.int p2)] [])
    refine own_step (fun t k => XS.aloadN X2.here hx rfl (hb hby d3_27) rfl rfl k) ?_
    show own_Go _ _ _ _ _ _ _ T2 (mkF m 28 #[.val (.ref a1), .val (.int p2)] [(.ref a1)])
    refine own_step (fun t k => XS.dup X2.here hx rfl (hb hby d3_28) rfl rfl k) ?_
    show own_Go _ _ _ _ _ _ _ T2 (mkF m 29 #[.val (.ref a1), .val (.int p2)] [(.ref a1), (.ref a1)])
    obtain ⟨T3, X3, e3, st3⟩ := getF X2 hx hZ hown (host := "") (Or.inl (hw _ (List.mem_of_getElem? (i := 20) rfl))) Via.refl e2 F2_a1_taken (g := (mkF m 29 #[.val (.ref a1), .val (.int p2)] [(.ref a1), (.ref a1)])) rfl rfl (hb hby d3_29)
    refine own_step st3 ?_
    show own_Go _ _ _ _ _ _ _ T3 (mkF m 32 #[.val (.ref a1), .val (.int p2)] [(.int tk), (.ref a1)])
    refine own_step (fun t k => XS.aloadN X3.here hx rfl (hb hby d3_32) rfl rfl k) ?_
    show own_Go _ _ _ _ _ _ _ T3 (mkF m 33 #[.val (.ref a1), .val (.int p2)] [(.ref a1), (.int tk), (.ref a1)])
    obtain ⟨T4, X4, e4, st4⟩ := getF X3 hx hZ hown (host := "") (Or.inl (hw _ (List.mem_of_getElem? (i := 18) rfl))) Via.refl e3 F2_a1_active (g := (mkF m 33 #[.val (.ref a1), .val (.int p2)] [(.ref a1), (.int tk), (.ref a1)])) rfl rfl (hb hby d3_33)
    refine own_step st4 ?_
    show own_Go _ _ _ _ _ _ _ T4 (mkF m 36 #[.val (.ref a1), .val (.int p2)] [(.int (own_act en tk p2)), (.int tk), (.ref a1)])
    refine own_step (fun t k => XS.ior X4.here hx rfl (hb hby d3_36) rfl k) ?_
    show own_Go _ _ _ _ _ _ _ T4 (mkF m 37 #[.val (.ref a1), .val (.int p2)] [(.int (own_tk en tk p2)), (.ref a1)])
    obtain ⟨T5, h5, X5, e5, W5, st5⟩ := putF X4 hx hZ hown (host := "") (Or.inl (hw _ (List.mem_of_getElem? (i := 20) rfl))) Via.refl e4 F2_a1_taken E2_a1 (Or.inl (hw _ (List.mem_of_getElem? (i := 21) rfl))) (hw _ (List.mem_of_getElem? (i := 1) rfl)) (ty := .boolean) (by decide) (own_narZ (own_tk01 en tk p2 htk)) (own_fitZ (own_tk01 en tk p2 htk)) (g := (mkF m 37 #[.val (.ref a1), .val (.int p2)] [(.int (own_tk en tk p2)), (.ref a1)])) rfl rfl (hb hby d3_37)
    have N5 := Fr.snoc X5 N2 ga
    have E5_a1 := E2_a1.wr W5
    have F5_a1_enclosing := F2_a1_enclosing.other W5 (Or.inr (slot_ne (Or.inr (hw _ (List.mem_of_getElem? (i := 12) rfl))) (Or.inl (hw _ (List.mem_of_getElem? (i := 21) rfl))) (by decide) (t := .boolean) (t' := .boolean) (by decide) (by decide)))
    have F5_a1_active := F2_a1_active.other W5 (Or.inr (slot_ne (Or.inl (hw _ (List.mem_of_getElem? (i := 19) rfl))) (Or.inl (hw _ (List.mem_of_getElem? (i := 21) rfl))) (by decide) (t := .boolean) (t' := .boolean) (by decide) (by decide)))
    have F5_a1_taken := F2_a1_taken.same W5
    have F5_a1_branches := F2_a1_branches.other W5 (Or.inr (slot_ne (Or.inl (hw _ (List.mem_of_getElem? (i := 23) rfl))) (Or.inl (hw _ (List.mem_of_getElem? (i := 21) rfl))) (by decide) (t := .int) (t' := .boolean) (by decide) (by decide)))
    have K5 : Keep h0 h5 [a1] := K2.wr W5 (Or.inl (List.mem_of_getElem? (i := 0) rfl))
    refine own_step st5 ?_
    show own_Go _ _ _ _ _ _ _ T5 (mkF m 40 #[.val (.ref a1), .val (.int p2)] [])
    refine own_step (fun t k => XS.aloadN X5.here hx rfl (hb hby d3_40) rfl rfl k) ?_
    show own_Go _ _ _ _ _ _ _ T5 (mkF m 41 #[.val (.ref a1), .val (.int p2)] [(.ref a1)])
    refine own_step (fun t k => XS.dup X5.here hx rfl (hb hby d3_41) rfl rfl k) ?_
    show own_Go _ _ _ _ _ _ _ T5 (mkF m 42 #[.val (.ref a1), .val (.int p2)] [(.ref a1), (.ref a1)])
    obtain ⟨T6, X6, e6, st6⟩ := getF X5 hx hZ hown (host := "") (Or.inl (hw _ (List.mem_of_getElem? (i := 22) rfl))) Via.refl e5 F5_a1_branches (g := (mkF m 42 #[.val (.ref a1), .val (.int p2)] [(.ref a1), (.ref a1)])) rfl rfl (hb hby d3_42)
    refine own_step st6 ?_
    show own_Go _ _ _ _ _ _ _ T6 (mkF m 45 #[.val (.ref a1), .val (.int p2)] [(.int br), (.ref a1)])
    refine own_step (fun t k => XS.iconst X6.here hx rfl (hb hby d3_45) k) ?_
    show own_Go _ _ _ _ _ _ _ T6 (mkF m 46 #[.val (.ref a1), .val (.int p2)] [(.int (1 : Int32)), (.int br), (.ref a1)])
    refine own_step (fun t k => XS.iadd X6.here hx rfl (hb hby d3_46) rfl k) ?_
    show own_Go _ _ _ _ _ _ _ T6 (mkF m 47 #[.val (.ref a1), .val (.int p2)] [(.int (br + 1)), (.ref a1)])
    obtain ⟨T7, h7, X7, e7, W7, st7⟩ := putF X6 hx hZ hown (host := "") (Or.inl (hw _ (List.mem_of_getElem? (i := 22) rfl))) Via.refl e6 F5_a1_branches E5_a1 (Or.inl (hw _ (List.mem_of_getElem? (i := 23) rfl))) (hw _ (List.mem_of_getElem? (i := 1) rfl)) (ty := .int) (by decide) rfl rfl (g := (mkF m 47 #[.val (.ref a1), .val (.int p2)] [(.int (br + 1)), (.ref a1)])) rfl rfl (hb hby d3_47)
    have N7 := Fr.snoc X7 N5 ga
    have E7_a1 := E5_a1.wr W7
    have F7_a1_enclosing := F5_a1_enclosing.other W7 (Or.inr (slot_ne (Or.inr (hw _ (List.mem_of_getElem? (i := 12) rfl))) (Or.inl (hw _ (List.mem_of_getElem? (i := 23) rfl))) (by decide) (t := .boolean) (t' := .int) (by decide) (by decide)))
    have F7_a1_active := F5_a1_active.other W7 (Or.inr (slot_ne (Or.inl (hw _ (List.mem_of_getElem? (i := 19) rfl))) (Or.inl (hw _ (List.mem_of_getElem? (i := 23) rfl))) (by decide) (t := .boolean) (t' := .int) (by decide) (by decide)))
    have F7_a1_taken := F5_a1_taken.other W7 (Or.inr (slot_ne (Or.inl (hw _ (List.mem_of_getElem? (i := 21) rfl))) (Or.inl (hw _ (List.mem_of_getElem? (i := 23) rfl))) (by decide) (t := .boolean) (t' := .int) (by decide) (by decide)))
    have F7_a1_branches := F5_a1_branches.same W7
    have K7 : Keep h0 h7 [a1] := K5.wr W7 (Or.inl (List.mem_of_getElem? (i := 0) rfl))
    refine own_step st7 ?_
    show own_Go _ _ _ _ _ _ _ T7 (mkF m 50 #[.val (.ref a1), .val (.int p2)] [])
    refine own_retV X7 hx hlk Bd.returns (hb hby d3_50) (by decide) (by decide) ?_
    show own_Q3 Z a1 p2 en ac tk br h0 n0 none T7.heap _
    rw [e7]
    exact ⟨rfl, N7, K7, E7_a1, F7_a1_enclosing, F7_a1_active, F7_a1_taken, F7_a1_branches⟩
  show own_Go _ _ _ _ _ _ _ s₁ (mkF m 0 #[.val (.ref a1), .val (.int p2)] [])
  refine own_step (fun t k => XS.aloadN X0.here hx rfl (hb hby d3_0) rfl rfl k) ?_
  show own_Go _ _ _ _ _ _ _ s₁ (mkF m 1 #[.val (.ref a1), .val (.int p2)] [(.ref a1)])
  refine own_step (fun t k => XS.aloadN X0.here hx rfl (hb hby d3_1) rfl rfl k) ?_
  show own_Go _ _ _ _ _ _ _ s₁ (mkF m 2 #[.val (.ref a1), .val (.int p2)] [(.ref a1), (.ref a1)])
  obtain ⟨T8, X8, e8, st8⟩ := getF X0 hx hZ hown (host := "") (Or.inl (hw _ (List.mem_of_getElem? (i := 11) rfl))) Via.refl e0 Fenclosing (g := (mkF m 2 #[.val (.ref a1), .val (.int p2)] [(.ref a1), (.ref a1)])) rfl rfl (hb hby d3_2)
  refine own_step st8 ?_
  rcases Classical.em (en = (0 : Int32)) with c5_9 | c5_9
  · show own_Go _ _ _ _ _ _ _ T8 (mkF m 5 #[.val (.ref a1), .val (.int p2)] [(.int en), (.ref a1)])
    refine own_step (fun t k => XS.ifYes X8.here hx rfl (pc0 := 5) (pc' := 23) rfl (hb hby d3_5) rfl ((if0 _ _).trans (teq (c5_9)).1) (by decide) (by decide) k) ?_
    show own_Go _ _ _ _ _ _ _ T8 (mkF m 23 #[.val (.ref a1), .val (.int p2)] [(.ref a1)])
    refine own_step (fun t k => XS.iconst X8.here hx rfl (hb hby d3_23) k) ?_
    show own_Go _ _ _ _ _ _ _ T8 (mkF m 24 #[.val (.ref a1), .val (.int p2)] [(.int (0 : Int32)), (.ref a1)])
    exact J24 _ _ X8 e8 N0 _ (by simp [own_act, c5_9])
  · show own_Go _ _ _ _ _ _ _ T8 (mkF m 5 #[.val (.ref a1), .val (.int p2)] [(.int en), (.ref a1)])
    refine own_step (fun t k => XS.ifNo X8.here hx rfl (hb hby d3_5) rfl ((if0 _ _).trans (feq (c5_9)).1) k) ?_
    show own_Go _ _ _ _ _ _ _ T8 (mkF m 8 #[.val (.ref a1), .val (.int p2)] [(.ref a1)])
    refine own_step (fun t k => XS.aloadN X8.here hx rfl (hb hby d3_8) rfl rfl k) ?_
    show own_Go _ _ _ _ _ _ _ T8 (mkF m 9 #[.val (.ref a1), .val (.int p2)] [(.ref a1), (.ref a1)])
    obtain ⟨T10, X10, e10, st10⟩ := getF X8 hx hZ hown (host := "") (Or.inl (hw _ (List.mem_of_getElem? (i := 20) rfl))) Via.refl e8 Ftaken (g := (mkF m 9 #[.val (.ref a1), .val (.int p2)] [(.ref a1), (.ref a1)])) rfl rfl (hb hby d3_9)
    refine own_step st10 ?_
    rcases Classical.em (tk = (0 : Int32)) with c12_11 | c12_11
    · show own_Go _ _ _ _ _ _ _ T10 (mkF m 12 #[.val (.ref a1), .val (.int p2)] [(.int tk), (.ref a1)])
      refine own_step (fun t k => XS.ifNo X10.here hx rfl (hb hby d3_12) rfl ((if0 _ _).trans (teq (c12_11)).2) k) ?_
      show own_Go _ _ _ _ _ _ _ T10 (mkF m 15 #[.val (.ref a1), .val (.int p2)] [(.ref a1)])
      refine own_step (fun t k => XS.iloadN X10.here hx rfl (hb hby d3_15) rfl k) ?_
      rcases Classical.em (p2 = (0 : Int32)) with c16_12 | c16_12
      · show own_Go _ _ _ _ _ _ _ T10 (mkF m 16 #[.val (.ref a1), .val (.int p2)] [(.int p2), (.ref a1)])
        refine own_step (fun t k => XS.ifYes X10.here hx rfl (pc0 := 16) (pc' := 23) rfl (hb hby d3_16) rfl ((if0 _ _).trans (teq (c16_12)).1) (by decide) (by decide) k) ?_
        show own_Go _ _ _ _ _ _ _ T10 (mkF m 23 #[.val (.ref a1), .val (.int p2)] [(.ref a1)])
        refine own_step (fun t k => XS.iconst X10.here hx rfl (hb hby d3_23) k) ?_
        show own_Go _ _ _ _ _ _ _ T10 (mkF m 24 #[.val (.ref a1), .val (.int p2)] [(.int (0 : Int32)), (.ref a1)])
        exact J24 _ _ X10 e10 N0 _ (by simp [own_act, c5_9, c12_11, c16_12])
      · show own_Go _ _ _ _ _ _ _ T10 (mkF m 16 #[.val (.ref a1), .val (.int p2)] [(.int p2), (.ref a1)])
        refine own_step (fun t k => XS.ifNo X10.here hx rfl (hb hby d3_16) rfl ((if0 _ _).trans (feq (c16_12)).1) k) ?_
        show own_Go _ _ _ _ _ _ _ T10 (mkF m 19 #[.val (.ref a1), .val (.int p2)] [(.ref a1)])
        refine own_step (fun t k => XS.iconst X10.here hx rfl (hb hby d3_19) k) ?_
        show own_Go _ _ _ _ _ _ _ T10 (mkF m 20 #[.val (.ref a1), .val (.int p2)] [(.int (1 : Int32)), (.ref a1)])
        refine own_step (fun t k => XS.goto X10.here hx rfl (pc0 := 20) (pc' := 24) rfl (hb hby d3_20) (by decide) (by decide) k) ?_
        show own_Go _ _ _ _ _ _ _ T10 (mkF m 24 #[.val (.ref a1), .val (.int p2)] [(.int (1 : Int32)), (.ref a1)])
        exact J24 _ _ X10 e10 N0 _ (by simp [own_act, c5_9, c12_11, c16_12])
    · show own_Go _ _ _ _ _ _ _ T10 (mkF m 12 #[.val (.ref a1), .val (.int p2)] [(.int tk), (.ref a1)])
      refine own_step (fun t k => XS.ifYes X10.here hx rfl (pc0 := 12) (pc' := 23) rfl (hb hby d3_12) rfl ((if0 _ _).trans (feq (c12_11)).2) (by decide) (by decide) k) ?_
      show own_Go _ _ _ _ _ _ _ T10 (mkF m 23 #[.val (.ref a1), .val (.int p2)] [(.ref a1)])
      refine own_step (fun t k => XS.iconst X10.here hx rfl (hb hby d3_23) k) ?_
      show own_Go _ _ _ _ _ _ _ T10 (mkF m 24 #[.val (.ref a1), .val (.int p2)] [(.int (0 : Int32)), (.ref a1)])
      exact J24 _ _ X10 e10 N0 _ (by simp [own_act, c5_9, c12_11])
theorem d1_0 : decode prog_82_method_1_code 0 = .ok (.aload_n 0, 1) := by decide +kernel
theorem d1_1 : decode prog_82_method_1_code 1 = .ok (.invokespecial 1, 3) := by decide +kernel
theorem d1_4 : decode prog_82_method_1_code 4 = .ok (.aload_n 0, 1) := by decide +kernel
theorem d1_5 : decode prog_82_method_1_code 5 = .ok (.aload_n 1, 1) := by decide +kernel
theorem d1_6 : decode prog_82_method_1_code 6 = .ok (.putfield 7, 3) := by decide +kernel
theorem d1_9 : decode prog_82_method_1_code 9 = .ok (.aload_n 0, 1) := by decide +kernel
theorem d1_10 : decode prog_82_method_1_code 10 = .ok (.iload_n 2, 1) := by decide +kernel
theorem d1_11 : decode prog_82_method_1_code 11 = .ok (.putfield 13, 3) := by decide +kernel
theorem d1_14 : decode prog_82_method_1_code 14 = .ok (.aload_n 0, 1) := by decide +kernel
theorem d1_15 : decode prog_82_method_1_code 15 = .ok (.iload_n 3, 1) := by decide +kernel
theorem d1_16 : decode prog_82_method_1_code 16 = .ok (.invokevirtual 17, 3) := by decide +kernel
theorem d1_19 : decode prog_82_method_1_code 19 = .ok (.return_, 1) := by decide +kernel
theorem own_pn1 : plainName "com/example/idlwright/idlwright/preprocessor/Conditional" = true := by first | (simp [plainName, overriddenIn]; done) | decide +kernel
theorem own_pd1_0 : parseMethodDescriptor "(Z)V" = some ⟨[.boolean], none⟩ := by decide +kernel
theorem own_ef1 (m : MethodId) (x0 : Addr) (x2 : Int32) (x3 : Int32) : entryFrame m #[(.ref x0), .null, (.int x2), (.int x3)] 4 = mkF m 0 #[.val (.ref x0), .val .null, .val (.int x2), .val (.int x3)] [] := by first | (simp [entryFrame, mkF, argsToLocals, Value.category]; done) | rfl
def own_Q1 (Z : State) (a1 : Addr) (p2 : Int32) (p3 : Int32) (h0 : Heap) (n0 : Nat) (v : Option Value) (h : Heap) (L : List Loc) : Prop := v = none ∧ Fr n0 L ∧ Keep h0 h [a1] ∧ Exa Z h a1 "com/example/idlwright/idlwright/preprocessor/Conditional" ∧ Fld Z h a1 "com/example/idlwright/idlwright/preprocessor/Conditional" "enclosing" "Z" (.int p2) ∧ Fld Z h a1 "com/example/idlwright/idlwright/preprocessor/Conditional" "active" "Z" (.int (own_act p2 0 p3)) ∧ Fld Z h a1 "com/example/idlwright/idlwright/preprocessor/Conditional" "taken" "Z" (.int (own_tk p2 0 p3)) ∧ Fld Z h a1 "com/example/idlwright/idlwright/preprocessor/Conditional" "branches" "I" (.int (0 + 1))
set_option maxRecDepth 65536 in
set_option maxHeartbeats 40000000 in
theorem own_rm1 (l : Launch) (Z : State) (a0 : Array Value) (hw : ∀ d ∈ tables_1, d.before a0 Z = true) (ws : List Jvm.Cond) (a1 : Addr) (p2 : Int32) (p3 : Int32) (h0 : Heap) (n0 : Nat) (Z0 : n0 ≤ h0.size) (Fopening : Fld Z h0 a1 "com/example/idlwright/idlwright/preprocessor/Conditional" "opening" "Lcom/example/idlwright/idlwright/lexer/Token;" .null) (Fenclosing : Fld Z h0 a1 "com/example/idlwright/idlwright/preprocessor/Conditional" "enclosing" "Z" (.int (0 : Int32))) (Factive : Fld Z h0 a1 "com/example/idlwright/idlwright/preprocessor/Conditional" "active" "Z" (.int (0 : Int32))) (Ftaken : Fld Z h0 a1 "com/example/idlwright/idlwright/preprocessor/Conditional" "taken" "Z" (.int (0 : Int32))) (Fbranches : Fld Z h0 a1 "com/example/idlwright/idlwright/preprocessor/Conditional" "branches" "I" (.int (0 : Int32))) (EX : Exa Z h0 a1 "com/example/idlwright/idlwright/preprocessor/Conditional") (ga : n0 ≤ a1) (hp2 : p2 = 0 ∨ p2 = 1) :
    MetFree l (⟨"com/example/idlwright/idlwright/preprocessor/Conditional", "<init>", "(Lcom/example/idlwright/idlwright/lexer/Token;ZZ)V"⟩ : MethodName) (head1 (Jvm.Cond.code (⟨"com/example/idlwright/idlwright/preprocessor/Conditional", "<init>", "(Lcom/example/idlwright/idlwright/lexer/Token;ZZ)V"⟩ : MethodName) prog_82_method_1_code 4 none :: ws) ({ frames := 1, cells := 0, slots := 0, locals := 32 } : Room)) (fun a U => a = #[(.ref a1), .null, (.int p2), (.int p3)] ∧ Z.Warmed39 U.vm ∧ U.heap = h0) (fun _ _ _ _ _ => True) (fun _ U o U' => ∃ v L, o = .returned v ∧ own_Q1 Z a1 p2 p3 h0 n0 v U'.heap L ∧ FrameEnd U o U' L ({ frames := 1, cells := 0, slots := 0, locals := 32 } : Room).cells ({ frames := 1, cells := 0, slots := 0, locals := 32 } : Room).slots) := by
  refine MetFree.of_bodySF (plainFor_of_name own_pn1) hisR ?_
  intro p e s m args below meth c s₁ Bd hml0 hP hK
  obtain ⟨rfl, hZ, hh⟩ := hP
  have hx := Bd.exec
  have hby := Bd.bytes
  have hml : c.maxLocals = 4 := hml0
  have hlk : meth.locks = false := BodyLoose.notSynchronized Bd
  have hown : s.vm.findClass "com/example/idlwright/idlwright/preprocessor/Conditional" = some m.cls := findClass_of_methodNamed Bd.named
  have hnm := (name_of_methodNamed Bd.named Bd.method).1
  have X0 : Stand p l e ({ frames := 1, cells := 0, slots := 0, locals := 32 } : Room) s m #[(.ref a1), .null, (.int p2), (.int p3)] below meth c s₁ [] 0 0 := Stand.of_body Bd
  have e0 : s₁.heap = h0 := by rw [← hh, Bd.state]; rfl
  have N0 := Fr.nil n0
  show own_Go p e below s ({ frames := 1, cells := 0, slots := 0, locals := 32 } : Room).cells ({ frames := 1, cells := 0, slots := 0, locals := 32 } : Room).slots (own_Q1 Z a1 p2 p3 h0 n0) s₁ (entryFrame m #[(.ref a1), .null, (.int p2), (.int p3)] 4)
  refine own_step (fun t k => castTop (own_ef1 m a1 p2 p3) k) ?_
  show own_Go _ _ _ _ _ _ _ s₁ (mkF m 0 #[.val (.ref a1), .val .null, .val (.int p2), .val (.int p3)] [])
  refine own_step (fun t k => XS.aloadN X0.here hx rfl (hb hby d1_0) rfl rfl k) ?_
  show own_Go _ _ _ _ _ _ _ s₁ (mkF m 1 #[.val (.ref a1), .val .null, .val (.int p2), .val (.int p3)] [(.ref a1)])
  obtain ⟨T1, X1, e1, st1⟩ := initO X0 hx hZ hown (hw _ (List.mem_of_getElem? (i := 6) rfl)) (hw _ (List.mem_of_getElem? (i := 7) rfl)) (hw _ (List.mem_of_getElem? (i := 8) rfl)) e0 (g := (mkF m 1 #[.val (.ref a1), .val .null, .val (.int p2), .val (.int p3)] [(.ref a1)])) rfl (by rw [hml]; rfl) rfl (hb hby d1_1) (by decide) (W := 0) (by show 2 * 0 + _ ≤ _; exact Nat.le_of_eq rfl) (by decide)
  refine own_step st1 ?_
  show own_Go _ _ _ _ _ _ _ T1 (mkF m 4 #[.val (.ref a1), .val .null, .val (.int p2), .val (.int p3)] [])
  refine own_step (fun t k => XS.aloadN X1.here hx rfl (hb hby d1_4) rfl rfl k) ?_
  show own_Go _ _ _ _ _ _ _ T1 (mkF m 5 #[.val (.ref a1), .val .null, .val (.int p2), .val (.int p3)] [(.ref a1)])
  refine own_step (fun t k => XS.aloadN X1.here hx rfl (hb hby d1_5) rfl rfl k) ?_
  show own_Go _ _ _ _ _ _ _ T1 (mkF m 6 #[.val (.ref a1), .val .null, .val (.int p2), .val (.int p3)] [.null, (.ref a1)])
  obtain ⟨T2, h2, X2, e2, W2, st2⟩ := putF X1 hx hZ hown (host := "") (Or.inl (hw _ (List.mem_of_getElem? (i := 9) rfl))) Via.refl e1 Fopening EX (Or.inr ⟨(hw _ (List.mem_of_getElem? (i := 10) rfl)), rfl, hnm⟩) (hw _ (List.mem_of_getElem? (i := 1) rfl)) (ty := (.object "com/example/idlwright/idlwright/lexer/Token")) (by decide) rfl rfl (g := (mkF m 6 #[.val (.ref a1), .val .null, .val (.int p2), .val (.int p3)] [.null, (.ref a1)])) rfl rfl (hb hby d1_6)
  have N2 := Fr.snoc X2 N0 ga
  have E2_a1 := EX.wr W2
  have F2_a1_opening := Fopening.same W2
  have F2_a1_enclosing := Fenclosing.other W2 (Or.inr (slot_ne (Or.inr (hw _ (List.mem_of_getElem? (i := 12) rfl))) (Or.inr (hw _ (List.mem_of_getElem? (i := 10) rfl))) (by decide) (t := .boolean) (t' := (.object "com/example/idlwright/idlwright/lexer/Token")) (by decide) (by decide)))
  have F2_a1_active := Factive.other W2 (Or.inr (slot_ne (Or.inl (hw _ (List.mem_of_getElem? (i := 19) rfl))) (Or.inr (hw _ (List.mem_of_getElem? (i := 10) rfl))) (by decide) (t := .boolean) (t' := (.object "com/example/idlwright/idlwright/lexer/Token")) (by decide) (by decide)))
  have F2_a1_taken := Ftaken.other W2 (Or.inr (slot_ne (Or.inl (hw _ (List.mem_of_getElem? (i := 21) rfl))) (Or.inr (hw _ (List.mem_of_getElem? (i := 10) rfl))) (by decide) (t := .boolean) (t' := (.object "com/example/idlwright/idlwright/lexer/Token")) (by decide) (by decide)))
  have F2_a1_branches := Fbranches.other W2 (Or.inr (slot_ne (Or.inl (hw _ (List.mem_of_getElem? (i := 23) rfl))) (Or.inr (hw _ (List.mem_of_getElem? (i := 10) rfl))) (by decide) (t := .int) (t' := (.object "com/example/idlwright/idlwright/lexer/Token")) (by decide) (by decide)))
  have K2 : Keep h0 h2 [a1] := (Keep.refl h0 [a1]).wr W2 (Or.inl (List.mem_of_getElem? (i := 0) rfl))
  refine own_step st2 ?_
  show own_Go _ _ _ _ _ _ _ T2 (mkF m 9 #[.val (.ref a1), .val .null, .val (.int p2), .val (.int p3)] [])
  refine own_step (fun t k => XS.aloadN X2.here hx rfl (hb hby d1_9) rfl rfl k) ?_
  show own_Go _ _ _ _ _ _ _ T2 (mkF m 10 #[.val (.ref a1), .val .null, .val (.int p2), .val (.int p3)] [(.ref a1)])
  refine own_step (fun t k => XS.iloadN X2.here hx rfl (hb hby d1_10) rfl k) ?_
  show own_Go _ _ _ _ _ _ _ T2 (mkF m 11 #[.val (.ref a1), .val .null, .val (.int p2), .val (.int p3)] [(.int p2), (.ref a1)])
  obtain ⟨T3, h3, X3, e3, W3, st3⟩ := putF X2 hx hZ hown (host := "") (Or.inl (hw _ (List.mem_of_getElem? (i := 11) rfl))) Via.refl e2 F2_a1_enclosing E2_a1 (Or.inr ⟨(hw _ (List.mem_of_getElem? (i := 12) rfl)), rfl, hnm⟩) (hw _ (List.mem_of_getElem? (i := 1) rfl)) (ty := .boolean) (by decide) (own_narZ hp2) (own_fitZ hp2) (g := (mkF m 11 #[.val (.ref a1), .val .null, .val (.int p2), .val (.int p3)] [(.int p2), (.ref a1)])) rfl rfl (hb hby d1_11)
  have N3 := Fr.snoc X3 N2 ga
  have E3_a1 := E2_a1.wr W3
  have F3_a1_opening := F2_a1_opening.other W3 (Or.inr (slot_ne (Or.inr (hw _ (List.mem_of_getElem? (i := 10) rfl))) (Or.inr (hw _ (List.mem_of_getElem? (i := 12) rfl))) (by decide) (t := (.object "com/example/idlwright/idlwright/lexer/Token")) (t' := .boolean) (by decide) (by decide)))
  have F3_a1_enclosing := F2_a1_enclosing.same W3
  have F3_a1_active := F2_a1_active.other W3 (Or.inr (slot_ne (Or.inl (hw _ (List.mem_of_getElem? (i := 19) rfl))) (Or.inr (hw _ (List.mem_of_getElem? (i := 12) rfl))) (by decide) (t := .boolean) (t' := .boolean) (by decide) (by decide)))
  have F3_a1_taken := F2_a1_taken.other W3 (Or.inr (slot_ne (Or.inl (hw _ (List.mem_of_getElem? (i := 21) rfl))) (Or.inr (hw _ (List.mem_of_getElem? (i := 12) rfl))) (by decide) (t := .boolean) (t' := .boolean) (by decide) (by decide)))
  have F3_a1_branches := F2_a1_branches.other W3 (Or.inr (slot_ne (Or.inl (hw _ (List.mem_of_getElem? (i := 23) rfl))) (Or.inr (hw _ (List.mem_of_getElem? (i := 12) rfl))) (by decide) (t := .int) (t' := .boolean) (by decide) (by decide)))
  have K3 : Keep h0 h3 [a1] := K2.wr W3 (Or.inl (List.mem_of_getElem? (i := 0) rfl))
  refine own_step st3 ?_
  show own_Go _ _ _ _ _ _ _ T3 (mkF m 14 #[.val (.ref a1), .val .null, .val (.int p2), .val (.int p3)] [])
  refine own_step (fun t k => XS.aloadN X3.here hx rfl (hb hby d1_14) rfl rfl k) ?_
  show own_Go _ _ _ _ _ _ _ T3 (mkF m 15 #[.val (.ref a1), .val .null, .val (.int p2), .val (.int p3)] [(.ref a1)])
  refine own_step (fun t k => XS.iloadN X3.here hx rfl (hb hby d1_15) rfl k) ?_
  show own_Go _ _ _ _ _ _ _ T3 (mkF m 16 #[.val (.ref a1), .val .null, .val (.int p2), .val (.int p3)] [(.int p3), (.ref a1)])
  obtain ⟨cq4, kq4, q4a, q4b, q4c⟩ := isOf hZ e3 E3_a1
  obtain ⟨_, _, ⟨T4, L4, k4, n4⟩, -, X4, ⟨Lc4, hQ4, l4, y4, z4⟩, st4⟩ := X3.virtualBack hx (y := (⟨"com/example/idlwright/idlwright/preprocessor/Conditional", "branch", "(Z)V"⟩ : MethodName)) (z := (⟨"com/example/idlwright/idlwright/preprocessor/Conditional", "branch", "(Z)V"⟩ : MethodName)) hown (mvT hZ (hw _ (List.mem_of_getElem? (i := 13) rfl))) (mvT hZ (hw _ (List.mem_of_getElem? (i := 14) rfl))) (notFace_of_selects (args := #[]) (mvT hZ (hw _ (List.mem_of_getElem? (i := 16) rfl)))) (mvT hZ (hw _ (List.mem_of_getElem? (i := 16) rfl))) (mvT hZ (hw _ (List.mem_of_getElem? (i := 15) rfl))) (by decide) (backOf (W := 0) (own_rm3 l Z a0 hw [] a1 p3 p2 0 0 0 h3 n0 (Nat.le_trans Z0 K3.1) F3_a1_enclosing F3_a1_active F3_a1_taken F3_a1_branches E3_a1 ga (Or.inl rfl)) hZ (hw _ (List.mem_of_getElem? (i := 17) rfl)) (hw _ (List.mem_of_getElem? (i := 2) rfl)) (by decide) (by decide)) q4a q4c (g := (mkF m 16 #[.val (.ref a1), .val .null, .val (.int p2), .val (.int p3)] [(.int p3), (.ref a1)])) rfl (by rw [hml]; rfl) (Steps.refl _) (argsL := [(.int p3)]) (rest := []) (lenOf own_pd1_0 rfl) rfl (by show 2 * 0 + _ ≤ _; exact Nat.le_of_eq rfl) (hb hby d1_16) (fun _ _ => ⟨rfl, e3, (by decide : 0 + 0 ≤ _), (by decide : 0 + 0 ≤ _)⟩)
  dsimp only [Pt.U, Pt.locs, Pt.cells, Pt.slots] at X4 l4 y4 z4 st4 hQ4
  subst l4 y4 z4
  obtain ⟨rfl, Nq4, K4, EE4, FF4_enclosing, FF4_active, FF4_taken, FF4_branches⟩ := hQ4
  have N4 := Fr.app N3 Nq4
  refine own_step (fun t k => st4.trans k) ?_
  have KK : Keep h0 T4.heap [a1] := K3.trans K4 (allS (Or.inl (List.mem_of_getElem? (i := 0) rfl)) all0)
  show own_Go _ _ _ _ _ _ _ T4 (mkF m 19 #[.val (.ref a1), .val .null, .val (.int p2), .val (.int p3)] [])
  refine own_retV X4 hx hlk Bd.returns (hb hby d1_19) (by decide) (by decide) ?_
  show own_Q1 Z a1 p2 p3 h0 n0 none T4.heap _
  exact ⟨rfl, N4, KK, EE4, FF4_enclosing, FF4_active, FF4_taken, FF4_branches⟩
theorem d4_0 : decode prog_82_method_7_code 0 = .ok (.aload_n 0, 1) := by decide +kernel
theorem d4_1 : decode prog_82_method_7_code 1 = .ok (.getfield 24, 3) := by decide +kernel
theorem d4_4 : decode prog_82_method_7_code 4 = .ok (.ireturn, 1) := by decide +kernel
theorem own_pn4 : plainName "com/example/idlwright/idlwright/preprocessor/Conditional" = true := by first | (simp [plainName, overriddenIn]; done) | decide +kernel
theorem own_ef4 (m : MethodId) (x0 : Addr) : entryFrame m #[(.ref x0)] 1 = mkF m 0 #[.val (.ref x0)] [] := by first | (simp [entryFrame, mkF, argsToLocals, Value.category]; done) | rfl
def own_Q4 (Z : State) (a1 : Addr) (ac : Int32) (h0 : Heap) (n0 : Nat) (v : Option Value) (h : Heap) (L : List Loc) : Prop := v = some (.int ac) ∧ Fr n0 L ∧ h = h0
set_option maxRecDepth 65536 in
set_option maxHeartbeats 40000000 in
theorem own_rm4 (l : Launch) (Z : State) (a0 : Array Value) (hw : ∀ d ∈ tables_1, d.before a0 Z = true) (ws : List Jvm.Cond) (a1 : Addr) (ac : Int32) (h0 : Heap) (n0 : Nat) (Z0 : n0 ≤ h0.size) (Factive : Fld Z h0 a1 "com/example/idlwright/idlwright/preprocessor/Conditional" "active" "Z" (.int ac)) (hac : ac = 0 ∨ ac = 1) :
    MetFree l (⟨"com/example/idlwright/idlwright/preprocessor/Conditional", "active", "()Z"⟩ : MethodName) (head1 (Jvm.Cond.code (⟨"com/example/idlwright/idlwright/preprocessor/Conditional", "active", "()Z"⟩ : MethodName) prog_82_method_7_code 1 (some .boolean) :: ws) ({ frames := 0, cells := 0, slots := 0, locals := 0 } : Room)) (fun a U => a = #[(.ref a1)] ∧ Z.Warmed39 U.vm ∧ U.heap = h0) (fun _ _ _ _ _ => True) (fun _ U o U' => ∃ v L, o = .returned v ∧ own_Q4 Z a1 ac h0 n0 v U'.heap L ∧ FrameEnd U o U' L ({ frames := 0, cells := 0, slots := 0, locals := 0 } : Room).cells ({ frames := 0, cells := 0, slots := 0, locals := 0 } : Room).slots) := by
  refine MetFree.of_bodySF (plainFor_of_name own_pn4) hisR ?_
  intro p e s m args below meth c s₁ Bd hml0 hP hK
  obtain ⟨rfl, hZ, hh⟩ := hP
  have hx := Bd.exec
  have hby := Bd.bytes
  have hml : c.maxLocals = 1 := hml0
  have hlk : meth.locks = false := BodyLoose.notSynchronized Bd
  have hown : s.vm.findClass "com/example/idlwright/idlwright/preprocessor/Conditional" = some m.cls := findClass_of_methodNamed Bd.named
  have hnm := (name_of_methodNamed Bd.named Bd.method).1
  have X0 : Stand p l e ({ frames := 0, cells := 0, slots := 0, locals := 0 } : Room) s m #[(.ref a1)] below meth c s₁ [] 0 0 := Stand.of_body Bd
  have e0 : s₁.heap = h0 := by rw [← hh, Bd.state]; rfl
  have N0 := Fr.nil n0
  show own_Go p e below s ({ frames := 0, cells := 0, slots := 0, locals := 0 } : Room).cells ({ frames := 0, cells := 0, slots := 0, locals := 0 } : Room).slots (own_Q4 Z a1 ac h0 n0) s₁ (entryFrame m #[(.ref a1)] 1)
  refine own_step (fun t k => castTop (own_ef4 m a1) k) ?_
  show own_Go _ _ _ _ _ _ _ s₁ (mkF m 0 #[.val (.ref a1)] [])
  refine own_step (fun t k => XS.aloadN X0.here hx rfl (hb hby d4_0) rfl rfl k) ?_
  show own_Go _ _ _ _ _ _ _ s₁ (mkF m 1 #[.val (.ref a1)] [(.ref a1)])
  obtain ⟨T1, X1, e1, st1⟩ := getF X0 hx hZ hown (host := "") (Or.inl (hw _ (List.mem_of_getElem? (i := 18) rfl))) Via.refl e0 Factive (g := (mkF m 1 #[.val (.ref a1)] [(.ref a1)])) rfl rfl (hb hby d4_1)
  refine own_step st1 ?_
  show own_Go _ _ _ _ _ _ _ T1 (mkF m 4 #[.val (.ref a1)] [(.int ac)])
  refine own_ret X1 hx hlk Bd.returns (own_narZ hac) (Or.inl ⟨rfl, Or.inr (Or.inl rfl), _, rfl⟩) (hb hby d4_4) (by decide) (by decide) ?_
  show own_Q4 Z a1 ac h0 n0 (some (.int ac)) T1.heap _
  rw [e1]
  exact ⟨rfl, N0, rfl⟩
theorem d5_0 : decode prog_82_method_3_code 0 = .ok (.aload_n 0, 1) := by decide +kernel
theorem d5_1 : decode prog_82_method_3_code 1 = .ok (.getfield 13, 3) := by decide +kernel
theorem d5_4 : decode prog_82_method_3_code 4 = .ok (.ifCond .eq 14, 3) := by decide +kernel
theorem d5_7 : decode prog_82_method_3_code 7 = .ok (.aload_n 0, 1) := by decide +kernel
theorem d5_8 : decode prog_82_method_3_code 8 = .ok (.getfield 21, 3) := by decide +kernel
theorem d5_11 : decode prog_82_method_3_code 11 = .ok (.ifCond .ne 7, 3) := by decide +kernel
theorem d5_14 : decode prog_82_method_3_code 14 = .ok (.iconst 1, 1) := by decide +kernel
theorem d5_15 : decode prog_82_method_3_code 15 = .ok (.goto 4, 3) := by decide +kernel
theorem d5_18 : decode prog_82_method_3_code 18 = .ok (.iconst 0, 1) := by decide +kernel
theorem d5_19 : decode prog_82_method_3_code 19 = .ok (.ireturn, 1) := by decide +kernel
theorem own_pn5 : plainName "com/example/idlwright/idlwright/preprocessor/Conditional" = true := by first | (simp [plainName, overriddenIn]; done) | decide +kernel
theorem own_ef5 (m : MethodId) (x0 : Addr) : entryFrame m #[(.ref x0)] 1 = mkF m 0 #[.val (.ref x0)] [] := by first | (simp [entryFrame, mkF, argsToLocals, Value.category]; done) | rfl
def own_Q5 (Z : State) (a1 : Addr) (en : Int32) (tk : Int32) (h0 : Heap) (n0 : Nat) (v : Option Value) (h : Heap) (L : List Loc) : Prop := v = some (.int (own_und en tk)) ∧ Fr n0 L ∧ h = h0
set_option maxRecDepth 65536 in
set_option maxHeartbeats 40000000 in
theorem own_rm5 (l : Launch) (Z : State) (a0 : Array Value) (hw : ∀ d ∈ tables_1, d.before a0 Z = true) (ws : List Jvm.Cond) (a1 : Addr) (en : Int32) (tk : Int32) (h0 : Heap) (n0 : Nat) (Z0 : n0 ≤ h0.size) (Fenclosing : Fld Z h0 a1 "com/example/idlwright/idlwright/preprocessor/Conditional" "enclosing" "Z" (.int en)) (Ftaken : Fld Z h0 a1 "com/example/idlwright/idlwright/preprocessor/Conditional" "taken" "Z" (.int tk)) :
    MetFree l (⟨"com/example/idlwright/idlwright/preprocessor/Conditional", "undecided", "()Z"⟩ : MethodName) (head1 (Jvm.Cond.code (⟨"com/example/idlwright/idlwright/preprocessor/Conditional", "undecided", "()Z"⟩ : MethodName) prog_82_method_3_code 1 (some .boolean) :: ws) ({ frames := 0, cells := 0, slots := 0, locals := 0 } : Room)) (fun a U => a = #[(.ref a1)] ∧ Z.Warmed39 U.vm ∧ U.heap = h0) (fun _ _ _ _ _ => True) (fun _ U o U' => ∃ v L, o = .returned v ∧ own_Q5 Z a1 en tk h0 n0 v U'.heap L ∧ FrameEnd U o U' L ({ frames := 0, cells := 0, slots := 0, locals := 0 } : Room).cells ({ frames := 0, cells := 0, slots := 0, locals := 0 } : Room).slots) := by
  refine MetFree.of_bodySF (plainFor_of_name own_pn5) hisR ?_
  intro p e s m args below meth c s₁ Bd hml0 hP hK
  obtain ⟨rfl, hZ, hh⟩ := hP
  have hx := Bd.exec
  have hby := Bd.bytes
  have hml : c.maxLocals = 1 := hml0
  have hlk : meth.locks = false := BodyLoose.notSynchronized Bd
  have hown : s.vm.findClass "com/example/idlwright/idlwright/preprocessor/Conditional" = some m.cls := findClass_of_methodNamed Bd.named
  have hnm := (name_of_methodNamed Bd.named Bd.method).1
  have X0 : Stand p l e ({ frames := 0, cells := 0, slots := 0, locals := 0 } : Room) s m #[(.ref a1)] below meth c s₁ [] 0 0 := Stand.of_body Bd
  have e0 : s₁.heap = h0 := by rw [← hh, Bd.state]; rfl
  have N0 := Fr.nil n0
  show own_Go p e below s ({ frames := 0, cells := 0, slots := 0, locals := 0 } : Room).cells ({ frames := 0, cells := 0, slots := 0, locals := 0 } : Room).slots (own_Q5 Z a1 en tk h0 n0) s₁ (entryFrame m #[(.ref a1)] 1)
  refine own_step (fun t k => castTop (own_ef5 m a1) k) ?_
  show own_Go _ _ _ _ _ _ _ s₁ (mkF m 0 #[.val (.ref a1)] [])
  refine own_step (fun t k => XS.aloadN X0.here hx rfl (hb hby d5_0) rfl rfl k) ?_
  show own_Go _ _ _ _ _ _ _ s₁ (mkF m 1 #[.val (.ref a1)] [(.ref a1)])
  obtain ⟨T1, X1, e1, st1⟩ := getF X0 hx hZ hown (host := "") (Or.inl (hw _ (List.mem_of_getElem? (i := 11) rfl))) Via.refl e0 Fenclosing (g := (mkF m 1 #[.val (.ref a1)] [(.ref a1)])) rfl rfl (hb hby d5_1)
  refine own_step st1 ?_
  rcases Classical.em (en = (0 : Int32)) with c4_2 | c4_2
  · show own_Go _ _ _ _ _ _ _ T1 (mkF m 4 #[.val (.ref a1)] [(.int en)])
    refine own_step (fun t k => XS.ifYes X1.here hx rfl (pc0 := 4) (pc' := 18) rfl (hb hby d5_4) rfl ((if0 _ _).trans (teq (c4_2)).1) (by decide) (by decide) k) ?_
    show own_Go _ _ _ _ _ _ _ T1 (mkF m 18 #[.val (.ref a1)] [])
    refine own_step (fun t k => XS.iconst X1.here hx rfl (hb hby d5_18) k) ?_
    show own_Go _ _ _ _ _ _ _ T1 (mkF m 19 #[.val (.ref a1)] [(.int (0 : Int32))])
    refine own_ret X1 hx hlk Bd.returns rfl (Or.inl ⟨rfl, Or.inr (Or.inl rfl), _, rfl⟩) (hb hby d5_19) (by decide) (by decide) ?_
    show own_Q5 Z a1 en tk h0 n0 (some (.int (0 : Int32))) T1.heap _
    rw [e1]
    exact ⟨by simp [own_und, c4_2], N0, rfl⟩
  · show own_Go _ _ _ _ _ _ _ T1 (mkF m 4 #[.val (.ref a1)] [(.int en)])
    refine own_step (fun t k => XS.ifNo X1.here hx rfl (hb hby d5_4) rfl ((if0 _ _).trans (feq (c4_2)).1) k) ?_
    show own_Go _ _ _ _ _ _ _ T1 (mkF m 7 #[.val (.ref a1)] [])
    refine own_step (fun t k => XS.aloadN X1.here hx rfl (hb hby d5_7) rfl rfl k) ?_
    show own_Go _ _ _ _ _ _ _ T1 (mkF m 8 #[.val (.ref a1)] [(.ref a1)])
    obtain ⟨T3, X3, e3, st3⟩ := getF X1 hx hZ hown (host := "") (Or.inl (hw _ (List.mem_of_getElem? (i := 20) rfl))) Via.refl e1 Ftaken (g := (mkF m 8 #[.val (.ref a1)] [(.ref a1)])) rfl rfl (hb hby d5_8)
    refine own_step st3 ?_
    rcases Classical.em (tk = (0 : Int32)) with c11_4 | c11_4
    · show own_Go _ _ _ _ _ _ _ T3 (mkF m 11 #[.val (.ref a1)] [(.int tk)])
      refine own_step (fun t k => XS.ifNo X3.here hx rfl (hb hby d5_11) rfl ((if0 _ _).trans (teq (c11_4)).2) k) ?_
      show own_Go _ _ _ _ _ _ _ T3 (mkF m 14 #[.val (.ref a1)] [])
      refine own_step (fun t k => XS.iconst X3.here hx rfl (hb hby d5_14) k) ?_
      show own_Go _ _ _ _ _ _ _ T3 (mkF m 15 #[.val (.ref a1)] [(.int (1 : Int32))])
      refine own_step (fun t k => XS.goto X3.here hx rfl (pc0 := 15) (pc' := 19) rfl (hb hby d5_15) (by decide) (by decide) k) ?_
      show own_Go _ _ _ _ _ _ _ T3 (mkF m 19 #[.val (.ref a1)] [(.int (1 : Int32))])
      refine own_ret X3 hx hlk Bd.returns rfl (Or.inl ⟨rfl, Or.inr (Or.inl rfl), _, rfl⟩) (hb hby d5_19) (by decide) (by decide) ?_
      show own_Q5 Z a1 en tk h0 n0 (some (.int (1 : Int32))) T3.heap _
      rw [e3]
      exact ⟨by simp [own_und, c4_2, c11_4], N0, rfl⟩
    · show own_Go _ _ _ _ _ _ _ T3 (mkF m 11 #[.val (.ref a1)] [(.int tk)])
      refine own_step (fun t k => XS.ifYes X3.here hx rfl (pc0 := 11) (pc' := 18) rfl (hb hby d5_11) rfl ((if0 _ _).trans (feq (c11_4)).2) (by decide) (by decide) k) ?_
      show own_Go _ _ _ _ _ _ _ T3 (mkF m 18 #[.val (.ref a1)] [])
      refine own_step (fun t k => XS.iconst X3.here hx rfl (hb hby d5_18) k) ?_
      show own_Go _ _ _ _ _ _ _ T3 (mkF m 19 #[.val (.ref a1)] [(.int (0 : Int32))])
      refine own_ret X3 hx hlk Bd.returns rfl (Or.inl ⟨rfl, Or.inr (Or.inl rfl), _, rfl⟩) (hb hby d5_19) (by decide) (by decide) ?_
      show own_Q5 Z a1 en tk h0 n0 (some (.int (0 : Int32))) T3.heap _
      rw [e3]
      exact ⟨by simp [own_und, c4_2, c11_4], N0, rfl⟩
theorem d6_0 : decode prog_82_method_9_code 0 = .ok (.aload_n 0, 1) := by decide +kernel
theorem d6_1 : decode prog_82_method_9_code 1 = .ok (.getfield 27, 3) := by decide +kernel
theorem d6_4 : decode prog_82_method_9_code 4 = .ok (.iconst 1, 1) := by decide +kernel
theorem d6_5 : decode prog_82_method_9_code 5 = .ok (.if_icmp .ne 7, 3) := by decide +kernel
theorem d6_8 : decode prog_82_method_9_code 8 = .ok (.iconst 1, 1) := by decide +kernel
theorem d6_9 : decode prog_82_method_9_code 9 = .ok (.goto 4, 3) := by decide +kernel
theorem d6_12 : decode prog_82_method_9_code 12 = .ok (.iconst 0, 1) := by decide +kernel
theorem d6_13 : decode prog_82_method_9_code 13 = .ok (.ireturn, 1) := by decide +kernel
theorem own_pn6 : plainName "com/example/idlwright/idlwright/preprocessor/Conditional" = true := by first | (simp [plainName, overriddenIn]; done) | decide +kernel
theorem own_ef6 (m : MethodId) (x0 : Addr) : entryFrame m #[(.ref x0)] 1 = mkF m 0 #[.val (.ref x0)] [] := by first | (simp [entryFrame, mkF, argsToLocals, Value.category]; done) | rfl
def own_Q6 (Z : State) (a1 : Addr) (br : Int32) (h0 : Heap) (n0 : Nat) (v : Option Value) (h : Heap) (L : List Loc) : Prop := v = some (.int (own_one br)) ∧ Fr n0 L ∧ h = h0
set_option maxRecDepth 65536 in
set_option maxHeartbeats 40000000 in
theorem own_rm6 (l : Launch) (Z : State) (a0 : Array Value) (hw : ∀ d ∈ tables_1, d.before a0 Z = true) (ws : List Jvm.Cond) (a1 : Addr) (br : Int32) (h0 : Heap) (n0 : Nat) (Z0 : n0 ≤ h0.size) (Fbranches : Fld Z h0 a1 "com/example/idlwright/idlwright/preprocessor/Conditional" "branches" "I" (.int br)) :
    MetFree l (⟨"com/example/idlwright/idlwright/preprocessor/Conditional", "hasOneBranch", "()Z"⟩ : MethodName) (head1 (Jvm.Cond.code (⟨"com/example/idlwright/idlwright/preprocessor/Conditional", "hasOneBranch", "()Z"⟩ : MethodName) prog_82_method_9_code 1 (some .boolean) :: ws) ({ frames := 0, cells := 0, slots := 0, locals := 0 } : Room)) (fun a U => a = #[(.ref a1)] ∧ Z.Warmed39 U.vm ∧ U.heap = h0) (fun _ _ _ _ _ => True) (fun _ U o U' => ∃ v L, o = .returned v ∧ own_Q6 Z a1 br h0 n0 v U'.heap L ∧ FrameEnd U o U' L ({ frames := 0, cells := 0, slots := 0, locals := 0 } : Room).cells ({ frames := 0, cells := 0, slots := 0, locals := 0 } : Room).slots) := by
  refine MetFree.of_bodySF (plainFor_of_name own_pn6) hisR ?_
  intro p e s m args below meth c s₁ Bd hml0 hP hK
  obtain ⟨rfl, hZ, hh⟩ := hP
  have hx := Bd.exec
  have hby := Bd.bytes
  have hml : c.maxLocals = 1 := hml0
  have hlk : meth.locks = false := BodyLoose.notSynchronized Bd
  have hown : s.vm.findClass "com/example/idlwright/idlwright/preprocessor/Conditional" = some m.cls := findClass_of_methodNamed Bd.named
  have hnm := (name_of_methodNamed Bd.named Bd.method).1
  have X0 : Stand p l e ({ frames := 0, cells := 0, slots := 0, locals := 0 } : Room) s m #[(.ref a1)] below meth c s₁ [] 0 0 := Stand.of_body Bd
  have e0 : s₁.heap = h0 := by rw [← hh, Bd.state]; rfl
  have N0 := Fr.nil n0
  show own_Go p e below s ({ frames := 0, cells := 0, slots := 0, locals := 0 } : Room).cells ({ frames := 0, cells := 0, slots := 0, locals := 0 } : Room).slots (own_Q6 Z a1 br h0 n0) s₁ (entryFrame m #[(.ref a1)] 1)
  refine own_step (fun t k => castTop (own_ef6 m a1) k) ?_
  show own_Go _ _ _ _ _ _ _ s₁ (mkF m 0 #[.val (.ref a1)] [])
  refine own_step (fun t k => XS.aloadN X0.here hx rfl (hb hby d6_0) rfl rfl k) ?_
  show own_Go _ _ _ _ _ _ _ s₁ (mkF m 1 #[.val (.ref a1)] [(.ref a1)])
  obtain ⟨T1, X1, e1, st1⟩ := getF X0 hx hZ hown (host := "") (Or.inl (hw _ (List.mem_of_getElem? (i := 22) rfl))) Via.refl e0 Fbranches (g := (mkF m 1 #[.val (.ref a1)] [(.ref a1)])) rfl rfl (hb hby d6_1)
  refine own_step st1 ?_
  show own_Go _ _ _ _ _ _ _ T1 (mkF m 4 #[.val (.ref a1)] [(.int br)])
  refine own_step (fun t k => XS.iconst X1.here hx rfl (hb hby d6_4) k) ?_
  rcases Classical.em (br = (1 : Int32)) with c5_2 | c5_2
  · show own_Go _ _ _ _ _ _ _ T1 (mkF m 5 #[.val (.ref a1)] [(.int (1 : Int32)), (.int br)])
    refine own_step (fun t k => XS.icmpNo X1.here hx rfl (hb hby d6_5) rfl (teq (c5_2)).2 k) ?_
    show own_Go _ _ _ _ _ _ _ T1 (mkF m 8 #[.val (.ref a1)] [])
    refine own_step (fun t k => XS.iconst X1.here hx rfl (hb hby d6_8) k) ?_
    show own_Go _ _ _ _ _ _ _ T1 (mkF m 9 #[.val (.ref a1)] [(.int (1 : Int32))])
    refine own_step (fun t k => XS.goto X1.here hx rfl (pc0 := 9) (pc' := 13) rfl (hb hby d6_9) (by decide) (by decide) k) ?_
    show own_Go _ _ _ _ _ _ _ T1 (mkF m 13 #[.val (.ref a1)] [(.int (1 : Int32))])
    refine own_ret X1 hx hlk Bd.returns rfl (Or.inl ⟨rfl, Or.inr (Or.inl rfl), _, rfl⟩) (hb hby d6_13) (by decide) (by decide) ?_
    show own_Q6 Z a1 br h0 n0 (some (.int (1 : Int32))) T1.heap _
    rw [e1]
    exact ⟨by simp [own_one, c5_2], N0, rfl⟩
  · show own_Go _ _ _ _ _ _ _ T1 (mkF m 5 #[.val (.ref a1)] [(.int (1 : Int32)), (.int br)])
    refine own_step (fun t k => XS.icmpYes X1.here hx rfl (pc0 := 5) (pc' := 12) rfl (hb hby d6_5) rfl (feq (c5_2)).2 (by decide) (by decide) k) ?_
    show own_Go _ _ _ _ _ _ _ T1 (mkF m 12 #[.val (.ref a1)] [])
    refine own_step (fun t k => XS.iconst X1.here hx rfl (hb hby d6_12) k) ?_
    show own_Go _ _ _ _ _ _ _ T1 (mkF m 13 #[.val (.ref a1)] [(.int (0 : Int32))])
    refine own_ret X1 hx hlk Bd.returns rfl (Or.inl ⟨rfl, Or.inr (Or.inl rfl), _, rfl⟩) (hb hby d6_13) (by decide) (by decide) ?_
    show own_Q6 Z a1 br h0 n0 (some (.int (0 : Int32))) T1.heap _
    rw [e1]
    exact ⟨by simp [own_one, c5_2], N0, rfl⟩
theorem own_pn0 : plainName "com/example/idlwright/idlwright/preprocessor/ConditionalBranchPinLaw" = true := by first | (simp [plainName, overriddenIn]; done) | decide +kernel
theorem own_pd0_0 : parseMethodDescriptor "(Lcom/example/idlwright/idlwright/lexer/Token;ZZ)V" = some ⟨[(.object "com/example/idlwright/idlwright/lexer/Token"), .boolean, .boolean], none⟩ := by decide +kernel
theorem own_pd0_1 : parseMethodDescriptor "(Z)V" = some ⟨[.boolean], none⟩ := by decide +kernel
theorem own_pd0_2 : parseMethodDescriptor "()Z" = some ⟨[], some .boolean⟩ := by decide +kernel
theorem own_ef0 (m : MethodId) (x0 : Int32) : entryFrame m #[(.int x0)] maxLocals = mkF m 0 #[.val (.int x0), .unset, .unset, .unset, .unset, .unset, .unset, .unset, .unset, .unset, .unset, .unset, .unset, .unset, .unset, .unset] [] := by first | (simp [entryFrame, mkF, argsToLocals, Value.category, maxLocals]; done) | rfl
def own_Q0 (Z : State) (p1 : Int32) (h0 : Heap) (n0 : Nat) (v : Option Value) (h : Heap) (L : List Loc) : Prop := v = some (.int 1) ∧ Fr n0 L
set_option maxRecDepth 65536 in
set_option maxHeartbeats 40000000 in
theorem own_rm0 (l : Launch) (Z : State) (a0 : Array Value) (hw : ∀ d ∈ tables_1, d.before a0 Z = true) (ws : List Jvm.Cond) (p1 : Int32) (h0 : Heap) (n0 : Nat) (Z0 : n0 ≤ h0.size)  :
    MetFree l x (head1 (Jvm.Cond.code x code maxLocals ret :: ws) room_1) (fun a U => a = #[(.int p1)] ∧ Z.Warmed39 U.vm ∧ U.heap = h0) (fun _ _ _ _ _ => True) (fun _ U o U' => ∃ v L, o = .returned v ∧ own_Q0 Z p1 h0 n0 v U'.heap L ∧ FrameEnd U o U' L room_1.cells room_1.slots) := by
  refine MetFree.of_bodySF (plainFor_of_name own_pn0) hisR ?_
  intro p e s m args below meth c s₁ Bd hml0 hP hK
  obtain ⟨rfl, hZ, hh⟩ := hP
  have hx := Bd.exec
  have hby := Bd.bytes
  have hml : c.maxLocals = 16 := hml0
  have hlk : meth.locks = false := BodyLoose.notSynchronized Bd
  have hown : s.vm.findClass "com/example/idlwright/idlwright/preprocessor/ConditionalBranchPinLaw" = some m.cls := findClass_of_methodNamed Bd.named
  have hnm := (name_of_methodNamed Bd.named Bd.method).1
  have X0 : Stand p l e room_1 s m #[(.int p1)] below meth c s₁ [] 0 0 := Stand.of_body Bd
  have e0 : s₁.heap = h0 := by rw [← hh, Bd.state]; rfl
  have N0 := Fr.nil n0
  show own_Go p e below s room_1.cells room_1.slots (own_Q0 Z p1 h0 n0) s₁ (entryFrame m #[(.int p1)] maxLocals)
  refine own_step (fun t k => castTop (own_ef0 m p1) k) ?_
  show own_Go _ _ _ _ _ _ _ s₁ (mkF m 0 #[.val (.int p1), .unset, .unset, .unset, .unset, .unset, .unset, .unset, .unset, .unset, .unset, .unset, .unset, .unset, .unset, .unset] [])
  refine own_step (fun t k => XS.iloadN X0.here hx rfl (hb hby at_0) rfl k) ?_
  show own_Go _ _ _ _ _ _ _ s₁ (mkF m 1 #[.val (.int p1), .unset, .unset, .unset, .unset, .unset, .unset, .unset, .unset, .unset, .unset, .unset, .unset, .unset, .unset, .unset] [(.int p1)])
  refine own_step (fun t k => XS.iconst X0.here hx rfl (hb hby at_1) k) ?_
  show own_Go _ _ _ _ _ _ _ s₁ (mkF m 2 #[.val (.int p1), .unset, .unset, .unset, .unset, .unset, .unset, .unset, .unset, .unset, .unset, .unset, .unset, .unset, .unset, .unset] [(.int (1 : Int32)), (.int p1)])
  refine own_step (fun t k => XS.iand X0.here hx rfl (hb hby at_2) rfl k) ?_
  have J11 : ∀ ve : Int32, (ve = 0 ∨ ve = 1) → own_Go p e below s room_1.cells room_1.slots (own_Q0 Z p1 h0 n0) s₁ (mkF m 11 #[.val (.int p1), .unset, .unset, .unset, .unset, .unset, .unset, .unset, .unset, .unset, .unset, .unset, .unset, .unset, .unset, .unset] [(.int ve)]) := by
    intro ve hve
    show own_Go _ _ _ _ _ _ _ s₁ (mkF m 11 #[.val (.int p1), .unset, .unset, .unset, .unset, .unset, .unset, .unset, .unset, .unset, .unset, .unset, .unset, .unset, .unset, .unset] [(.int ve)])
    refine own_step (fun t k => XS.istoreN X0.here hx rfl (hb hby at_11) rfl (l' := #[.val (.int p1), .val (.int ve), .unset, .unset, .unset, .unset, .unset, .unset, .unset, .unset, .unset, .unset, .unset, .unset, .unset, .unset]) rfl k) ?_
    show own_Go _ _ _ _ _ _ _ s₁ (mkF m 12 #[.val (.int p1), .val (.int ve), .unset, .unset, .unset, .unset, .unset, .unset, .unset, .unset, .unset, .unset, .unset, .unset, .unset, .unset] [])
    refine own_step (fun t k => XS.iloadN X0.here hx rfl (hb hby at_12) rfl k) ?_
    show own_Go _ _ _ _ _ _ _ s₁ (mkF m 13 #[.val (.int p1), .val (.int ve), .unset, .unset, .unset, .unset, .unset, .unset, .unset, .unset, .unset, .unset, .unset, .unset, .unset, .unset] [(.int p1)])
    refine own_step (fun t k => XS.iconst X0.here hx rfl (hb hby at_13) k) ?_
    show own_Go _ _ _ _ _ _ _ s₁ (mkF m 14 #[.val (.int p1), .val (.int ve), .unset, .unset, .unset, .unset, .unset, .unset, .unset, .unset, .unset, .unset, .unset, .unset, .unset, .unset] [(.int (2 : Int32)), (.int p1)])
    refine own_step (fun t k => XS.iand X0.here hx rfl (hb hby at_14) rfl k) ?_
    have J23 : ∀ va : Int32, (va = 0 ∨ va = 1) → own_Go p e below s room_1.cells room_1.slots (own_Q0 Z p1 h0 n0) s₁ (mkF m 23 #[.val (.int p1), .val (.int ve), .unset, .unset, .unset, .unset, .unset, .unset, .unset, .unset, .unset, .unset, .unset, .unset, .unset, .unset] [(.int va)]) := by
      intro va hva
      show own_Go _ _ _ _ _ _ _ s₁ (mkF m 23 #[.val (.int p1), .val (.int ve), .unset, .unset, .unset, .unset, .unset, .unset, .unset, .unset, .unset, .unset, .unset, .unset, .unset, .unset] [(.int va)])
      refine own_step (fun t k => XS.istoreN X0.here hx rfl (hb hby at_23) rfl (l' := #[.val (.int p1), .val (.int ve), .val (.int va), .unset, .unset, .unset, .unset, .unset, .unset, .unset, .unset, .unset, .unset, .unset, .unset, .unset]) rfl k) ?_
      show own_Go _ _ _ _ _ _ _ s₁ (mkF m 24 #[.val (.int p1), .val (.int ve), .val (.int va), .unset, .unset, .unset, .unset, .unset, .unset, .unset, .unset, .unset, .unset, .unset, .unset, .unset] [])
      refine own_step (fun t k => XS.iloadN X0.here hx rfl (hb hby at_24) rfl k) ?_
      show own_Go _ _ _ _ _ _ _ s₁ (mkF m 25 #[.val (.int p1), .val (.int ve), .val (.int va), .unset, .unset, .unset, .unset, .unset, .unset, .unset, .unset, .unset, .unset, .unset, .unset, .unset] [(.int p1)])
      refine own_step (fun t k => XS.iconst X0.here hx rfl (hb hby at_25) k) ?_
      show own_Go _ _ _ _ _ _ _ s₁ (mkF m 26 #[.val (.int p1), .val (.int ve), .val (.int va), .unset, .unset, .unset, .unset, .unset, .unset, .unset, .unset, .unset, .unset, .unset, .unset, .unset] [(.int (4 : Int32)), (.int p1)])
      refine own_step (fun t k => XS.iand X0.here hx rfl (hb hby at_26) rfl k) ?_
      have J35 : ∀ vb : Int32, (vb = 0 ∨ vb = 1) → own_Go p e below s room_1.cells room_1.slots (own_Q0 Z p1 h0 n0) s₁ (mkF m 35 #[.val (.int p1), .val (.int ve), .val (.int va), .unset, .unset, .unset, .unset, .unset, .unset, .unset, .unset, .unset, .unset, .unset, .unset, .unset] [(.int vb)]) := by
        intro vb hvb
        show own_Go _ _ _ _ _ _ _ s₁ (mkF m 35 #[.val (.int p1), .val (.int ve), .val (.int va), .unset, .unset, .unset, .unset, .unset, .unset, .unset, .unset, .unset, .unset, .unset, .unset, .unset] [(.int vb)])
        refine own_step (fun t k => XS.istoreN X0.here hx rfl (hb hby at_35) rfl (l' := #[.val (.int p1), .val (.int ve), .val (.int va), .val (.int vb), .unset, .unset, .unset, .unset, .unset, .unset, .unset, .unset, .unset, .unset, .unset, .unset]) rfl k) ?_
        show own_Go _ _ _ _ _ _ _ s₁ (mkF m 36 #[.val (.int p1), .val (.int ve), .val (.int va), .val (.int vb), .unset, .unset, .unset, .unset, .unset, .unset, .unset, .unset, .unset, .unset, .unset, .unset] [])
        refine own_step (fun t k => XS.iloadN X0.here hx rfl (hb hby at_36) rfl k) ?_
        show own_Go _ _ _ _ _ _ _ s₁ (mkF m 37 #[.val (.int p1), .val (.int ve), .val (.int va), .val (.int vb), .unset, .unset, .unset, .unset, .unset, .unset, .unset, .unset, .unset, .unset, .unset, .unset] [(.int p1)])
        refine own_step (fun t k => XS.bipush X0.here hx rfl (hb hby at_37) k) ?_
        show own_Go _ _ _ _ _ _ _ s₁ (mkF m 39 #[.val (.int p1), .val (.int ve), .val (.int va), .val (.int vb), .unset, .unset, .unset, .unset, .unset, .unset, .unset, .unset, .unset, .unset, .unset, .unset] [(.int (8 : Int32)), (.int p1)])
        refine own_step (fun t k => XS.iand X0.here hx rfl (hb hby at_39) rfl k) ?_
        have J48 : ∀ vc : Int32, (vc = 0 ∨ vc = 1) → own_Go p e below s room_1.cells room_1.slots (own_Q0 Z p1 h0 n0) s₁ (mkF m 48 #[.val (.int p1), .val (.int ve), .val (.int va), .val (.int vb), .unset, .unset, .unset, .unset, .unset, .unset, .unset, .unset, .unset, .unset, .unset, .unset] [(.int vc)]) := by
          intro vc hvc
          show own_Go _ _ _ _ _ _ _ s₁ (mkF m 48 #[.val (.int p1), .val (.int ve), .val (.int va), .val (.int vb), .unset, .unset, .unset, .unset, .unset, .unset, .unset, .unset, .unset, .unset, .unset, .unset] [(.int vc)])
          refine own_step (fun t k => XS.istore X0.here hx rfl (hb hby at_48) rfl (l' := #[.val (.int p1), .val (.int ve), .val (.int va), .val (.int vb), .val (.int vc), .unset, .unset, .unset, .unset, .unset, .unset, .unset, .unset, .unset, .unset, .unset]) rfl k) ?_
          show own_Go _ _ _ _ _ _ _ s₁ (mkF m 50 #[.val (.int p1), .val (.int ve), .val (.int va), .val (.int vb), .val (.int vc), .unset, .unset, .unset, .unset, .unset, .unset, .unset, .unset, .unset, .unset, .unset] [])
          obtain ⟨T1, h1, X1, e1, E1, A1, D1, -, st1⟩ := newO X0 hx hZ hown (hw _ (List.mem_of_getElem? (i := 0) rfl)) (hw _ (List.mem_of_getElem? (i := 1) rfl)) (hw _ (List.mem_of_getElem? (i := 2) rfl)) e0 (g := (mkF m 50 #[.val (.int p1), .val (.int ve), .val (.int va), .val (.int vb), .val (.int vc), .unset, .unset, .unset, .unset, .unset, .unset, .unset, .unset, .unset, .unset, .unset] [])) rfl (hb hby at_50) (by decide) (by decide)
          obtain ⟨b1, g1⟩ : ∃ z, z = h0.size := ⟨_, rfl⟩
          rw [← g1] at A1 D1 st1
          have F1_opening : Fld Z h1 b1 "com/example/idlwright/idlwright/preprocessor/Conditional" "opening" "Lcom/example/idlwright/idlwright/lexer/Token;" .null := D1 (Or.inr (hw _ (List.mem_of_getElem? (i := 10) rfl))) (ty := (.object "com/example/idlwright/idlwright/lexer/Token")) (by decide)
          have F1_enclosing : Fld Z h1 b1 "com/example/idlwright/idlwright/preprocessor/Conditional" "enclosing" "Z" (.int (0 : Int32)) := D1 (Or.inr (hw _ (List.mem_of_getElem? (i := 12) rfl))) (ty := .boolean) (by decide)
          have F1_active : Fld Z h1 b1 "com/example/idlwright/idlwright/preprocessor/Conditional" "active" "Z" (.int (0 : Int32)) := D1 (Or.inl (hw _ (List.mem_of_getElem? (i := 19) rfl))) (ty := .boolean) (by decide)
          have F1_taken : Fld Z h1 b1 "com/example/idlwright/idlwright/preprocessor/Conditional" "taken" "Z" (.int (0 : Int32)) := D1 (Or.inl (hw _ (List.mem_of_getElem? (i := 21) rfl))) (ty := .boolean) (by decide)
          have F1_branches : Fld Z h1 b1 "com/example/idlwright/idlwright/preprocessor/Conditional" "branches" "I" (.int (0 : Int32)) := D1 (Or.inl (hw _ (List.mem_of_getElem? (i := 23) rfl))) (ty := .int) (by decide)
          have nb1 : n0 ≤ b1 := by have := Nat.le_of_eq g1.symm; exact Nat.le_trans (Z0) this
          refine own_step st1 ?_
          show own_Go _ _ _ _ _ _ _ T1 (mkF m 53 #[.val (.int p1), .val (.int ve), .val (.int va), .val (.int vb), .val (.int vc), .unset, .unset, .unset, .unset, .unset, .unset, .unset, .unset, .unset, .unset, .unset] [(.ref b1)])
          refine own_step (fun t k => XS.dup X1.here hx rfl (hb hby at_53) rfl rfl k) ?_
          show own_Go _ _ _ _ _ _ _ T1 (mkF m 54 #[.val (.int p1), .val (.int ve), .val (.int va), .val (.int vb), .val (.int vc), .unset, .unset, .unset, .unset, .unset, .unset, .unset, .unset, .unset, .unset, .unset] [(.ref b1), (.ref b1)])
          refine own_step (fun t k => XS.aconstNull X1.here hx rfl (hb hby at_54) k) ?_
          show own_Go _ _ _ _ _ _ _ T1 (mkF m 55 #[.val (.int p1), .val (.int ve), .val (.int va), .val (.int vb), .val (.int vc), .unset, .unset, .unset, .unset, .unset, .unset, .unset, .unset, .unset, .unset, .unset] [.null, (.ref b1), (.ref b1)])
          refine own_step (fun t k => XS.iloadN X1.here hx rfl (hb hby at_55) rfl k) ?_
          show own_Go _ _ _ _ _ _ _ T1 (mkF m 56 #[.val (.int p1), .val (.int ve), .val (.int va), .val (.int vb), .val (.int vc), .unset, .unset, .unset, .unset, .unset, .unset, .unset, .unset, .unset, .unset, .unset] [(.int ve), .null, (.ref b1), (.ref b1)])
          refine own_step (fun t k => XS.iloadN X1.here hx rfl (hb hby at_56) rfl k) ?_
          show own_Go _ _ _ _ _ _ _ T1 (mkF m 57 #[.val (.int p1), .val (.int ve), .val (.int va), .val (.int vb), .val (.int vc), .unset, .unset, .unset, .unset, .unset, .unset, .unset, .unset, .unset, .unset, .unset] [(.int va), (.int ve), .null, (.ref b1), (.ref b1)])
          obtain ⟨_, _, ⟨T2, L2, k2, n2⟩, -, X2, ⟨Lc2, hQ2, l2, y2, z2⟩, st2⟩ := X1.specialBack hx (y := (⟨"com/example/idlwright/idlwright/preprocessor/Conditional", "<init>", "(Lcom/example/idlwright/idlwright/lexer/Token;ZZ)V"⟩ : MethodName)) rfl hown (mvT hZ (hw _ (List.mem_of_getElem? (i := 3) rfl))) (mvT hZ (hw _ (List.mem_of_getElem? (i := 4) rfl))) (mvT hZ (hw _ (List.mem_of_getElem? (i := 5) rfl))) (by decide) (backOf (W := 1) (own_rm1 l Z a0 hw [] b1 ve va h1 n0 (Nat.le_trans (Z0) E1.1) F1_opening F1_enclosing F1_active F1_taken F1_branches A1 nb1 hve) hZ (hw _ (List.mem_of_getElem? (i := 5) rfl)) (hw _ (List.mem_of_getElem? (i := 2) rfl)) (by decide) (by decide)) (g := (mkF m 57 #[.val (.int p1), .val (.int ve), .val (.int va), .val (.int vb), .val (.int vc), .unset, .unset, .unset, .unset, .unset, .unset, .unset, .unset, .unset, .unset, .unset] [(.int va), (.int ve), .null, (.ref b1), (.ref b1)])) rfl (by rw [hml]; rfl) (Steps.refl _) (a := b1) (argsL := [.null, (.int ve), (.int va)]) (rest := [(.ref b1)]) (lenOf own_pd0_0 rfl) rfl (by show 2 * 0 + _ ≤ _; exact Nat.le_of_eq rfl) (hb hby at_57) (fun _ _ => ⟨rfl, e1, (by decide : 1 + 0 ≤ _), (by decide : 6 + 0 ≤ _)⟩)
          dsimp only [Pt.U, Pt.locs, Pt.cells, Pt.slots] at X2 l2 y2 z2 st2 hQ2
          subst l2 y2 z2
          obtain ⟨rfl, Nq2, K2, E2_b1, F2_b1_enclosing, F2_b1_active, F2_b1_taken, F2_b1_branches⟩ := hQ2
          have N2 := Fr.app N0 Nq2
          refine own_step (fun t k => st2.trans k) ?_
          show own_Go _ _ _ _ _ _ _ T2 (mkF m 60 #[.val (.int p1), .val (.int ve), .val (.int va), .val (.int vb), .val (.int vc), .unset, .unset, .unset, .unset, .unset, .unset, .unset, .unset, .unset, .unset, .unset] [(.ref b1)])
          refine own_step (fun t k => XS.astore X2.here hx rfl (hb hby at_60) rfl rfl (l' := #[.val (.int p1), .val (.int ve), .val (.int va), .val (.int vb), .val (.int vc), .val (.ref b1), .unset, .unset, .unset, .unset, .unset, .unset, .unset, .unset, .unset, .unset]) rfl k) ?_
          show own_Go _ _ _ _ _ _ _ T2 (mkF m 62 #[.val (.int p1), .val (.int ve), .val (.int va), .val (.int vb), .val (.int vc), .val (.ref b1), .unset, .unset, .unset, .unset, .unset, .unset, .unset, .unset, .unset, .unset] [])
          refine own_step (fun t k => XS.aload X2.here hx rfl (hb hby at_62) rfl rfl k) ?_
          show own_Go _ _ _ _ _ _ _ T2 (mkF m 64 #[.val (.int p1), .val (.int ve), .val (.int va), .val (.int vb), .val (.int vc), .val (.ref b1), .unset, .unset, .unset, .unset, .unset, .unset, .unset, .unset, .unset, .unset] [(.ref b1)])
          refine own_step (fun t k => XS.iloadN X2.here hx rfl (hb hby at_64) rfl k) ?_
          show own_Go _ _ _ _ _ _ _ T2 (mkF m 65 #[.val (.int p1), .val (.int ve), .val (.int va), .val (.int vb), .val (.int vc), .val (.ref b1), .unset, .unset, .unset, .unset, .unset, .unset, .unset, .unset, .unset, .unset] [(.int vb), (.ref b1)])
          obtain ⟨cq3, kq3, q3a, q3b, q3c⟩ := isOf hZ rfl E2_b1
          obtain ⟨_, _, ⟨T3, L3, k3, n3⟩, -, X3, ⟨Lc3, hQ3, l3, y3, z3⟩, st3⟩ := X2.virtualBack hx (y := (⟨"com/example/idlwright/idlwright/preprocessor/Conditional", "branch", "(Z)V"⟩ : MethodName)) (z := (⟨"com/example/idlwright/idlwright/preprocessor/Conditional", "branch", "(Z)V"⟩ : MethodName)) hown (mvT hZ (hw _ (List.mem_of_getElem? (i := 24) rfl))) (mvT hZ (hw _ (List.mem_of_getElem? (i := 14) rfl))) (notFace_of_selects (args := #[]) (mvT hZ (hw _ (List.mem_of_getElem? (i := 16) rfl)))) (mvT hZ (hw _ (List.mem_of_getElem? (i := 16) rfl))) (mvT hZ (hw _ (List.mem_of_getElem? (i := 15) rfl))) (by decide) (backOf (W := 0) (own_rm3 l Z a0 hw [] b1 vb ve (own_act ve 0 va) (own_tk ve 0 va) (0 + 1) T2.heap n0 (Nat.le_trans (Nat.le_trans (Z0) E1.1) K2.1) F2_b1_enclosing F2_b1_active F2_b1_taken F2_b1_branches E2_b1 nb1 (own_tk01 ve 0 va (Or.inl rfl))) hZ (hw _ (List.mem_of_getElem? (i := 17) rfl)) (hw _ (List.mem_of_getElem? (i := 2) rfl)) (by decide) (by decide)) q3a q3c (g := (mkF m 65 #[.val (.int p1), .val (.int ve), .val (.int va), .val (.int vb), .val (.int vc), .val (.ref b1), .unset, .unset, .unset, .unset, .unset, .unset, .unset, .unset, .unset, .unset] [(.int vb), (.ref b1)])) rfl (by rw [hml]; rfl) (Steps.refl _) (argsL := [(.int vb)]) (rest := []) (lenOf own_pd0_1 rfl) rfl (by show 2 * 0 + _ ≤ _; exact Nat.le_of_eq rfl) (hb hby at_65) (fun _ _ => ⟨rfl, rfl, (by decide : 1 + 0 ≤ _), (by decide : 6 + 0 ≤ _)⟩)
          dsimp only [Pt.U, Pt.locs, Pt.cells, Pt.slots] at X3 l3 y3 z3 st3 hQ3
          subst l3 y3 z3
          obtain ⟨rfl, Nq3, K3, E3_b1, F3_b1_enclosing, F3_b1_active, F3_b1_taken, F3_b1_branches⟩ := hQ3
          have N3 := Fr.app N2 Nq3
          refine own_step (fun t k => st3.trans k) ?_
          show own_Go _ _ _ _ _ _ _ T3 (mkF m 68 #[.val (.int p1), .val (.int ve), .val (.int va), .val (.int vb), .val (.int vc), .val (.ref b1), .unset, .unset, .unset, .unset, .unset, .unset, .unset, .unset, .unset, .unset] [])
          refine own_step (fun t k => XS.aload X3.here hx rfl (hb hby at_68) rfl rfl k) ?_
          show own_Go _ _ _ _ _ _ _ T3 (mkF m 70 #[.val (.int p1), .val (.int ve), .val (.int va), .val (.int vb), .val (.int vc), .val (.ref b1), .unset, .unset, .unset, .unset, .unset, .unset, .unset, .unset, .unset, .unset] [(.ref b1)])
          obtain ⟨cq4, kq4, q4a, q4b, q4c⟩ := isOf hZ rfl E3_b1
          obtain ⟨_, _, ⟨T4, L4, k4, n4⟩, -, X4, ⟨Lc4, hQ4, l4, y4, z4⟩, st4⟩ := X3.virtualBack hx (y := (⟨"com/example/idlwright/idlwright/preprocessor/Conditional", "active", "()Z"⟩ : MethodName)) (z := (⟨"com/example/idlwright/idlwright/preprocessor/Conditional", "active", "()Z"⟩ : MethodName)) hown (mvT hZ (hw _ (List.mem_of_getElem? (i := 25) rfl))) (mvT hZ (hw _ (List.mem_of_getElem? (i := 26) rfl))) (notFace_of_selects (args := #[]) (mvT hZ (hw _ (List.mem_of_getElem? (i := 28) rfl)))) (mvT hZ (hw _ (List.mem_of_getElem? (i := 28) rfl))) (mvT hZ (hw _ (List.mem_of_getElem? (i := 27) rfl))) (by decide) (backOf (W := 0) (own_rm4 l Z a0 hw [] b1 (own_act ve (own_tk ve 0 va) vb) T3.heap n0 (Nat.le_trans (Nat.le_trans (Nat.le_trans (Z0) E1.1) K2.1) K3.1) F3_b1_active (own_act01 _ _ _)) hZ (hw _ (List.mem_of_getElem? (i := 29) rfl)) (hw _ (List.mem_of_getElem? (i := 2) rfl)) (by decide) (by decide)) q4a q4c (g := (mkF m 70 #[.val (.int p1), .val (.int ve), .val (.int va), .val (.int vb), .val (.int vc), .val (.ref b1), .unset, .unset, .unset, .unset, .unset, .unset, .unset, .unset, .unset, .unset] [(.ref b1)])) rfl (by rw [hml]; rfl) (Steps.refl _) (argsL := []) (rest := []) (lenOf own_pd0_2 rfl) rfl (by show 2 * 0 + _ ≤ _; exact Nat.le_of_eq rfl) (hb hby at_70) (fun _ _ => ⟨rfl, rfl, (by decide : 1 + 0 ≤ _), (by decide : 6 + 0 ≤ _)⟩)
          dsimp only [Pt.U, Pt.locs, Pt.cells, Pt.slots] at X4 l4 y4 z4 st4 hQ4
          subst l4 y4 z4
          obtain ⟨rfl, Nq4, e4⟩ := hQ4
          have N4 := Fr.app N3 Nq4
          refine own_step (fun t k => st4.trans k) ?_
          show own_Go _ _ _ _ _ _ _ T4 (mkF m 73 #[.val (.int p1), .val (.int ve), .val (.int va), .val (.int vb), .val (.int vc), .val (.ref b1), .unset, .unset, .unset, .unset, .unset, .unset, .unset, .unset, .unset, .unset] [(.int (own_act ve (own_tk ve 0 va) vb))])
          refine own_step (fun t k => XS.istore X4.here hx rfl (hb hby at_73) rfl (l' := #[.val (.int p1), .val (.int ve), .val (.int va), .val (.int vb), .val (.int vc), .val (.ref b1), .val (.int (own_act ve (own_tk ve 0 va) vb)), .unset, .unset, .unset, .unset, .unset, .unset, .unset, .unset, .unset]) rfl k) ?_
          show own_Go _ _ _ _ _ _ _ T4 (mkF m 75 #[.val (.int p1), .val (.int ve), .val (.int va), .val (.int vb), .val (.int vc), .val (.ref b1), .val (.int (own_act ve (own_tk ve 0 va) vb)), .unset, .unset, .unset, .unset, .unset, .unset, .unset, .unset, .unset] [])
          refine own_step (fun t k => XS.aload X4.here hx rfl (hb hby at_75) rfl rfl k) ?_
          show own_Go _ _ _ _ _ _ _ T4 (mkF m 77 #[.val (.int p1), .val (.int ve), .val (.int va), .val (.int vb), .val (.int vc), .val (.ref b1), .val (.int (own_act ve (own_tk ve 0 va) vb)), .unset, .unset, .unset, .unset, .unset, .unset, .unset, .unset, .unset] [(.ref b1)])
          obtain ⟨cq5, kq5, q5a, q5b, q5c⟩ := isOf hZ e4 E3_b1
          obtain ⟨_, _, ⟨T5, L5, k5, n5⟩, -, X5, ⟨Lc5, hQ5, l5, y5, z5⟩, st5⟩ := X4.virtualBack hx (y := (⟨"com/example/idlwright/idlwright/preprocessor/Conditional", "undecided", "()Z"⟩ : MethodName)) (z := (⟨"com/example/idlwright/idlwright/preprocessor/Conditional", "undecided", "()Z"⟩ : MethodName)) hown (mvT hZ (hw _ (List.mem_of_getElem? (i := 30) rfl))) (mvT hZ (hw _ (List.mem_of_getElem? (i := 31) rfl))) (notFace_of_selects (args := #[]) (mvT hZ (hw _ (List.mem_of_getElem? (i := 33) rfl)))) (mvT hZ (hw _ (List.mem_of_getElem? (i := 33) rfl))) (mvT hZ (hw _ (List.mem_of_getElem? (i := 32) rfl))) (by decide) (backOf (W := 0) (own_rm5 l Z a0 hw [] b1 ve (own_tk ve (own_tk ve 0 va) vb) T3.heap n0 (Nat.le_trans (Nat.le_trans (Nat.le_trans (Z0) E1.1) K2.1) K3.1) F3_b1_enclosing F3_b1_taken ) hZ (hw _ (List.mem_of_getElem? (i := 34) rfl)) (hw _ (List.mem_of_getElem? (i := 2) rfl)) (by decide) (by decide)) q5a q5c (g := (mkF m 77 #[.val (.int p1), .val (.int ve), .val (.int va), .val (.int vb), .val (.int vc), .val (.ref b1), .val (.int (own_act ve (own_tk ve 0 va) vb)), .unset, .unset, .unset, .unset, .unset, .unset, .unset, .unset, .unset] [(.ref b1)])) rfl (by rw [hml]; rfl) (Steps.refl _) (argsL := []) (rest := []) (lenOf own_pd0_2 rfl) rfl (by show 2 * 0 + _ ≤ _; exact Nat.le_of_eq rfl) (hb hby at_77) (fun _ _ => ⟨rfl, e4, (by decide : 1 + 0 ≤ _), (by decide : 6 + 0 ≤ _)⟩)
          dsimp only [Pt.U, Pt.locs, Pt.cells, Pt.slots] at X5 l5 y5 z5 st5 hQ5
          subst l5 y5 z5
          obtain ⟨rfl, Nq5, e5⟩ := hQ5
          have N5 := Fr.app N4 Nq5
          refine own_step (fun t k => st5.trans k) ?_
          show own_Go _ _ _ _ _ _ _ T5 (mkF m 80 #[.val (.int p1), .val (.int ve), .val (.int va), .val (.int vb), .val (.int vc), .val (.ref b1), .val (.int (own_act ve (own_tk ve 0 va) vb)), .unset, .unset, .unset, .unset, .unset, .unset, .unset, .unset, .unset] [(.int (own_und ve (own_tk ve (own_tk ve 0 va) vb)))])
          refine own_step (fun t k => XS.istore X5.here hx rfl (hb hby at_80) rfl (l' := #[.val (.int p1), .val (.int ve), .val (.int va), .val (.int vb), .val (.int vc), .val (.ref b1), .val (.int (own_act ve (own_tk ve 0 va) vb)), .val (.int (own_und ve (own_tk ve (own_tk ve 0 va) vb))), .unset, .unset, .unset, .unset, .unset, .unset, .unset, .unset]) rfl k) ?_
          show own_Go _ _ _ _ _ _ _ T5 (mkF m 82 #[.val (.int p1), .val (.int ve), .val (.int va), .val (.int vb), .val (.int vc), .val (.ref b1), .val (.int (own_act ve (own_tk ve 0 va) vb)), .val (.int (own_und ve (own_tk ve (own_tk ve 0 va) vb))), .unset, .unset, .unset, .unset, .unset, .unset, .unset, .unset] [])
          refine own_step (fun t k => XS.aload X5.here hx rfl (hb hby at_82) rfl rfl k) ?_
          show own_Go _ _ _ _ _ _ _ T5 (mkF m 84 #[.val (.int p1), .val (.int ve), .val (.int va), .val (.int vb), .val (.int vc), .val (.ref b1), .val (.int (own_act ve (own_tk ve 0 va) vb)), .val (.int (own_und ve (own_tk ve (own_tk ve 0 va) vb))), .unset, .unset, .unset, .unset, .unset, .unset, .unset, .unset] [(.ref b1)])
          obtain ⟨cq6, kq6, q6a, q6b, q6c⟩ := isOf hZ e5 E3_b1
          obtain ⟨_, _, ⟨T6, L6, k6, n6⟩, -, X6, ⟨Lc6, hQ6, l6, y6, z6⟩, st6⟩ := X5.virtualBack hx (y := (⟨"com/example/idlwright/idlwright/preprocessor/Conditional", "hasOneBranch", "()Z"⟩ : MethodName)) (z := (⟨"com/example/idlwright/idlwright/preprocessor/Conditional", "hasOneBranch", "()Z"⟩ : MethodName)) hown (mvT hZ (hw _ (List.mem_of_getElem? (i := 35) rfl))) (mvT hZ (hw _ (List.mem_of_getElem? (i := 36) rfl))) (notFace_of_selects (args := #[]) (mvT hZ (hw _ (List.mem_of_getElem? (i := 38) rfl)))) (mvT hZ (hw _ (List.mem_of_getElem? (i := 38) rfl))) (mvT hZ (hw _ (List.mem_of_getElem? (i := 37) rfl))) (by decide) (backOf (W := 0) (own_rm6 l Z a0 hw [] b1 ((0 + 1) + 1) T3.heap n0 (Nat.le_trans (Nat.le_trans (Nat.le_trans (Z0) E1.1) K2.1) K3.1) F3_b1_branches ) hZ (hw _ (List.mem_of_getElem? (i := 39) rfl)) (hw _ (List.mem_of_getElem? (i := 2) rfl)) (by decide) (by decide)) q6a q6c (g := (mkF m 84 #[.val (.int p1), .val (.int ve), .val (.int va), .val (.int vb), .val (.int vc), .val (.ref b1), .val (.int (own_act ve (own_tk ve 0 va) vb)), .val (.int (own_und ve (own_tk ve (own_tk ve 0 va) vb))), .unset, .unset, .unset, .unset, .unset, .unset, .unset, .unset] [(.ref b1)])) rfl (by rw [hml]; rfl) (Steps.refl _) (argsL := []) (rest := []) (lenOf own_pd0_2 rfl) rfl (by show 2 * 0 + _ ≤ _; exact Nat.le_of_eq rfl) (hb hby at_84) (fun _ _ => ⟨rfl, e5, (by decide : 1 + 0 ≤ _), (by decide : 6 + 0 ≤ _)⟩)
          dsimp only [Pt.U, Pt.locs, Pt.cells, Pt.slots] at X6 l6 y6 z6 st6 hQ6
          subst l6 y6 z6
          obtain ⟨rfl, Nq6, e6⟩ := hQ6
          have N6 := Fr.app N5 Nq6
          refine own_step (fun t k => st6.trans k) ?_
          show own_Go _ _ _ _ _ _ _ T6 (mkF m 87 #[.val (.int p1), .val (.int ve), .val (.int va), .val (.int vb), .val (.int vc), .val (.ref b1), .val (.int (own_act ve (own_tk ve 0 va) vb)), .val (.int (own_und ve (own_tk ve (own_tk ve 0 va) vb))), .unset, .unset, .unset, .unset, .unset, .unset, .unset, .unset] [(.int (own_one ((0 + 1) + 1)))])
          refine own_step (fun t k => XS.istore X6.here hx rfl (hb hby at_87) rfl (l' := #[.val (.int p1), .val (.int ve), .val (.int va), .val (.int vb), .val (.int vc), .val (.ref b1), .val (.int (own_act ve (own_tk ve 0 va) vb)), .val (.int (own_und ve (own_tk ve (own_tk ve 0 va) vb))), .val (.int (own_one ((0 + 1) + 1))), .unset, .unset, .unset, .unset, .unset, .unset, .unset]) rfl k) ?_
          show own_Go _ _ _ _ _ _ _ T6 (mkF m 89 #[.val (.int p1), .val (.int ve), .val (.int va), .val (.int vb), .val (.int vc), .val (.ref b1), .val (.int (own_act ve (own_tk ve 0 va) vb)), .val (.int (own_und ve (own_tk ve (own_tk ve 0 va) vb))), .val (.int (own_one ((0 + 1) + 1))), .unset, .unset, .unset, .unset, .unset, .unset, .unset] [])
          refine own_step (fun t k => XS.aload X6.here hx rfl (hb hby at_89) rfl rfl k) ?_
          show own_Go _ _ _ _ _ _ _ T6 (mkF m 91 #[.val (.int p1), .val (.int ve), .val (.int va), .val (.int vb), .val (.int vc), .val (.ref b1), .val (.int (own_act ve (own_tk ve 0 va) vb)), .val (.int (own_und ve (own_tk ve (own_tk ve 0 va) vb))), .val (.int (own_one ((0 + 1) + 1))), .unset, .unset, .unset, .unset, .unset, .unset, .unset] [(.ref b1)])
          refine own_step (fun t k => XS.iload X6.here hx rfl (hb hby at_91) rfl k) ?_
          show own_Go _ _ _ _ _ _ _ T6 (mkF m 93 #[.val (.int p1), .val (.int ve), .val (.int va), .val (.int vb), .val (.int vc), .val (.ref b1), .val (.int (own_act ve (own_tk ve 0 va) vb)), .val (.int (own_und ve (own_tk ve (own_tk ve 0 va) vb))), .val (.int (own_one ((0 + 1) + 1))), .unset, .unset, .unset, .unset, .unset, .unset, .unset] [(.int vc), (.ref b1)])
          obtain ⟨cq7, kq7, q7a, q7b, q7c⟩ := isOf hZ e6 E3_b1
          obtain ⟨_, _, ⟨T7, L7, k7, n7⟩, -, X7, ⟨Lc7, hQ7, l7, y7, z7⟩, st7⟩ := X6.virtualBack hx (y := (⟨"com/example/idlwright/idlwright/preprocessor/Conditional", "branch", "(Z)V"⟩ : MethodName)) (z := (⟨"com/example/idlwright/idlwright/preprocessor/Conditional", "branch", "(Z)V"⟩ : MethodName)) hown (mvT hZ (hw _ (List.mem_of_getElem? (i := 24) rfl))) (mvT hZ (hw _ (List.mem_of_getElem? (i := 14) rfl))) (notFace_of_selects (args := #[]) (mvT hZ (hw _ (List.mem_of_getElem? (i := 16) rfl)))) (mvT hZ (hw _ (List.mem_of_getElem? (i := 16) rfl))) (mvT hZ (hw _ (List.mem_of_getElem? (i := 15) rfl))) (by decide) (backOf (W := 0) (own_rm3 l Z a0 hw [] b1 vc ve (own_act ve (own_tk ve 0 va) vb) (own_tk ve (own_tk ve 0 va) vb) ((0 + 1) + 1) T3.heap n0 (Nat.le_trans (Nat.le_trans (Nat.le_trans (Z0) E1.1) K2.1) K3.1) F3_b1_enclosing F3_b1_active F3_b1_taken F3_b1_branches E3_b1 nb1 (own_tk01 ve _ vb (own_tk01 ve 0 va (Or.inl rfl)))) hZ (hw _ (List.mem_of_getElem? (i := 17) rfl)) (hw _ (List.mem_of_getElem? (i := 2) rfl)) (by decide) (by decide)) q7a q7c (g := (mkF m 93 #[.val (.int p1), .val (.int ve), .val (.int va), .val (.int vb), .val (.int vc), .val (.ref b1), .val (.int (own_act ve (own_tk ve 0 va) vb)), .val (.int (own_und ve (own_tk ve (own_tk ve 0 va) vb))), .val (.int (own_one ((0 + 1) + 1))), .unset, .unset, .unset, .unset, .unset, .unset, .unset] [(.int vc), (.ref b1)])) rfl (by rw [hml]; rfl) (Steps.refl _) (argsL := [(.int vc)]) (rest := []) (lenOf own_pd0_1 rfl) rfl (by show 2 * 0 + _ ≤ _; exact Nat.le_of_eq rfl) (hb hby at_93) (fun _ _ => ⟨rfl, e6, (by decide : 1 + 0 ≤ _), (by decide : 6 + 0 ≤ _)⟩)
          dsimp only [Pt.U, Pt.locs, Pt.cells, Pt.slots] at X7 l7 y7 z7 st7 hQ7
          subst l7 y7 z7
          obtain ⟨rfl, Nq7, K7, E7_b1, F7_b1_enclosing, F7_b1_active, F7_b1_taken, F7_b1_branches⟩ := hQ7
          have N7 := Fr.app N6 Nq7
          refine own_step (fun t k => st7.trans k) ?_
          show own_Go _ _ _ _ _ _ _ T7 (mkF m 96 #[.val (.int p1), .val (.int ve), .val (.int va), .val (.int vb), .val (.int vc), .val (.ref b1), .val (.int (own_act ve (own_tk ve 0 va) vb)), .val (.int (own_und ve (own_tk ve (own_tk ve 0 va) vb))), .val (.int (own_one ((0 + 1) + 1))), .unset, .unset, .unset, .unset, .unset, .unset, .unset] [])
          refine own_step (fun t k => XS.aload X7.here hx rfl (hb hby at_96) rfl rfl k) ?_
          show own_Go _ _ _ _ _ _ _ T7 (mkF m 98 #[.val (.int p1), .val (.int ve), .val (.int va), .val (.int vb), .val (.int vc), .val (.ref b1), .val (.int (own_act ve (own_tk ve 0 va) vb)), .val (.int (own_und ve (own_tk ve (own_tk ve 0 va) vb))), .val (.int (own_one ((0 + 1) + 1))), .unset, .unset, .unset, .unset, .unset, .unset, .unset] [(.ref b1)])
          obtain ⟨cq8, kq8, q8a, q8b, q8c⟩ := isOf hZ rfl E7_b1
          obtain ⟨_, _, ⟨T8, L8, k8, n8⟩, -, X8, ⟨Lc8, hQ8, l8, y8, z8⟩, st8⟩ := X7.virtualBack hx (y := (⟨"com/example/idlwright/idlwright/preprocessor/Conditional", "active", "()Z"⟩ : MethodName)) (z := (⟨"com/example/idlwright/idlwright/preprocessor/Conditional", "active", "()Z"⟩ : MethodName)) hown (mvT hZ (hw _ (List.mem_of_getElem? (i := 25) rfl))) (mvT hZ (hw _ (List.mem_of_getElem? (i := 26) rfl))) (notFace_of_selects (args := #[]) (mvT hZ (hw _ (List.mem_of_getElem? (i := 28) rfl)))) (mvT hZ (hw _ (List.mem_of_getElem? (i := 28) rfl))) (mvT hZ (hw _ (List.mem_of_getElem? (i := 27) rfl))) (by decide) (backOf (W := 0) (own_rm4 l Z a0 hw [] b1 (own_act ve (own_tk ve (own_tk ve 0 va) vb) vc) T7.heap n0 (Nat.le_trans (Nat.le_trans (Nat.le_trans (Nat.le_trans (Z0) E1.1) K2.1) K3.1) K7.1) F7_b1_active (own_act01 _ _ _)) hZ (hw _ (List.mem_of_getElem? (i := 29) rfl)) (hw _ (List.mem_of_getElem? (i := 2) rfl)) (by decide) (by decide)) q8a q8c (g := (mkF m 98 #[.val (.int p1), .val (.int ve), .val (.int va), .val (.int vb), .val (.int vc), .val (.ref b1), .val (.int (own_act ve (own_tk ve 0 va) vb)), .val (.int (own_und ve (own_tk ve (own_tk ve 0 va) vb))), .val (.int (own_one ((0 + 1) + 1))), .unset, .unset, .unset, .unset, .unset, .unset, .unset] [(.ref b1)])) rfl (by rw [hml]; rfl) (Steps.refl _) (argsL := []) (rest := []) (lenOf own_pd0_2 rfl) rfl (by show 2 * 0 + _ ≤ _; exact Nat.le_of_eq rfl) (hb hby at_98) (fun _ _ => ⟨rfl, rfl, (by decide : 1 + 0 ≤ _), (by decide : 6 + 0 ≤ _)⟩)
          dsimp only [Pt.U, Pt.locs, Pt.cells, Pt.slots] at X8 l8 y8 z8 st8 hQ8
          subst l8 y8 z8
          obtain ⟨rfl, Nq8, e8⟩ := hQ8
          have N8 := Fr.app N7 Nq8
          refine own_step (fun t k => st8.trans k) ?_
          show own_Go _ _ _ _ _ _ _ T8 (mkF m 101 #[.val (.int p1), .val (.int ve), .val (.int va), .val (.int vb), .val (.int vc), .val (.ref b1), .val (.int (own_act ve (own_tk ve 0 va) vb)), .val (.int (own_und ve (own_tk ve (own_tk ve 0 va) vb))), .val (.int (own_one ((0 + 1) + 1))), .unset, .unset, .unset, .unset, .unset, .unset, .unset] [(.int (own_act ve (own_tk ve (own_tk ve 0 va) vb) vc))])
          refine own_step (fun t k => XS.istore X8.here hx rfl (hb hby at_101) rfl (l' := #[.val (.int p1), .val (.int ve), .val (.int va), .val (.int vb), .val (.int vc), .val (.ref b1), .val (.int (own_act ve (own_tk ve 0 va) vb)), .val (.int (own_und ve (own_tk ve (own_tk ve 0 va) vb))), .val (.int (own_one ((0 + 1) + 1))), .val (.int (own_act ve (own_tk ve (own_tk ve 0 va) vb) vc)), .unset, .unset, .unset, .unset, .unset, .unset]) rfl k) ?_
          show own_Go _ _ _ _ _ _ _ T8 (mkF m 103 #[.val (.int p1), .val (.int ve), .val (.int va), .val (.int vb), .val (.int vc), .val (.ref b1), .val (.int (own_act ve (own_tk ve 0 va) vb)), .val (.int (own_und ve (own_tk ve (own_tk ve 0 va) vb))), .val (.int (own_one ((0 + 1) + 1))), .val (.int (own_act ve (own_tk ve (own_tk ve 0 va) vb) vc)), .unset, .unset, .unset, .unset, .unset, .unset] [])
          refine own_step (fun t k => XS.aload X8.here hx rfl (hb hby at_103) rfl rfl k) ?_
          show own_Go _ _ _ _ _ _ _ T8 (mkF m 105 #[.val (.int p1), .val (.int ve), .val (.int va), .val (.int vb), .val (.int vc), .val (.ref b1), .val (.int (own_act ve (own_tk ve 0 va) vb)), .val (.int (own_und ve (own_tk ve (own_tk ve 0 va) vb))), .val (.int (own_one ((0 + 1) + 1))), .val (.int (own_act ve (own_tk ve (own_tk ve 0 va) vb) vc)), .unset, .unset, .unset, .unset, .unset, .unset] [(.ref b1)])
          obtain ⟨cq9, kq9, q9a, q9b, q9c⟩ := isOf hZ e8 E7_b1
          obtain ⟨_, _, ⟨T9, L9, k9, n9⟩, -, X9, ⟨Lc9, hQ9, l9, y9, z9⟩, st9⟩ := X8.virtualBack hx (y := (⟨"com/example/idlwright/idlwright/preprocessor/Conditional", "undecided", "()Z"⟩ : MethodName)) (z := (⟨"com/example/idlwright/idlwright/preprocessor/Conditional", "undecided", "()Z"⟩ : MethodName)) hown (mvT hZ (hw _ (List.mem_of_getElem? (i := 30) rfl))) (mvT hZ (hw _ (List.mem_of_getElem? (i := 31) rfl))) (notFace_of_selects (args := #[]) (mvT hZ (hw _ (List.mem_of_getElem? (i := 33) rfl)))) (mvT hZ (hw _ (List.mem_of_getElem? (i := 33) rfl))) (mvT hZ (hw _ (List.mem_of_getElem? (i := 32) rfl))) (by decide) (backOf (W := 0) (own_rm5 l Z a0 hw [] b1 ve (own_tk ve (own_tk ve (own_tk ve 0 va) vb) vc) T7.heap n0 (Nat.le_trans (Nat.le_trans (Nat.le_trans (Nat.le_trans (Z0) E1.1) K2.1) K3.1) K7.1) F7_b1_enclosing F7_b1_taken ) hZ (hw _ (List.mem_of_getElem? (i := 34) rfl)) (hw _ (List.mem_of_getElem? (i := 2) rfl)) (by decide) (by decide)) q9a q9c (g := (mkF m 105 #[.val (.int p1), .val (.int ve), .val (.int va), .val (.int vb), .val (.int vc), .val (.ref b1), .val (.int (own_act ve (own_tk ve 0 va) vb)), .val (.int (own_und ve (own_tk ve (own_tk ve 0 va) vb))), .val (.int (own_one ((0 + 1) + 1))), .val (.int (own_act ve (own_tk ve (own_tk ve 0 va) vb) vc)), .unset, .unset, .unset, .unset, .unset, .unset] [(.ref b1)])) rfl (by rw [hml]; rfl) (Steps.refl _) (argsL := []) (rest := []) (lenOf own_pd0_2 rfl) rfl (by show 2 * 0 + _ ≤ _; exact Nat.le_of_eq rfl) (hb hby at_105) (fun _ _ => ⟨rfl, e8, (by decide : 1 + 0 ≤ _), (by decide : 6 + 0 ≤ _)⟩)
          dsimp only [Pt.U, Pt.locs, Pt.cells, Pt.slots] at X9 l9 y9 z9 st9 hQ9
          subst l9 y9 z9
          obtain ⟨rfl, Nq9, e9⟩ := hQ9
          have N9 := Fr.app N8 Nq9
          refine own_step (fun t k => st9.trans k) ?_
          show own_Go _ _ _ _ _ _ _ T9 (mkF m 108 #[.val (.int p1), .val (.int ve), .val (.int va), .val (.int vb), .val (.int vc), .val (.ref b1), .val (.int (own_act ve (own_tk ve 0 va) vb)), .val (.int (own_und ve (own_tk ve (own_tk ve 0 va) vb))), .val (.int (own_one ((0 + 1) + 1))), .val (.int (own_act ve (own_tk ve (own_tk ve 0 va) vb) vc)), .unset, .unset, .unset, .unset, .unset, .unset] [(.int (own_und ve (own_tk ve (own_tk ve (own_tk ve 0 va) vb) vc)))])
          refine own_step (fun t k => XS.istore X9.here hx rfl (hb hby at_108) rfl (l' := #[.val (.int p1), .val (.int ve), .val (.int va), .val (.int vb), .val (.int vc), .val (.ref b1), .val (.int (own_act ve (own_tk ve 0 va) vb)), .val (.int (own_und ve (own_tk ve (own_tk ve 0 va) vb))), .val (.int (own_one ((0 + 1) + 1))), .val (.int (own_act ve (own_tk ve (own_tk ve 0 va) vb) vc)), .val (.int (own_und ve (own_tk ve (own_tk ve (own_tk ve 0 va) vb) vc))), .unset, .unset, .unset, .unset, .unset]) rfl k) ?_
          show own_Go _ _ _ _ _ _ _ T9 (mkF m 110 #[.val (.int p1), .val (.int ve), .val (.int va), .val (.int vb), .val (.int vc), .val (.ref b1), .val (.int (own_act ve (own_tk ve 0 va) vb)), .val (.int (own_und ve (own_tk ve (own_tk ve 0 va) vb))), .val (.int (own_one ((0 + 1) + 1))), .val (.int (own_act ve (own_tk ve (own_tk ve 0 va) vb) vc)), .val (.int (own_und ve (own_tk ve (own_tk ve (own_tk ve 0 va) vb) vc))), .unset, .unset, .unset, .unset, .unset] [])
          refine own_step (fun t k => XS.aload X9.here hx rfl (hb hby at_110) rfl rfl k) ?_
          show own_Go _ _ _ _ _ _ _ T9 (mkF m 112 #[.val (.int p1), .val (.int ve), .val (.int va), .val (.int vb), .val (.int vc), .val (.ref b1), .val (.int (own_act ve (own_tk ve 0 va) vb)), .val (.int (own_und ve (own_tk ve (own_tk ve 0 va) vb))), .val (.int (own_one ((0 + 1) + 1))), .val (.int (own_act ve (own_tk ve (own_tk ve 0 va) vb) vc)), .val (.int (own_und ve (own_tk ve (own_tk ve (own_tk ve 0 va) vb) vc))), .unset, .unset, .unset, .unset, .unset] [(.ref b1)])
          obtain ⟨cq10, kq10, q10a, q10b, q10c⟩ := isOf hZ e9 E7_b1
          obtain ⟨_, _, ⟨T10, L10, k10, n10⟩, -, X10, ⟨Lc10, hQ10, l10, y10, z10⟩, st10⟩ := X9.virtualBack hx (y := (⟨"com/example/idlwright/idlwright/preprocessor/Conditional", "hasOneBranch", "()Z"⟩ : MethodName)) (z := (⟨"com/example/idlwright/idlwright/preprocessor/Conditional", "hasOneBranch", "()Z"⟩ : MethodName)) hown (mvT hZ (hw _ (List.mem_of_getElem? (i := 35) rfl))) (mvT hZ (hw _ (List.mem_of_getElem? (i := 36) rfl))) (notFace_of_selects (args := #[]) (mvT hZ (hw _ (List.mem_of_getElem? (i := 38) rfl)))) (mvT hZ (hw _ (List.mem_of_getElem? (i := 38) rfl))) (mvT hZ (hw _ (List.mem_of_getElem? (i := 37) rfl))) (by decide) (backOf (W := 0) (own_rm6 l Z a0 hw [] b1 (((0 + 1) + 1) + 1) T7.heap n0 (Nat.le_trans (Nat.le_trans (Nat.le_trans (Nat.le_trans (Z0) E1.1) K2.1) K3.1) K7.1) F7_b1_branches ) hZ (hw _ (List.mem_of_getElem? (i := 39) rfl)) (hw _ (List.mem_of_getElem? (i := 2) rfl)) (by decide) (by decide)) q10a q10c (g := (mkF m 112 #[.val (.int p1), .val (.int ve), .val (.int va), .val (.int vb), .val (.int vc), .val (.ref b1), .val (.int (own_act ve (own_tk ve 0 va) vb)), .val (.int (own_und ve (own_tk ve (own_tk ve 0 va) vb))), .val (.int (own_one ((0 + 1) + 1))), .val (.int (own_act ve (own_tk ve (own_tk ve 0 va) vb) vc)), .val (.int (own_und ve (own_tk ve (own_tk ve (own_tk ve 0 va) vb) vc))), .unset, .unset, .unset, .unset, .unset] [(.ref b1)])) rfl (by rw [hml]; rfl) (Steps.refl _) (argsL := []) (rest := []) (lenOf own_pd0_2 rfl) rfl (by show 2 * 0 + _ ≤ _; exact Nat.le_of_eq rfl) (hb hby at_112) (fun _ _ => ⟨rfl, e9, (by decide : 1 + 0 ≤ _), (by decide : 6 + 0 ≤ _)⟩)
          dsimp only [Pt.U, Pt.locs, Pt.cells, Pt.slots] at X10 l10 y10 z10 st10 hQ10
          subst l10 y10 z10
          obtain ⟨rfl, Nq10, e10⟩ := hQ10
          have N10 := Fr.app N9 Nq10
          refine own_step (fun t k => st10.trans k) ?_
          show own_Go _ _ _ _ _ _ _ T10 (mkF m 115 #[.val (.int p1), .val (.int ve), .val (.int va), .val (.int vb), .val (.int vc), .val (.ref b1), .val (.int (own_act ve (own_tk ve 0 va) vb)), .val (.int (own_und ve (own_tk ve (own_tk ve 0 va) vb))), .val (.int (own_one ((0 + 1) + 1))), .val (.int (own_act ve (own_tk ve (own_tk ve 0 va) vb) vc)), .val (.int (own_und ve (own_tk ve (own_tk ve (own_tk ve 0 va) vb) vc))), .unset, .unset, .unset, .unset, .unset] [(.int (own_one (((0 + 1) + 1) + 1)))])
          refine own_step (fun t k => XS.istore X10.here hx rfl (hb hby at_115) rfl (l' := #[.val (.int p1), .val (.int ve), .val (.int va), .val (.int vb), .val (.int vc), .val (.ref b1), .val (.int (own_act ve (own_tk ve 0 va) vb)), .val (.int (own_und ve (own_tk ve (own_tk ve 0 va) vb))), .val (.int (own_one ((0 + 1) + 1))), .val (.int (own_act ve (own_tk ve (own_tk ve 0 va) vb) vc)), .val (.int (own_und ve (own_tk ve (own_tk ve (own_tk ve 0 va) vb) vc))), .val (.int (own_one (((0 + 1) + 1) + 1))), .unset, .unset, .unset, .unset]) rfl k) ?_
          show own_Go _ _ _ _ _ _ _ T10 (mkF m 117 #[.val (.int p1), .val (.int ve), .val (.int va), .val (.int vb), .val (.int vc), .val (.ref b1), .val (.int (own_act ve (own_tk ve 0 va) vb)), .val (.int (own_und ve (own_tk ve (own_tk ve 0 va) vb))), .val (.int (own_one ((0 + 1) + 1))), .val (.int (own_act ve (own_tk ve (own_tk ve 0 va) vb) vc)), .val (.int (own_und ve (own_tk ve (own_tk ve (own_tk ve 0 va) vb) vc))), .val (.int (own_one (((0 + 1) + 1) + 1))), .unset, .unset, .unset, .unset] [])
          refine own_step (fun t k => XS.iloadN X10.here hx rfl (hb hby at_117) rfl k) ?_
          have J134 : ∀ x12 : Int32, x12 = own_ea1 ve va vb → own_Go p e below s room_1.cells room_1.slots (own_Q0 Z p1 h0 n0) T10 (mkF m 134 #[.val (.int p1), .val (.int ve), .val (.int va), .val (.int vb), .val (.int vc), .val (.ref b1), .val (.int (own_act ve (own_tk ve 0 va) vb)), .val (.int (own_und ve (own_tk ve (own_tk ve 0 va) vb))), .val (.int (own_one ((0 + 1) + 1))), .val (.int (own_act ve (own_tk ve (own_tk ve 0 va) vb) vc)), .val (.int (own_und ve (own_tk ve (own_tk ve (own_tk ve 0 va) vb) vc))), .val (.int (own_one (((0 + 1) + 1) + 1))), .unset, .unset, .unset, .unset] [(.int x12)]) := by
            intro x12 hx12
            show own_Go _ _ _ _ _ _ _ T10 (mkF m 134 #[.val (.int p1), .val (.int ve), .val (.int va), .val (.int vb), .val (.int vc), .val (.ref b1), .val (.int (own_act ve (own_tk ve 0 va) vb)), .val (.int (own_und ve (own_tk ve (own_tk ve 0 va) vb))), .val (.int (own_one ((0 + 1) + 1))), .val (.int (own_act ve (own_tk ve (own_tk ve 0 va) vb) vc)), .val (.int (own_und ve (own_tk ve (own_tk ve (own_tk ve 0 va) vb) vc))), .val (.int (own_one (((0 + 1) + 1) + 1))), .unset, .unset, .unset, .unset] [(.int x12)])
            refine own_step (fun t k => XS.istore X10.here hx rfl (hb hby at_134) rfl (l' := #[.val (.int p1), .val (.int ve), .val (.int va), .val (.int vb), .val (.int vc), .val (.ref b1), .val (.int (own_act ve (own_tk ve 0 va) vb)), .val (.int (own_und ve (own_tk ve (own_tk ve 0 va) vb))), .val (.int (own_one ((0 + 1) + 1))), .val (.int (own_act ve (own_tk ve (own_tk ve 0 va) vb) vc)), .val (.int (own_und ve (own_tk ve (own_tk ve (own_tk ve 0 va) vb) vc))), .val (.int (own_one (((0 + 1) + 1) + 1))), .val (.int x12), .unset, .unset, .unset]) rfl k) ?_
            show own_Go _ _ _ _ _ _ _ T10 (mkF m 136 #[.val (.int p1), .val (.int ve), .val (.int va), .val (.int vb), .val (.int vc), .val (.ref b1), .val (.int (own_act ve (own_tk ve 0 va) vb)), .val (.int (own_und ve (own_tk ve (own_tk ve 0 va) vb))), .val (.int (own_one ((0 + 1) + 1))), .val (.int (own_act ve (own_tk ve (own_tk ve 0 va) vb) vc)), .val (.int (own_und ve (own_tk ve (own_tk ve (own_tk ve 0 va) vb) vc))), .val (.int (own_one (((0 + 1) + 1) + 1))), .val (.int x12), .unset, .unset, .unset] [])
            refine own_step (fun t k => XS.iloadN X10.here hx rfl (hb hby at_136) rfl k) ?_
            have J153 : ∀ x13 : Int32, x13 = own_eu1 ve va vb → own_Go p e below s room_1.cells room_1.slots (own_Q0 Z p1 h0 n0) T10 (mkF m 153 #[.val (.int p1), .val (.int ve), .val (.int va), .val (.int vb), .val (.int vc), .val (.ref b1), .val (.int (own_act ve (own_tk ve 0 va) vb)), .val (.int (own_und ve (own_tk ve (own_tk ve 0 va) vb))), .val (.int (own_one ((0 + 1) + 1))), .val (.int (own_act ve (own_tk ve (own_tk ve 0 va) vb) vc)), .val (.int (own_und ve (own_tk ve (own_tk ve (own_tk ve 0 va) vb) vc))), .val (.int (own_one (((0 + 1) + 1) + 1))), .val (.int x12), .unset, .unset, .unset] [(.int x13)]) := by
              intro x13 hx13
              show own_Go _ _ _ _ _ _ _ T10 (mkF m 153 #[.val (.int p1), .val (.int ve), .val (.int va), .val (.int vb), .val (.int vc), .val (.ref b1), .val (.int (own_act ve (own_tk ve 0 va) vb)), .val (.int (own_und ve (own_tk ve (own_tk ve 0 va) vb))), .val (.int (own_one ((0 + 1) + 1))), .val (.int (own_act ve (own_tk ve (own_tk ve 0 va) vb) vc)), .val (.int (own_und ve (own_tk ve (own_tk ve (own_tk ve 0 va) vb) vc))), .val (.int (own_one (((0 + 1) + 1) + 1))), .val (.int x12), .unset, .unset, .unset] [(.int x13)])
              refine own_step (fun t k => XS.istore X10.here hx rfl (hb hby at_153) rfl (l' := #[.val (.int p1), .val (.int ve), .val (.int va), .val (.int vb), .val (.int vc), .val (.ref b1), .val (.int (own_act ve (own_tk ve 0 va) vb)), .val (.int (own_und ve (own_tk ve (own_tk ve 0 va) vb))), .val (.int (own_one ((0 + 1) + 1))), .val (.int (own_act ve (own_tk ve (own_tk ve 0 va) vb) vc)), .val (.int (own_und ve (own_tk ve (own_tk ve (own_tk ve 0 va) vb) vc))), .val (.int (own_one (((0 + 1) + 1) + 1))), .val (.int x12), .val (.int x13), .unset, .unset]) rfl k) ?_
              show own_Go _ _ _ _ _ _ _ T10 (mkF m 155 #[.val (.int p1), .val (.int ve), .val (.int va), .val (.int vb), .val (.int vc), .val (.ref b1), .val (.int (own_act ve (own_tk ve 0 va) vb)), .val (.int (own_und ve (own_tk ve (own_tk ve 0 va) vb))), .val (.int (own_one ((0 + 1) + 1))), .val (.int (own_act ve (own_tk ve (own_tk ve 0 va) vb) vc)), .val (.int (own_und ve (own_tk ve (own_tk ve (own_tk ve 0 va) vb) vc))), .val (.int (own_one (((0 + 1) + 1) + 1))), .val (.int x12), .val (.int x13), .unset, .unset] [])
              refine own_step (fun t k => XS.iloadN X10.here hx rfl (hb hby at_155) rfl k) ?_
              have J177 : ∀ x14 : Int32, x14 = own_ea2 ve va vb vc → own_Go p e below s room_1.cells room_1.slots (own_Q0 Z p1 h0 n0) T10 (mkF m 177 #[.val (.int p1), .val (.int ve), .val (.int va), .val (.int vb), .val (.int vc), .val (.ref b1), .val (.int (own_act ve (own_tk ve 0 va) vb)), .val (.int (own_und ve (own_tk ve (own_tk ve 0 va) vb))), .val (.int (own_one ((0 + 1) + 1))), .val (.int (own_act ve (own_tk ve (own_tk ve 0 va) vb) vc)), .val (.int (own_und ve (own_tk ve (own_tk ve (own_tk ve 0 va) vb) vc))), .val (.int (own_one (((0 + 1) + 1) + 1))), .val (.int x12), .val (.int x13), .unset, .unset] [(.int x14)]) := by
                intro x14 hx14
                show own_Go _ _ _ _ _ _ _ T10 (mkF m 177 #[.val (.int p1), .val (.int ve), .val (.int va), .val (.int vb), .val (.int vc), .val (.ref b1), .val (.int (own_act ve (own_tk ve 0 va) vb)), .val (.int (own_und ve (own_tk ve (own_tk ve 0 va) vb))), .val (.int (own_one ((0 + 1) + 1))), .val (.int (own_act ve (own_tk ve (own_tk ve 0 va) vb) vc)), .val (.int (own_und ve (own_tk ve (own_tk ve (own_tk ve 0 va) vb) vc))), .val (.int (own_one (((0 + 1) + 1) + 1))), .val (.int x12), .val (.int x13), .unset, .unset] [(.int x14)])
                refine own_step (fun t k => XS.istore X10.here hx rfl (hb hby at_177) rfl (l' := #[.val (.int p1), .val (.int ve), .val (.int va), .val (.int vb), .val (.int vc), .val (.ref b1), .val (.int (own_act ve (own_tk ve 0 va) vb)), .val (.int (own_und ve (own_tk ve (own_tk ve 0 va) vb))), .val (.int (own_one ((0 + 1) + 1))), .val (.int (own_act ve (own_tk ve (own_tk ve 0 va) vb) vc)), .val (.int (own_und ve (own_tk ve (own_tk ve (own_tk ve 0 va) vb) vc))), .val (.int (own_one (((0 + 1) + 1) + 1))), .val (.int x12), .val (.int x13), .val (.int x14), .unset]) rfl k) ?_
                show own_Go _ _ _ _ _ _ _ T10 (mkF m 179 #[.val (.int p1), .val (.int ve), .val (.int va), .val (.int vb), .val (.int vc), .val (.ref b1), .val (.int (own_act ve (own_tk ve 0 va) vb)), .val (.int (own_und ve (own_tk ve (own_tk ve 0 va) vb))), .val (.int (own_one ((0 + 1) + 1))), .val (.int (own_act ve (own_tk ve (own_tk ve 0 va) vb) vc)), .val (.int (own_und ve (own_tk ve (own_tk ve (own_tk ve 0 va) vb) vc))), .val (.int (own_one (((0 + 1) + 1) + 1))), .val (.int x12), .val (.int x13), .val (.int x14), .unset] [])
                refine own_step (fun t k => XS.iloadN X10.here hx rfl (hb hby at_179) rfl k) ?_
                have J201 : ∀ x15 : Int32, x15 = own_eu2 ve va vb vc → own_Go p e below s room_1.cells room_1.slots (own_Q0 Z p1 h0 n0) T10 (mkF m 201 #[.val (.int p1), .val (.int ve), .val (.int va), .val (.int vb), .val (.int vc), .val (.ref b1), .val (.int (own_act ve (own_tk ve 0 va) vb)), .val (.int (own_und ve (own_tk ve (own_tk ve 0 va) vb))), .val (.int (own_one ((0 + 1) + 1))), .val (.int (own_act ve (own_tk ve (own_tk ve 0 va) vb) vc)), .val (.int (own_und ve (own_tk ve (own_tk ve (own_tk ve 0 va) vb) vc))), .val (.int (own_one (((0 + 1) + 1) + 1))), .val (.int x12), .val (.int x13), .val (.int x14), .unset] [(.int x15)]) := by
                  intro x15 hx15
                  show own_Go _ _ _ _ _ _ _ T10 (mkF m 201 #[.val (.int p1), .val (.int ve), .val (.int va), .val (.int vb), .val (.int vc), .val (.ref b1), .val (.int (own_act ve (own_tk ve 0 va) vb)), .val (.int (own_und ve (own_tk ve (own_tk ve 0 va) vb))), .val (.int (own_one ((0 + 1) + 1))), .val (.int (own_act ve (own_tk ve (own_tk ve 0 va) vb) vc)), .val (.int (own_und ve (own_tk ve (own_tk ve (own_tk ve 0 va) vb) vc))), .val (.int (own_one (((0 + 1) + 1) + 1))), .val (.int x12), .val (.int x13), .val (.int x14), .unset] [(.int x15)])
                  refine own_step (fun t k => XS.istore X10.here hx rfl (hb hby at_201) rfl (l' := #[.val (.int p1), .val (.int ve), .val (.int va), .val (.int vb), .val (.int vc), .val (.ref b1), .val (.int (own_act ve (own_tk ve 0 va) vb)), .val (.int (own_und ve (own_tk ve (own_tk ve 0 va) vb))), .val (.int (own_one ((0 + 1) + 1))), .val (.int (own_act ve (own_tk ve (own_tk ve 0 va) vb) vc)), .val (.int (own_und ve (own_tk ve (own_tk ve (own_tk ve 0 va) vb) vc))), .val (.int (own_one (((0 + 1) + 1) + 1))), .val (.int x12), .val (.int x13), .val (.int x14), .val (.int x15)]) rfl k) ?_
                  show own_Go _ _ _ _ _ _ _ T10 (mkF m 203 #[.val (.int p1), .val (.int ve), .val (.int va), .val (.int vb), .val (.int vc), .val (.ref b1), .val (.int (own_act ve (own_tk ve 0 va) vb)), .val (.int (own_und ve (own_tk ve (own_tk ve 0 va) vb))), .val (.int (own_one ((0 + 1) + 1))), .val (.int (own_act ve (own_tk ve (own_tk ve 0 va) vb) vc)), .val (.int (own_und ve (own_tk ve (own_tk ve (own_tk ve 0 va) vb) vc))), .val (.int (own_one (((0 + 1) + 1) + 1))), .val (.int x12), .val (.int x13), .val (.int x14), .val (.int x15)] [])
                  refine own_step (fun t k => XS.iload X10.here hx rfl (hb hby at_203) rfl k) ?_
                  show own_Go _ _ _ _ _ _ _ T10 (mkF m 205 #[.val (.int p1), .val (.int ve), .val (.int va), .val (.int vb), .val (.int vc), .val (.ref b1), .val (.int (own_act ve (own_tk ve 0 va) vb)), .val (.int (own_und ve (own_tk ve (own_tk ve 0 va) vb))), .val (.int (own_one ((0 + 1) + 1))), .val (.int (own_act ve (own_tk ve (own_tk ve 0 va) vb) vc)), .val (.int (own_und ve (own_tk ve (own_tk ve (own_tk ve 0 va) vb) vc))), .val (.int (own_one (((0 + 1) + 1) + 1))), .val (.int x12), .val (.int x13), .val (.int x14), .val (.int x15)] [(.int (own_act ve (own_tk ve 0 va) vb))])
                  refine own_step (fun t k => XS.iload X10.here hx rfl (hb hby at_205) rfl k) ?_
                  show own_Go _ _ _ _ _ _ _ T10 (mkF m 207 #[.val (.int p1), .val (.int ve), .val (.int va), .val (.int vb), .val (.int vc), .val (.ref b1), .val (.int (own_act ve (own_tk ve 0 va) vb)), .val (.int (own_und ve (own_tk ve (own_tk ve 0 va) vb))), .val (.int (own_one ((0 + 1) + 1))), .val (.int (own_act ve (own_tk ve (own_tk ve 0 va) vb) vc)), .val (.int (own_und ve (own_tk ve (own_tk ve (own_tk ve 0 va) vb) vc))), .val (.int (own_one (((0 + 1) + 1) + 1))), .val (.int x12), .val (.int x13), .val (.int x14), .val (.int x15)] [(.int x12), (.int (own_act ve (own_tk ve 0 va) vb))])
                  refine own_step (fun t k => XS.icmpNo X10.here hx rfl (hb hby at_207) rfl (teq (((own_m1 hve hva hvb).1.trans hx12.symm))).2 k) ?_
                  show own_Go _ _ _ _ _ _ _ T10 (mkF m 210 #[.val (.int p1), .val (.int ve), .val (.int va), .val (.int vb), .val (.int vc), .val (.ref b1), .val (.int (own_act ve (own_tk ve 0 va) vb)), .val (.int (own_und ve (own_tk ve (own_tk ve 0 va) vb))), .val (.int (own_one ((0 + 1) + 1))), .val (.int (own_act ve (own_tk ve (own_tk ve 0 va) vb) vc)), .val (.int (own_und ve (own_tk ve (own_tk ve (own_tk ve 0 va) vb) vc))), .val (.int (own_one (((0 + 1) + 1) + 1))), .val (.int x12), .val (.int x13), .val (.int x14), .val (.int x15)] [])
                  refine own_step (fun t k => XS.iload X10.here hx rfl (hb hby at_210) rfl k) ?_
                  show own_Go _ _ _ _ _ _ _ T10 (mkF m 212 #[.val (.int p1), .val (.int ve), .val (.int va), .val (.int vb), .val (.int vc), .val (.ref b1), .val (.int (own_act ve (own_tk ve 0 va) vb)), .val (.int (own_und ve (own_tk ve (own_tk ve 0 va) vb))), .val (.int (own_one ((0 + 1) + 1))), .val (.int (own_act ve (own_tk ve (own_tk ve 0 va) vb) vc)), .val (.int (own_und ve (own_tk ve (own_tk ve (own_tk ve 0 va) vb) vc))), .val (.int (own_one (((0 + 1) + 1) + 1))), .val (.int x12), .val (.int x13), .val (.int x14), .val (.int x15)] [(.int (own_und ve (own_tk ve (own_tk ve 0 va) vb)))])
                  refine own_step (fun t k => XS.iload X10.here hx rfl (hb hby at_212) rfl k) ?_
                  show own_Go _ _ _ _ _ _ _ T10 (mkF m 214 #[.val (.int p1), .val (.int ve), .val (.int va), .val (.int vb), .val (.int vc), .val (.ref b1), .val (.int (own_act ve (own_tk ve 0 va) vb)), .val (.int (own_und ve (own_tk ve (own_tk ve 0 va) vb))), .val (.int (own_one ((0 + 1) + 1))), .val (.int (own_act ve (own_tk ve (own_tk ve 0 va) vb) vc)), .val (.int (own_und ve (own_tk ve (own_tk ve (own_tk ve 0 va) vb) vc))), .val (.int (own_one (((0 + 1) + 1) + 1))), .val (.int x12), .val (.int x13), .val (.int x14), .val (.int x15)] [(.int x13), (.int (own_und ve (own_tk ve (own_tk ve 0 va) vb)))])
                  refine own_step (fun t k => XS.icmpNo X10.here hx rfl (hb hby at_214) rfl (teq (((own_m1 hve hva hvb).2.trans hx13.symm))).2 k) ?_
                  show own_Go _ _ _ _ _ _ _ T10 (mkF m 217 #[.val (.int p1), .val (.int ve), .val (.int va), .val (.int vb), .val (.int vc), .val (.ref b1), .val (.int (own_act ve (own_tk ve 0 va) vb)), .val (.int (own_und ve (own_tk ve (own_tk ve 0 va) vb))), .val (.int (own_one ((0 + 1) + 1))), .val (.int (own_act ve (own_tk ve (own_tk ve 0 va) vb) vc)), .val (.int (own_und ve (own_tk ve (own_tk ve (own_tk ve 0 va) vb) vc))), .val (.int (own_one (((0 + 1) + 1) + 1))), .val (.int x12), .val (.int x13), .val (.int x14), .val (.int x15)] [])
                  refine own_step (fun t k => XS.iload X10.here hx rfl (hb hby at_217) rfl k) ?_
                  show own_Go _ _ _ _ _ _ _ T10 (mkF m 219 #[.val (.int p1), .val (.int ve), .val (.int va), .val (.int vb), .val (.int vc), .val (.ref b1), .val (.int (own_act ve (own_tk ve 0 va) vb)), .val (.int (own_und ve (own_tk ve (own_tk ve 0 va) vb))), .val (.int (own_one ((0 + 1) + 1))), .val (.int (own_act ve (own_tk ve (own_tk ve 0 va) vb) vc)), .val (.int (own_und ve (own_tk ve (own_tk ve (own_tk ve 0 va) vb) vc))), .val (.int (own_one (((0 + 1) + 1) + 1))), .val (.int x12), .val (.int x13), .val (.int x14), .val (.int x15)] [(.int (own_one ((0 + 1) + 1)))])
                  refine own_step (fun t k => XS.ifNo X10.here hx rfl (hb hby at_219) rfl ((if0 _ _).trans (teq ((by decide))).2) k) ?_
                  show own_Go _ _ _ _ _ _ _ T10 (mkF m 222 #[.val (.int p1), .val (.int ve), .val (.int va), .val (.int vb), .val (.int vc), .val (.ref b1), .val (.int (own_act ve (own_tk ve 0 va) vb)), .val (.int (own_und ve (own_tk ve (own_tk ve 0 va) vb))), .val (.int (own_one ((0 + 1) + 1))), .val (.int (own_act ve (own_tk ve (own_tk ve 0 va) vb) vc)), .val (.int (own_und ve (own_tk ve (own_tk ve (own_tk ve 0 va) vb) vc))), .val (.int (own_one (((0 + 1) + 1) + 1))), .val (.int x12), .val (.int x13), .val (.int x14), .val (.int x15)] [])
                  refine own_step (fun t k => XS.iload X10.here hx rfl (hb hby at_222) rfl k) ?_
                  show own_Go _ _ _ _ _ _ _ T10 (mkF m 224 #[.val (.int p1), .val (.int ve), .val (.int va), .val (.int vb), .val (.int vc), .val (.ref b1), .val (.int (own_act ve (own_tk ve 0 va) vb)), .val (.int (own_und ve (own_tk ve (own_tk ve 0 va) vb))), .val (.int (own_one ((0 + 1) + 1))), .val (.int (own_act ve (own_tk ve (own_tk ve 0 va) vb) vc)), .val (.int (own_und ve (own_tk ve (own_tk ve (own_tk ve 0 va) vb) vc))), .val (.int (own_one (((0 + 1) + 1) + 1))), .val (.int x12), .val (.int x13), .val (.int x14), .val (.int x15)] [(.int (own_act ve (own_tk ve (own_tk ve 0 va) vb) vc))])
                  refine own_step (fun t k => XS.iload X10.here hx rfl (hb hby at_224) rfl k) ?_
                  show own_Go _ _ _ _ _ _ _ T10 (mkF m 226 #[.val (.int p1), .val (.int ve), .val (.int va), .val (.int vb), .val (.int vc), .val (.ref b1), .val (.int (own_act ve (own_tk ve 0 va) vb)), .val (.int (own_und ve (own_tk ve (own_tk ve 0 va) vb))), .val (.int (own_one ((0 + 1) + 1))), .val (.int (own_act ve (own_tk ve (own_tk ve 0 va) vb) vc)), .val (.int (own_und ve (own_tk ve (own_tk ve (own_tk ve 0 va) vb) vc))), .val (.int (own_one (((0 + 1) + 1) + 1))), .val (.int x12), .val (.int x13), .val (.int x14), .val (.int x15)] [(.int x14), (.int (own_act ve (own_tk ve (own_tk ve 0 va) vb) vc))])
                  refine own_step (fun t k => XS.icmpNo X10.here hx rfl (hb hby at_226) rfl (teq (((own_m2 hve hva hvb hvc).1.trans hx14.symm))).2 k) ?_
                  show own_Go _ _ _ _ _ _ _ T10 (mkF m 229 #[.val (.int p1), .val (.int ve), .val (.int va), .val (.int vb), .val (.int vc), .val (.ref b1), .val (.int (own_act ve (own_tk ve 0 va) vb)), .val (.int (own_und ve (own_tk ve (own_tk ve 0 va) vb))), .val (.int (own_one ((0 + 1) + 1))), .val (.int (own_act ve (own_tk ve (own_tk ve 0 va) vb) vc)), .val (.int (own_und ve (own_tk ve (own_tk ve (own_tk ve 0 va) vb) vc))), .val (.int (own_one (((0 + 1) + 1) + 1))), .val (.int x12), .val (.int x13), .val (.int x14), .val (.int x15)] [])
                  refine own_step (fun t k => XS.iload X10.here hx rfl (hb hby at_229) rfl k) ?_
                  show own_Go _ _ _ _ _ _ _ T10 (mkF m 231 #[.val (.int p1), .val (.int ve), .val (.int va), .val (.int vb), .val (.int vc), .val (.ref b1), .val (.int (own_act ve (own_tk ve 0 va) vb)), .val (.int (own_und ve (own_tk ve (own_tk ve 0 va) vb))), .val (.int (own_one ((0 + 1) + 1))), .val (.int (own_act ve (own_tk ve (own_tk ve 0 va) vb) vc)), .val (.int (own_und ve (own_tk ve (own_tk ve (own_tk ve 0 va) vb) vc))), .val (.int (own_one (((0 + 1) + 1) + 1))), .val (.int x12), .val (.int x13), .val (.int x14), .val (.int x15)] [(.int (own_und ve (own_tk ve (own_tk ve (own_tk ve 0 va) vb) vc)))])
                  refine own_step (fun t k => XS.iload X10.here hx rfl (hb hby at_231) rfl k) ?_
                  show own_Go _ _ _ _ _ _ _ T10 (mkF m 233 #[.val (.int p1), .val (.int ve), .val (.int va), .val (.int vb), .val (.int vc), .val (.ref b1), .val (.int (own_act ve (own_tk ve 0 va) vb)), .val (.int (own_und ve (own_tk ve (own_tk ve 0 va) vb))), .val (.int (own_one ((0 + 1) + 1))), .val (.int (own_act ve (own_tk ve (own_tk ve 0 va) vb) vc)), .val (.int (own_und ve (own_tk ve (own_tk ve (own_tk ve 0 va) vb) vc))), .val (.int (own_one (((0 + 1) + 1) + 1))), .val (.int x12), .val (.int x13), .val (.int x14), .val (.int x15)] [(.int x15), (.int (own_und ve (own_tk ve (own_tk ve (own_tk ve 0 va) vb) vc)))])
                  refine own_step (fun t k => XS.icmpNo X10.here hx rfl (hb hby at_233) rfl (teq (((own_m2 hve hva hvb hvc).2.trans hx15.symm))).2 k) ?_
                  show own_Go _ _ _ _ _ _ _ T10 (mkF m 236 #[.val (.int p1), .val (.int ve), .val (.int va), .val (.int vb), .val (.int vc), .val (.ref b1), .val (.int (own_act ve (own_tk ve 0 va) vb)), .val (.int (own_und ve (own_tk ve (own_tk ve 0 va) vb))), .val (.int (own_one ((0 + 1) + 1))), .val (.int (own_act ve (own_tk ve (own_tk ve 0 va) vb) vc)), .val (.int (own_und ve (own_tk ve (own_tk ve (own_tk ve 0 va) vb) vc))), .val (.int (own_one (((0 + 1) + 1) + 1))), .val (.int x12), .val (.int x13), .val (.int x14), .val (.int x15)] [])
                  refine own_step (fun t k => XS.iload X10.here hx rfl (hb hby at_236) rfl k) ?_
                  show own_Go _ _ _ _ _ _ _ T10 (mkF m 238 #[.val (.int p1), .val (.int ve), .val (.int va), .val (.int vb), .val (.int vc), .val (.ref b1), .val (.int (own_act ve (own_tk ve 0 va) vb)), .val (.int (own_und ve (own_tk ve (own_tk ve 0 va) vb))), .val (.int (own_one ((0 + 1) + 1))), .val (.int (own_act ve (own_tk ve (own_tk ve 0 va) vb) vc)), .val (.int (own_und ve (own_tk ve (own_tk ve (own_tk ve 0 va) vb) vc))), .val (.int (own_one (((0 + 1) + 1) + 1))), .val (.int x12), .val (.int x13), .val (.int x14), .val (.int x15)] [(.int (own_one (((0 + 1) + 1) + 1)))])
                  refine own_step (fun t k => XS.ifNo X10.here hx rfl (hb hby at_238) rfl ((if0 _ _).trans (teq ((by decide))).2) k) ?_
                  show own_Go _ _ _ _ _ _ _ T10 (mkF m 241 #[.val (.int p1), .val (.int ve), .val (.int va), .val (.int vb), .val (.int vc), .val (.ref b1), .val (.int (own_act ve (own_tk ve 0 va) vb)), .val (.int (own_und ve (own_tk ve (own_tk ve 0 va) vb))), .val (.int (own_one ((0 + 1) + 1))), .val (.int (own_act ve (own_tk ve (own_tk ve 0 va) vb) vc)), .val (.int (own_und ve (own_tk ve (own_tk ve (own_tk ve 0 va) vb) vc))), .val (.int (own_one (((0 + 1) + 1) + 1))), .val (.int x12), .val (.int x13), .val (.int x14), .val (.int x15)] [])
                  refine own_step (fun t k => XS.iconst X10.here hx rfl (hb hby at_241) k) ?_
                  show own_Go _ _ _ _ _ _ _ T10 (mkF m 242 #[.val (.int p1), .val (.int ve), .val (.int va), .val (.int vb), .val (.int vc), .val (.ref b1), .val (.int (own_act ve (own_tk ve 0 va) vb)), .val (.int (own_und ve (own_tk ve (own_tk ve 0 va) vb))), .val (.int (own_one ((0 + 1) + 1))), .val (.int (own_act ve (own_tk ve (own_tk ve 0 va) vb) vc)), .val (.int (own_und ve (own_tk ve (own_tk ve (own_tk ve 0 va) vb) vc))), .val (.int (own_one (((0 + 1) + 1) + 1))), .val (.int x12), .val (.int x13), .val (.int x14), .val (.int x15)] [(.int (1 : Int32))])
                  refine own_step (fun t k => XS.goto X10.here hx rfl (pc0 := 242) (pc' := 246) rfl (hb hby at_242) (by decide) (by decide) k) ?_
                  show own_Go _ _ _ _ _ _ _ T10 (mkF m 246 #[.val (.int p1), .val (.int ve), .val (.int va), .val (.int vb), .val (.int vc), .val (.ref b1), .val (.int (own_act ve (own_tk ve 0 va) vb)), .val (.int (own_und ve (own_tk ve (own_tk ve 0 va) vb))), .val (.int (own_one ((0 + 1) + 1))), .val (.int (own_act ve (own_tk ve (own_tk ve 0 va) vb) vc)), .val (.int (own_und ve (own_tk ve (own_tk ve (own_tk ve 0 va) vb) vc))), .val (.int (own_one (((0 + 1) + 1) + 1))), .val (.int x12), .val (.int x13), .val (.int x14), .val (.int x15)] [(.int (1 : Int32))])
                  refine own_ret X10 hx hlk Bd.returns rfl (Or.inl ⟨rfl, Or.inr (Or.inl rfl), _, rfl⟩) (hb hby at_246) (by decide) (by decide) ?_
                  show own_Q0 Z p1 h0 n0 (some (.int (1 : Int32))) T10.heap _
                  exact ⟨rfl, N10⟩
                rcases Classical.em (ve = (0 : Int32)) with c180_11 | c180_11
                · show own_Go _ _ _ _ _ _ _ T10 (mkF m 180 #[.val (.int p1), .val (.int ve), .val (.int va), .val (.int vb), .val (.int vc), .val (.ref b1), .val (.int (own_act ve (own_tk ve 0 va) vb)), .val (.int (own_und ve (own_tk ve (own_tk ve 0 va) vb))), .val (.int (own_one ((0 + 1) + 1))), .val (.int (own_act ve (own_tk ve (own_tk ve 0 va) vb) vc)), .val (.int (own_und ve (own_tk ve (own_tk ve (own_tk ve 0 va) vb) vc))), .val (.int (own_one (((0 + 1) + 1) + 1))), .val (.int x12), .val (.int x13), .val (.int x14), .unset] [(.int ve)])
                  refine own_step (fun t k => XS.ifYes X10.here hx rfl (pc0 := 180) (pc' := 200) rfl (hb hby at_180) rfl ((if0 _ _).trans (teq (c180_11)).1) (by decide) (by decide) k) ?_
                  show own_Go _ _ _ _ _ _ _ T10 (mkF m 200 #[.val (.int p1), .val (.int ve), .val (.int va), .val (.int vb), .val (.int vc), .val (.ref b1), .val (.int (own_act ve (own_tk ve 0 va) vb)), .val (.int (own_und ve (own_tk ve (own_tk ve 0 va) vb))), .val (.int (own_one ((0 + 1) + 1))), .val (.int (own_act ve (own_tk ve (own_tk ve 0 va) vb) vc)), .val (.int (own_und ve (own_tk ve (own_tk ve (own_tk ve 0 va) vb) vc))), .val (.int (own_one (((0 + 1) + 1) + 1))), .val (.int x12), .val (.int x13), .val (.int x14), .unset] [])
                  refine own_step (fun t k => XS.iconst X10.here hx rfl (hb hby at_200) k) ?_
                  show own_Go _ _ _ _ _ _ _ T10 (mkF m 201 #[.val (.int p1), .val (.int ve), .val (.int va), .val (.int vb), .val (.int vc), .val (.ref b1), .val (.int (own_act ve (own_tk ve 0 va) vb)), .val (.int (own_und ve (own_tk ve (own_tk ve 0 va) vb))), .val (.int (own_one ((0 + 1) + 1))), .val (.int (own_act ve (own_tk ve (own_tk ve 0 va) vb) vc)), .val (.int (own_und ve (own_tk ve (own_tk ve (own_tk ve 0 va) vb) vc))), .val (.int (own_one (((0 + 1) + 1) + 1))), .val (.int x12), .val (.int x13), .val (.int x14), .unset] [(.int (0 : Int32))])
                  exact J201 _ (by simp [own_eu2, c180_11])
                · show own_Go _ _ _ _ _ _ _ T10 (mkF m 180 #[.val (.int p1), .val (.int ve), .val (.int va), .val (.int vb), .val (.int vc), .val (.ref b1), .val (.int (own_act ve (own_tk ve 0 va) vb)), .val (.int (own_und ve (own_tk ve (own_tk ve 0 va) vb))), .val (.int (own_one ((0 + 1) + 1))), .val (.int (own_act ve (own_tk ve (own_tk ve 0 va) vb) vc)), .val (.int (own_und ve (own_tk ve (own_tk ve (own_tk ve 0 va) vb) vc))), .val (.int (own_one (((0 + 1) + 1) + 1))), .val (.int x12), .val (.int x13), .val (.int x14), .unset] [(.int ve)])
                  refine own_step (fun t k => XS.ifNo X10.here hx rfl (hb hby at_180) rfl ((if0 _ _).trans (feq (c180_11)).1) k) ?_
                  show own_Go _ _ _ _ _ _ _ T10 (mkF m 183 #[.val (.int p1), .val (.int ve), .val (.int va), .val (.int vb), .val (.int vc), .val (.ref b1), .val (.int (own_act ve (own_tk ve 0 va) vb)), .val (.int (own_und ve (own_tk ve (own_tk ve 0 va) vb))), .val (.int (own_one ((0 + 1) + 1))), .val (.int (own_act ve (own_tk ve (own_tk ve 0 va) vb) vc)), .val (.int (own_und ve (own_tk ve (own_tk ve (own_tk ve 0 va) vb) vc))), .val (.int (own_one (((0 + 1) + 1) + 1))), .val (.int x12), .val (.int x13), .val (.int x14), .unset] [])
                  refine own_step (fun t k => XS.iloadN X10.here hx rfl (hb hby at_183) rfl k) ?_
                  rcases Classical.em (va = (0 : Int32)) with c184_12 | c184_12
                  · show own_Go _ _ _ _ _ _ _ T10 (mkF m 184 #[.val (.int p1), .val (.int ve), .val (.int va), .val (.int vb), .val (.int vc), .val (.ref b1), .val (.int (own_act ve (own_tk ve 0 va) vb)), .val (.int (own_und ve (own_tk ve (own_tk ve 0 va) vb))), .val (.int (own_one ((0 + 1) + 1))), .val (.int (own_act ve (own_tk ve (own_tk ve 0 va) vb) vc)), .val (.int (own_und ve (own_tk ve (own_tk ve (own_tk ve 0 va) vb) vc))), .val (.int (own_one (((0 + 1) + 1) + 1))), .val (.int x12), .val (.int x13), .val (.int x14), .unset] [(.int va)])
                    refine own_step (fun t k => XS.ifNo X10.here hx rfl (hb hby at_184) rfl ((if0 _ _).trans (teq (c184_12)).2) k) ?_
                    show own_Go _ _ _ _ _ _ _ T10 (mkF m 187 #[.val (.int p1), .val (.int ve), .val (.int va), .val (.int vb), .val (.int vc), .val (.ref b1), .val (.int (own_act ve (own_tk ve 0 va) vb)), .val (.int (own_und ve (own_tk ve (own_tk ve 0 va) vb))), .val (.int (own_one ((0 + 1) + 1))), .val (.int (own_act ve (own_tk ve (own_tk ve 0 va) vb) vc)), .val (.int (own_und ve (own_tk ve (own_tk ve (own_tk ve 0 va) vb) vc))), .val (.int (own_one (((0 + 1) + 1) + 1))), .val (.int x12), .val (.int x13), .val (.int x14), .unset] [])
                    refine own_step (fun t k => XS.iloadN X10.here hx rfl (hb hby at_187) rfl k) ?_
                    rcases Classical.em (vb = (0 : Int32)) with c188_13 | c188_13
                    · show own_Go _ _ _ _ _ _ _ T10 (mkF m 188 #[.val (.int p1), .val (.int ve), .val (.int va), .val (.int vb), .val (.int vc), .val (.ref b1), .val (.int (own_act ve (own_tk ve 0 va) vb)), .val (.int (own_und ve (own_tk ve (own_tk ve 0 va) vb))), .val (.int (own_one ((0 + 1) + 1))), .val (.int (own_act ve (own_tk ve (own_tk ve 0 va) vb) vc)), .val (.int (own_und ve (own_tk ve (own_tk ve (own_tk ve 0 va) vb) vc))), .val (.int (own_one (((0 + 1) + 1) + 1))), .val (.int x12), .val (.int x13), .val (.int x14), .unset] [(.int vb)])
                      refine own_step (fun t k => XS.ifNo X10.here hx rfl (hb hby at_188) rfl ((if0 _ _).trans (teq (c188_13)).2) k) ?_
                      show own_Go _ _ _ _ _ _ _ T10 (mkF m 191 #[.val (.int p1), .val (.int ve), .val (.int va), .val (.int vb), .val (.int vc), .val (.ref b1), .val (.int (own_act ve (own_tk ve 0 va) vb)), .val (.int (own_und ve (own_tk ve (own_tk ve 0 va) vb))), .val (.int (own_one ((0 + 1) + 1))), .val (.int (own_act ve (own_tk ve (own_tk ve 0 va) vb) vc)), .val (.int (own_und ve (own_tk ve (own_tk ve (own_tk ve 0 va) vb) vc))), .val (.int (own_one (((0 + 1) + 1) + 1))), .val (.int x12), .val (.int x13), .val (.int x14), .unset] [])
                      refine own_step (fun t k => XS.iload X10.here hx rfl (hb hby at_191) rfl k) ?_
                      rcases Classical.em (vc = (0 : Int32)) with c193_14 | c193_14
                      · show own_Go _ _ _ _ _ _ _ T10 (mkF m 193 #[.val (.int p1), .val (.int ve), .val (.int va), .val (.int vb), .val (.int vc), .val (.ref b1), .val (.int (own_act ve (own_tk ve 0 va) vb)), .val (.int (own_und ve (own_tk ve (own_tk ve 0 va) vb))), .val (.int (own_one ((0 + 1) + 1))), .val (.int (own_act ve (own_tk ve (own_tk ve 0 va) vb) vc)), .val (.int (own_und ve (own_tk ve (own_tk ve (own_tk ve 0 va) vb) vc))), .val (.int (own_one (((0 + 1) + 1) + 1))), .val (.int x12), .val (.int x13), .val (.int x14), .unset] [(.int vc)])
                        refine own_step (fun t k => XS.ifNo X10.here hx rfl (hb hby at_193) rfl ((if0 _ _).trans (teq (c193_14)).2) k) ?_
                        show own_Go _ _ _ _ _ _ _ T10 (mkF m 196 #[.val (.int p1), .val (.int ve), .val (.int va), .val (.int vb), .val (.int vc), .val (.ref b1), .val (.int (own_act ve (own_tk ve 0 va) vb)), .val (.int (own_und ve (own_tk ve (own_tk ve 0 va) vb))), .val (.int (own_one ((0 + 1) + 1))), .val (.int (own_act ve (own_tk ve (own_tk ve 0 va) vb) vc)), .val (.int (own_und ve (own_tk ve (own_tk ve (own_tk ve 0 va) vb) vc))), .val (.int (own_one (((0 + 1) + 1) + 1))), .val (.int x12), .val (.int x13), .val (.int x14), .unset] [])
                        refine own_step (fun t k => XS.iconst X10.here hx rfl (hb hby at_196) k) ?_
                        show own_Go _ _ _ _ _ _ _ T10 (mkF m 197 #[.val (.int p1), .val (.int ve), .val (.int va), .val (.int vb), .val (.int vc), .val (.ref b1), .val (.int (own_act ve (own_tk ve 0 va) vb)), .val (.int (own_und ve (own_tk ve (own_tk ve 0 va) vb))), .val (.int (own_one ((0 + 1) + 1))), .val (.int (own_act ve (own_tk ve (own_tk ve 0 va) vb) vc)), .val (.int (own_und ve (own_tk ve (own_tk ve (own_tk ve 0 va) vb) vc))), .val (.int (own_one (((0 + 1) + 1) + 1))), .val (.int x12), .val (.int x13), .val (.int x14), .unset] [(.int (1 : Int32))])
                        refine own_step (fun t k => XS.goto X10.here hx rfl (pc0 := 197) (pc' := 201) rfl (hb hby at_197) (by decide) (by decide) k) ?_
                        show own_Go _ _ _ _ _ _ _ T10 (mkF m 201 #[.val (.int p1), .val (.int ve), .val (.int va), .val (.int vb), .val (.int vc), .val (.ref b1), .val (.int (own_act ve (own_tk ve 0 va) vb)), .val (.int (own_und ve (own_tk ve (own_tk ve 0 va) vb))), .val (.int (own_one ((0 + 1) + 1))), .val (.int (own_act ve (own_tk ve (own_tk ve 0 va) vb) vc)), .val (.int (own_und ve (own_tk ve (own_tk ve (own_tk ve 0 va) vb) vc))), .val (.int (own_one (((0 + 1) + 1) + 1))), .val (.int x12), .val (.int x13), .val (.int x14), .unset] [(.int (1 : Int32))])
                        exact J201 _ (by simp [own_eu2, c180_11, c184_12, c188_13, c193_14])
                      · show own_Go _ _ _ _ _ _ _ T10 (mkF m 193 #[.val (.int p1), .val (.int ve), .val (.int va), .val (.int vb), .val (.int vc), .val (.ref b1), .val (.int (own_act ve (own_tk ve 0 va) vb)), .val (.int (own_und ve (own_tk ve (own_tk ve 0 va) vb))), .val (.int (own_one ((0 + 1) + 1))), .val (.int (own_act ve (own_tk ve (own_tk ve 0 va) vb) vc)), .val (.int (own_und ve (own_tk ve (own_tk ve (own_tk ve 0 va) vb) vc))), .val (.int (own_one (((0 + 1) + 1) + 1))), .val (.int x12), .val (.int x13), .val (.int x14), .unset] [(.int vc)])
                        refine own_step (fun t k => XS.ifYes X10.here hx rfl (pc0 := 193) (pc' := 200) rfl (hb hby at_193) rfl ((if0 _ _).trans (feq (c193_14)).2) (by decide) (by decide) k) ?_
                        show own_Go _ _ _ _ _ _ _ T10 (mkF m 200 #[.val (.int p1), .val (.int ve), .val (.int va), .val (.int vb), .val (.int vc), .val (.ref b1), .val (.int (own_act ve (own_tk ve 0 va) vb)), .val (.int (own_und ve (own_tk ve (own_tk ve 0 va) vb))), .val (.int (own_one ((0 + 1) + 1))), .val (.int (own_act ve (own_tk ve (own_tk ve 0 va) vb) vc)), .val (.int (own_und ve (own_tk ve (own_tk ve (own_tk ve 0 va) vb) vc))), .val (.int (own_one (((0 + 1) + 1) + 1))), .val (.int x12), .val (.int x13), .val (.int x14), .unset] [])
                        refine own_step (fun t k => XS.iconst X10.here hx rfl (hb hby at_200) k) ?_
                        show own_Go _ _ _ _ _ _ _ T10 (mkF m 201 #[.val (.int p1), .val (.int ve), .val (.int va), .val (.int vb), .val (.int vc), .val (.ref b1), .val (.int (own_act ve (own_tk ve 0 va) vb)), .val (.int (own_und ve (own_tk ve (own_tk ve 0 va) vb))), .val (.int (own_one ((0 + 1) + 1))), .val (.int (own_act ve (own_tk ve (own_tk ve 0 va) vb) vc)), .val (.int (own_und ve (own_tk ve (own_tk ve (own_tk ve 0 va) vb) vc))), .val (.int (own_one (((0 + 1) + 1) + 1))), .val (.int x12), .val (.int x13), .val (.int x14), .unset] [(.int (0 : Int32))])
                        exact J201 _ (by simp [own_eu2, c180_11, c184_12, c188_13, c193_14])
                    · show own_Go _ _ _ _ _ _ _ T10 (mkF m 188 #[.val (.int p1), .val (.int ve), .val (.int va), .val (.int vb), .val (.int vc), .val (.ref b1), .val (.int (own_act ve (own_tk ve 0 va) vb)), .val (.int (own_und ve (own_tk ve (own_tk ve 0 va) vb))), .val (.int (own_one ((0 + 1) + 1))), .val (.int (own_act ve (own_tk ve (own_tk ve 0 va) vb) vc)), .val (.int (own_und ve (own_tk ve (own_tk ve (own_tk ve 0 va) vb) vc))), .val (.int (own_one (((0 + 1) + 1) + 1))), .val (.int x12), .val (.int x13), .val (.int x14), .unset] [(.int vb)])
                      refine own_step (fun t k => XS.ifYes X10.here hx rfl (pc0 := 188) (pc' := 200) rfl (hb hby at_188) rfl ((if0 _ _).trans (feq (c188_13)).2) (by decide) (by decide) k) ?_
                      show own_Go _ _ _ _ _ _ _ T10 (mkF m 200 #[.val (.int p1), .val (.int ve), .val (.int va), .val (.int vb), .val (.int vc), .val (.ref b1), .val (.int (own_act ve (own_tk ve 0 va) vb)), .val (.int (own_und ve (own_tk ve (own_tk ve 0 va) vb))), .val (.int (own_one ((0 + 1) + 1))), .val (.int (own_act ve (own_tk ve (own_tk ve 0 va) vb) vc)), .val (.int (own_und ve (own_tk ve (own_tk ve (own_tk ve 0 va) vb) vc))), .val (.int (own_one (((0 + 1) + 1) + 1))), .val (.int x12), .val (.int x13), .val (.int x14), .unset] [])
                      refine own_step (fun t k => XS.iconst X10.here hx rfl (hb hby at_200) k) ?_
                      show own_Go _ _ _ _ _ _ _ T10 (mkF m 201 #[.val (.int p1), .val (.int ve), .val (.int va), .val (.int vb), .val (.int vc), .val (.ref b1), .val (.int (own_act ve (own_tk ve 0 va) vb)), .val (.int (own_und ve (own_tk ve (own_tk ve 0 va) vb))), .val (.int (own_one ((0 + 1) + 1))), .val (.int (own_act ve (own_tk ve (own_tk ve 0 va) vb) vc)), .val (.int (own_und ve (own_tk ve (own_tk ve (own_tk ve 0 va) vb) vc))), .val (.int (own_one (((0 + 1) + 1) + 1))), .val (.int x12), .val (.int x13), .val (.int x14), .unset] [(.int (0 : Int32))])
                      exact J201 _ (by simp [own_eu2, c180_11, c184_12, c188_13])
                  · show own_Go _ _ _ _ _ _ _ T10 (mkF m 184 #[.val (.int p1), .val (.int ve), .val (.int va), .val (.int vb), .val (.int vc), .val (.ref b1), .val (.int (own_act ve (own_tk ve 0 va) vb)), .val (.int (own_und ve (own_tk ve (own_tk ve 0 va) vb))), .val (.int (own_one ((0 + 1) + 1))), .val (.int (own_act ve (own_tk ve (own_tk ve 0 va) vb) vc)), .val (.int (own_und ve (own_tk ve (own_tk ve (own_tk ve 0 va) vb) vc))), .val (.int (own_one (((0 + 1) + 1) + 1))), .val (.int x12), .val (.int x13), .val (.int x14), .unset] [(.int va)])
                    refine own_step (fun t k => XS.ifYes X10.here hx rfl (pc0 := 184) (pc' := 200) rfl (hb hby at_184) rfl ((if0 _ _).trans (feq (c184_12)).2) (by decide) (by decide) k) ?_
                    show own_Go _ _ _ _ _ _ _ T10 (mkF m 200 #[.val (.int p1), .val (.int ve), .val (.int va), .val (.int vb), .val (.int vc), .val (.ref b1), .val (.int (own_act ve (own_tk ve 0 va) vb)), .val (.int (own_und ve (own_tk ve (own_tk ve 0 va) vb))), .val (.int (own_one ((0 + 1) + 1))), .val (.int (own_act ve (own_tk ve (own_tk ve 0 va) vb) vc)), .val (.int (own_und ve (own_tk ve (own_tk ve (own_tk ve 0 va) vb) vc))), .val (.int (own_one (((0 + 1) + 1) + 1))), .val (.int x12), .val (.int x13), .val (.int x14), .unset] [])
                    refine own_step (fun t k => XS.iconst X10.here hx rfl (hb hby at_200) k) ?_
                    show own_Go _ _ _ _ _ _ _ T10 (mkF m 201 #[.val (.int p1), .val (.int ve), .val (.int va), .val (.int vb), .val (.int vc), .val (.ref b1), .val (.int (own_act ve (own_tk ve 0 va) vb)), .val (.int (own_und ve (own_tk ve (own_tk ve 0 va) vb))), .val (.int (own_one ((0 + 1) + 1))), .val (.int (own_act ve (own_tk ve (own_tk ve 0 va) vb) vc)), .val (.int (own_und ve (own_tk ve (own_tk ve (own_tk ve 0 va) vb) vc))), .val (.int (own_one (((0 + 1) + 1) + 1))), .val (.int x12), .val (.int x13), .val (.int x14), .unset] [(.int (0 : Int32))])
                    exact J201 _ (by simp [own_eu2, c180_11, c184_12])
              rcases Classical.em (ve = (0 : Int32)) with c156_15 | c156_15
              · show own_Go _ _ _ _ _ _ _ T10 (mkF m 156 #[.val (.int p1), .val (.int ve), .val (.int va), .val (.int vb), .val (.int vc), .val (.ref b1), .val (.int (own_act ve (own_tk ve 0 va) vb)), .val (.int (own_und ve (own_tk ve (own_tk ve 0 va) vb))), .val (.int (own_one ((0 + 1) + 1))), .val (.int (own_act ve (own_tk ve (own_tk ve 0 va) vb) vc)), .val (.int (own_und ve (own_tk ve (own_tk ve (own_tk ve 0 va) vb) vc))), .val (.int (own_one (((0 + 1) + 1) + 1))), .val (.int x12), .val (.int x13), .unset, .unset] [(.int ve)])
                refine own_step (fun t k => XS.ifYes X10.here hx rfl (pc0 := 156) (pc' := 176) rfl (hb hby at_156) rfl ((if0 _ _).trans (teq (c156_15)).1) (by decide) (by decide) k) ?_
                show own_Go _ _ _ _ _ _ _ T10 (mkF m 176 #[.val (.int p1), .val (.int ve), .val (.int va), .val (.int vb), .val (.int vc), .val (.ref b1), .val (.int (own_act ve (own_tk ve 0 va) vb)), .val (.int (own_und ve (own_tk ve (own_tk ve 0 va) vb))), .val (.int (own_one ((0 + 1) + 1))), .val (.int (own_act ve (own_tk ve (own_tk ve 0 va) vb) vc)), .val (.int (own_und ve (own_tk ve (own_tk ve (own_tk ve 0 va) vb) vc))), .val (.int (own_one (((0 + 1) + 1) + 1))), .val (.int x12), .val (.int x13), .unset, .unset] [])
                refine own_step (fun t k => XS.iconst X10.here hx rfl (hb hby at_176) k) ?_
                show own_Go _ _ _ _ _ _ _ T10 (mkF m 177 #[.val (.int p1), .val (.int ve), .val (.int va), .val (.int vb), .val (.int vc), .val (.ref b1), .val (.int (own_act ve (own_tk ve 0 va) vb)), .val (.int (own_und ve (own_tk ve (own_tk ve 0 va) vb))), .val (.int (own_one ((0 + 1) + 1))), .val (.int (own_act ve (own_tk ve (own_tk ve 0 va) vb) vc)), .val (.int (own_und ve (own_tk ve (own_tk ve (own_tk ve 0 va) vb) vc))), .val (.int (own_one (((0 + 1) + 1) + 1))), .val (.int x12), .val (.int x13), .unset, .unset] [(.int (0 : Int32))])
                exact J177 _ (by simp [own_ea2, c156_15])
              · show own_Go _ _ _ _ _ _ _ T10 (mkF m 156 #[.val (.int p1), .val (.int ve), .val (.int va), .val (.int vb), .val (.int vc), .val (.ref b1), .val (.int (own_act ve (own_tk ve 0 va) vb)), .val (.int (own_und ve (own_tk ve (own_tk ve 0 va) vb))), .val (.int (own_one ((0 + 1) + 1))), .val (.int (own_act ve (own_tk ve (own_tk ve 0 va) vb) vc)), .val (.int (own_und ve (own_tk ve (own_tk ve (own_tk ve 0 va) vb) vc))), .val (.int (own_one (((0 + 1) + 1) + 1))), .val (.int x12), .val (.int x13), .unset, .unset] [(.int ve)])
                refine own_step (fun t k => XS.ifNo X10.here hx rfl (hb hby at_156) rfl ((if0 _ _).trans (feq (c156_15)).1) k) ?_
                show own_Go _ _ _ _ _ _ _ T10 (mkF m 159 #[.val (.int p1), .val (.int ve), .val (.int va), .val (.int vb), .val (.int vc), .val (.ref b1), .val (.int (own_act ve (own_tk ve 0 va) vb)), .val (.int (own_und ve (own_tk ve (own_tk ve 0 va) vb))), .val (.int (own_one ((0 + 1) + 1))), .val (.int (own_act ve (own_tk ve (own_tk ve 0 va) vb) vc)), .val (.int (own_und ve (own_tk ve (own_tk ve (own_tk ve 0 va) vb) vc))), .val (.int (own_one (((0 + 1) + 1) + 1))), .val (.int x12), .val (.int x13), .unset, .unset] [])
                refine own_step (fun t k => XS.iloadN X10.here hx rfl (hb hby at_159) rfl k) ?_
                rcases Classical.em (va = (0 : Int32)) with c160_16 | c160_16
                · show own_Go _ _ _ _ _ _ _ T10 (mkF m 160 #[.val (.int p1), .val (.int ve), .val (.int va), .val (.int vb), .val (.int vc), .val (.ref b1), .val (.int (own_act ve (own_tk ve 0 va) vb)), .val (.int (own_und ve (own_tk ve (own_tk ve 0 va) vb))), .val (.int (own_one ((0 + 1) + 1))), .val (.int (own_act ve (own_tk ve (own_tk ve 0 va) vb) vc)), .val (.int (own_und ve (own_tk ve (own_tk ve (own_tk ve 0 va) vb) vc))), .val (.int (own_one (((0 + 1) + 1) + 1))), .val (.int x12), .val (.int x13), .unset, .unset] [(.int va)])
                  refine own_step (fun t k => XS.ifNo X10.here hx rfl (hb hby at_160) rfl ((if0 _ _).trans (teq (c160_16)).2) k) ?_
                  show own_Go _ _ _ _ _ _ _ T10 (mkF m 163 #[.val (.int p1), .val (.int ve), .val (.int va), .val (.int vb), .val (.int vc), .val (.ref b1), .val (.int (own_act ve (own_tk ve 0 va) vb)), .val (.int (own_und ve (own_tk ve (own_tk ve 0 va) vb))), .val (.int (own_one ((0 + 1) + 1))), .val (.int (own_act ve (own_tk ve (own_tk ve 0 va) vb) vc)), .val (.int (own_und ve (own_tk ve (own_tk ve (own_tk ve 0 va) vb) vc))), .val (.int (own_one (((0 + 1) + 1) + 1))), .val (.int x12), .val (.int x13), .unset, .unset] [])
                  refine own_step (fun t k => XS.iloadN X10.here hx rfl (hb hby at_163) rfl k) ?_
                  rcases Classical.em (vb = (0 : Int32)) with c164_17 | c164_17
                  · show own_Go _ _ _ _ _ _ _ T10 (mkF m 164 #[.val (.int p1), .val (.int ve), .val (.int va), .val (.int vb), .val (.int vc), .val (.ref b1), .val (.int (own_act ve (own_tk ve 0 va) vb)), .val (.int (own_und ve (own_tk ve (own_tk ve 0 va) vb))), .val (.int (own_one ((0 + 1) + 1))), .val (.int (own_act ve (own_tk ve (own_tk ve 0 va) vb) vc)), .val (.int (own_und ve (own_tk ve (own_tk ve (own_tk ve 0 va) vb) vc))), .val (.int (own_one (((0 + 1) + 1) + 1))), .val (.int x12), .val (.int x13), .unset, .unset] [(.int vb)])
                    refine own_step (fun t k => XS.ifNo X10.here hx rfl (hb hby at_164) rfl ((if0 _ _).trans (teq (c164_17)).2) k) ?_
                    show own_Go _ _ _ _ _ _ _ T10 (mkF m 167 #[.val (.int p1), .val (.int ve), .val (.int va), .val (.int vb), .val (.int vc), .val (.ref b1), .val (.int (own_act ve (own_tk ve 0 va) vb)), .val (.int (own_und ve (own_tk ve (own_tk ve 0 va) vb))), .val (.int (own_one ((0 + 1) + 1))), .val (.int (own_act ve (own_tk ve (own_tk ve 0 va) vb) vc)), .val (.int (own_und ve (own_tk ve (own_tk ve (own_tk ve 0 va) vb) vc))), .val (.int (own_one (((0 + 1) + 1) + 1))), .val (.int x12), .val (.int x13), .unset, .unset] [])
                    refine own_step (fun t k => XS.iload X10.here hx rfl (hb hby at_167) rfl k) ?_
                    rcases Classical.em (vc = (0 : Int32)) with c169_18 | c169_18
                    · show own_Go _ _ _ _ _ _ _ T10 (mkF m 169 #[.val (.int p1), .val (.int ve), .val (.int va), .val (.int vb), .val (.int vc), .val (.ref b1), .val (.int (own_act ve (own_tk ve 0 va) vb)), .val (.int (own_und ve (own_tk ve (own_tk ve 0 va) vb))), .val (.int (own_one ((0 + 1) + 1))), .val (.int (own_act ve (own_tk ve (own_tk ve 0 va) vb) vc)), .val (.int (own_und ve (own_tk ve (own_tk ve (own_tk ve 0 va) vb) vc))), .val (.int (own_one (((0 + 1) + 1) + 1))), .val (.int x12), .val (.int x13), .unset, .unset] [(.int vc)])
                      refine own_step (fun t k => XS.ifYes X10.here hx rfl (pc0 := 169) (pc' := 176) rfl (hb hby at_169) rfl ((if0 _ _).trans (teq (c169_18)).1) (by decide) (by decide) k) ?_
                      show own_Go _ _ _ _ _ _ _ T10 (mkF m 176 #[.val (.int p1), .val (.int ve), .val (.int va), .val (.int vb), .val (.int vc), .val (.ref b1), .val (.int (own_act ve (own_tk ve 0 va) vb)), .val (.int (own_und ve (own_tk ve (own_tk ve 0 va) vb))), .val (.int (own_one ((0 + 1) + 1))), .val (.int (own_act ve (own_tk ve (own_tk ve 0 va) vb) vc)), .val (.int (own_und ve (own_tk ve (own_tk ve (own_tk ve 0 va) vb) vc))), .val (.int (own_one (((0 + 1) + 1) + 1))), .val (.int x12), .val (.int x13), .unset, .unset] [])
                      refine own_step (fun t k => XS.iconst X10.here hx rfl (hb hby at_176) k) ?_
                      show own_Go _ _ _ _ _ _ _ T10 (mkF m 177 #[.val (.int p1), .val (.int ve), .val (.int va), .val (.int vb), .val (.int vc), .val (.ref b1), .val (.int (own_act ve (own_tk ve 0 va) vb)), .val (.int (own_und ve (own_tk ve (own_tk ve 0 va) vb))), .val (.int (own_one ((0 + 1) + 1))), .val (.int (own_act ve (own_tk ve (own_tk ve 0 va) vb) vc)), .val (.int (own_und ve (own_tk ve (own_tk ve (own_tk ve 0 va) vb) vc))), .val (.int (own_one (((0 + 1) + 1) + 1))), .val (.int x12), .val (.int x13), .unset, .unset] [(.int (0 : Int32))])
                      exact J177 _ (by simp [own_ea2, c156_15, c160_16, c164_17, c169_18])
                    · show own_Go _ _ _ _ _ _ _ T10 (mkF m 169 #[.val (.int p1), .val (.int ve), .val (.int va), .val (.int vb), .val (.int vc), .val (.ref b1), .val (.int (own_act ve (own_tk ve 0 va) vb)), .val (.int (own_und ve (own_tk ve (own_tk ve 0 va) vb))), .val (.int (own_one ((0 + 1) + 1))), .val (.int (own_act ve (own_tk ve (own_tk ve 0 va) vb) vc)), .val (.int (own_und ve (own_tk ve (own_tk ve (own_tk ve 0 va) vb) vc))), .val (.int (own_one (((0 + 1) + 1) + 1))), .val (.int x12), .val (.int x13), .unset, .unset] [(.int vc)])
                      refine own_step (fun t k => XS.ifNo X10.here hx rfl (hb hby at_169) rfl ((if0 _ _).trans (feq (c169_18)).1) k) ?_
                      show own_Go _ _ _ _ _ _ _ T10 (mkF m 172 #[.val (.int p1), .val (.int ve), .val (.int va), .val (.int vb), .val (.int vc), .val (.ref b1), .val (.int (own_act ve (own_tk ve 0 va) vb)), .val (.int (own_und ve (own_tk ve (own_tk ve 0 va) vb))), .val (.int (own_one ((0 + 1) + 1))), .val (.int (own_act ve (own_tk ve (own_tk ve 0 va) vb) vc)), .val (.int (own_und ve (own_tk ve (own_tk ve (own_tk ve 0 va) vb) vc))), .val (.int (own_one (((0 + 1) + 1) + 1))), .val (.int x12), .val (.int x13), .unset, .unset] [])
                      refine own_step (fun t k => XS.iconst X10.here hx rfl (hb hby at_172) k) ?_
                      show own_Go _ _ _ _ _ _ _ T10 (mkF m 173 #[.val (.int p1), .val (.int ve), .val (.int va), .val (.int vb), .val (.int vc), .val (.ref b1), .val (.int (own_act ve (own_tk ve 0 va) vb)), .val (.int (own_und ve (own_tk ve (own_tk ve 0 va) vb))), .val (.int (own_one ((0 + 1) + 1))), .val (.int (own_act ve (own_tk ve (own_tk ve 0 va) vb) vc)), .val (.int (own_und ve (own_tk ve (own_tk ve (own_tk ve 0 va) vb) vc))), .val (.int (own_one (((0 + 1) + 1) + 1))), .val (.int x12), .val (.int x13), .unset, .unset] [(.int (1 : Int32))])
                      refine own_step (fun t k => XS.goto X10.here hx rfl (pc0 := 173) (pc' := 177) rfl (hb hby at_173) (by decide) (by decide) k) ?_
                      show own_Go _ _ _ _ _ _ _ T10 (mkF m 177 #[.val (.int p1), .val (.int ve), .val (.int va), .val (.int vb), .val (.int vc), .val (.ref b1), .val (.int (own_act ve (own_tk ve 0 va) vb)), .val (.int (own_und ve (own_tk ve (own_tk ve 0 va) vb))), .val (.int (own_one ((0 + 1) + 1))), .val (.int (own_act ve (own_tk ve (own_tk ve 0 va) vb) vc)), .val (.int (own_und ve (own_tk ve (own_tk ve (own_tk ve 0 va) vb) vc))), .val (.int (own_one (((0 + 1) + 1) + 1))), .val (.int x12), .val (.int x13), .unset, .unset] [(.int (1 : Int32))])
                      exact J177 _ (by simp [own_ea2, c156_15, c160_16, c164_17, c169_18])
                  · show own_Go _ _ _ _ _ _ _ T10 (mkF m 164 #[.val (.int p1), .val (.int ve), .val (.int va), .val (.int vb), .val (.int vc), .val (.ref b1), .val (.int (own_act ve (own_tk ve 0 va) vb)), .val (.int (own_und ve (own_tk ve (own_tk ve 0 va) vb))), .val (.int (own_one ((0 + 1) + 1))), .val (.int (own_act ve (own_tk ve (own_tk ve 0 va) vb) vc)), .val (.int (own_und ve (own_tk ve (own_tk ve (own_tk ve 0 va) vb) vc))), .val (.int (own_one (((0 + 1) + 1) + 1))), .val (.int x12), .val (.int x13), .unset, .unset] [(.int vb)])
                    refine own_step (fun t k => XS.ifYes X10.here hx rfl (pc0 := 164) (pc' := 176) rfl (hb hby at_164) rfl ((if0 _ _).trans (feq (c164_17)).2) (by decide) (by decide) k) ?_
                    show own_Go _ _ _ _ _ _ _ T10 (mkF m 176 #[.val (.int p1), .val (.int ve), .val (.int va), .val (.int vb), .val (.int vc), .val (.ref b1), .val (.int (own_act ve (own_tk ve 0 va) vb)), .val (.int (own_und ve (own_tk ve (own_tk ve 0 va) vb))), .val (.int (own_one ((0 + 1) + 1))), .val (.int (own_act ve (own_tk ve (own_tk ve 0 va) vb) vc)), .val (.int (own_und ve (own_tk ve (own_tk ve (own_tk ve 0 va) vb) vc))), .val (.int (own_one (((0 + 1) + 1) + 1))), .val (.int x12), .val (.int x13), .unset, .unset] [])
                    refine own_step (fun t k => XS.iconst X10.here hx rfl (hb hby at_176) k) ?_
                    show own_Go _ _ _ _ _ _ _ T10 (mkF m 177 #[.val (.int p1), .val (.int ve), .val (.int va), .val (.int vb), .val (.int vc), .val (.ref b1), .val (.int (own_act ve (own_tk ve 0 va) vb)), .val (.int (own_und ve (own_tk ve (own_tk ve 0 va) vb))), .val (.int (own_one ((0 + 1) + 1))), .val (.int (own_act ve (own_tk ve (own_tk ve 0 va) vb) vc)), .val (.int (own_und ve (own_tk ve (own_tk ve (own_tk ve 0 va) vb) vc))), .val (.int (own_one (((0 + 1) + 1) + 1))), .val (.int x12), .val (.int x13), .unset, .unset] [(.int (0 : Int32))])
                    exact J177 _ (by simp [own_ea2, c156_15, c160_16, c164_17])
                · show own_Go _ _ _ _ _ _ _ T10 (mkF m 160 #[.val (.int p1), .val (.int ve), .val (.int va), .val (.int vb), .val (.int vc), .val (.ref b1), .val (.int (own_act ve (own_tk ve 0 va) vb)), .val (.int (own_und ve (own_tk ve (own_tk ve 0 va) vb))), .val (.int (own_one ((0 + 1) + 1))), .val (.int (own_act ve (own_tk ve (own_tk ve 0 va) vb) vc)), .val (.int (own_und ve (own_tk ve (own_tk ve (own_tk ve 0 va) vb) vc))), .val (.int (own_one (((0 + 1) + 1) + 1))), .val (.int x12), .val (.int x13), .unset, .unset] [(.int va)])
                  refine own_step (fun t k => XS.ifYes X10.here hx rfl (pc0 := 160) (pc' := 176) rfl (hb hby at_160) rfl ((if0 _ _).trans (feq (c160_16)).2) (by decide) (by decide) k) ?_
                  show own_Go _ _ _ _ _ _ _ T10 (mkF m 176 #[.val (.int p1), .val (.int ve), .val (.int va), .val (.int vb), .val (.int vc), .val (.ref b1), .val (.int (own_act ve (own_tk ve 0 va) vb)), .val (.int (own_und ve (own_tk ve (own_tk ve 0 va) vb))), .val (.int (own_one ((0 + 1) + 1))), .val (.int (own_act ve (own_tk ve (own_tk ve 0 va) vb) vc)), .val (.int (own_und ve (own_tk ve (own_tk ve (own_tk ve 0 va) vb) vc))), .val (.int (own_one (((0 + 1) + 1) + 1))), .val (.int x12), .val (.int x13), .unset, .unset] [])
                  refine own_step (fun t k => XS.iconst X10.here hx rfl (hb hby at_176) k) ?_
                  show own_Go _ _ _ _ _ _ _ T10 (mkF m 177 #[.val (.int p1), .val (.int ve), .val (.int va), .val (.int vb), .val (.int vc), .val (.ref b1), .val (.int (own_act ve (own_tk ve 0 va) vb)), .val (.int (own_und ve (own_tk ve (own_tk ve 0 va) vb))), .val (.int (own_one ((0 + 1) + 1))), .val (.int (own_act ve (own_tk ve (own_tk ve 0 va) vb) vc)), .val (.int (own_und ve (own_tk ve (own_tk ve (own_tk ve 0 va) vb) vc))), .val (.int (own_one (((0 + 1) + 1) + 1))), .val (.int x12), .val (.int x13), .unset, .unset] [(.int (0 : Int32))])
                  exact J177 _ (by simp [own_ea2, c156_15, c160_16])
            rcases Classical.em (ve = (0 : Int32)) with c137_19 | c137_19
            · show own_Go _ _ _ _ _ _ _ T10 (mkF m 137 #[.val (.int p1), .val (.int ve), .val (.int va), .val (.int vb), .val (.int vc), .val (.ref b1), .val (.int (own_act ve (own_tk ve 0 va) vb)), .val (.int (own_und ve (own_tk ve (own_tk ve 0 va) vb))), .val (.int (own_one ((0 + 1) + 1))), .val (.int (own_act ve (own_tk ve (own_tk ve 0 va) vb) vc)), .val (.int (own_und ve (own_tk ve (own_tk ve (own_tk ve 0 va) vb) vc))), .val (.int (own_one (((0 + 1) + 1) + 1))), .val (.int x12), .unset, .unset, .unset] [(.int ve)])
              refine own_step (fun t k => XS.ifYes X10.here hx rfl (pc0 := 137) (pc' := 152) rfl (hb hby at_137) rfl ((if0 _ _).trans (teq (c137_19)).1) (by decide) (by decide) k) ?_
              show own_Go _ _ _ _ _ _ _ T10 (mkF m 152 #[.val (.int p1), .val (.int ve), .val (.int va), .val (.int vb), .val (.int vc), .val (.ref b1), .val (.int (own_act ve (own_tk ve 0 va) vb)), .val (.int (own_und ve (own_tk ve (own_tk ve 0 va) vb))), .val (.int (own_one ((0 + 1) + 1))), .val (.int (own_act ve (own_tk ve (own_tk ve 0 va) vb) vc)), .val (.int (own_und ve (own_tk ve (own_tk ve (own_tk ve 0 va) vb) vc))), .val (.int (own_one (((0 + 1) + 1) + 1))), .val (.int x12), .unset, .unset, .unset] [])
              refine own_step (fun t k => XS.iconst X10.here hx rfl (hb hby at_152) k) ?_
              show own_Go _ _ _ _ _ _ _ T10 (mkF m 153 #[.val (.int p1), .val (.int ve), .val (.int va), .val (.int vb), .val (.int vc), .val (.ref b1), .val (.int (own_act ve (own_tk ve 0 va) vb)), .val (.int (own_und ve (own_tk ve (own_tk ve 0 va) vb))), .val (.int (own_one ((0 + 1) + 1))), .val (.int (own_act ve (own_tk ve (own_tk ve 0 va) vb) vc)), .val (.int (own_und ve (own_tk ve (own_tk ve (own_tk ve 0 va) vb) vc))), .val (.int (own_one (((0 + 1) + 1) + 1))), .val (.int x12), .unset, .unset, .unset] [(.int (0 : Int32))])
              exact J153 _ (by simp [own_eu1, c137_19])
            · show own_Go _ _ _ _ _ _ _ T10 (mkF m 137 #[.val (.int p1), .val (.int ve), .val (.int va), .val (.int vb), .val (.int vc), .val (.ref b1), .val (.int (own_act ve (own_tk ve 0 va) vb)), .val (.int (own_und ve (own_tk ve (own_tk ve 0 va) vb))), .val (.int (own_one ((0 + 1) + 1))), .val (.int (own_act ve (own_tk ve (own_tk ve 0 va) vb) vc)), .val (.int (own_und ve (own_tk ve (own_tk ve (own_tk ve 0 va) vb) vc))), .val (.int (own_one (((0 + 1) + 1) + 1))), .val (.int x12), .unset, .unset, .unset] [(.int ve)])
              refine own_step (fun t k => XS.ifNo X10.here hx rfl (hb hby at_137) rfl ((if0 _ _).trans (feq (c137_19)).1) k) ?_
              show own_Go _ _ _ _ _ _ _ T10 (mkF m 140 #[.val (.int p1), .val (.int ve), .val (.int va), .val (.int vb), .val (.int vc), .val (.ref b1), .val (.int (own_act ve (own_tk ve 0 va) vb)), .val (.int (own_und ve (own_tk ve (own_tk ve 0 va) vb))), .val (.int (own_one ((0 + 1) + 1))), .val (.int (own_act ve (own_tk ve (own_tk ve 0 va) vb) vc)), .val (.int (own_und ve (own_tk ve (own_tk ve (own_tk ve 0 va) vb) vc))), .val (.int (own_one (((0 + 1) + 1) + 1))), .val (.int x12), .unset, .unset, .unset] [])
              refine own_step (fun t k => XS.iloadN X10.here hx rfl (hb hby at_140) rfl k) ?_
              rcases Classical.em (va = (0 : Int32)) with c141_20 | c141_20
              · show own_Go _ _ _ _ _ _ _ T10 (mkF m 141 #[.val (.int p1), .val (.int ve), .val (.int va), .val (.int vb), .val (.int vc), .val (.ref b1), .val (.int (own_act ve (own_tk ve 0 va) vb)), .val (.int (own_und ve (own_tk ve (own_tk ve 0 va) vb))), .val (.int (own_one ((0 + 1) + 1))), .val (.int (own_act ve (own_tk ve (own_tk ve 0 va) vb) vc)), .val (.int (own_und ve (own_tk ve (own_tk ve (own_tk ve 0 va) vb) vc))), .val (.int (own_one (((0 + 1) + 1) + 1))), .val (.int x12), .unset, .unset, .unset] [(.int va)])
                refine own_step (fun t k => XS.ifNo X10.here hx rfl (hb hby at_141) rfl ((if0 _ _).trans (teq (c141_20)).2) k) ?_
                show own_Go _ _ _ _ _ _ _ T10 (mkF m 144 #[.val (.int p1), .val (.int ve), .val (.int va), .val (.int vb), .val (.int vc), .val (.ref b1), .val (.int (own_act ve (own_tk ve 0 va) vb)), .val (.int (own_und ve (own_tk ve (own_tk ve 0 va) vb))), .val (.int (own_one ((0 + 1) + 1))), .val (.int (own_act ve (own_tk ve (own_tk ve 0 va) vb) vc)), .val (.int (own_und ve (own_tk ve (own_tk ve (own_tk ve 0 va) vb) vc))), .val (.int (own_one (((0 + 1) + 1) + 1))), .val (.int x12), .unset, .unset, .unset] [])
                refine own_step (fun t k => XS.iloadN X10.here hx rfl (hb hby at_144) rfl k) ?_
                rcases Classical.em (vb = (0 : Int32)) with c145_21 | c145_21
                · show own_Go _ _ _ _ _ _ _ T10 (mkF m 145 #[.val (.int p1), .val (.int ve), .val (.int va), .val (.int vb), .val (.int vc), .val (.ref b1), .val (.int (own_act ve (own_tk ve 0 va) vb)), .val (.int (own_und ve (own_tk ve (own_tk ve 0 va) vb))), .val (.int (own_one ((0 + 1) + 1))), .val (.int (own_act ve (own_tk ve (own_tk ve 0 va) vb) vc)), .val (.int (own_und ve (own_tk ve (own_tk ve (own_tk ve 0 va) vb) vc))), .val (.int (own_one (((0 + 1) + 1) + 1))), .val (.int x12), .unset, .unset, .unset] [(.int vb)])
                  refine own_step (fun t k => XS.ifNo X10.here hx rfl (hb hby at_145) rfl ((if0 _ _).trans (teq (c145_21)).2) k) ?_
                  show own_Go _ _ _ _ _ _ _ T10 (mkF m 148 #[.val (.int p1), .val (.int ve), .val (.int va), .val (.int vb), .val (.int vc), .val (.ref b1), .val (.int (own_act ve (own_tk ve 0 va) vb)), .val (.int (own_und ve (own_tk ve (own_tk ve 0 va) vb))), .val (.int (own_one ((0 + 1) + 1))), .val (.int (own_act ve (own_tk ve (own_tk ve 0 va) vb) vc)), .val (.int (own_und ve (own_tk ve (own_tk ve (own_tk ve 0 va) vb) vc))), .val (.int (own_one (((0 + 1) + 1) + 1))), .val (.int x12), .unset, .unset, .unset] [])
                  refine own_step (fun t k => XS.iconst X10.here hx rfl (hb hby at_148) k) ?_
                  show own_Go _ _ _ _ _ _ _ T10 (mkF m 149 #[.val (.int p1), .val (.int ve), .val (.int va), .val (.int vb), .val (.int vc), .val (.ref b1), .val (.int (own_act ve (own_tk ve 0 va) vb)), .val (.int (own_und ve (own_tk ve (own_tk ve 0 va) vb))), .val (.int (own_one ((0 + 1) + 1))), .val (.int (own_act ve (own_tk ve (own_tk ve 0 va) vb) vc)), .val (.int (own_und ve (own_tk ve (own_tk ve (own_tk ve 0 va) vb) vc))), .val (.int (own_one (((0 + 1) + 1) + 1))), .val (.int x12), .unset, .unset, .unset] [(.int (1 : Int32))])
                  refine own_step (fun t k => XS.goto X10.here hx rfl (pc0 := 149) (pc' := 153) rfl (hb hby at_149) (by decide) (by decide) k) ?_
                  show own_Go _ _ _ _ _ _ _ T10 (mkF m 153 #[.val (.int p1), .val (.int ve), .val (.int va), .val (.int vb), .val (.int vc), .val (.ref b1), .val (.int (own_act ve (own_tk ve 0 va) vb)), .val (.int (own_und ve (own_tk ve (own_tk ve 0 va) vb))), .val (.int (own_one ((0 + 1) + 1))), .val (.int (own_act ve (own_tk ve (own_tk ve 0 va) vb) vc)), .val (.int (own_und ve (own_tk ve (own_tk ve (own_tk ve 0 va) vb) vc))), .val (.int (own_one (((0 + 1) + 1) + 1))), .val (.int x12), .unset, .unset, .unset] [(.int (1 : Int32))])
                  exact J153 _ (by simp [own_eu1, c137_19, c141_20, c145_21])
                · show own_Go _ _ _ _ _ _ _ T10 (mkF m 145 #[.val (.int p1), .val (.int ve), .val (.int va), .val (.int vb), .val (.int vc), .val (.ref b1), .val (.int (own_act ve (own_tk ve 0 va) vb)), .val (.int (own_und ve (own_tk ve (own_tk ve 0 va) vb))), .val (.int (own_one ((0 + 1) + 1))), .val (.int (own_act ve (own_tk ve (own_tk ve 0 va) vb) vc)), .val (.int (own_und ve (own_tk ve (own_tk ve (own_tk ve 0 va) vb) vc))), .val (.int (own_one (((0 + 1) + 1) + 1))), .val (.int x12), .unset, .unset, .unset] [(.int vb)])
                  refine own_step (fun t k => XS.ifYes X10.here hx rfl (pc0 := 145) (pc' := 152) rfl (hb hby at_145) rfl ((if0 _ _).trans (feq (c145_21)).2) (by decide) (by decide) k) ?_
                  show own_Go _ _ _ _ _ _ _ T10 (mkF m 152 #[.val (.int p1), .val (.int ve), .val (.int va), .val (.int vb), .val (.int vc), .val (.ref b1), .val (.int (own_act ve (own_tk ve 0 va) vb)), .val (.int (own_und ve (own_tk ve (own_tk ve 0 va) vb))), .val (.int (own_one ((0 + 1) + 1))), .val (.int (own_act ve (own_tk ve (own_tk ve 0 va) vb) vc)), .val (.int (own_und ve (own_tk ve (own_tk ve (own_tk ve 0 va) vb) vc))), .val (.int (own_one (((0 + 1) + 1) + 1))), .val (.int x12), .unset, .unset, .unset] [])
                  refine own_step (fun t k => XS.iconst X10.here hx rfl (hb hby at_152) k) ?_
                  show own_Go _ _ _ _ _ _ _ T10 (mkF m 153 #[.val (.int p1), .val (.int ve), .val (.int va), .val (.int vb), .val (.int vc), .val (.ref b1), .val (.int (own_act ve (own_tk ve 0 va) vb)), .val (.int (own_und ve (own_tk ve (own_tk ve 0 va) vb))), .val (.int (own_one ((0 + 1) + 1))), .val (.int (own_act ve (own_tk ve (own_tk ve 0 va) vb) vc)), .val (.int (own_und ve (own_tk ve (own_tk ve (own_tk ve 0 va) vb) vc))), .val (.int (own_one (((0 + 1) + 1) + 1))), .val (.int x12), .unset, .unset, .unset] [(.int (0 : Int32))])
                  exact J153 _ (by simp [own_eu1, c137_19, c141_20, c145_21])
              · show own_Go _ _ _ _ _ _ _ T10 (mkF m 141 #[.val (.int p1), .val (.int ve), .val (.int va), .val (.int vb), .val (.int vc), .val (.ref b1), .val (.int (own_act ve (own_tk ve 0 va) vb)), .val (.int (own_und ve (own_tk ve (own_tk ve 0 va) vb))), .val (.int (own_one ((0 + 1) + 1))), .val (.int (own_act ve (own_tk ve (own_tk ve 0 va) vb) vc)), .val (.int (own_und ve (own_tk ve (own_tk ve (own_tk ve 0 va) vb) vc))), .val (.int (own_one (((0 + 1) + 1) + 1))), .val (.int x12), .unset, .unset, .unset] [(.int va)])
                refine own_step (fun t k => XS.ifYes X10.here hx rfl (pc0 := 141) (pc' := 152) rfl (hb hby at_141) rfl ((if0 _ _).trans (feq (c141_20)).2) (by decide) (by decide) k) ?_
                show own_Go _ _ _ _ _ _ _ T10 (mkF m 152 #[.val (.int p1), .val (.int ve), .val (.int va), .val (.int vb), .val (.int vc), .val (.ref b1), .val (.int (own_act ve (own_tk ve 0 va) vb)), .val (.int (own_und ve (own_tk ve (own_tk ve 0 va) vb))), .val (.int (own_one ((0 + 1) + 1))), .val (.int (own_act ve (own_tk ve (own_tk ve 0 va) vb) vc)), .val (.int (own_und ve (own_tk ve (own_tk ve (own_tk ve 0 va) vb) vc))), .val (.int (own_one (((0 + 1) + 1) + 1))), .val (.int x12), .unset, .unset, .unset] [])
                refine own_step (fun t k => XS.iconst X10.here hx rfl (hb hby at_152) k) ?_
                show own_Go _ _ _ _ _ _ _ T10 (mkF m 153 #[.val (.int p1), .val (.int ve), .val (.int va), .val (.int vb), .val (.int vc), .val (.ref b1), .val (.int (own_act ve (own_tk ve 0 va) vb)), .val (.int (own_und ve (own_tk ve (own_tk ve 0 va) vb))), .val (.int (own_one ((0 + 1) + 1))), .val (.int (own_act ve (own_tk ve (own_tk ve 0 va) vb) vc)), .val (.int (own_und ve (own_tk ve (own_tk ve (own_tk ve 0 va) vb) vc))), .val (.int (own_one (((0 + 1) + 1) + 1))), .val (.int x12), .unset, .unset, .unset] [(.int (0 : Int32))])
                exact J153 _ (by simp [own_eu1, c137_19, c141_20])
          rcases Classical.em (ve = (0 : Int32)) with c118_22 | c118_22
          · show own_Go _ _ _ _ _ _ _ T10 (mkF m 118 #[.val (.int p1), .val (.int ve), .val (.int va), .val (.int vb), .val (.int vc), .val (.ref b1), .val (.int (own_act ve (own_tk ve 0 va) vb)), .val (.int (own_und ve (own_tk ve (own_tk ve 0 va) vb))), .val (.int (own_one ((0 + 1) + 1))), .val (.int (own_act ve (own_tk ve (own_tk ve 0 va) vb) vc)), .val (.int (own_und ve (own_tk ve (own_tk ve (own_tk ve 0 va) vb) vc))), .val (.int (own_one (((0 + 1) + 1) + 1))), .unset, .unset, .unset, .unset] [(.int ve)])
            refine own_step (fun t k => XS.ifYes X10.here hx rfl (pc0 := 118) (pc' := 133) rfl (hb hby at_118) rfl ((if0 _ _).trans (teq (c118_22)).1) (by decide) (by decide) k) ?_
            show own_Go _ _ _ _ _ _ _ T10 (mkF m 133 #[.val (.int p1), .val (.int ve), .val (.int va), .val (.int vb), .val (.int vc), .val (.ref b1), .val (.int (own_act ve (own_tk ve 0 va) vb)), .val (.int (own_und ve (own_tk ve (own_tk ve 0 va) vb))), .val (.int (own_one ((0 + 1) + 1))), .val (.int (own_act ve (own_tk ve (own_tk ve 0 va) vb) vc)), .val (.int (own_und ve (own_tk ve (own_tk ve (own_tk ve 0 va) vb) vc))), .val (.int (own_one (((0 + 1) + 1) + 1))), .unset, .unset, .unset, .unset] [])
            refine own_step (fun t k => XS.iconst X10.here hx rfl (hb hby at_133) k) ?_
            show own_Go _ _ _ _ _ _ _ T10 (mkF m 134 #[.val (.int p1), .val (.int ve), .val (.int va), .val (.int vb), .val (.int vc), .val (.ref b1), .val (.int (own_act ve (own_tk ve 0 va) vb)), .val (.int (own_und ve (own_tk ve (own_tk ve 0 va) vb))), .val (.int (own_one ((0 + 1) + 1))), .val (.int (own_act ve (own_tk ve (own_tk ve 0 va) vb) vc)), .val (.int (own_und ve (own_tk ve (own_tk ve (own_tk ve 0 va) vb) vc))), .val (.int (own_one (((0 + 1) + 1) + 1))), .unset, .unset, .unset, .unset] [(.int (0 : Int32))])
            exact J134 _ (by simp [own_ea1, c118_22])
          · show own_Go _ _ _ _ _ _ _ T10 (mkF m 118 #[.val (.int p1), .val (.int ve), .val (.int va), .val (.int vb), .val (.int vc), .val (.ref b1), .val (.int (own_act ve (own_tk ve 0 va) vb)), .val (.int (own_und ve (own_tk ve (own_tk ve 0 va) vb))), .val (.int (own_one ((0 + 1) + 1))), .val (.int (own_act ve (own_tk ve (own_tk ve 0 va) vb) vc)), .val (.int (own_und ve (own_tk ve (own_tk ve (own_tk ve 0 va) vb) vc))), .val (.int (own_one (((0 + 1) + 1) + 1))), .unset, .unset, .unset, .unset] [(.int ve)])
            refine own_step (fun t k => XS.ifNo X10.here hx rfl (hb hby at_118) rfl ((if0 _ _).trans (feq (c118_22)).1) k) ?_
            show own_Go _ _ _ _ _ _ _ T10 (mkF m 121 #[.val (.int p1), .val (.int ve), .val (.int va), .val (.int vb), .val (.int vc), .val (.ref b1), .val (.int (own_act ve (own_tk ve 0 va) vb)), .val (.int (own_und ve (own_tk ve (own_tk ve 0 va) vb))), .val (.int (own_one ((0 + 1) + 1))), .val (.int (own_act ve (own_tk ve (own_tk ve 0 va) vb) vc)), .val (.int (own_und ve (own_tk ve (own_tk ve (own_tk ve 0 va) vb) vc))), .val (.int (own_one (((0 + 1) + 1) + 1))), .unset, .unset, .unset, .unset] [])
            refine own_step (fun t k => XS.iloadN X10.here hx rfl (hb hby at_121) rfl k) ?_
            rcases Classical.em (va = (0 : Int32)) with c122_23 | c122_23
            · show own_Go _ _ _ _ _ _ _ T10 (mkF m 122 #[.val (.int p1), .val (.int ve), .val (.int va), .val (.int vb), .val (.int vc), .val (.ref b1), .val (.int (own_act ve (own_tk ve 0 va) vb)), .val (.int (own_und ve (own_tk ve (own_tk ve 0 va) vb))), .val (.int (own_one ((0 + 1) + 1))), .val (.int (own_act ve (own_tk ve (own_tk ve 0 va) vb) vc)), .val (.int (own_und ve (own_tk ve (own_tk ve (own_tk ve 0 va) vb) vc))), .val (.int (own_one (((0 + 1) + 1) + 1))), .unset, .unset, .unset, .unset] [(.int va)])
              refine own_step (fun t k => XS.ifNo X10.here hx rfl (hb hby at_122) rfl ((if0 _ _).trans (teq (c122_23)).2) k) ?_
              show own_Go _ _ _ _ _ _ _ T10 (mkF m 125 #[.val (.int p1), .val (.int ve), .val (.int va), .val (.int vb), .val (.int vc), .val (.ref b1), .val (.int (own_act ve (own_tk ve 0 va) vb)), .val (.int (own_und ve (own_tk ve (own_tk ve 0 va) vb))), .val (.int (own_one ((0 + 1) + 1))), .val (.int (own_act ve (own_tk ve (own_tk ve 0 va) vb) vc)), .val (.int (own_und ve (own_tk ve (own_tk ve (own_tk ve 0 va) vb) vc))), .val (.int (own_one (((0 + 1) + 1) + 1))), .unset, .unset, .unset, .unset] [])
              refine own_step (fun t k => XS.iloadN X10.here hx rfl (hb hby at_125) rfl k) ?_
              rcases Classical.em (vb = (0 : Int32)) with c126_24 | c126_24
              · show own_Go _ _ _ _ _ _ _ T10 (mkF m 126 #[.val (.int p1), .val (.int ve), .val (.int va), .val (.int vb), .val (.int vc), .val (.ref b1), .val (.int (own_act ve (own_tk ve 0 va) vb)), .val (.int (own_und ve (own_tk ve (own_tk ve 0 va) vb))), .val (.int (own_one ((0 + 1) + 1))), .val (.int (own_act ve (own_tk ve (own_tk ve 0 va) vb) vc)), .val (.int (own_und ve (own_tk ve (own_tk ve (own_tk ve 0 va) vb) vc))), .val (.int (own_one (((0 + 1) + 1) + 1))), .unset, .unset, .unset, .unset] [(.int vb)])
                refine own_step (fun t k => XS.ifYes X10.here hx rfl (pc0 := 126) (pc' := 133) rfl (hb hby at_126) rfl ((if0 _ _).trans (teq (c126_24)).1) (by decide) (by decide) k) ?_
                show own_Go _ _ _ _ _ _ _ T10 (mkF m 133 #[.val (.int p1), .val (.int ve), .val (.int va), .val (.int vb), .val (.int vc), .val (.ref b1), .val (.int (own_act ve (own_tk ve 0 va) vb)), .val (.int (own_und ve (own_tk ve (own_tk ve 0 va) vb))), .val (.int (own_one ((0 + 1) + 1))), .val (.int (own_act ve (own_tk ve (own_tk ve 0 va) vb) vc)), .val (.int (own_und ve (own_tk ve (own_tk ve (own_tk ve 0 va) vb) vc))), .val (.int (own_one (((0 + 1) + 1) + 1))), .unset, .unset, .unset, .unset] [])
                refine own_step (fun t k => XS.iconst X10.here hx rfl (hb hby at_133) k) ?_
                show own_Go _ _ _ _ _ _ _ T10 (mkF m 134 #[.val (.int p1), .val (.int ve), .val (.int va), .val (.int vb), .val (.int vc), .val (.ref b1), .val (.int (own_act ve (own_tk ve 0 va) vb)), .val (.int (own_und ve (own_tk ve (own_tk ve 0 va) vb))), .val (.int (own_one ((0 + 1) + 1))), .val (.int (own_act ve (own_tk ve (own_tk ve 0 va) vb) vc)), .val (.int (own_und ve (own_tk ve (own_tk ve (own_tk ve 0 va) vb) vc))), .val (.int (own_one (((0 + 1) + 1) + 1))), .unset, .unset, .unset, .unset] [(.int (0 : Int32))])
                exact J134 _ (by simp [own_ea1, c118_22, c122_23, c126_24])
              · show own_Go _ _ _ _ _ _ _ T10 (mkF m 126 #[.val (.int p1), .val (.int ve), .val (.int va), .val (.int vb), .val (.int vc), .val (.ref b1), .val (.int (own_act ve (own_tk ve 0 va) vb)), .val (.int (own_und ve (own_tk ve (own_tk ve 0 va) vb))), .val (.int (own_one ((0 + 1) + 1))), .val (.int (own_act ve (own_tk ve (own_tk ve 0 va) vb) vc)), .val (.int (own_und ve (own_tk ve (own_tk ve (own_tk ve 0 va) vb) vc))), .val (.int (own_one (((0 + 1) + 1) + 1))), .unset, .unset, .unset, .unset] [(.int vb)])
                refine own_step (fun t k => XS.ifNo X10.here hx rfl (hb hby at_126) rfl ((if0 _ _).trans (feq (c126_24)).1) k) ?_
                show own_Go _ _ _ _ _ _ _ T10 (mkF m 129 #[.val (.int p1), .val (.int ve), .val (.int va), .val (.int vb), .val (.int vc), .val (.ref b1), .val (.int (own_act ve (own_tk ve 0 va) vb)), .val (.int (own_und ve (own_tk ve (own_tk ve 0 va) vb))), .val (.int (own_one ((0 + 1) + 1))), .val (.int (own_act ve (own_tk ve (own_tk ve 0 va) vb) vc)), .val (.int (own_und ve (own_tk ve (own_tk ve (own_tk ve 0 va) vb) vc))), .val (.int (own_one (((0 + 1) + 1) + 1))), .unset, .unset, .unset, .unset] [])
                refine own_step (fun t k => XS.iconst X10.here hx rfl (hb hby at_129) k) ?_
                show own_Go _ _ _ _ _ _ _ T10 (mkF m 130 #[.val (.int p1), .val (.int ve), .val (.int va), .val (.int vb), .val (.int vc), .val (.ref b1), .val (.int (own_act ve (own_tk ve 0 va) vb)), .val (.int (own_und ve (own_tk ve (own_tk ve 0 va) vb))), .val (.int (own_one ((0 + 1) + 1))), .val (.int (own_act ve (own_tk ve (own_tk ve 0 va) vb) vc)), .val (.int (own_und ve (own_tk ve (own_tk ve (own_tk ve 0 va) vb) vc))), .val (.int (own_one (((0 + 1) + 1) + 1))), .unset, .unset, .unset, .unset] [(.int (1 : Int32))])
                refine own_step (fun t k => XS.goto X10.here hx rfl (pc0 := 130) (pc' := 134) rfl (hb hby at_130) (by decide) (by decide) k) ?_
                show own_Go _ _ _ _ _ _ _ T10 (mkF m 134 #[.val (.int p1), .val (.int ve), .val (.int va), .val (.int vb), .val (.int vc), .val (.ref b1), .val (.int (own_act ve (own_tk ve 0 va) vb)), .val (.int (own_und ve (own_tk ve (own_tk ve 0 va) vb))), .val (.int (own_one ((0 + 1) + 1))), .val (.int (own_act ve (own_tk ve (own_tk ve 0 va) vb) vc)), .val (.int (own_und ve (own_tk ve (own_tk ve (own_tk ve 0 va) vb) vc))), .val (.int (own_one (((0 + 1) + 1) + 1))), .unset, .unset, .unset, .unset] [(.int (1 : Int32))])
                exact J134 _ (by simp [own_ea1, c118_22, c122_23, c126_24])
            · show own_Go _ _ _ _ _ _ _ T10 (mkF m 122 #[.val (.int p1), .val (.int ve), .val (.int va), .val (.int vb), .val (.int vc), .val (.ref b1), .val (.int (own_act ve (own_tk ve 0 va) vb)), .val (.int (own_und ve (own_tk ve (own_tk ve 0 va) vb))), .val (.int (own_one ((0 + 1) + 1))), .val (.int (own_act ve (own_tk ve (own_tk ve 0 va) vb) vc)), .val (.int (own_und ve (own_tk ve (own_tk ve (own_tk ve 0 va) vb) vc))), .val (.int (own_one (((0 + 1) + 1) + 1))), .unset, .unset, .unset, .unset] [(.int va)])
              refine own_step (fun t k => XS.ifYes X10.here hx rfl (pc0 := 122) (pc' := 133) rfl (hb hby at_122) rfl ((if0 _ _).trans (feq (c122_23)).2) (by decide) (by decide) k) ?_
              show own_Go _ _ _ _ _ _ _ T10 (mkF m 133 #[.val (.int p1), .val (.int ve), .val (.int va), .val (.int vb), .val (.int vc), .val (.ref b1), .val (.int (own_act ve (own_tk ve 0 va) vb)), .val (.int (own_und ve (own_tk ve (own_tk ve 0 va) vb))), .val (.int (own_one ((0 + 1) + 1))), .val (.int (own_act ve (own_tk ve (own_tk ve 0 va) vb) vc)), .val (.int (own_und ve (own_tk ve (own_tk ve (own_tk ve 0 va) vb) vc))), .val (.int (own_one (((0 + 1) + 1) + 1))), .unset, .unset, .unset, .unset] [])
              refine own_step (fun t k => XS.iconst X10.here hx rfl (hb hby at_133) k) ?_
              show own_Go _ _ _ _ _ _ _ T10 (mkF m 134 #[.val (.int p1), .val (.int ve), .val (.int va), .val (.int vb), .val (.int vc), .val (.ref b1), .val (.int (own_act ve (own_tk ve 0 va) vb)), .val (.int (own_und ve (own_tk ve (own_tk ve 0 va) vb))), .val (.int (own_one ((0 + 1) + 1))), .val (.int (own_act ve (own_tk ve (own_tk ve 0 va) vb) vc)), .val (.int (own_und ve (own_tk ve (own_tk ve (own_tk ve 0 va) vb) vc))), .val (.int (own_one (((0 + 1) + 1) + 1))), .unset, .unset, .unset, .unset] [(.int (0 : Int32))])
              exact J134 _ (by simp [own_ea1, c118_22, c122_23])
        rcases Classical.em ((p1 &&& (8 : Int32)) = (0 : Int32)) with c40_25 | c40_25
        · show own_Go _ _ _ _ _ _ _ s₁ (mkF m 40 #[.val (.int p1), .val (.int ve), .val (.int va), .val (.int vb), .unset, .unset, .unset, .unset, .unset, .unset, .unset, .unset, .unset, .unset, .unset, .unset] [(.int (p1 &&& (8 : Int32)))])
          refine own_step (fun t k => XS.ifYes X0.here hx rfl (pc0 := 40) (pc' := 47) rfl (hb hby at_40) rfl ((if0 _ _).trans (teq (c40_25)).1) (by decide) (by decide) k) ?_
          show own_Go _ _ _ _ _ _ _ s₁ (mkF m 47 #[.val (.int p1), .val (.int ve), .val (.int va), .val (.int vb), .unset, .unset, .unset, .unset, .unset, .unset, .unset, .unset, .unset, .unset, .unset, .unset] [])
          refine own_step (fun t k => XS.iconst X0.here hx rfl (hb hby at_47) k) ?_
          show own_Go _ _ _ _ _ _ _ s₁ (mkF m 48 #[.val (.int p1), .val (.int ve), .val (.int va), .val (.int vb), .unset, .unset, .unset, .unset, .unset, .unset, .unset, .unset, .unset, .unset, .unset, .unset] [(.int (0 : Int32))])
          exact J48 _ (Or.inl rfl)
        · show own_Go _ _ _ _ _ _ _ s₁ (mkF m 40 #[.val (.int p1), .val (.int ve), .val (.int va), .val (.int vb), .unset, .unset, .unset, .unset, .unset, .unset, .unset, .unset, .unset, .unset, .unset, .unset] [(.int (p1 &&& (8 : Int32)))])
          refine own_step (fun t k => XS.ifNo X0.here hx rfl (hb hby at_40) rfl ((if0 _ _).trans (feq (c40_25)).1) k) ?_
          show own_Go _ _ _ _ _ _ _ s₁ (mkF m 43 #[.val (.int p1), .val (.int ve), .val (.int va), .val (.int vb), .unset, .unset, .unset, .unset, .unset, .unset, .unset, .unset, .unset, .unset, .unset, .unset] [])
          refine own_step (fun t k => XS.iconst X0.here hx rfl (hb hby at_43) k) ?_
          show own_Go _ _ _ _ _ _ _ s₁ (mkF m 44 #[.val (.int p1), .val (.int ve), .val (.int va), .val (.int vb), .unset, .unset, .unset, .unset, .unset, .unset, .unset, .unset, .unset, .unset, .unset, .unset] [(.int (1 : Int32))])
          refine own_step (fun t k => XS.goto X0.here hx rfl (pc0 := 44) (pc' := 48) rfl (hb hby at_44) (by decide) (by decide) k) ?_
          show own_Go _ _ _ _ _ _ _ s₁ (mkF m 48 #[.val (.int p1), .val (.int ve), .val (.int va), .val (.int vb), .unset, .unset, .unset, .unset, .unset, .unset, .unset, .unset, .unset, .unset, .unset, .unset] [(.int (1 : Int32))])
          exact J48 _ (Or.inr rfl)
      rcases Classical.em ((p1 &&& (4 : Int32)) = (0 : Int32)) with c27_26 | c27_26
      · show own_Go _ _ _ _ _ _ _ s₁ (mkF m 27 #[.val (.int p1), .val (.int ve), .val (.int va), .unset, .unset, .unset, .unset, .unset, .unset, .unset, .unset, .unset, .unset, .unset, .unset, .unset] [(.int (p1 &&& (4 : Int32)))])
        refine own_step (fun t k => XS.ifYes X0.here hx rfl (pc0 := 27) (pc' := 34) rfl (hb hby at_27) rfl ((if0 _ _).trans (teq (c27_26)).1) (by decide) (by decide) k) ?_
        show own_Go _ _ _ _ _ _ _ s₁ (mkF m 34 #[.val (.int p1), .val (.int ve), .val (.int va), .unset, .unset, .unset, .unset, .unset, .unset, .unset, .unset, .unset, .unset, .unset, .unset, .unset] [])
        refine own_step (fun t k => XS.iconst X0.here hx rfl (hb hby at_34) k) ?_
        show own_Go _ _ _ _ _ _ _ s₁ (mkF m 35 #[.val (.int p1), .val (.int ve), .val (.int va), .unset, .unset, .unset, .unset, .unset, .unset, .unset, .unset, .unset, .unset, .unset, .unset, .unset] [(.int (0 : Int32))])
        exact J35 _ (Or.inl rfl)
      · show own_Go _ _ _ _ _ _ _ s₁ (mkF m 27 #[.val (.int p1), .val (.int ve), .val (.int va), .unset, .unset, .unset, .unset, .unset, .unset, .unset, .unset, .unset, .unset, .unset, .unset, .unset] [(.int (p1 &&& (4 : Int32)))])
        refine own_step (fun t k => XS.ifNo X0.here hx rfl (hb hby at_27) rfl ((if0 _ _).trans (feq (c27_26)).1) k) ?_
        show own_Go _ _ _ _ _ _ _ s₁ (mkF m 30 #[.val (.int p1), .val (.int ve), .val (.int va), .unset, .unset, .unset, .unset, .unset, .unset, .unset, .unset, .unset, .unset, .unset, .unset, .unset] [])
        refine own_step (fun t k => XS.iconst X0.here hx rfl (hb hby at_30) k) ?_
        show own_Go _ _ _ _ _ _ _ s₁ (mkF m 31 #[.val (.int p1), .val (.int ve), .val (.int va), .unset, .unset, .unset, .unset, .unset, .unset, .unset, .unset, .unset, .unset, .unset, .unset, .unset] [(.int (1 : Int32))])
        refine own_step (fun t k => XS.goto X0.here hx rfl (pc0 := 31) (pc' := 35) rfl (hb hby at_31) (by decide) (by decide) k) ?_
        show own_Go _ _ _ _ _ _ _ s₁ (mkF m 35 #[.val (.int p1), .val (.int ve), .val (.int va), .unset, .unset, .unset, .unset, .unset, .unset, .unset, .unset, .unset, .unset, .unset, .unset, .unset] [(.int (1 : Int32))])
        exact J35 _ (Or.inr rfl)
    rcases Classical.em ((p1 &&& (2 : Int32)) = (0 : Int32)) with c15_27 | c15_27
    · show own_Go _ _ _ _ _ _ _ s₁ (mkF m 15 #[.val (.int p1), .val (.int ve), .unset, .unset, .unset, .unset, .unset, .unset, .unset, .unset, .unset, .unset, .unset, .unset, .unset, .unset] [(.int (p1 &&& (2 : Int32)))])
      refine own_step (fun t k => XS.ifYes X0.here hx rfl (pc0 := 15) (pc' := 22) rfl (hb hby at_15) rfl ((if0 _ _).trans (teq (c15_27)).1) (by decide) (by decide) k) ?_
      show own_Go _ _ _ _ _ _ _ s₁ (mkF m 22 #[.val (.int p1), .val (.int ve), .unset, .unset, .unset, .unset, .unset, .unset, .unset, .unset, .unset, .unset, .unset, .unset, .unset, .unset] [])
      refine own_step (fun t k => XS.iconst X0.here hx rfl (hb hby at_22) k) ?_
      show own_Go _ _ _ _ _ _ _ s₁ (mkF m 23 #[.val (.int p1), .val (.int ve), .unset, .unset, .unset, .unset, .unset, .unset, .unset, .unset, .unset, .unset, .unset, .unset, .unset, .unset] [(.int (0 : Int32))])
      exact J23 _ (Or.inl rfl)
    · show own_Go _ _ _ _ _ _ _ s₁ (mkF m 15 #[.val (.int p1), .val (.int ve), .unset, .unset, .unset, .unset, .unset, .unset, .unset, .unset, .unset, .unset, .unset, .unset, .unset, .unset] [(.int (p1 &&& (2 : Int32)))])
      refine own_step (fun t k => XS.ifNo X0.here hx rfl (hb hby at_15) rfl ((if0 _ _).trans (feq (c15_27)).1) k) ?_
      show own_Go _ _ _ _ _ _ _ s₁ (mkF m 18 #[.val (.int p1), .val (.int ve), .unset, .unset, .unset, .unset, .unset, .unset, .unset, .unset, .unset, .unset, .unset, .unset, .unset, .unset] [])
      refine own_step (fun t k => XS.iconst X0.here hx rfl (hb hby at_18) k) ?_
      show own_Go _ _ _ _ _ _ _ s₁ (mkF m 19 #[.val (.int p1), .val (.int ve), .unset, .unset, .unset, .unset, .unset, .unset, .unset, .unset, .unset, .unset, .unset, .unset, .unset, .unset] [(.int (1 : Int32))])
      refine own_step (fun t k => XS.goto X0.here hx rfl (pc0 := 19) (pc' := 23) rfl (hb hby at_19) (by decide) (by decide) k) ?_
      show own_Go _ _ _ _ _ _ _ s₁ (mkF m 23 #[.val (.int p1), .val (.int ve), .unset, .unset, .unset, .unset, .unset, .unset, .unset, .unset, .unset, .unset, .unset, .unset, .unset, .unset] [(.int (1 : Int32))])
      exact J23 _ (Or.inr rfl)
  rcases Classical.em ((p1 &&& (1 : Int32)) = (0 : Int32)) with c3_28 | c3_28
  · show own_Go _ _ _ _ _ _ _ s₁ (mkF m 3 #[.val (.int p1), .unset, .unset, .unset, .unset, .unset, .unset, .unset, .unset, .unset, .unset, .unset, .unset, .unset, .unset, .unset] [(.int (p1 &&& (1 : Int32)))])
    refine own_step (fun t k => XS.ifYes X0.here hx rfl (pc0 := 3) (pc' := 10) rfl (hb hby at_3) rfl ((if0 _ _).trans (teq (c3_28)).1) (by decide) (by decide) k) ?_
    show own_Go _ _ _ _ _ _ _ s₁ (mkF m 10 #[.val (.int p1), .unset, .unset, .unset, .unset, .unset, .unset, .unset, .unset, .unset, .unset, .unset, .unset, .unset, .unset, .unset] [])
    refine own_step (fun t k => XS.iconst X0.here hx rfl (hb hby at_10) k) ?_
    show own_Go _ _ _ _ _ _ _ s₁ (mkF m 11 #[.val (.int p1), .unset, .unset, .unset, .unset, .unset, .unset, .unset, .unset, .unset, .unset, .unset, .unset, .unset, .unset, .unset] [(.int (0 : Int32))])
    exact J11 _ (Or.inl rfl)
  · show own_Go _ _ _ _ _ _ _ s₁ (mkF m 3 #[.val (.int p1), .unset, .unset, .unset, .unset, .unset, .unset, .unset, .unset, .unset, .unset, .unset, .unset, .unset, .unset, .unset] [(.int (p1 &&& (1 : Int32)))])
    refine own_step (fun t k => XS.ifNo X0.here hx rfl (hb hby at_3) rfl ((if0 _ _).trans (feq (c3_28)).1) k) ?_
    show own_Go _ _ _ _ _ _ _ s₁ (mkF m 6 #[.val (.int p1), .unset, .unset, .unset, .unset, .unset, .unset, .unset, .unset, .unset, .unset, .unset, .unset, .unset, .unset, .unset] [])
    refine own_step (fun t k => XS.iconst X0.here hx rfl (hb hby at_6) k) ?_
    show own_Go _ _ _ _ _ _ _ s₁ (mkF m 7 #[.val (.int p1), .unset, .unset, .unset, .unset, .unset, .unset, .unset, .unset, .unset, .unset, .unset, .unset, .unset, .unset, .unset] [(.int (1 : Int32))])
    refine own_step (fun t k => XS.goto X0.here hx rfl (pc0 := 7) (pc' := 11) rfl (hb hby at_7) (by decide) (by decide) k) ?_
    show own_Go _ _ _ _ _ _ _ s₁ (mkF m 11 #[.val (.int p1), .unset, .unset, .unset, .unset, .unset, .unset, .unset, .unset, .unset, .unset, .unset, .unset, .unset, .unset, .unset] [(.int (1 : Int32))])
    exact J11 _ (Or.inr rfl)
set_option maxRecDepth 65536 in
set_option maxHeartbeats 40000000 in
theorem own_comes_1 {Post : Tables → Env → Array Value → State → Outcome → State → Prop} (hpost : ∀ tb e args s v u, (limb_1_1.after args s (.returned v) u = true ∧ limb_1_2.after args s (.returned v) u = true ∧ True) → FrameEnd s (.returned v) u (Jvm.fieldLocs frame_1_writes args s ++ Jvm.arrayLocs frame_1_arrays args s ++ Jvm.staticLocs frame_1_statics s) 16 128 → Post tb e args s (.returned v) u) :
    ArmFor flags0 classFile x code maxLocals ret World_1 tables_1 room_1 Calls_1 rest_1 Pre_1 Post := by
  intro l hfl _ _ p e ha hc hk s m args below hf hA hF happ hP
  obtain ⟨hcalls, hrest, hpre⟩ := hP
  obtain ⟨-, -, -, hnamed, -, -, -, hat⟩ := (Spec.applies_iff hf).mp happ
  obtain ⟨hg, hn⟩ := and_e (Cond.before_iff.mp (show (Jvm.Cond.and given_1 narrow_1).before args s = true from hpre))
  obtain ⟨g0, r0⟩ := and_e hg
  have g1 := r0
  obtain ⟨w0, rfl⟩ : ∃ w0 : Value, args = #[w0] := by
    have hs : args.size = 1 := by simpa [Cond.value, given_1] using g0
    obtain ⟨L⟩ := args
    match L, hs with
    | [w0], _ => exact ⟨w0, rfl⟩
  have hw := fun d (hd : d ∈ tables_1) => atoms_spec (ws := Jvm.Cond.code x code maxLocals ret :: tables_1) hat d (List.mem_cons_of_mem _ hd)
  have hfit : Fit s := fun {y c} hc i hi => by
    obtain ⟨ha, rfl⟩ := Array.getElem?_eq_some_iff.mp hc
    have q := List.all_eq_true.mp ((Array.all_eq_true_iff_forall_mem.mp hF) _ (Array.getElem_mem ha)) i (List.mem_range.mpr hi)
    simpa [Array.getElem?_eq_getElem hi] using q
  obtain ⟨i0, ei0⟩ := is_v g1
  obtain rfl : w0 = (.int i0) := Option.some.inj ei0
  obtain ⟨n, o, h1, h2, h3, _, L, rfl, ⟨rfl, N⟩, hq⟩ := own_rm0 l s _ hw tables_1 i0 s.heap s.heap.size (Nat.le_refl _) p e ha hc hk s m _ below hf ((Spec.applies_iff_loose hf).mp happ).1 ⟨rfl, State.Warmed39.refl s, rfl⟩ trivial
  refine ⟨n, _, h1, h2, h3, hpost _ _ _ _ _ _ ⟨Cond.after_iff.mpr rfl, Cond.after_iff.mpr (eq_i res_at (Term.int_eval (1)) rfl), trivial⟩ ⟨hq.1, hq.2.1, (hq.2.2.sift fun y hy => Or.inr (N y hy)).mono (by decide) (by decide)⟩⟩
theorem main_1_1 : Claimed_1_1 := own_comes_1 fun _ _ _ _ _ _ h hF => ⟨h.1, hF⟩
theorem main_1_2 : Claimed_1_2 := own_comes_1 fun _ _ _ _ _ _ h hF => ⟨h.2.1, hF⟩
end Jvm.Pilot.@@N@@
namespace Jvm.Pilot.@@N@@
open Jvm Jvm.ClassFile Sem Op Lib Jvm.Free Jvm.Stand Jvm.Pilot.@@N@@.Jvm.D
/-! MADE BY PROGRAM (witnessworld.py) out of the Statement's table words and the real class files: 9 classes; the members and pool entries that the words name. The judged class is class 1, her method 1. -/
namespace start1
open Jvm.ClassFile
def u (s : String) : CpInfo := .utf8 (stringToUtf16 s)
/-- a pool by its gaps: so many unusable entries, then the entry; so many at the end -/
def gap : Nat → List CpInfo → List CpInfo
  | 0, r => r
  | n + 1, r => .unusable :: gap n r
def poolList (es : List (Nat × CpInfo)) (last : Nat) : List CpInfo := es.foldr (fun e r => gap e.1 (e.2 :: r)) (gap last [])
def pool (es : List (Nat × CpInfo)) (last : Nat) : Array CpInfo := ⟨poolList es last⟩
def fileOf (pool : Array CpInfo) (this : Nat) (attrs : Array Attribute := #[]) (ms : Array MethodInfo := #[]) (fl : Nat := 33) (sup : Nat := 0) (ifs : Array Nat := #[]) (fds : Array FieldInfo := #[]) : ClassFile where
  minorVersion := 0
  majorVersion := 65
  constantPool := pool
  accessFlags := fl
  thisClass := this
  superClass := sup
  interfaces := ifs
  fields := fds
  methods := ms
  attributes := attrs
def plain (name : String) (sup : Option ClassId) : Class where
  name := name
  kind := .ordinary
  loader := none
  accessFlags := 33
  super := sup
  interfaces := #[]
  cf := none
  fields := #[]
  methods := #[]
  instanceTypes := #[]
  staticTypes := #[]
  resolved := #[]
  callSites := []
  init := .initialized
  statics := none
  mirror := none

def pool0 : Array CpInfo := pool [(5, u "<init>"), (0, u "()V"), (1, .class_ 10), (1, u "java/lang/Object")] 113

def k0c0 : Code := { maxStack := 0, maxLocals := 1, code := object_method_1_code, exceptionTable := #[], attributes := #[] }
def k0m0 : Method := { name := "<init>", desc := "()V", sig := { parameters := [], returnType := none }, accessFlags := 1, code := some k0c0 }
/-- java/lang/Object -/
def k0 : Class := { plain "java/lang/Object" none with
  accessFlags := 33
  interfaces := #[]
  cf := some (fileOf pool0 8 #[] #[{ accessFlags := 1, nameIndex := 5, descriptorIndex := 6, attributes := #[] }] 33 0 #[] #[])
  fields := #[]
  methods := #[k0m0]
  instanceTypes := #[]
  staticTypes := #[]
  resolved := Array.replicate 124 none
  statics := none }

def pool1 : Array CpInfo := pool [(2, .class_ 4), (1, u "java/lang/Object"), (0, u "<init>"), (0, u "()V"), (0, .class_ 8), (0, u "com/example/idlwright/idlwright/preprocessor/Conditional"), (0, .methodref 7 10), (0, .nameAndType 5 11), (0, u "(Lcom/example/idlwright/idlwright/lexer/Token;ZZ)V"), (0, .methodref 7 13), (0, .nameAndType 14 15), (0, u "branch"), (0, u "(Z)V"), (0, .methodref 7 17), (0, .nameAndType 18 19), (0, u "active"), (0, u "()Z"), (0, .methodref 7 21), (0, .nameAndType 22 19), (0, u "undecided"), (0, .methodref 7 24), (0, .nameAndType 25 19), (0, u "hasOneBranch"), (0, .class_ 27), (0, u "com/example/idlwright/idlwright/preprocessor/ConditionalBranchPinLaw"), (2, u "law"), (0, u "(I)Z")] 3

def k1m0 : Method := { name := "<init>", desc := "()V", sig := { parameters := [], returnType := none }, accessFlags := 1, code := none }
def k1c1 : Code := { maxStack := 5, maxLocals := 16, code := code, exceptionTable := #[], attributes := #[] }
def k1m1 : Method := { name := "law", desc := "(I)Z", sig := { parameters := [.int], returnType := some .boolean }, accessFlags := 9, code := some k1c1 }
/-- com/example/idlwright/idlwright/preprocessor/ConditionalBranchPinLaw -/
def k1 : Class := { plain "com/example/idlwright/idlwright/preprocessor/ConditionalBranchPinLaw" (some 0) with
  accessFlags := 49
  interfaces := #[]
  cf := some (fileOf pool1 26 #[] #[{ accessFlags := 1, nameIndex := 5, descriptorIndex := 6, attributes := #[] }, { accessFlags := 9, nameIndex := 30, descriptorIndex := 31, attributes := #[] }] 49 2 #[] #[])
  fields := #[]
  methods := #[k1m0, k1m1]
  instanceTypes := #[]
  staticTypes := #[]
  resolved := Array.replicate 35 none
  statics := none }

def pool2 : Array CpInfo := pool [(1, .methodref 2 3), (0, .class_ 4), (0, .nameAndType 5 6), (0, u "java/lang/Object"), (0, u "<init>"), (0, u "()V"), (0, .fieldref 8 9), (0, .class_ 10), (0, .nameAndType 11 12), (0, u "com/example/idlwright/idlwright/preprocessor/Conditional"), (0, u "opening"), (0, u "Lcom/example/idlwright/idlwright/lexer/Token;"), (0, .fieldref 8 14), (0, .nameAndType 15 16), (0, u "enclosing"), (0, u "Z"), (0, .methodref 8 18), (0, .nameAndType 19 20), (0, u "branch"), (0, u "(Z)V"), (0, .fieldref 8 22), (0, .nameAndType 23 16), (0, u "taken"), (0, .fieldref 8 25), (0, .nameAndType 26 16), (0, u "active"), (0, .fieldref 8 28), (0, .nameAndType 29 30), (0, u "branches"), (0, u "I"), (2, u "elseSeen"), (0, u "(Lcom/example/idlwright/idlwright/lexer/Token;ZZ)V"), (3, u "undecided"), (0, u "()Z"), (2, u "hasOneBranch")] 2

def k2c0 : Code := { maxStack := 2, maxLocals := 4, code := prog_82_method_1_code, exceptionTable := #[], attributes := #[] }
def k2m0 : Method := { name := "<init>", desc := "(Lcom/example/idlwright/idlwright/lexer/Token;ZZ)V", sig := { parameters := [(.object "com/example/idlwright/idlwright/lexer/Token"), .boolean, .boolean], returnType := none }, accessFlags := 0, code := some k2c0 }
def k2c1 : Code := { maxStack := 3, maxLocals := 2, code := prog_82_method_2_code, exceptionTable := #[], attributes := #[] }
def k2m1 : Method := { name := "branch", desc := "(Z)V", sig := { parameters := [.boolean], returnType := none }, accessFlags := 0, code := some k2c1 }
def k2c2 : Code := { maxStack := 1, maxLocals := 1, code := prog_82_method_3_code, exceptionTable := #[], attributes := #[] }
def k2m2 : Method := { name := "undecided", desc := "()Z", sig := { parameters := [], returnType := some .boolean }, accessFlags := 0, code := some k2c2 }
def k2c3 : Code := { maxStack := 1, maxLocals := 1, code := prog_82_method_7_code, exceptionTable := #[], attributes := #[] }
def k2m3 : Method := { name := "active", desc := "()Z", sig := { parameters := [], returnType := some .boolean }, accessFlags := 0, code := some k2c3 }
def k2c4 : Code := { maxStack := 2, maxLocals := 1, code := prog_82_method_9_code, exceptionTable := #[], attributes := #[] }
def k2m4 : Method := { name := "hasOneBranch", desc := "()Z", sig := { parameters := [], returnType := some .boolean }, accessFlags := 0, code := some k2c4 }
/-- com/example/idlwright/idlwright/preprocessor/Conditional -/
def k2 : Class := { plain "com/example/idlwright/idlwright/preprocessor/Conditional" (some 0) with
  accessFlags := 48
  interfaces := #[]
  cf := some (fileOf pool2 8 #[] #[{ accessFlags := 0, nameIndex := 5, descriptorIndex := 34, attributes := #[] }, { accessFlags := 0, nameIndex := 19, descriptorIndex := 20, attributes := #[] }, { accessFlags := 0, nameIndex := 38, descriptorIndex := 39, attributes := #[] }, { accessFlags := 0, nameIndex := 26, descriptorIndex := 39, attributes := #[] }, { accessFlags := 0, nameIndex := 42, descriptorIndex := 39, attributes := #[] }] 48 2 #[] #[{ accessFlags := 18, nameIndex := 11, descriptorIndex := 12, attributes := #[] }, { accessFlags := 18, nameIndex := 15, descriptorIndex := 16, attributes := #[] }, { accessFlags := 2, nameIndex := 23, descriptorIndex := 16, attributes := #[] }, { accessFlags := 2, nameIndex := 26, descriptorIndex := 16, attributes := #[] }, { accessFlags := 2, nameIndex := 33, descriptorIndex := 16, attributes := #[] }, { accessFlags := 2, nameIndex := 29, descriptorIndex := 30, attributes := #[] }])
  fields := #[{ name := "opening", type := (.object "com/example/idlwright/idlwright/lexer/Token"), accessFlags := 18, slot := 0, constantValue := 0 }, { name := "enclosing", type := .boolean, accessFlags := 18, slot := 1, constantValue := 0 }, { name := "taken", type := .boolean, accessFlags := 2, slot := 2, constantValue := 0 }, { name := "active", type := .boolean, accessFlags := 2, slot := 3, constantValue := 0 }, { name := "elseSeen", type := .boolean, accessFlags := 2, slot := 4, constantValue := 0 }, { name := "branches", type := .int, accessFlags := 2, slot := 5, constantValue := 0 }]
  methods := #[k2m0, k2m1, k2m2, k2m3, k2m4]
  instanceTypes := #[(.object "com/example/idlwright/idlwright/lexer/Token"), .boolean, .boolean, .boolean, .boolean, .int]
  staticTypes := #[]
  resolved := Array.replicate 45 none
  statics := none }

def pool3 : Array CpInfo := pool [(1, u "java/lang/Cloneable"), (0, .class_ 1), (0, u "java/lang/Object"), (0, .class_ 3)] 3

/-- java/lang/Cloneable -/
def k3 : Class := { plain "java/lang/Cloneable" (some 0) with
  accessFlags := 1537
  interfaces := #[]
  cf := some (fileOf pool3 2 #[] #[] 1537 4 #[] #[])
  fields := #[]
  methods := #[]
  instanceTypes := #[]
  staticTypes := #[]
  resolved := Array.replicate 8 none
  statics := none }

def pool4 : Array CpInfo := pool [(1, u "java/io/Serializable"), (0, .class_ 1), (0, u "java/lang/Object"), (0, .class_ 3)] 3

/-- java/io/Serializable -/
def k4 : Class := { plain "java/io/Serializable" (some 0) with
  accessFlags := 1537
  interfaces := #[]
  cf := some (fileOf pool4 2 #[] #[] 1537 4 #[] #[])
  fields := #[]
  methods := #[]
  instanceTypes := #[]
  staticTypes := #[]
  resolved := Array.replicate 8 none
  statics := none }

/-- the primitive byte -/
def k5 : Class := { plain "byte" none with kind := .primitive 'B', accessFlags := 0x411 }
/-- [B -/
def k6 : Class := { plain "[B" (some 0) with kind := .array 5 .byte, interfaces := #[3, 4], accessFlags := 1041 }

/-- the primitive int -/
def k7 : Class := { plain "int" none with kind := .primitive 'I', accessFlags := 0x411 }
/-- [I -/
def k8 : Class := { plain "[I" (some 0) with kind := .array 7 .int, interfaces := #[3, 4], accessFlags := 1041 }

def heap : Heap := #[]
def classes : Array Class := #[k0, k1, k2, k3, k4, k5, k6, k7, k8]
def interned : List (Array UInt16 × Addr) := []
def slotsUsed : Nat := 0
def theMethod : MethodId := ⟨1, 1⟩
def args0 : Array Value := #[.int 5]
def aboutOver (below : List Frame) : State where
  vm := { classes := classes, interned := interned.toArray }
  heap := heap
  slotsUsed := slotsUsed
  threads := #[{ frames := .invoking theMethod args0 :: below }]
def below0 : List Frame := [.native { method := ⟨0, 0⟩, args := #[] }]
def about1 : State := aboutOver below0
def p0 : Program := .bare "" "" ""
def e0 : Env := launch0.env 0 0 0
theorem w_frames : about1.frames = Frame.invoking theMethod args0 :: below0 := rfl
set_option maxRecDepth 65536 in
theorem w_args : argsFit about1.vm theMethod args0 = true := by decide +kernel
set_option maxRecDepth 65536 in
theorem w_heap : heapFits about1 = true := by decide +kernel
set_option maxRecDepth 65536 in
theorem w_runnable : about1.curStatus? = some .runnable := by decide +kernel
set_option maxRecDepth 65536 in
theorem w_alone : about1.alone = true := by decide +kernel
set_option maxRecDepth 65536 in
theorem w_named : about1.methodNamed? x = some theMethod := by decide +kernel
set_option maxRecDepth 65536 in
theorem w_hears : about1.hears theMethod below0 = true := by decide +kernel
set_option maxRecDepth 65536 in
theorem w_ripe : about1.ripe theMethod args0 below0 = true := by decide +kernel
theorem w_running : about1.status = .running := rfl
set_option maxRecDepth 65536 in
theorem w_room : about1.hasRoom e0.platform room_1 = true :=
  launch0.hasRoom_least _ room_1 (by decide +kernel) (by decide +kernel) (by decide +kernel) (by decide +kernel) (by decide +kernel) (by decide +kernel)
theorem allAtoms_all (ts : List Jvm.Cond) (a : Array Jvm.Value) (st : Jvm.State) : (allAtoms ts).before a st = ts.all (fun c => c.before a st) := by
  induction ts with
  | nil => rfl
  | cons c t ih =>
    show (Jvm.Cond.and c (allAtoms t)).before a st = _
    rw [Jvm.Cond.before_and, ih, List.all_cons]
def words1 : List Jvm.Cond := Jvm.Cond.code x code maxLocals ret :: tables_1
/-- a 'code' word, met by the world's own term for the bytes: nothing is compared byte by byte -/
theorem code_word {y : MethodName} {bytes : ByteArray} {mx : Nat} {rt : Option FieldType} {a : Array Value} {s : State} {m : MethodId} {meth : Method} {c : Code} (h1 : s.methodNamed? y = some m) (h2 : s.vm.method? m = some meth) (h3 : meth.code = some c) (h4 : c.code = bytes)
    (h5 : (c.maxLocals == mx && c.exceptionTable.isEmpty && decide (c.maxStack ≤ mostOperands) && decide (meth.sig.returnType = rt) && !meth.locks && decide (parseMethodDescriptor y.desc = some meth.sig)) = true) : (Jvm.Cond.code y bytes mx rt).before a s = true := by
  simp only [Bool.and_eq_true, beq_iff_eq, Bool.not_eq_true', decide_eq_true_eq] at h5
  obtain ⟨⟨⟨⟨⟨g1, g2⟩, g3⟩, g4⟩, g5⟩, g6⟩ := h5
  simp [Cond.before, Cond.holds, Cond.value, h1, h2, h3, h4, g1, g2, g3, g4, g5, g6]
def isCode : Jvm.Cond → Bool
  | .code _ _ _ _ => true
  | _ => false
theorem all_split {L : List Jvm.Cond} {P : Jvm.Cond → Bool} (h1 : L.all (fun c => isCode c || P c) = true) (h2 : ∀ c ∈ L.filter isCode, P c = true) : L.all P = true := by
  refine List.all_eq_true.mpr fun c hc => ?_
  have h := List.all_eq_true.mp h1 c hc
  rcases Bool.eq_false_or_eq_true (isCode c) with hi | hi
  · exact h2 c (List.mem_filter.mpr ⟨hc, hi⟩)
  · simpa [hi] using h
set_option maxRecDepth 65536 in
theorem w_c0 : (Jvm.Cond.code x code maxLocals ret).before args0 about1 = true := code_word (m := ⟨1, 1⟩) (meth := k1m1) (c := k1c1) (by decide +kernel) rfl rfl rfl (by decide +kernel)
set_option maxRecDepth 65536 in
theorem w_c1 : (Jvm.Cond.code ({ cls := "com/example/idlwright/idlwright/preprocessor/Conditional", name := "<init>", desc := "(Lcom/example/idlwright/idlwright/lexer/Token;ZZ)V" } : Jvm.MethodName) prog_82_method_1_code (4 : Nat) (Option.none : Option Jvm.ClassFile.FieldType)).before args0 about1 = true := code_word (m := ⟨2, 0⟩) (meth := k2m0) (c := k2c0) (by decide +kernel) rfl rfl rfl (by decide +kernel)
set_option maxRecDepth 65536 in
theorem w_c2 : (Jvm.Cond.code ({ cls := "java/lang/Object", name := "<init>", desc := "()V" } : Jvm.MethodName) object_method_1_code (1 : Nat) (Option.none : Option Jvm.ClassFile.FieldType)).before args0 about1 = true := code_word (m := ⟨0, 0⟩) (meth := k0m0) (c := k0c0) (by decide +kernel) rfl rfl rfl (by decide +kernel)
set_option maxRecDepth 65536 in
theorem w_c3 : (Jvm.Cond.code ({ cls := "com/example/idlwright/idlwright/preprocessor/Conditional", name := "branch", desc := "(Z)V" } : Jvm.MethodName) prog_82_method_2_code (2 : Nat) (Option.none : Option Jvm.ClassFile.FieldType)).before args0 about1 = true := code_word (m := ⟨2, 1⟩) (meth := k2m1) (c := k2c1) (by decide +kernel) rfl rfl rfl (by decide +kernel)
set_option maxRecDepth 65536 in
theorem w_c4 : (Jvm.Cond.code ({ cls := "com/example/idlwright/idlwright/preprocessor/Conditional", name := "active", desc := "()Z" } : Jvm.MethodName) prog_82_method_7_code (1 : Nat) (Option.some Jvm.ClassFile.FieldType.boolean)).before args0 about1 = true := code_word (m := ⟨2, 3⟩) (meth := k2m3) (c := k2c3) (by decide +kernel) rfl rfl rfl (by decide +kernel)
set_option maxRecDepth 65536 in
theorem w_c5 : (Jvm.Cond.code ({ cls := "com/example/idlwright/idlwright/preprocessor/Conditional", name := "undecided", desc := "()Z" } : Jvm.MethodName) prog_82_method_3_code (1 : Nat) (Option.some Jvm.ClassFile.FieldType.boolean)).before args0 about1 = true := code_word (m := ⟨2, 2⟩) (meth := k2m2) (c := k2c2) (by decide +kernel) rfl rfl rfl (by decide +kernel)
set_option maxRecDepth 65536 in
theorem w_c6 : (Jvm.Cond.code ({ cls := "com/example/idlwright/idlwright/preprocessor/Conditional", name := "hasOneBranch", desc := "()Z" } : Jvm.MethodName) prog_82_method_9_code (1 : Nat) (Option.some Jvm.ClassFile.FieldType.boolean)).before args0 about1 = true := code_word (m := ⟨2, 4⟩) (meth := k2m4) (c := k2c4) (by decide +kernel) rfl rfl rfl (by decide +kernel)
def codes1 : List Jvm.Cond := [Jvm.Cond.code x code maxLocals ret, Jvm.Cond.code ({ cls := "com/example/idlwright/idlwright/preprocessor/Conditional", name := "<init>", desc := "(Lcom/example/idlwright/idlwright/lexer/Token;ZZ)V" } : Jvm.MethodName) prog_82_method_1_code (4 : Nat) (Option.none : Option Jvm.ClassFile.FieldType), Jvm.Cond.code ({ cls := "java/lang/Object", name := "<init>", desc := "()V" } : Jvm.MethodName) object_method_1_code (1 : Nat) (Option.none : Option Jvm.ClassFile.FieldType), Jvm.Cond.code ({ cls := "com/example/idlwright/idlwright/preprocessor/Conditional", name := "branch", desc := "(Z)V" } : Jvm.MethodName) prog_82_method_2_code (2 : Nat) (Option.none : Option Jvm.ClassFile.FieldType), Jvm.Cond.code ({ cls := "com/example/idlwright/idlwright/preprocessor/Conditional", name := "active", desc := "()Z" } : Jvm.MethodName) prog_82_method_7_code (1 : Nat) (Option.some Jvm.ClassFile.FieldType.boolean), Jvm.Cond.code ({ cls := "com/example/idlwright/idlwright/preprocessor/Conditional", name := "undecided", desc := "()Z" } : Jvm.MethodName) prog_82_method_3_code (1 : Nat) (Option.some Jvm.ClassFile.FieldType.boolean), Jvm.Cond.code ({ cls := "com/example/idlwright/idlwright/preprocessor/Conditional", name := "hasOneBranch", desc := "()Z" } : Jvm.MethodName) prog_82_method_9_code (1 : Nat) (Option.some Jvm.ClassFile.FieldType.boolean)]
set_option maxRecDepth 65536 in
theorem codes_eq : words1.filter isCode = codes1 := rfl
theorem w_codes : ∀ c ∈ words1.filter isCode, c.before args0 about1 = true := by
  rw [codes_eq]
  intro c hc
  simp only [codes1, List.mem_cons, List.not_mem_nil, or_false] at hc
  rcases hc with rfl | rfl | rfl | rfl | rfl | rfl | rfl
  · exact w_c0
  · exact w_c1
  · exact w_c2
  · exact w_c3
  · exact w_c4
  · exact w_c5
  · exact w_c6
set_option maxRecDepth 65536 in
theorem w_t1 : (words1.take 24).all (fun c => isCode c || c.before args0 about1) = true := by decide +kernel
set_option maxRecDepth 65536 in
theorem w_t2 : (words1.drop 24).all (fun c => isCode c || c.before args0 about1) = true := by decide +kernel
theorem w_tables : (allAtoms (Jvm.Cond.code x code maxLocals ret :: tables_1)).before args0 about1 = true := by
  rw [allAtoms_all]
  show words1.all (fun c => c.before args0 about1) = true
  refine all_split ?_ w_codes
  rw [← List.take_append_drop 24 words1, List.all_append, w_t1, w_t2]
  rfl
set_option maxRecDepth 65536 in
theorem w_case : (Jvm.Cond.and given_1 narrow_1).before args0 about1 = true := by decide +kernel
theorem w_applies : (headSpec (Jvm.Cond.code x code maxLocals ret :: tables_1) room_1).applies x e0.platform about1 = true :=
  (Spec.applies_iff w_frames).mpr ⟨w_running, w_runnable, w_alone, w_named, w_hears, w_ripe, w_room, w_tables⟩
theorem atStart : AtStart classFile x code maxLocals ret World_1 tables_1 room_1 Calls_1 rest_1 Pre_1 launch0 p0 e0 about1 theMethod args0 below0 :=
  ⟨lists_1, trivial, launch0.admits_env _ _ _, launch0.least_env, fairChoices_fair.cas, fairChoices_fair.clock, w_frames, w_args, w_heap, w_applies, trivial, trivial, w_case⟩
end start1
theorem witness_1 : WitnessClaimed_1 := ⟨start1.p0, start1.e0, start1.about1, start1.theMethod, start1.args0, start1.below0, start1.atStart⟩
end Jvm.Pilot.@@N@@
