import JvmDerived
import JvmDerived.Pilot.@@N@@Statement
import JvmDerived.Pilot.@@N@@Code
set_option linter.unusedVariables false
set_option linter.unusedSimpArgs false
namespace Jvm.Pilot.@@N@@
open Jvm Jvm.ClassFile Sem Op Lib Jvm.Free Jvm.Stand Jvm.LawKit Jvm.RoadKit Bundle Jvm.Pilot.@@N@@.Jvm.D
/-- from here the run comes to a return, and Q holds of what it returns, of the heap and of the places written -/
def own_Go (p : Program) (e : Env) (below : List Frame) (s : State) (kc ks : Nat) (Q : Option Value → Heap → List Loc → Prop) (T : State) (g : JFrame) : Prop :=
  ∃ s₂ o, Steps p.tables e below (T.setTop g) s₂ ∧ s₂.status = .running ∧ Ended s₂ below o ∧ ∃ v L, o = .returned v ∧ Q v s₂.heap L ∧ FrameEnd s o s₂ L kc ks
theorem own_step {p : Program} {e : Env} {below : List Frame} {s : State} {kc ks : Nat} {Q : Option Value → Heap → List Loc → Prop} {T T' : State} {g g' : JFrame}
    (h : ∀ t, Steps p.tables e below (T'.setTop g') t → Steps p.tables e below (T.setTop g) t) (k : own_Go p e below s kc ks Q T' g') : own_Go p e below s kc ks Q T g := by
  obtain ⟨s₂, o, h1, r⟩ := k
  exact ⟨s₂, o, h _ h1, r⟩
section Own
variable {p : Program} {l : Launch} {e : Env} {R : Room} {s : State} {m : MethodId} {args : Array Value} {below : List Frame} {meth : Method} {c : Code} {T : State} {locs : List Loc} {cells slots kc ks : Nat} {Q : Option Value → Heap → List Loc → Prop}
theorem own_ret (X : Stand p l e R s m args below meth c T locs cells slots) (hx : p.tables.exec = Jvm.exec) (hlk : meth.locks = false) {pc : Nat} {Ls : Array Slot} {w : Value} {t : FieldType} {i : Instr} {rest : List Value} (hret : meth.sig.returnType = some t) (hn : narrow t w = w)
    (hi : (i = .ireturn ∧ (t = .int ∨ t = .boolean ∨ t = .byte ∨ t = .char ∨ t = .short) ∧ ∃ z, w = .int z) ∨ (i = .lreturn ∧ t = .long ∧ ∃ z, w = .long z) ∨ (i = .dreturn ∧ t = .double ∧ ∃ z, w = .double z) ∨ (i = .freturn ∧ t = .float ∧ ∃ z, w = .float z) ∨ (i = .areturn ∧ t.isReference = true ∧ w.isRef = true))
    (hd : decode c.code pc = .ok (i, 1)) (hc : cells ≤ kc) (hs : slots ≤ ks) (hQ : Q (some w) T.heap locs) : own_Go p e below s kc ks Q T (mkF m pc Ls (w :: rest)) := by
  obtain ⟨fs, hr, hrun, hended, hW, hsame⟩ := X.leave (v := some w) (fun h => by rw [hret] at h; cases h) hlk
  exact ⟨_, _, retOut X hx hret hn hi hd hr, hrun, hended, _, _, rfl, hQ, ⟨_, rfl⟩, hW, hsame.mono hc hs⟩
theorem own_retV (X : Stand p l e R s m args below meth c T locs cells slots) (hx : p.tables.exec = Jvm.exec) (hlk : meth.locks = false) {pc : Nat} {Ls : Array Slot} (hret : meth.sig.returnType = none)
    (hd : decode c.code pc = .ok (.return_, 1)) (hc : cells ≤ kc) (hs : slots ≤ ks) (hQ : Q none T.heap locs) : own_Go p e below s kc ks Q T (mkF m pc Ls []) := by
  obtain ⟨fs, hr, hrun, hended, hW, hsame⟩ := X.leave (v := none) (fun _ => rfl) hlk
  exact ⟨_, _, X.returnOut hx hret hd hr, hrun, hended, _, _, rfl, hQ, ⟨_, rfl⟩, hW, hsame.mono hc hs⟩
theorem own_narZ {z : Int32} (hz : z = 0 ∨ z = 1) : narrow .boolean (.int z) = .int z := by rcases hz with rfl | rfl <;> rfl
end Own
/-- an int array of n places, each an int -/
def own_Ints (Z : State) (h : Heap) (a : Addr) (n : Nat) : Prop := ∃ cl : Cell, Arr Z h a cl .int ∧ cl.slots.size = n ∧ ∀ i, i < n → ∃ z : Int32, cl.slots[i]? = some (.int z)
theorem own_ints_new {Z : State} {h : Heap} {a : Addr} {k : ClassId} {z : Int32} {n : Nat} (A : Arr Z h a (newA k .int z) .int) (hn : z.toNatClampNeg = n) : own_Ints Z h a n := by
  refine ⟨_, A, (sz_new _ _ _).trans hn, fun i hi => ⟨0, ?_⟩⟩
  subst hn
  simp [newA, hi, defaultValue]
theorem own_ints_set {Z : State} {h h' : Heap} {a : Addr} {n j : Nat} {x : Int32} (I : own_Ints Z h a n) (W : Wr h h' a j (.int x)) : own_Ints Z h' a n := by
  obtain ⟨cl, A, S, H⟩ := I
  refine ⟨_, A.same W, (sz_set _ _ _).trans S, fun i hi => ?_⟩
  by_cases q : i = j
  · subst q
    refine ⟨x, ?_⟩
    simp [Cell.setSlot, S, hi]
  · obtain ⟨z, hz⟩ := H i hi
    refine ⟨z, ?_⟩
    rw [← hz]
    exact Array.getElem?_setIfInBounds_ne (fun e => q e.symm)
theorem own_in {j : Int32} {n : Nat} (h0 : 0 ≤ j.toInt) (h1 : j.toInt < n) : ¬ (j < 0 ∨ n ≤ j.toNatClampNeg) := by
  simp only [Int32.lt_iff_toInt_lt, Int32.toNatClampNeg, Int32.reduceToInt]; omega
section OwnArr
variable {p : Program} {l : Launch} {e : Env} {R : Room} {s : State} {m : MethodId} {args : Array Value} {below : List Frame} {meth : Method} {c : Code} {T : State} {locs : List Loc} {cells slots : Nat} {Z : State} {h : Heap}
theorem own_stI (X : Stand p l e R s m args below meth c T locs cells slots) (hx : p.tables.exec = Jvm.exec) (hZ : Z.Warmed39 s.vm) (eT : T.heap = h) {a : Addr} {n : Nat} (I : own_Ints Z h a n) {j x : Int32} (hj : ¬ (j < 0 ∨ n ≤ j.toNatClampNeg)) {g : JFrame} (hg : g.method = m) {rest : List Value} (hs : g.stack = .int x :: .int j :: .ref a :: rest) (hd : decode c.code g.pc = .ok (.iastore, 1)) :
    ∃ T' h', Stand p l e R s m args below meth c T' (locs ++ [⟨a, j.toNatClampNeg⟩]) cells slots ∧ T'.heap = h' ∧ Wr h h' a j.toNatClampNeg (.int x) ∧ own_Ints Z h' a n ∧ ∀ target, Steps p.tables e below (T'.setTop { g with pc := g.pc + 1, stack := rest }) target → Steps p.tables e below (T.setTop g) target := by
  have I' := I
  obtain ⟨cl, A, S, H⟩ := I
  obtain ⟨T', h', X', e', W, st⟩ := stI X hx hZ eT A (j := j) (x := x) (by rw [S]; exact hj) hg hs hd
  exact ⟨T', h', X', e', W, own_ints_set I' W, st⟩
theorem own_ldI (X : Stand p l e R s m args below meth c T locs cells slots) (hx : p.tables.exec = Jvm.exec) (hZ : Z.Warmed39 s.vm) (eT : T.heap = h) {a : Addr} {n : Nat} (I : own_Ints Z h a n) {j : Int32} (hj : ¬ (j < 0 ∨ n ≤ j.toNatClampNeg)) {g : JFrame} (hg : g.method = m) {rest : List Value} (hs : g.stack = .int j :: .ref a :: rest) (hd : decode c.code g.pc = .ok (.iaload, 1)) :
    ∃ z : Int32, ∀ target, Steps p.tables e below (T.setTop { g with pc := g.pc + 1, stack := .int z :: rest }) target → Steps p.tables e below (T.setTop g) target := by
  obtain ⟨cl, A, S, H⟩ := I
  obtain ⟨z, hz⟩ := H j.toNatClampNeg (Nat.lt_of_not_le fun q => hj (Or.inr q))
  exact ⟨z, fun t k => X.iaload hx (by rw [eT]; exact A.1) (State.isArrayOf_alike hZ.alike A.2.1) A.2.2 (by rw [S]; exact hj) hz hg hs hd t k⟩
theorem own_len (X : Stand p l e R s m args below meth c T locs cells slots) (hx : p.tables.exec = Jvm.exec) (hZ : Z.Warmed39 s.vm) (eT : T.heap = h) {a : Addr} {n : Nat} (I : own_Ints Z h a n) {k : Int32} (hk : n.toInt32 = k) {g : JFrame} (hg : g.method = m) {rest : List Value} (hs : g.stack = .ref a :: rest) (hd : decode c.code g.pc = .ok (.arraylength, 1)) :
    ∀ target, Steps p.tables e below (T.setTop { g with pc := g.pc + 1, stack := .int k :: rest }) target → Steps p.tables e below (T.setTop g) target := by
  obtain ⟨cl, A, S, H⟩ := I
  exact fun t q => X.lengthOf hx (by rw [eT]; exact A.1) (State.isArrayOf_alike hZ.alike A.2.1) (by rw [S]; exact hk) hg hs hd t q
end OwnArr
def own_cd (p : Int32) : Int32 := if p = 40 then 41 else if p = 123 then 125 else if p = 91 then 93 else if p = 60 then 62 else p
theorem own_cd2 (p : Int32) : own_cd (own_cd p) = own_cd p := by
  by_cases a : p = 40
  · subst a; decide
  by_cases b : p = 123
  · subst b; decide
  by_cases c : p = 91
  · subst c; decide
  by_cases d : p = 60
  · subst d; decide
  have q : own_cd p = p := by rw [own_cd, if_neg a, if_neg b, if_neg c, if_neg d]
  rw [q, q]
theorem own_cd40 {p : Int32} (h : p = 40) : (41 : Int32) = own_cd p := by subst h; decide
theorem own_cd123 {p : Int32} (h : p = 123) : (125 : Int32) = own_cd p := by subst h; decide
theorem own_cd91 {p : Int32} (h : p = 91) : (93 : Int32) = own_cd p := by subst h; decide
theorem own_cd60 {p : Int32} (h : p = 60) : (62 : Int32) = own_cd p := by subst h; decide
theorem own_cdX {p : Int32} (a : ¬ p = 40) (b : ¬ p = 123) (c : ¬ p = 91) (d : ¬ p = 60) : p = own_cd p := by rw [own_cd, if_neg a, if_neg b, if_neg c, if_neg d]
theorem own_lsHit {p : Program} {l : Launch} {e : Env} {R : Room} {s : State} {m : MethodId} {args : Array Value} {below : List Frame} {meth : Method} {c : Code} {T target : State} {locs : List Loc} {cells slots : Nat} (X : Stand p l e R s m args below meth c T locs cells slots) (hx : p.tables.exec = Jvm.exec) {g : JFrame} (hg : g.method = m) {k : Int32} {rest : List Value}
    (hstack : g.stack = .int k :: rest) {dflt : Int} {pairs : Array (Int × Int)} {len : Nat} (hd : decode c.code g.pc = .ok (.lookupswitch dflt pairs, len)) (hsorted : (pairs.toList.zip (pairs.toList.drop 1)).all (fun (a, next) => a.1 < next.1) = true) {a off : Int} (hfind : pairs.find? (·.1 == k.toInt) = some (a, off)) {pc0 pc' : Nat} (hpc : g.pc = pc0) (ho : 0 ≤ (pc0 : Int) + off) (hp : ((pc0 : Int) + off).toNat = pc')
    (hr : Steps p.tables e below (T.setTop { g with pc := pc', stack := rest }) target) : Steps p.tables e below (T.setTop g) target := by
  subst hpc hp
  exact X.lookupswitchHit hx hg hstack hd hsorted hfind ho target hr
theorem own_lsMiss {p : Program} {l : Launch} {e : Env} {R : Room} {s : State} {m : MethodId} {args : Array Value} {below : List Frame} {meth : Method} {c : Code} {T target : State} {locs : List Loc} {cells slots : Nat} (X : Stand p l e R s m args below meth c T locs cells slots) (hx : p.tables.exec = Jvm.exec) {g : JFrame} (hg : g.method = m) {k : Int32} {rest : List Value}
    (hstack : g.stack = .int k :: rest) {dflt : Int} {pairs : Array (Int × Int)} {len : Nat} (hd : decode c.code g.pc = .ok (.lookupswitch dflt pairs, len)) (hsorted : (pairs.toList.zip (pairs.toList.drop 1)).all (fun (a, next) => a.1 < next.1) = true) (hfind : pairs.find? (·.1 == k.toInt) = none) {pc0 pc' : Nat} (hpc : g.pc = pc0) (ho : 0 ≤ (pc0 : Int) + dflt) (hp : ((pc0 : Int) + dflt).toNat = pc')
    (hr : Steps p.tables e below (T.setTop { g with pc := pc', stack := rest }) target) : Steps p.tables e below (T.setTop g) target := by
  subst hpc hp
  exact X.lookupswitchMiss hx hg hstack hd hsorted hfind ho target hr
theorem own_idx (p : Int32) : ¬ ((p &&& (7 : Int32)) < 0 ∨ 8 ≤ (p &&& (7 : Int32)).toNatClampNeg) := by
  have h := c_and p 7 (by decide)
  have q : (7 : Int32).toInt = 7 := by decide
  rw [q] at h
  exact own_in h.1 (by omega)
theorem own_nt {p n : Int32} {k : Int} (h : ¬ p = n) (hk : n.toInt = k) : k ≠ p.toInt := fun q => h (Int32.toInt_inj.mp (hk.trans q)).symm
theorem own_miss {p : Int32} (c40 : ¬ p = 40) (c60 : ¬ p = 60) (c91 : ¬ p = 91) (c123 : ¬ p = 123) : (#[(40, 43), (60, 58), (91, 53), (123, 48)] : Array (Int × Int)).find? (·.1 == p.toInt) = none := by
  refine find_miss ?_
  intro q hq
  have hq' : q = (40, 43) ∨ q = (60, 58) ∨ q = (91, 53) ∨ q = (123, 48) := by simpa using hq
  have k1 : (40 : Int) ≠ p.toInt := own_nt c40 (by decide)
  have k2 : (60 : Int) ≠ p.toInt := own_nt c60 (by decide)
  have k3 : (91 : Int) ≠ p.toInt := own_nt c91 (by decide)
  have k4 : (123 : Int) ≠ p.toInt := own_nt c123 (by decide)
  rcases hq' with e | e | e | e <;> rw [e]
  · exact k1
  · exact k2
  · exact k3
  · exact k4
theorem d1_0 : decode prog_136_method_8_code 0 = .ok (.iload_n 0, 1) := by decide +kernel
theorem d1_1 : decode prog_136_method_8_code 1 = .ok (.lookupswitch 63 #[(40, 43), (60, 58), (91, 53), (123, 48)], 43) := by decide +kernel
theorem d1_44 : decode prog_136_method_8_code 44 = .ok (.bipush 41, 2) := by decide +kernel
theorem d1_46 : decode prog_136_method_8_code 46 = .ok (.goto 19, 3) := by decide +kernel
theorem d1_49 : decode prog_136_method_8_code 49 = .ok (.bipush 125, 2) := by decide +kernel
theorem d1_51 : decode prog_136_method_8_code 51 = .ok (.goto 14, 3) := by decide +kernel
theorem d1_54 : decode prog_136_method_8_code 54 = .ok (.bipush 93, 2) := by decide +kernel
theorem d1_56 : decode prog_136_method_8_code 56 = .ok (.goto 9, 3) := by decide +kernel
theorem d1_59 : decode prog_136_method_8_code 59 = .ok (.bipush 62, 2) := by decide +kernel
theorem d1_61 : decode prog_136_method_8_code 61 = .ok (.goto 4, 3) := by decide +kernel
theorem d1_64 : decode prog_136_method_8_code 64 = .ok (.iload_n 0, 1) := by decide +kernel
theorem d1_65 : decode prog_136_method_8_code 65 = .ok (.ireturn, 1) := by decide +kernel
theorem own_pn1 : plainName "com/example/querywright/querywright/sql/Lexer" = true := by first | (simp [plainName, overriddenIn]; done) | decide +kernel
theorem own_ef1 (m : MethodId) (x0 : Int32) : entryFrame m #[(.int x0)] 1 = mkF m 0 #[.val (.int x0)] [] := by first | (simp [entryFrame, mkF, argsToLocals, Value.category]; done) | rfl
def own_Q1 (Z : State) (p1 : Int32) (h0 : Heap) (n0 : Nat) (v : Option Value) (h : Heap) (L : List Loc) : Prop := v = some (.int (own_cd p1)) ∧ Fr n0 L ∧ h = h0
set_option maxRecDepth 65536 in
set_option maxHeartbeats 40000000 in
theorem own_rm1 (l : Launch) (Z : State) (a0 : Array Value) (hw : ∀ d ∈ tables_1, d.before a0 Z = true) (ws : List Jvm.Cond) (p1 : Int32) (h0 : Heap) (n0 : Nat) (Z0 : n0 ≤ h0.size)  :
    MetFree l (⟨"com/example/querywright/querywright/sql/Lexer", "closingDelimiter", "(I)I"⟩ : MethodName) (head1 (Jvm.Cond.code (⟨"com/example/querywright/querywright/sql/Lexer", "closingDelimiter", "(I)I"⟩ : MethodName) prog_136_method_8_code 1 (some .int) :: ws) ({ frames := 0, cells := 0, slots := 0, locals := 0 } : Room)) (fun a U => a = #[(.int p1)] ∧ Z.Warmed39 U.vm ∧ U.heap = h0) (fun _ _ _ _ _ => True) (fun _ U o U' => ∃ v L, o = .returned v ∧ own_Q1 Z p1 h0 n0 v U'.heap L ∧ FrameEnd U o U' L ({ frames := 0, cells := 0, slots := 0, locals := 0 } : Room).cells ({ frames := 0, cells := 0, slots := 0, locals := 0 } : Room).slots) := by
  refine MetFree.of_bodySF (plainFor_of_name own_pn1) hisR ?_
  intro p e s m args below meth c s₁ Bd hml0 hP hK
  obtain ⟨rfl, hZ, hh⟩ := hP
  have hx := Bd.exec
  have hby := Bd.bytes
  have hml : c.maxLocals = 1 := hml0
  have hlk : meth.locks = false := BodyLoose.notSynchronized Bd
  have hown : s.vm.findClass "com/example/querywright/querywright/sql/Lexer" = some m.cls := findClass_of_methodNamed Bd.named
  have hnm := (name_of_methodNamed Bd.named Bd.method).1
  have X0 : Stand p l e ({ frames := 0, cells := 0, slots := 0, locals := 0 } : Room) s m #[(.int p1)] below meth c s₁ [] 0 0 := Stand.of_body Bd
  have e0 : s₁.heap = h0 := by rw [← hh, Bd.state]; rfl
  have N0 := Fr.nil n0
  show own_Go p e below s ({ frames := 0, cells := 0, slots := 0, locals := 0 } : Room).cells ({ frames := 0, cells := 0, slots := 0, locals := 0 } : Room).slots (own_Q1 Z p1 h0 n0) s₁ (entryFrame m #[(.int p1)] 1)
  refine own_step (fun t k => castTop (own_ef1 m p1) k) ?_
  show own_Go _ _ _ _ _ _ _ s₁ (mkF m 0 #[.val (.int p1)] [])
  refine own_step (fun t k => XS.iloadN X0.here hx rfl (hb hby d1_0) rfl k) ?_
  rcases Classical.em (p1 = (40 : Int32)) with c40 | c40
  · show own_Go _ _ _ _ _ _ _ s₁ (mkF m 1 #[.val (.int p1)] [(.int p1)])
    refine own_step (fun t k => own_lsHit X0 hx rfl rfl (hb hby d1_1) (by decide) (a := 40) (off := 43) (by rw [c40]; decide) (pc0 := 1) (pc' := 44) rfl (by decide) (by decide) k) ?_
    show own_Go _ _ _ _ _ _ _ s₁ (mkF m 44 #[.val (.int p1)] [])
    refine own_step (fun t k => XS.bipush X0.here hx rfl (hb hby d1_44) k) ?_
    show own_Go _ _ _ _ _ _ _ s₁ (mkF m 46 #[.val (.int p1)] [(.int (41 : Int32))])
    refine own_step (fun t k => XS.goto X0.here hx rfl (pc0 := 46) (pc' := 65) rfl (hb hby d1_46) (by decide) (by decide) k) ?_
    show own_Go _ _ _ _ _ _ _ s₁ (mkF m 65 #[.val (.int p1)] [(.int (41 : Int32))])
    refine own_ret X0 hx hlk Bd.returns rfl (Or.inl ⟨rfl, Or.inl rfl, _, rfl⟩) (hb hby d1_65) (by decide) (by decide) ?_
    show own_Q1 Z p1 h0 n0 (some (.int (41 : Int32))) s₁.heap _
    rw [e0]
    exact ⟨by rw [← own_cd40 c40], N0, rfl⟩
  · rcases Classical.em (p1 = (60 : Int32)) with c60 | c60
    · show own_Go _ _ _ _ _ _ _ s₁ (mkF m 1 #[.val (.int p1)] [(.int p1)])
      refine own_step (fun t k => own_lsHit X0 hx rfl rfl (hb hby d1_1) (by decide) (a := 60) (off := 58) (by rw [c60]; decide) (pc0 := 1) (pc' := 59) rfl (by decide) (by decide) k) ?_
      show own_Go _ _ _ _ _ _ _ s₁ (mkF m 59 #[.val (.int p1)] [])
      refine own_step (fun t k => XS.bipush X0.here hx rfl (hb hby d1_59) k) ?_
      show own_Go _ _ _ _ _ _ _ s₁ (mkF m 61 #[.val (.int p1)] [(.int (62 : Int32))])
      refine own_step (fun t k => XS.goto X0.here hx rfl (pc0 := 61) (pc' := 65) rfl (hb hby d1_61) (by decide) (by decide) k) ?_
      show own_Go _ _ _ _ _ _ _ s₁ (mkF m 65 #[.val (.int p1)] [(.int (62 : Int32))])
      refine own_ret X0 hx hlk Bd.returns rfl (Or.inl ⟨rfl, Or.inl rfl, _, rfl⟩) (hb hby d1_65) (by decide) (by decide) ?_
      show own_Q1 Z p1 h0 n0 (some (.int (62 : Int32))) s₁.heap _
      rw [e0]
      exact ⟨by rw [← own_cd60 c60], N0, rfl⟩
    · rcases Classical.em (p1 = (91 : Int32)) with c91 | c91
      · show own_Go _ _ _ _ _ _ _ s₁ (mkF m 1 #[.val (.int p1)] [(.int p1)])
        refine own_step (fun t k => own_lsHit X0 hx rfl rfl (hb hby d1_1) (by decide) (a := 91) (off := 53) (by rw [c91]; decide) (pc0 := 1) (pc' := 54) rfl (by decide) (by decide) k) ?_
        show own_Go _ _ _ _ _ _ _ s₁ (mkF m 54 #[.val (.int p1)] [])
        refine own_step (fun t k => XS.bipush X0.here hx rfl (hb hby d1_54) k) ?_
        show own_Go _ _ _ _ _ _ _ s₁ (mkF m 56 #[.val (.int p1)] [(.int (93 : Int32))])
        refine own_step (fun t k => XS.goto X0.here hx rfl (pc0 := 56) (pc' := 65) rfl (hb hby d1_56) (by decide) (by decide) k) ?_
        show own_Go _ _ _ _ _ _ _ s₁ (mkF m 65 #[.val (.int p1)] [(.int (93 : Int32))])
        refine own_ret X0 hx hlk Bd.returns rfl (Or.inl ⟨rfl, Or.inl rfl, _, rfl⟩) (hb hby d1_65) (by decide) (by decide) ?_
        show own_Q1 Z p1 h0 n0 (some (.int (93 : Int32))) s₁.heap _
        rw [e0]
        exact ⟨by rw [← own_cd91 c91], N0, rfl⟩
      · rcases Classical.em (p1 = (123 : Int32)) with c123 | c123
        · show own_Go _ _ _ _ _ _ _ s₁ (mkF m 1 #[.val (.int p1)] [(.int p1)])
          refine own_step (fun t k => own_lsHit X0 hx rfl rfl (hb hby d1_1) (by decide) (a := 123) (off := 48) (by rw [c123]; decide) (pc0 := 1) (pc' := 49) rfl (by decide) (by decide) k) ?_
          show own_Go _ _ _ _ _ _ _ s₁ (mkF m 49 #[.val (.int p1)] [])
          refine own_step (fun t k => XS.bipush X0.here hx rfl (hb hby d1_49) k) ?_
          show own_Go _ _ _ _ _ _ _ s₁ (mkF m 51 #[.val (.int p1)] [(.int (125 : Int32))])
          refine own_step (fun t k => XS.goto X0.here hx rfl (pc0 := 51) (pc' := 65) rfl (hb hby d1_51) (by decide) (by decide) k) ?_
          show own_Go _ _ _ _ _ _ _ s₁ (mkF m 65 #[.val (.int p1)] [(.int (125 : Int32))])
          refine own_ret X0 hx hlk Bd.returns rfl (Or.inl ⟨rfl, Or.inl rfl, _, rfl⟩) (hb hby d1_65) (by decide) (by decide) ?_
          show own_Q1 Z p1 h0 n0 (some (.int (125 : Int32))) s₁.heap _
          rw [e0]
          exact ⟨by rw [← own_cd123 c123], N0, rfl⟩
        · show own_Go _ _ _ _ _ _ _ s₁ (mkF m 1 #[.val (.int p1)] [(.int p1)])
          refine own_step (fun t k => own_lsMiss X0 hx rfl rfl (hb hby d1_1) (by decide) (own_miss c40 c60 c91 c123) (pc0 := 1) (pc' := 64) rfl (by decide) (by decide) k) ?_
          show own_Go _ _ _ _ _ _ _ s₁ (mkF m 64 #[.val (.int p1)] [])
          refine own_step (fun t k => XS.iloadN X0.here hx rfl (hb hby d1_64) rfl k) ?_
          show own_Go _ _ _ _ _ _ _ s₁ (mkF m 65 #[.val (.int p1)] [(.int p1)])
          refine own_ret X0 hx hlk Bd.returns rfl (Or.inl ⟨rfl, Or.inl rfl, _, rfl⟩) (hb hby d1_65) (by decide) (by decide) ?_
          show own_Q1 Z p1 h0 n0 (some (.int p1)) s₁.heap _
          rw [e0]
          exact ⟨by rw [← own_cdX c40 c123 c91 c60], N0, rfl⟩
theorem own_pn0 : plainName "com/example/querywright/querywright/sql/LexerClosingDelimiterPinLaw" = true := by first | (simp [plainName, overriddenIn]; done) | decide +kernel
theorem own_pd0_0 : parseMethodDescriptor "(I)I" = some ⟨[.int], some .int⟩ := by decide +kernel
theorem own_ef0 (m : MethodId) (x0 : Int32) (x1 : Int32) : entryFrame m #[(.int x0), (.int x1)] maxLocals = mkF m 0 #[.val (.int x0), .val (.int x1), .unset, .unset, .unset, .unset] [] := by first | (simp [entryFrame, mkF, argsToLocals, Value.category, maxLocals]; done) | rfl
def own_Q0 (Z : State) (p1 : Int32) (p2 : Int32) (h0 : Heap) (n0 : Nat) (v : Option Value) (h : Heap) (L : List Loc) : Prop := v = some (.int 1) ∧ Fr n0 L
set_option maxRecDepth 65536 in
set_option maxHeartbeats 40000000 in
theorem own_rm0 (l : Launch) (Z : State) (a0 : Array Value) (hw : ∀ d ∈ tables_1, d.before a0 Z = true) (ws : List Jvm.Cond) (p1 : Int32) (p2 : Int32) (h0 : Heap) (n0 : Nat) (Z0 : n0 ≤ h0.size)  :
    MetFree l x (head1 (Jvm.Cond.code x code maxLocals ret :: ws) room_1) (fun a U => a = #[(.int p1), (.int p2)] ∧ Z.Warmed39 U.vm ∧ U.heap = h0) (fun _ _ _ _ _ => True) (fun _ U o U' => ∃ v L, o = .returned v ∧ own_Q0 Z p1 p2 h0 n0 v U'.heap L ∧ FrameEnd U o U' L room_1.cells room_1.slots) := by
  refine MetFree.of_bodySF (plainFor_of_name own_pn0) hisR ?_
  intro p e s m args below meth c s₁ Bd hml0 hP hK
  obtain ⟨rfl, hZ, hh⟩ := hP
  have hx := Bd.exec
  have hby := Bd.bytes
  have hml : c.maxLocals = 6 := hml0
  have hlk : meth.locks = false := BodyLoose.notSynchronized Bd
  have hown : s.vm.findClass "com/example/querywright/querywright/sql/LexerClosingDelimiterPinLaw" = some m.cls := findClass_of_methodNamed Bd.named
  have hnm := (name_of_methodNamed Bd.named Bd.method).1
  have X0 : Stand p l e room_1 s m #[(.int p1), (.int p2)] below meth c s₁ [] 0 0 := Stand.of_body Bd
  have e0 : s₁.heap = h0 := by rw [← hh, Bd.state]; rfl
  have N0 := Fr.nil n0
  show own_Go p e below s room_1.cells room_1.slots (own_Q0 Z p1 p2 h0 n0) s₁ (entryFrame m #[(.int p1), (.int p2)] maxLocals)
  refine own_step (fun t k => castTop (own_ef0 m p1 p2) k) ?_
  show own_Go _ _ _ _ _ _ _ s₁ (mkF m 0 #[.val (.int p1), .val (.int p2), .unset, .unset, .unset, .unset] [])
  refine own_step (fun t k => XS.bipush X0.here hx rfl (hb hby at_0) k) ?_
  show own_Go _ _ _ _ _ _ _ s₁ (mkF m 2 #[.val (.int p1), .val (.int p2), .unset, .unset, .unset, .unset] [(.int (8 : Int32))])
  obtain ⟨T1, h1, ca1, X1, e1, E1, A1, st1⟩ := newP X0 hx hZ (hw _ (List.mem_of_getElem? (i := 0) rfl)) e0 (g := (mkF m 2 #[.val (.int p1), .val (.int p2), .unset, .unset, .unset, .unset] [(.int (8 : Int32))])) rfl (hb hby at_2) rfl (by decide) (cap := 8) (by decide) (by decide) (by decide) (by decide)
  obtain ⟨b1, g1⟩ : ∃ z, z = h0.size := ⟨_, rfl⟩
  rw [← g1] at A1 st1
  have I1 : own_Ints Z h1 b1 8 := own_ints_new A1 (by decide)
  have nb1 : n0 ≤ b1 := Nat.le_trans (Z0) (Nat.le_of_eq g1.symm)
  have K1 : Keep h0 h1 [] := (Keep.refl h0 []).ext E1
  have sb1 : h0.size ≤ b1 := Nat.le_of_eq g1.symm
  refine own_step st1 ?_
  show own_Go _ _ _ _ _ _ _ T1 (mkF m 4 #[.val (.int p1), .val (.int p2), .unset, .unset, .unset, .unset] [(.ref b1)])
  refine own_step (fun t k => XS.dup X1.here hx rfl (hb hby at_4) rfl rfl k) ?_
  show own_Go _ _ _ _ _ _ _ T1 (mkF m 5 #[.val (.int p1), .val (.int p2), .unset, .unset, .unset, .unset] [(.ref b1), (.ref b1)])
  refine own_step (fun t k => XS.iconst X1.here hx rfl (hb hby at_5) k) ?_
  show own_Go _ _ _ _ _ _ _ T1 (mkF m 6 #[.val (.int p1), .val (.int p2), .unset, .unset, .unset, .unset] [(.int (0 : Int32)), (.ref b1), (.ref b1)])
  refine own_step (fun t k => XS.bipush X1.here hx rfl (hb hby at_6) k) ?_
  show own_Go _ _ _ _ _ _ _ T1 (mkF m 8 #[.val (.int p1), .val (.int p2), .unset, .unset, .unset, .unset] [(.int (40 : Int32)), (.int (0 : Int32)), (.ref b1), (.ref b1)])
  obtain ⟨T2, h2, X2, e2, W2, I2, st2⟩ := own_stI X1 hx hZ e1 I1 (by decide) (g := (mkF m 8 #[.val (.int p1), .val (.int p2), .unset, .unset, .unset, .unset] [(.int (40 : Int32)), (.int (0 : Int32)), (.ref b1), (.ref b1)])) rfl rfl (hb hby at_8)
  have N2 := Fr.snoc X2 N0 nb1
  have K2 : Keep h0 h2 [] := K1.wr W2 (Or.inr sb1)
  refine own_step st2 ?_
  show own_Go _ _ _ _ _ _ _ T2 (mkF m 9 #[.val (.int p1), .val (.int p2), .unset, .unset, .unset, .unset] [(.ref b1)])
  refine own_step (fun t k => XS.dup X2.here hx rfl (hb hby at_9) rfl rfl k) ?_
  show own_Go _ _ _ _ _ _ _ T2 (mkF m 10 #[.val (.int p1), .val (.int p2), .unset, .unset, .unset, .unset] [(.ref b1), (.ref b1)])
  refine own_step (fun t k => XS.iconst X2.here hx rfl (hb hby at_10) k) ?_
  show own_Go _ _ _ _ _ _ _ T2 (mkF m 11 #[.val (.int p1), .val (.int p2), .unset, .unset, .unset, .unset] [(.int (1 : Int32)), (.ref b1), (.ref b1)])
  refine own_step (fun t k => XS.bipush X2.here hx rfl (hb hby at_11) k) ?_
  show own_Go _ _ _ _ _ _ _ T2 (mkF m 13 #[.val (.int p1), .val (.int p2), .unset, .unset, .unset, .unset] [(.int (123 : Int32)), (.int (1 : Int32)), (.ref b1), (.ref b1)])
  obtain ⟨T3, h3, X3, e3, W3, I3, st3⟩ := own_stI X2 hx hZ e2 I2 (by decide) (g := (mkF m 13 #[.val (.int p1), .val (.int p2), .unset, .unset, .unset, .unset] [(.int (123 : Int32)), (.int (1 : Int32)), (.ref b1), (.ref b1)])) rfl rfl (hb hby at_13)
  have N3 := Fr.snoc X3 N2 nb1
  have K3 : Keep h0 h3 [] := K2.wr W3 (Or.inr sb1)
  refine own_step st3 ?_
  show own_Go _ _ _ _ _ _ _ T3 (mkF m 14 #[.val (.int p1), .val (.int p2), .unset, .unset, .unset, .unset] [(.ref b1)])
  refine own_step (fun t k => XS.dup X3.here hx rfl (hb hby at_14) rfl rfl k) ?_
  show own_Go _ _ _ _ _ _ _ T3 (mkF m 15 #[.val (.int p1), .val (.int p2), .unset, .unset, .unset, .unset] [(.ref b1), (.ref b1)])
  refine own_step (fun t k => XS.iconst X3.here hx rfl (hb hby at_15) k) ?_
  show own_Go _ _ _ _ _ _ _ T3 (mkF m 16 #[.val (.int p1), .val (.int p2), .unset, .unset, .unset, .unset] [(.int (2 : Int32)), (.ref b1), (.ref b1)])
  refine own_step (fun t k => XS.bipush X3.here hx rfl (hb hby at_16) k) ?_
  show own_Go _ _ _ _ _ _ _ T3 (mkF m 18 #[.val (.int p1), .val (.int p2), .unset, .unset, .unset, .unset] [(.int (91 : Int32)), (.int (2 : Int32)), (.ref b1), (.ref b1)])
  obtain ⟨T4, h4, X4, e4, W4, I4, st4⟩ := own_stI X3 hx hZ e3 I3 (by decide) (g := (mkF m 18 #[.val (.int p1), .val (.int p2), .unset, .unset, .unset, .unset] [(.int (91 : Int32)), (.int (2 : Int32)), (.ref b1), (.ref b1)])) rfl rfl (hb hby at_18)
  have N4 := Fr.snoc X4 N3 nb1
  have K4 : Keep h0 h4 [] := K3.wr W4 (Or.inr sb1)
  refine own_step st4 ?_
  show own_Go _ _ _ _ _ _ _ T4 (mkF m 19 #[.val (.int p1), .val (.int p2), .unset, .unset, .unset, .unset] [(.ref b1)])
  refine own_step (fun t k => XS.dup X4.here hx rfl (hb hby at_19) rfl rfl k) ?_
  show own_Go _ _ _ _ _ _ _ T4 (mkF m 20 #[.val (.int p1), .val (.int p2), .unset, .unset, .unset, .unset] [(.ref b1), (.ref b1)])
  refine own_step (fun t k => XS.iconst X4.here hx rfl (hb hby at_20) k) ?_
  show own_Go _ _ _ _ _ _ _ T4 (mkF m 21 #[.val (.int p1), .val (.int p2), .unset, .unset, .unset, .unset] [(.int (3 : Int32)), (.ref b1), (.ref b1)])
  refine own_step (fun t k => XS.bipush X4.here hx rfl (hb hby at_21) k) ?_
  show own_Go _ _ _ _ _ _ _ T4 (mkF m 23 #[.val (.int p1), .val (.int p2), .unset, .unset, .unset, .unset] [(.int (60 : Int32)), (.int (3 : Int32)), (.ref b1), (.ref b1)])
  obtain ⟨T5, h5, X5, e5, W5, I5, st5⟩ := own_stI X4 hx hZ e4 I4 (by decide) (g := (mkF m 23 #[.val (.int p1), .val (.int p2), .unset, .unset, .unset, .unset] [(.int (60 : Int32)), (.int (3 : Int32)), (.ref b1), (.ref b1)])) rfl rfl (hb hby at_23)
  have N5 := Fr.snoc X5 N4 nb1
  have K5 : Keep h0 h5 [] := K4.wr W5 (Or.inr sb1)
  refine own_step st5 ?_
  show own_Go _ _ _ _ _ _ _ T5 (mkF m 24 #[.val (.int p1), .val (.int p2), .unset, .unset, .unset, .unset] [(.ref b1)])
  refine own_step (fun t k => XS.dup X5.here hx rfl (hb hby at_24) rfl rfl k) ?_
  show own_Go _ _ _ _ _ _ _ T5 (mkF m 25 #[.val (.int p1), .val (.int p2), .unset, .unset, .unset, .unset] [(.ref b1), (.ref b1)])
  refine own_step (fun t k => XS.iconst X5.here hx rfl (hb hby at_25) k) ?_
  show own_Go _ _ _ _ _ _ _ T5 (mkF m 26 #[.val (.int p1), .val (.int p2), .unset, .unset, .unset, .unset] [(.int (4 : Int32)), (.ref b1), (.ref b1)])
  refine own_step (fun t k => XS.bipush X5.here hx rfl (hb hby at_26) k) ?_
  show own_Go _ _ _ _ _ _ _ T5 (mkF m 28 #[.val (.int p1), .val (.int p2), .unset, .unset, .unset, .unset] [(.int (41 : Int32)), (.int (4 : Int32)), (.ref b1), (.ref b1)])
  obtain ⟨T6, h6, X6, e6, W6, I6, st6⟩ := own_stI X5 hx hZ e5 I5 (by decide) (g := (mkF m 28 #[.val (.int p1), .val (.int p2), .unset, .unset, .unset, .unset] [(.int (41 : Int32)), (.int (4 : Int32)), (.ref b1), (.ref b1)])) rfl rfl (hb hby at_28)
  have N6 := Fr.snoc X6 N5 nb1
  have K6 : Keep h0 h6 [] := K5.wr W6 (Or.inr sb1)
  refine own_step st6 ?_
  show own_Go _ _ _ _ _ _ _ T6 (mkF m 29 #[.val (.int p1), .val (.int p2), .unset, .unset, .unset, .unset] [(.ref b1)])
  refine own_step (fun t k => XS.dup X6.here hx rfl (hb hby at_29) rfl rfl k) ?_
  show own_Go _ _ _ _ _ _ _ T6 (mkF m 30 #[.val (.int p1), .val (.int p2), .unset, .unset, .unset, .unset] [(.ref b1), (.ref b1)])
  refine own_step (fun t k => XS.iconst X6.here hx rfl (hb hby at_30) k) ?_
  show own_Go _ _ _ _ _ _ _ T6 (mkF m 31 #[.val (.int p1), .val (.int p2), .unset, .unset, .unset, .unset] [(.int (5 : Int32)), (.ref b1), (.ref b1)])
  refine own_step (fun t k => XS.bipush X6.here hx rfl (hb hby at_31) k) ?_
  show own_Go _ _ _ _ _ _ _ T6 (mkF m 33 #[.val (.int p1), .val (.int p2), .unset, .unset, .unset, .unset] [(.int (125 : Int32)), (.int (5 : Int32)), (.ref b1), (.ref b1)])
  obtain ⟨T7, h7, X7, e7, W7, I7, st7⟩ := own_stI X6 hx hZ e6 I6 (by decide) (g := (mkF m 33 #[.val (.int p1), .val (.int p2), .unset, .unset, .unset, .unset] [(.int (125 : Int32)), (.int (5 : Int32)), (.ref b1), (.ref b1)])) rfl rfl (hb hby at_33)
  have N7 := Fr.snoc X7 N6 nb1
  have K7 : Keep h0 h7 [] := K6.wr W7 (Or.inr sb1)
  refine own_step st7 ?_
  show own_Go _ _ _ _ _ _ _ T7 (mkF m 34 #[.val (.int p1), .val (.int p2), .unset, .unset, .unset, .unset] [(.ref b1)])
  refine own_step (fun t k => XS.dup X7.here hx rfl (hb hby at_34) rfl rfl k) ?_
  show own_Go _ _ _ _ _ _ _ T7 (mkF m 35 #[.val (.int p1), .val (.int p2), .unset, .unset, .unset, .unset] [(.ref b1), (.ref b1)])
  refine own_step (fun t k => XS.bipush X7.here hx rfl (hb hby at_35) k) ?_
  show own_Go _ _ _ _ _ _ _ T7 (mkF m 37 #[.val (.int p1), .val (.int p2), .unset, .unset, .unset, .unset] [(.int (6 : Int32)), (.ref b1), (.ref b1)])
  refine own_step (fun t k => XS.bipush X7.here hx rfl (hb hby at_37) k) ?_
  show own_Go _ _ _ _ _ _ _ T7 (mkF m 39 #[.val (.int p1), .val (.int p2), .unset, .unset, .unset, .unset] [(.int (93 : Int32)), (.int (6 : Int32)), (.ref b1), (.ref b1)])
  obtain ⟨T8, h8, X8, e8, W8, I8, st8⟩ := own_stI X7 hx hZ e7 I7 (by decide) (g := (mkF m 39 #[.val (.int p1), .val (.int p2), .unset, .unset, .unset, .unset] [(.int (93 : Int32)), (.int (6 : Int32)), (.ref b1), (.ref b1)])) rfl rfl (hb hby at_39)
  have N8 := Fr.snoc X8 N7 nb1
  have K8 : Keep h0 h8 [] := K7.wr W8 (Or.inr sb1)
  refine own_step st8 ?_
  show own_Go _ _ _ _ _ _ _ T8 (mkF m 40 #[.val (.int p1), .val (.int p2), .unset, .unset, .unset, .unset] [(.ref b1)])
  refine own_step (fun t k => XS.dup X8.here hx rfl (hb hby at_40) rfl rfl k) ?_
  show own_Go _ _ _ _ _ _ _ T8 (mkF m 41 #[.val (.int p1), .val (.int p2), .unset, .unset, .unset, .unset] [(.ref b1), (.ref b1)])
  refine own_step (fun t k => XS.bipush X8.here hx rfl (hb hby at_41) k) ?_
  show own_Go _ _ _ _ _ _ _ T8 (mkF m 43 #[.val (.int p1), .val (.int p2), .unset, .unset, .unset, .unset] [(.int (7 : Int32)), (.ref b1), (.ref b1)])
  refine own_step (fun t k => XS.bipush X8.here hx rfl (hb hby at_43) k) ?_
  show own_Go _ _ _ _ _ _ _ T8 (mkF m 45 #[.val (.int p1), .val (.int p2), .unset, .unset, .unset, .unset] [(.int (62 : Int32)), (.int (7 : Int32)), (.ref b1), (.ref b1)])
  obtain ⟨T9, h9, X9, e9, W9, I9, st9⟩ := own_stI X8 hx hZ e8 I8 (by decide) (g := (mkF m 45 #[.val (.int p1), .val (.int p2), .unset, .unset, .unset, .unset] [(.int (62 : Int32)), (.int (7 : Int32)), (.ref b1), (.ref b1)])) rfl rfl (hb hby at_45)
  have N9 := Fr.snoc X9 N8 nb1
  have K9 : Keep h0 h9 [] := K8.wr W9 (Or.inr sb1)
  refine own_step st9 ?_
  show own_Go _ _ _ _ _ _ _ T9 (mkF m 46 #[.val (.int p1), .val (.int p2), .unset, .unset, .unset, .unset] [(.ref b1)])
  refine own_step (fun t k => XS.astoreN X9.here hx rfl (hb hby at_46) rfl rfl (l' := #[.val (.int p1), .val (.int p2), .val (.ref b1), .unset, .unset, .unset]) rfl k) ?_
  show own_Go _ _ _ _ _ _ _ T9 (mkF m 47 #[.val (.int p1), .val (.int p2), .val (.ref b1), .unset, .unset, .unset] [])
  refine own_step (fun t k => XS.iloadN X9.here hx rfl (hb hby at_47) rfl k) ?_
  show own_Go _ _ _ _ _ _ _ T9 (mkF m 48 #[.val (.int p1), .val (.int p2), .val (.ref b1), .unset, .unset, .unset] [(.int p2)])
  refine own_step (fun t k => XS.bipush X9.here hx rfl (hb hby at_48) k) ?_
  show own_Go _ _ _ _ _ _ _ T9 (mkF m 50 #[.val (.int p1), .val (.int p2), .val (.ref b1), .unset, .unset, .unset] [(.int (8 : Int32)), (.int p2)])
  refine own_step (fun t k => XS.iand X9.here hx rfl (hb hby at_50) rfl k) ?_
  have J64 : ∀ v : Int32, own_Go p e below s room_1.cells room_1.slots (own_Q0 Z p1 p2 h0 n0) T9 (mkF m 64 #[.val (.int p1), .val (.int p2), .val (.ref b1), .unset, .unset, .unset] [(.int v)]) := by
    intro v
    show own_Go _ _ _ _ _ _ _ T9 (mkF m 64 #[.val (.int p1), .val (.int p2), .val (.ref b1), .unset, .unset, .unset] [(.int v)])
    refine own_step (fun t k => XS.istoreN X9.here hx rfl (hb hby at_64) rfl (l' := #[.val (.int p1), .val (.int p2), .val (.ref b1), .val (.int v), .unset, .unset]) rfl k) ?_
    show own_Go _ _ _ _ _ _ _ T9 (mkF m 65 #[.val (.int p1), .val (.int p2), .val (.ref b1), .val (.int v), .unset, .unset] [])
    refine own_step (fun t k => XS.iloadN X9.here hx rfl (hb hby at_65) rfl k) ?_
    show own_Go _ _ _ _ _ _ _ T9 (mkF m 66 #[.val (.int p1), .val (.int p2), .val (.ref b1), .val (.int v), .unset, .unset] [(.int v)])
    obtain ⟨_, _, ⟨T10, L10, k10, n10⟩, -, X10, ⟨Lc10, hQ10, l10, y10, z10⟩, st10⟩ := Jvm.LawKit.callS X9 hx (y := (⟨"com/example/querywright/querywright/sql/Lexer", "closingDelimiter", "(I)I"⟩ : MethodName)) hown (mvT hZ (hw _ (List.mem_of_getElem? (i := 1) rfl))) (mvT hZ (hw _ (List.mem_of_getElem? (i := 2) rfl))) (mvT hZ (hw _ (List.mem_of_getElem? (i := 3) rfl))) (mvT hZ (hw _ (List.mem_of_getElem? (i := 4) rfl))) (by decide) (backOf (W := 0) (own_rm1 l Z a0 hw [] v h9 n0 (Nat.le_trans Z0 K9.1)) hZ (hw _ (List.mem_of_getElem? (i := 4) rfl)) (hw _ (List.mem_of_getElem? (i := 3) rfl)) (by decide) (by decide)) (g := (mkF m 66 #[.val (.int p1), .val (.int p2), .val (.ref b1), .val (.int v), .unset, .unset] [(.int v)])) rfl (by rw [hml]; rfl) (argsL := [(.int v)]) (rest := []) (lenOf own_pd0_0 rfl) rfl (by show 2 * 0 + _ ≤ _; exact Nat.le_of_eq rfl) (hb hby at_66) (fun _ _ => ⟨rfl, e9, (by decide : 1 + 0 ≤ _), (by decide : 8 + 0 ≤ _)⟩)
    dsimp only [Pt.U, Pt.locs, Pt.cells, Pt.slots] at X10 l10 y10 z10 st10 hQ10
    subst l10 y10 z10
    obtain ⟨rfl, Nq10, e10⟩ := hQ10
    have N10 := Fr.app N9 Nq10
    refine own_step (fun t k => st10 t k) ?_
    show own_Go _ _ _ _ _ _ _ T10 (mkF m 69 #[.val (.int p1), .val (.int p2), .val (.ref b1), .val (.int v), .unset, .unset] [(.int (own_cd v))])
    refine own_step (fun t k => XS.istore X10.here hx rfl (hb hby at_69) rfl (l' := #[.val (.int p1), .val (.int p2), .val (.ref b1), .val (.int v), .val (.int (own_cd v)), .unset]) rfl k) ?_
    show own_Go _ _ _ _ _ _ _ T10 (mkF m 71 #[.val (.int p1), .val (.int p2), .val (.ref b1), .val (.int v), .val (.int (own_cd v)), .unset] [])
    refine own_step (fun t k => XS.iloadN X10.here hx rfl (hb hby at_71) rfl k) ?_
    show own_Go _ _ _ _ _ _ _ T10 (mkF m 72 #[.val (.int p1), .val (.int p2), .val (.ref b1), .val (.int v), .val (.int (own_cd v)), .unset] [(.int v)])
    refine own_step (fun t k => XS.bipush X10.here hx rfl (hb hby at_72) k) ?_
    have J126 : ∀ x5 : Int32, x5 = own_cd v → own_Go p e below s room_1.cells room_1.slots (own_Q0 Z p1 p2 h0 n0) T10 (mkF m 126 #[.val (.int p1), .val (.int p2), .val (.ref b1), .val (.int v), .val (.int (own_cd v)), .val (.int x5)] []) := by
      intro x5 hx5
      show own_Go _ _ _ _ _ _ _ T10 (mkF m 126 #[.val (.int p1), .val (.int p2), .val (.ref b1), .val (.int v), .val (.int (own_cd v)), .val (.int x5)] [])
      refine own_step (fun t k => XS.iload X10.here hx rfl (hb hby at_126) rfl k) ?_
      show own_Go _ _ _ _ _ _ _ T10 (mkF m 128 #[.val (.int p1), .val (.int p2), .val (.ref b1), .val (.int v), .val (.int (own_cd v)), .val (.int x5)] [(.int (own_cd v))])
      refine own_step (fun t k => XS.iload X10.here hx rfl (hb hby at_128) rfl k) ?_
      show own_Go _ _ _ _ _ _ _ T10 (mkF m 130 #[.val (.int p1), .val (.int p2), .val (.ref b1), .val (.int v), .val (.int (own_cd v)), .val (.int x5)] [(.int x5), (.int (own_cd v))])
      refine own_step (fun t k => XS.icmpNo X10.here hx rfl (hb hby at_130) rfl (teq (hx5.symm)).2 k) ?_
      show own_Go _ _ _ _ _ _ _ T10 (mkF m 133 #[.val (.int p1), .val (.int p2), .val (.ref b1), .val (.int v), .val (.int (own_cd v)), .val (.int x5)] [])
      refine own_step (fun t k => XS.iload X10.here hx rfl (hb hby at_133) rfl k) ?_
      show own_Go _ _ _ _ _ _ _ T10 (mkF m 135 #[.val (.int p1), .val (.int p2), .val (.ref b1), .val (.int v), .val (.int (own_cd v)), .val (.int x5)] [(.int (own_cd v))])
      obtain ⟨_, _, ⟨T11, L11, k11, n11⟩, -, X11, ⟨Lc11, hQ11, l11, y11, z11⟩, st11⟩ := Jvm.LawKit.callS X10 hx (y := (⟨"com/example/querywright/querywright/sql/Lexer", "closingDelimiter", "(I)I"⟩ : MethodName)) hown (mvT hZ (hw _ (List.mem_of_getElem? (i := 1) rfl))) (mvT hZ (hw _ (List.mem_of_getElem? (i := 2) rfl))) (mvT hZ (hw _ (List.mem_of_getElem? (i := 3) rfl))) (mvT hZ (hw _ (List.mem_of_getElem? (i := 4) rfl))) (by decide) (backOf (W := 0) (own_rm1 l Z a0 hw [] (own_cd v) h9 n0 (Nat.le_trans Z0 K9.1)) hZ (hw _ (List.mem_of_getElem? (i := 4) rfl)) (hw _ (List.mem_of_getElem? (i := 3) rfl)) (by decide) (by decide)) (g := (mkF m 135 #[.val (.int p1), .val (.int p2), .val (.ref b1), .val (.int v), .val (.int (own_cd v)), .val (.int x5)] [(.int (own_cd v))])) rfl (by rw [hml]; rfl) (argsL := [(.int (own_cd v))]) (rest := []) (lenOf own_pd0_0 rfl) rfl (by show 2 * 0 + _ ≤ _; exact Nat.le_of_eq rfl) (hb hby at_135) (fun _ _ => ⟨rfl, e10, (by decide : 1 + 0 ≤ _), (by decide : 8 + 0 ≤ _)⟩)
      dsimp only [Pt.U, Pt.locs, Pt.cells, Pt.slots] at X11 l11 y11 z11 st11 hQ11
      subst l11 y11 z11
      obtain ⟨rfl, Nq11, e11⟩ := hQ11
      have N11 := Fr.app N10 Nq11
      refine own_step (fun t k => st11 t k) ?_
      show own_Go _ _ _ _ _ _ _ T11 (mkF m 138 #[.val (.int p1), .val (.int p2), .val (.ref b1), .val (.int v), .val (.int (own_cd v)), .val (.int x5)] [(.int (own_cd (own_cd v)))])
      refine own_step (fun t k => XS.iload X11.here hx rfl (hb hby at_138) rfl k) ?_
      show own_Go _ _ _ _ _ _ _ T11 (mkF m 140 #[.val (.int p1), .val (.int p2), .val (.ref b1), .val (.int v), .val (.int (own_cd v)), .val (.int x5)] [(.int (own_cd v)), (.int (own_cd (own_cd v)))])
      refine own_step (fun t k => XS.icmpNo X11.here hx rfl (hb hby at_140) rfl (teq (own_cd2 v)).2 k) ?_
      show own_Go _ _ _ _ _ _ _ T11 (mkF m 143 #[.val (.int p1), .val (.int p2), .val (.ref b1), .val (.int v), .val (.int (own_cd v)), .val (.int x5)] [])
      refine own_step (fun t k => XS.iconst X11.here hx rfl (hb hby at_143) k) ?_
      show own_Go _ _ _ _ _ _ _ T11 (mkF m 144 #[.val (.int p1), .val (.int p2), .val (.ref b1), .val (.int v), .val (.int (own_cd v)), .val (.int x5)] [(.int (1 : Int32))])
      refine own_step (fun t k => XS.goto X11.here hx rfl (pc0 := 144) (pc' := 148) rfl (hb hby at_144) (by decide) (by decide) k) ?_
      show own_Go _ _ _ _ _ _ _ T11 (mkF m 148 #[.val (.int p1), .val (.int p2), .val (.ref b1), .val (.int v), .val (.int (own_cd v)), .val (.int x5)] [(.int (1 : Int32))])
      refine own_ret X11 hx hlk Bd.returns rfl (Or.inl ⟨rfl, Or.inr (Or.inl rfl), _, rfl⟩) (hb hby at_148) (by decide) (by decide) ?_
      show own_Q0 Z p1 p2 h0 n0 (some (.int (1 : Int32))) T11.heap _
      rw [e11]
      exact ⟨rfl, N11⟩
    rcases Classical.em (v = (40 : Int32)) with c74_12 | c74_12
    · show own_Go _ _ _ _ _ _ _ T10 (mkF m 74 #[.val (.int p1), .val (.int p2), .val (.ref b1), .val (.int v), .val (.int (own_cd v)), .unset] [(.int (40 : Int32)), (.int v)])
      refine own_step (fun t k => XS.icmpNo X10.here hx rfl (hb hby at_74) rfl (teq (c74_12)).2 k) ?_
      show own_Go _ _ _ _ _ _ _ T10 (mkF m 77 #[.val (.int p1), .val (.int p2), .val (.ref b1), .val (.int v), .val (.int (own_cd v)), .unset] [])
      refine own_step (fun t k => XS.bipush X10.here hx rfl (hb hby at_77) k) ?_
      show own_Go _ _ _ _ _ _ _ T10 (mkF m 79 #[.val (.int p1), .val (.int p2), .val (.ref b1), .val (.int v), .val (.int (own_cd v)), .unset] [(.int (41 : Int32))])
      refine own_step (fun t k => XS.istore X10.here hx rfl (hb hby at_79) rfl (l' := #[.val (.int p1), .val (.int p2), .val (.ref b1), .val (.int v), .val (.int (own_cd v)), .val (.int (41 : Int32))]) rfl k) ?_
      show own_Go _ _ _ _ _ _ _ T10 (mkF m 81 #[.val (.int p1), .val (.int p2), .val (.ref b1), .val (.int v), .val (.int (own_cd v)), .val (.int (41 : Int32))] [])
      refine own_step (fun t k => XS.goto X10.here hx rfl (pc0 := 81) (pc' := 126) rfl (hb hby at_81) (by decide) (by decide) k) ?_
      show own_Go _ _ _ _ _ _ _ T10 (mkF m 126 #[.val (.int p1), .val (.int p2), .val (.ref b1), .val (.int v), .val (.int (own_cd v)), .val (.int (41 : Int32))] [])
      exact J126 _ (own_cd40 c74_12)
    · show own_Go _ _ _ _ _ _ _ T10 (mkF m 74 #[.val (.int p1), .val (.int p2), .val (.ref b1), .val (.int v), .val (.int (own_cd v)), .unset] [(.int (40 : Int32)), (.int v)])
      refine own_step (fun t k => XS.icmpYes X10.here hx rfl (pc0 := 74) (pc' := 84) rfl (hb hby at_74) rfl (feq (c74_12)).2 (by decide) (by decide) k) ?_
      show own_Go _ _ _ _ _ _ _ T10 (mkF m 84 #[.val (.int p1), .val (.int p2), .val (.ref b1), .val (.int v), .val (.int (own_cd v)), .unset] [])
      refine own_step (fun t k => XS.iloadN X10.here hx rfl (hb hby at_84) rfl k) ?_
      show own_Go _ _ _ _ _ _ _ T10 (mkF m 85 #[.val (.int p1), .val (.int p2), .val (.ref b1), .val (.int v), .val (.int (own_cd v)), .unset] [(.int v)])
      refine own_step (fun t k => XS.bipush X10.here hx rfl (hb hby at_85) k) ?_
      rcases Classical.em (v = (123 : Int32)) with c87_13 | c87_13
      · show own_Go _ _ _ _ _ _ _ T10 (mkF m 87 #[.val (.int p1), .val (.int p2), .val (.ref b1), .val (.int v), .val (.int (own_cd v)), .unset] [(.int (123 : Int32)), (.int v)])
        refine own_step (fun t k => XS.icmpNo X10.here hx rfl (hb hby at_87) rfl (teq (c87_13)).2 k) ?_
        show own_Go _ _ _ _ _ _ _ T10 (mkF m 90 #[.val (.int p1), .val (.int p2), .val (.ref b1), .val (.int v), .val (.int (own_cd v)), .unset] [])
        refine own_step (fun t k => XS.bipush X10.here hx rfl (hb hby at_90) k) ?_
        show own_Go _ _ _ _ _ _ _ T10 (mkF m 92 #[.val (.int p1), .val (.int p2), .val (.ref b1), .val (.int v), .val (.int (own_cd v)), .unset] [(.int (125 : Int32))])
        refine own_step (fun t k => XS.istore X10.here hx rfl (hb hby at_92) rfl (l' := #[.val (.int p1), .val (.int p2), .val (.ref b1), .val (.int v), .val (.int (own_cd v)), .val (.int (125 : Int32))]) rfl k) ?_
        show own_Go _ _ _ _ _ _ _ T10 (mkF m 94 #[.val (.int p1), .val (.int p2), .val (.ref b1), .val (.int v), .val (.int (own_cd v)), .val (.int (125 : Int32))] [])
        refine own_step (fun t k => XS.goto X10.here hx rfl (pc0 := 94) (pc' := 126) rfl (hb hby at_94) (by decide) (by decide) k) ?_
        show own_Go _ _ _ _ _ _ _ T10 (mkF m 126 #[.val (.int p1), .val (.int p2), .val (.ref b1), .val (.int v), .val (.int (own_cd v)), .val (.int (125 : Int32))] [])
        exact J126 _ (own_cd123 c87_13)
      · show own_Go _ _ _ _ _ _ _ T10 (mkF m 87 #[.val (.int p1), .val (.int p2), .val (.ref b1), .val (.int v), .val (.int (own_cd v)), .unset] [(.int (123 : Int32)), (.int v)])
        refine own_step (fun t k => XS.icmpYes X10.here hx rfl (pc0 := 87) (pc' := 97) rfl (hb hby at_87) rfl (feq (c87_13)).2 (by decide) (by decide) k) ?_
        show own_Go _ _ _ _ _ _ _ T10 (mkF m 97 #[.val (.int p1), .val (.int p2), .val (.ref b1), .val (.int v), .val (.int (own_cd v)), .unset] [])
        refine own_step (fun t k => XS.iloadN X10.here hx rfl (hb hby at_97) rfl k) ?_
        show own_Go _ _ _ _ _ _ _ T10 (mkF m 98 #[.val (.int p1), .val (.int p2), .val (.ref b1), .val (.int v), .val (.int (own_cd v)), .unset] [(.int v)])
        refine own_step (fun t k => XS.bipush X10.here hx rfl (hb hby at_98) k) ?_
        rcases Classical.em (v = (91 : Int32)) with c100_14 | c100_14
        · show own_Go _ _ _ _ _ _ _ T10 (mkF m 100 #[.val (.int p1), .val (.int p2), .val (.ref b1), .val (.int v), .val (.int (own_cd v)), .unset] [(.int (91 : Int32)), (.int v)])
          refine own_step (fun t k => XS.icmpNo X10.here hx rfl (hb hby at_100) rfl (teq (c100_14)).2 k) ?_
          show own_Go _ _ _ _ _ _ _ T10 (mkF m 103 #[.val (.int p1), .val (.int p2), .val (.ref b1), .val (.int v), .val (.int (own_cd v)), .unset] [])
          refine own_step (fun t k => XS.bipush X10.here hx rfl (hb hby at_103) k) ?_
          show own_Go _ _ _ _ _ _ _ T10 (mkF m 105 #[.val (.int p1), .val (.int p2), .val (.ref b1), .val (.int v), .val (.int (own_cd v)), .unset] [(.int (93 : Int32))])
          refine own_step (fun t k => XS.istore X10.here hx rfl (hb hby at_105) rfl (l' := #[.val (.int p1), .val (.int p2), .val (.ref b1), .val (.int v), .val (.int (own_cd v)), .val (.int (93 : Int32))]) rfl k) ?_
          show own_Go _ _ _ _ _ _ _ T10 (mkF m 107 #[.val (.int p1), .val (.int p2), .val (.ref b1), .val (.int v), .val (.int (own_cd v)), .val (.int (93 : Int32))] [])
          refine own_step (fun t k => XS.goto X10.here hx rfl (pc0 := 107) (pc' := 126) rfl (hb hby at_107) (by decide) (by decide) k) ?_
          show own_Go _ _ _ _ _ _ _ T10 (mkF m 126 #[.val (.int p1), .val (.int p2), .val (.ref b1), .val (.int v), .val (.int (own_cd v)), .val (.int (93 : Int32))] [])
          exact J126 _ (own_cd91 c100_14)
        · show own_Go _ _ _ _ _ _ _ T10 (mkF m 100 #[.val (.int p1), .val (.int p2), .val (.ref b1), .val (.int v), .val (.int (own_cd v)), .unset] [(.int (91 : Int32)), (.int v)])
          refine own_step (fun t k => XS.icmpYes X10.here hx rfl (pc0 := 100) (pc' := 110) rfl (hb hby at_100) rfl (feq (c100_14)).2 (by decide) (by decide) k) ?_
          show own_Go _ _ _ _ _ _ _ T10 (mkF m 110 #[.val (.int p1), .val (.int p2), .val (.ref b1), .val (.int v), .val (.int (own_cd v)), .unset] [])
          refine own_step (fun t k => XS.iloadN X10.here hx rfl (hb hby at_110) rfl k) ?_
          show own_Go _ _ _ _ _ _ _ T10 (mkF m 111 #[.val (.int p1), .val (.int p2), .val (.ref b1), .val (.int v), .val (.int (own_cd v)), .unset] [(.int v)])
          refine own_step (fun t k => XS.bipush X10.here hx rfl (hb hby at_111) k) ?_
          rcases Classical.em (v = (60 : Int32)) with c113_15 | c113_15
          · show own_Go _ _ _ _ _ _ _ T10 (mkF m 113 #[.val (.int p1), .val (.int p2), .val (.ref b1), .val (.int v), .val (.int (own_cd v)), .unset] [(.int (60 : Int32)), (.int v)])
            refine own_step (fun t k => XS.icmpNo X10.here hx rfl (hb hby at_113) rfl (teq (c113_15)).2 k) ?_
            show own_Go _ _ _ _ _ _ _ T10 (mkF m 116 #[.val (.int p1), .val (.int p2), .val (.ref b1), .val (.int v), .val (.int (own_cd v)), .unset] [])
            refine own_step (fun t k => XS.bipush X10.here hx rfl (hb hby at_116) k) ?_
            show own_Go _ _ _ _ _ _ _ T10 (mkF m 118 #[.val (.int p1), .val (.int p2), .val (.ref b1), .val (.int v), .val (.int (own_cd v)), .unset] [(.int (62 : Int32))])
            refine own_step (fun t k => XS.istore X10.here hx rfl (hb hby at_118) rfl (l' := #[.val (.int p1), .val (.int p2), .val (.ref b1), .val (.int v), .val (.int (own_cd v)), .val (.int (62 : Int32))]) rfl k) ?_
            show own_Go _ _ _ _ _ _ _ T10 (mkF m 120 #[.val (.int p1), .val (.int p2), .val (.ref b1), .val (.int v), .val (.int (own_cd v)), .val (.int (62 : Int32))] [])
            refine own_step (fun t k => XS.goto X10.here hx rfl (pc0 := 120) (pc' := 126) rfl (hb hby at_120) (by decide) (by decide) k) ?_
            show own_Go _ _ _ _ _ _ _ T10 (mkF m 126 #[.val (.int p1), .val (.int p2), .val (.ref b1), .val (.int v), .val (.int (own_cd v)), .val (.int (62 : Int32))] [])
            exact J126 _ (own_cd60 c113_15)
          · show own_Go _ _ _ _ _ _ _ T10 (mkF m 113 #[.val (.int p1), .val (.int p2), .val (.ref b1), .val (.int v), .val (.int (own_cd v)), .unset] [(.int (60 : Int32)), (.int v)])
            refine own_step (fun t k => XS.icmpYes X10.here hx rfl (pc0 := 113) (pc' := 123) rfl (hb hby at_113) rfl (feq (c113_15)).2 (by decide) (by decide) k) ?_
            show own_Go _ _ _ _ _ _ _ T10 (mkF m 123 #[.val (.int p1), .val (.int p2), .val (.ref b1), .val (.int v), .val (.int (own_cd v)), .unset] [])
            refine own_step (fun t k => XS.iloadN X10.here hx rfl (hb hby at_123) rfl k) ?_
            show own_Go _ _ _ _ _ _ _ T10 (mkF m 124 #[.val (.int p1), .val (.int p2), .val (.ref b1), .val (.int v), .val (.int (own_cd v)), .unset] [(.int v)])
            refine own_step (fun t k => XS.istore X10.here hx rfl (hb hby at_124) rfl (l' := #[.val (.int p1), .val (.int p2), .val (.ref b1), .val (.int v), .val (.int (own_cd v)), .val (.int v)]) rfl k) ?_
            show own_Go _ _ _ _ _ _ _ T10 (mkF m 126 #[.val (.int p1), .val (.int p2), .val (.ref b1), .val (.int v), .val (.int (own_cd v)), .val (.int v)] [])
            exact J126 _ (own_cdX c74_12 c87_13 c100_14 c113_15)
  rcases Classical.em ((p2 &&& (8 : Int32)) = (0 : Int32)) with c51_16 | c51_16
  · show own_Go _ _ _ _ _ _ _ T9 (mkF m 51 #[.val (.int p1), .val (.int p2), .val (.ref b1), .unset, .unset, .unset] [(.int (p2 &&& (8 : Int32)))])
    refine own_step (fun t k => XS.ifNo X9.here hx rfl (hb hby at_51) rfl ((if0 _ _).trans (teq (c51_16)).2) k) ?_
    show own_Go _ _ _ _ _ _ _ T9 (mkF m 54 #[.val (.int p1), .val (.int p2), .val (.ref b1), .unset, .unset, .unset] [])
    refine own_step (fun t k => XS.aloadN X9.here hx rfl (hb hby at_54) rfl rfl k) ?_
    show own_Go _ _ _ _ _ _ _ T9 (mkF m 55 #[.val (.int p1), .val (.int p2), .val (.ref b1), .unset, .unset, .unset] [(.ref b1)])
    refine own_step (fun t k => XS.iloadN X9.here hx rfl (hb hby at_55) rfl k) ?_
    show own_Go _ _ _ _ _ _ _ T9 (mkF m 56 #[.val (.int p1), .val (.int p2), .val (.ref b1), .unset, .unset, .unset] [(.int p2), (.ref b1)])
    refine own_step (fun t k => XS.bipush X9.here hx rfl (hb hby at_56) k) ?_
    show own_Go _ _ _ _ _ _ _ T9 (mkF m 58 #[.val (.int p1), .val (.int p2), .val (.ref b1), .unset, .unset, .unset] [(.int (7 : Int32)), (.int p2), (.ref b1)])
    refine own_step (fun t k => XS.iand X9.here hx rfl (hb hby at_58) rfl k) ?_
    show own_Go _ _ _ _ _ _ _ T9 (mkF m 59 #[.val (.int p1), .val (.int p2), .val (.ref b1), .unset, .unset, .unset] [(.int (p2 &&& (7 : Int32))), (.ref b1)])
    obtain ⟨z17, st17⟩ := own_ldI X9 hx hZ e9 I9 (own_idx p2) (g := (mkF m 59 #[.val (.int p1), .val (.int p2), .val (.ref b1), .unset, .unset, .unset] [(.int (p2 &&& (7 : Int32))), (.ref b1)])) rfl rfl (hb hby at_59)
    refine own_step st17 ?_
    show own_Go _ _ _ _ _ _ _ T9 (mkF m 60 #[.val (.int p1), .val (.int p2), .val (.ref b1), .unset, .unset, .unset] [(.int z17)])
    refine own_step (fun t k => XS.goto X9.here hx rfl (pc0 := 60) (pc' := 64) rfl (hb hby at_60) (by decide) (by decide) k) ?_
    show own_Go _ _ _ _ _ _ _ T9 (mkF m 64 #[.val (.int p1), .val (.int p2), .val (.ref b1), .unset, .unset, .unset] [(.int z17)])
    exact J64 _
  · show own_Go _ _ _ _ _ _ _ T9 (mkF m 51 #[.val (.int p1), .val (.int p2), .val (.ref b1), .unset, .unset, .unset] [(.int (p2 &&& (8 : Int32)))])
    refine own_step (fun t k => XS.ifYes X9.here hx rfl (pc0 := 51) (pc' := 63) rfl (hb hby at_51) rfl ((if0 _ _).trans (feq (c51_16)).2) (by decide) (by decide) k) ?_
    show own_Go _ _ _ _ _ _ _ T9 (mkF m 63 #[.val (.int p1), .val (.int p2), .val (.ref b1), .unset, .unset, .unset] [])
    refine own_step (fun t k => XS.iloadN X9.here hx rfl (hb hby at_63) rfl k) ?_
    show own_Go _ _ _ _ _ _ _ T9 (mkF m 64 #[.val (.int p1), .val (.int p2), .val (.ref b1), .unset, .unset, .unset] [(.int p1)])
    exact J64 _
set_option maxRecDepth 65536 in
set_option maxHeartbeats 40000000 in
theorem own_comes_1 {Post : Tables → Env → Array Value → State → Outcome → State → Prop} (hpost : ∀ tb e args s v u, (limb_1_1.after args s (.returned v) u = true ∧ limb_1_2.after args s (.returned v) u = true ∧ True) → FrameEnd s (.returned v) u (Jvm.fieldLocs frame_1_writes args s ++ Jvm.arrayLocs frame_1_arrays args s ++ Jvm.staticLocs frame_1_statics s) 16 128 → Post tb e args s (.returned v) u) :
    ArmFor flags0 classFile x code maxLocals ret World_1 tables_1 room_1 Calls_1 rest_1 Pre_1 Post := by
  intro l hfl _ _ p e ha hc hk s m args below hf hA hF happ hP
  obtain ⟨hcalls, hrest, hpre⟩ := hP
  obtain ⟨-, -, -, hnamed, -, -, -, hat⟩ := (Spec.applies_iff hf).mp happ
  obtain ⟨hg, hn⟩ := and_e (Cond.before_iff.mp (show (Jvm.Cond.and given_1 narrow_1).before args s = true from hpre))
  obtain ⟨g0, r0⟩ := and_e hg
  obtain ⟨g1, r1⟩ := and_e r0
  have g2 := r1
  obtain ⟨w0, w1, rfl⟩ : ∃ w0 w1 : Value, args = #[w0, w1] := by
    have hs : args.size = 2 := by simpa [Cond.value, given_1] using g0
    obtain ⟨L⟩ := args
    match L, hs with
    | [w0, w1], _ => exact ⟨w0, w1, rfl⟩
  have hw := fun d (hd : d ∈ tables_1) => atoms_spec (ws := Jvm.Cond.code x code maxLocals ret :: tables_1) hat d (List.mem_cons_of_mem _ hd)
  have hfit : Fit s := fun {y c} hc i hi => by
    obtain ⟨ha, rfl⟩ := Array.getElem?_eq_some_iff.mp hc
    have q := List.all_eq_true.mp ((Array.all_eq_true_iff_forall_mem.mp hF) _ (Array.getElem_mem ha)) i (List.mem_range.mpr hi)
    simpa [Array.getElem?_eq_getElem hi] using q
  obtain ⟨i0, ei0⟩ := is_v g1
  obtain rfl : w0 = (.int i0) := Option.some.inj ei0
  obtain ⟨i1, ei1⟩ := is_v g2
  obtain rfl : w1 = (.int i1) := Option.some.inj ei1
  obtain ⟨n, o, h1, h2, h3, _, L, rfl, ⟨rfl, N⟩, hq⟩ := own_rm0 l s _ hw tables_1 i0 i1 s.heap s.heap.size (Nat.le_refl _) p e ha hc hk s m _ below hf ((Spec.applies_iff_loose hf).mp happ).1 ⟨rfl, State.Warmed39.refl s, rfl⟩ trivial
  refine ⟨n, _, h1, h2, h3, hpost _ _ _ _ _ _ ⟨Cond.after_iff.mpr rfl, Cond.after_iff.mpr (eq_i res_at (Term.int_eval (1)) rfl), trivial⟩ ⟨hq.1, hq.2.1, (hq.2.2.sift fun y hy => Or.inr (N y hy)).mono (by decide) (by decide)⟩⟩
theorem main_1_1 : Claimed_1_1 := own_comes_1 fun _ _ _ _ _ _ h hF => ⟨h.1, hF⟩
theorem main_1_2 : Claimed_1_2 := own_comes_1 fun _ _ _ _ _ _ h hF => ⟨h.2.1, hF⟩
end Jvm.Pilot.@@N@@
namespace Jvm.Pilot.@@N@@
open Jvm Jvm.ClassFile Sem Op Lib Jvm.Free Jvm.Stand Jvm.Pilot.@@N@@.Jvm.D
/-! MADE BY PROGRAM (witnessworld.py) out of the Statement's table words and the real class files: 9 classes; the members and pool entries that the words name. The judged class is class 1, her method 1. -/
namespace start1
open Jvm.ClassFile
def u (s : String) : CpInfo := .utf8 (stringToUtf16 s)
/-- a pool by its gaps: so many unusable entries, then the entry; so many at the end -/
def gap : Nat → List CpInfo → List CpInfo
  | 0, r => r
  | n + 1, r => .unusable :: gap n r
def poolList (es : List (Nat × CpInfo)) (last : Nat) : List CpInfo := es.foldr (fun e r => gap e.1 (e.2 :: r)) (gap last [])
def pool (es : List (Nat × CpInfo)) (last : Nat) : Array CpInfo := ⟨poolList es last⟩
def fileOf (pool : Array CpInfo) (this : Nat) (attrs : Array Attribute := #[]) (ms : Array MethodInfo := #[]) (fl : Nat := 33) (sup : Nat := 0) (ifs : Array Nat := #[]) (fds : Array FieldInfo := #[]) : ClassFile where
  minorVersion := 0
  majorVersion := 65
  constantPool := pool
  accessFlags := fl
  thisClass := this
  superClass := sup
  interfaces := ifs
  fields := fds
  methods := ms
  attributes := attrs
def plain (name : String) (sup : Option ClassId) : Class where
  name := name
  kind := .ordinary
  loader := none
  accessFlags := 33
  super := sup
  interfaces := #[]
  cf := none
  fields := #[]
  methods := #[]
  instanceTypes := #[]
  staticTypes := #[]
  resolved := #[]
  callSites := []
  init := .initialized
  statics := none
  mirror := none

def pool0 : Array CpInfo := pool [(5, u "<init>"), (0, u "()V"), (1, .class_ 10), (1, u "java/lang/Object")] 113

def k0m0 : Method := { name := "<init>", desc := "()V", sig := { parameters := [], returnType := none }, accessFlags := 1, code := none }
/-- java/lang/Object -/
def k0 : Class := { plain "java/lang/Object" none with
  accessFlags := 33
  interfaces := #[]
  cf := some (fileOf pool0 8 #[] #[{ accessFlags := 1, nameIndex := 5, descriptorIndex := 6, attributes := #[] }] 33 0 #[] #[])
  fields := #[]
  methods := #[k0m0]
  instanceTypes := #[]
  staticTypes := #[]
  resolved := Array.replicate 124 none
  statics := none }

def pool1 : Array CpInfo := pool [(2, .class_ 4), (1, u "java/lang/Object"), (0, u "<init>"), (0, u "()V"), (0, .methodref 8 9), (0, .class_ 10), (0, .nameAndType 11 12), (0, u "com/example/querywright/querywright/sql/Lexer"), (0, u "closingDelimiter"), (0, u "(I)I"), (0, .class_ 14), (0, u "com/example/querywright/querywright/sql/LexerClosingDelimiterPinLaw"), (2, u "law"), (0, u "(II)Z")] 5

def k1m0 : Method := { name := "<init>", desc := "()V", sig := { parameters := [], returnType := none }, accessFlags := 1, code := none }
def k1c1 : Code := { maxStack := 4, maxLocals := 6, code := code, exceptionTable := #[], attributes := #[] }
def k1m1 : Method := { name := "law", desc := "(II)Z", sig := { parameters := [.int, .int], returnType := some .boolean }, accessFlags := 9, code := some k1c1 }
/-- com/example/querywright/querywright/sql/LexerClosingDelimiterPinLaw -/
def k1 : Class := { plain "com/example/querywright/querywright/sql/LexerClosingDelimiterPinLaw" (some 0) with
  accessFlags := 49
  interfaces := #[]
  cf := some (fileOf pool1 13 #[] #[{ accessFlags := 1, nameIndex := 5, descriptorIndex := 6, attributes := #[] }, { accessFlags := 9, nameIndex := 17, descriptorIndex := 18, attributes := #[] }] 49 2 #[] #[])
  fields := #[]
  methods := #[k1m0, k1m1]
  instanceTypes := #[]
  staticTypes := #[]
  resolved := Array.replicate 24 none
  statics := none }

def pool2 : Array CpInfo := pool [(2, .class_ 4), (1, u "java/lang/Object"), (3, .class_ 10), (1, u "com/example/querywright/querywright/sql/Lexer"), (0, u "text"), (0, u "Ljava/lang/String;"), (33, u "position"), (0, u "I"), (96, u "(I)I"), (5, u "closingDelimiter"), (17, u "TWO_CHARACTER_SYMBOLS"), (0, u "Ljava/util/List;")] 111

def k2c0 : Code := { maxStack := 1, maxLocals := 1, code := prog_136_method_8_code, exceptionTable := #[], attributes := #[] }
def k2m0 : Method := { name := "closingDelimiter", desc := "(I)I", sig := { parameters := [.int], returnType := some .int }, accessFlags := 8, code := some k2c0 }
/-- com/example/querywright/querywright/sql/Lexer -/
def k2 : Class := { plain "com/example/querywright/querywright/sql/Lexer" (some 0) with
  accessFlags := 49
  interfaces := #[]
  cf := some (fileOf pool2 8 #[] #[{ accessFlags := 8, nameIndex := 150, descriptorIndex := 144, attributes := #[] }] 49 2 #[] #[{ accessFlags := 26, nameIndex := 168, descriptorIndex := 169, attributes := #[] }, { accessFlags := 18, nameIndex := 11, descriptorIndex := 12, attributes := #[] }, { accessFlags := 2, nameIndex := 46, descriptorIndex := 47, attributes := #[] }])
  fields := #[{ name := "TWO_CHARACTER_SYMBOLS", type := (.object "java/util/List"), accessFlags := 26, slot := 0, constantValue := 0 }, { name := "text", type := (.object "java/lang/String"), accessFlags := 18, slot := 0, constantValue := 0 }, { name := "position", type := .int, accessFlags := 2, slot := 1, constantValue := 0 }]
  methods := #[k2m0]
  instanceTypes := #[(.object "java/lang/String"), .int]
  staticTypes := #[(.object "java/util/List")]
  resolved := Array.replicate 281 none
  statics := none }

def pool3 : Array CpInfo := pool [(1, u "java/lang/Cloneable"), (0, .class_ 1), (0, u "java/lang/Object"), (0, .class_ 3)] 3

/-- java/lang/Cloneable -/
def k3 : Class := { plain "java/lang/Cloneable" (some 0) with
  accessFlags := 1537
  interfaces := #[]
  cf := some (fileOf pool3 2 #[] #[] 1537 4 #[] #[])
  fields := #[]
  methods := #[]
  instanceTypes := #[]
  staticTypes := #[]
  resolved := Array.replicate 8 none
  statics := none }

def pool4 : Array CpInfo := pool [(1, u "java/io/Serializable"), (0, .class_ 1), (0, u "java/lang/Object"), (0, .class_ 3)] 3

/-- java/io/Serializable -/
def k4 : Class := { plain "java/io/Serializable" (some 0) with
  accessFlags := 1537
  interfaces := #[]
  cf := some (fileOf pool4 2 #[] #[] 1537 4 #[] #[])
  fields := #[]
  methods := #[]
  instanceTypes := #[]
  staticTypes := #[]
  resolved := Array.replicate 8 none
  statics := none }

/-- the primitive byte -/
def k5 : Class := { plain "byte" none with kind := .primitive 'B', accessFlags := 0x411 }
/-- [B -/
def k6 : Class := { plain "[B" (some 0) with kind := .array 5 .byte, interfaces := #[3, 4], accessFlags := 1041 }

/-- the primitive int -/
def k7 : Class := { plain "int" none with kind := .primitive 'I', accessFlags := 0x411 }
/-- [I -/
def k8 : Class := { plain "[I" (some 0) with kind := .array 7 .int, interfaces := #[3, 4], accessFlags := 1041 }

def heap : Heap := #[]
def classes : Array Class := #[k0, k1, k2, k3, k4, k5, k6, k7, k8]
def interned : List (Array UInt16 × Addr) := []
def slotsUsed : Nat := 0
def theMethod : MethodId := ⟨1, 1⟩
def args0 : Array Value := #[.int 5, .int 3]
def aboutOver (below : List Frame) : State where
  vm := { classes := classes, interned := interned.toArray }
  heap := heap
  slotsUsed := slotsUsed
  threads := #[{ frames := .invoking theMethod args0 :: below }]
def below0 : List Frame := [.native { method := ⟨0, 0⟩, args := #[] }]
def about1 : State := aboutOver below0
def p0 : Program := .bare "" "" ""
def e0 : Env := launch0.env 0 0 0
theorem w_frames : about1.frames = Frame.invoking theMethod args0 :: below0 := rfl
set_option maxRecDepth 65536 in
theorem w_args : argsFit about1.vm theMethod args0 = true := by decide +kernel
set_option maxRecDepth 65536 in
theorem w_heap : heapFits about1 = true := by decide +kernel
set_option maxRecDepth 65536 in
theorem w_runnable : about1.curStatus? = some .runnable := by decide +kernel
set_option maxRecDepth 65536 in
theorem w_alone : about1.alone = true := by decide +kernel
set_option maxRecDepth 65536 in
theorem w_named : about1.methodNamed? x = some theMethod := by decide +kernel
set_option maxRecDepth 65536 in
theorem w_hears : about1.hears theMethod below0 = true := by decide +kernel
set_option maxRecDepth 65536 in
theorem w_ripe : about1.ripe theMethod args0 below0 = true := by decide +kernel
theorem w_running : about1.status = .running := rfl
set_option maxRecDepth 65536 in
theorem w_room : about1.hasRoom e0.platform room_1 = true :=
  launch0.hasRoom_least _ room_1 (by decide +kernel) (by decide +kernel) (by decide +kernel) (by decide +kernel) (by decide +kernel) (by decide +kernel)
theorem allAtoms_all (ts : List Jvm.Cond) (a : Array Jvm.Value) (st : Jvm.State) : (allAtoms ts).before a st = ts.all (fun c => c.before a st) := by
  induction ts with
  | nil => rfl
  | cons c t ih =>
    show (Jvm.Cond.and c (allAtoms t)).before a st = _
    rw [Jvm.Cond.before_and, ih, List.all_cons]
def words1 : List Jvm.Cond := Jvm.Cond.code x code maxLocals ret :: tables_1
/-- a 'code' word, met by the world's own term for the bytes: nothing is compared byte by byte -/
theorem code_word {y : MethodName} {bytes : ByteArray} {mx : Nat} {rt : Option FieldType} {a : Array Value} {s : State} {m : MethodId} {meth : Method} {c : Code} (h1 : s.methodNamed? y = some m) (h2 : s.vm.method? m = some meth) (h3 : meth.code = some c) (h4 : c.code = bytes)
    (h5 : (c.maxLocals == mx && c.exceptionTable.isEmpty && decide (c.maxStack ≤ mostOperands) && decide (meth.sig.returnType = rt) && !meth.locks && decide (parseMethodDescriptor y.desc = some meth.sig)) = true) : (Jvm.Cond.code y bytes mx rt).before a s = true := by
  simp only [Bool.and_eq_true, beq_iff_eq, Bool.not_eq_true', decide_eq_true_eq] at h5
  obtain ⟨⟨⟨⟨⟨g1, g2⟩, g3⟩, g4⟩, g5⟩, g6⟩ := h5
  simp [Cond.before, Cond.holds, Cond.value, h1, h2, h3, h4, g1, g2, g3, g4, g5, g6]
def isCode : Jvm.Cond → Bool
  | .code _ _ _ _ => true
  | _ => false
theorem all_split {L : List Jvm.Cond} {P : Jvm.Cond → Bool} (h1 : L.all (fun c => isCode c || P c) = true) (h2 : ∀ c ∈ L.filter isCode, P c = true) : L.all P = true := by
  refine List.all_eq_true.mpr fun c hc => ?_
  have h := List.all_eq_true.mp h1 c hc
  rcases Bool.eq_false_or_eq_true (isCode c) with hi | hi
  · exact h2 c (List.mem_filter.mpr ⟨hc, hi⟩)
  · simpa [hi] using h
set_option maxRecDepth 65536 in
theorem w_c0 : (Jvm.Cond.code x code maxLocals ret).before args0 about1 = true := code_word (m := ⟨1, 1⟩) (meth := k1m1) (c := k1c1) (by decide +kernel) rfl rfl rfl (by decide +kernel)
set_option maxRecDepth 65536 in
theorem w_c1 : (Jvm.Cond.code ({ cls := "com/example/querywright/querywright/sql/Lexer", name := "closingDelimiter", desc := "(I)I" } : Jvm.MethodName) prog_136_method_8_code (1 : Nat) (Option.some Jvm.ClassFile.FieldType.int)).before args0 about1 = true := code_word (m := ⟨2, 0⟩) (meth := k2m0) (c := k2c0) (by decide +kernel) rfl rfl rfl (by decide +kernel)
def codes1 : List Jvm.Cond := [Jvm.Cond.code x code maxLocals ret, Jvm.Cond.code ({ cls := "com/example/querywright/querywright/sql/Lexer", name := "closingDelimiter", desc := "(I)I" } : Jvm.MethodName) prog_136_method_8_code (1 : Nat) (Option.some Jvm.ClassFile.FieldType.int)]
set_option maxRecDepth 65536 in
theorem codes_eq : words1.filter isCode = codes1 := rfl
theorem w_codes : ∀ c ∈ words1.filter isCode, c.before args0 about1 = true := by
  rw [codes_eq]
  intro c hc
  simp only [codes1, List.mem_cons, List.not_mem_nil, or_false] at hc
  rcases hc with rfl | rfl
  · exact w_c0
  · exact w_c1
set_option maxRecDepth 65536 in
theorem w_t1 : words1.all (fun c => isCode c || c.before args0 about1) = true := by decide +kernel
theorem w_tables : (allAtoms (Jvm.Cond.code x code maxLocals ret :: tables_1)).before args0 about1 = true := by
  rw [allAtoms_all]
  show words1.all (fun c => c.before args0 about1) = true
  refine all_split ?_ w_codes
  rw [w_t1]
set_option maxRecDepth 65536 in
theorem w_case : (Jvm.Cond.and given_1 narrow_1).before args0 about1 = true := by decide +kernel
theorem w_applies : (headSpec (Jvm.Cond.code x code maxLocals ret :: tables_1) room_1).applies x e0.platform about1 = true :=
  (Spec.applies_iff w_frames).mpr ⟨w_running, w_runnable, w_alone, w_named, w_hears, w_ripe, w_room, w_tables⟩
theorem atStart : AtStart classFile x code maxLocals ret World_1 tables_1 room_1 Calls_1 rest_1 Pre_1 launch0 p0 e0 about1 theMethod args0 below0 :=
  ⟨lists_1, trivial, launch0.admits_env _ _ _, launch0.least_env, fairChoices_fair.cas, fairChoices_fair.clock, w_frames, w_args, w_heap, w_applies, trivial, trivial, w_case⟩
end start1
theorem witness_1 : WitnessClaimed_1 := ⟨start1.p0, start1.e0, start1.about1, start1.theMethod, start1.args0, start1.below0, start1.atStart⟩
end Jvm.Pilot.@@N@@
