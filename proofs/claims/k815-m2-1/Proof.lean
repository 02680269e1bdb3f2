import JvmDerived
import JvmDerived.Pilot.@@N@@Statement
import JvmDerived.Pilot.@@N@@Code
set_option linter.unusedVariables false
set_option linter.unusedSimpArgs false
namespace Jvm.RoadKit
open Sem ClassFile Op Lib Jvm.Stand Jvm.Free Jvm.LawKit
section New
variable {p : Program} {l : Launch} {e : Env} {R : Room} {s : State} {m : MethodId} {args : Array Value} {below : List Frame} {meth : Method} {c : Code} {T : State} {locs : List Loc} {cells slots : Nat}
theorem retI (X : Stand p l e R s m args below meth c T locs cells slots) (hx : p.tables.exec = Jvm.exec) {pc : Nat} {Ls : Array Slot} {z : Int32} {rest : List Value} (hret : meth.sig.returnType = some .int) (hd : decode c.code pc = .ok (.ireturn, 1)) {fs : List Frame}
    (hl : ∀ (f : JFrame) (acts : List Action), f.method = m → f.locked = none → f.entered = [] → (doReturn e (T.setTop f) acts (some (.int z))).1 = T.setFrames fs) : Steps p.tables e below (T.setTop (mkF m pc Ls (.int z :: rest))) (T.setFrames fs) := by
  have hm' : T.vm.method? m = some meth := X.method'
  have hn : narrow .int (.int z) = .int z := rfl
  show Steps p.tables e below (T.setTop { method := m, pc := pc, locals := Ls, stack := _ :: rest, locked := none }) _
  jvm_step X.here [X.here.top, hx, hd, hm', hret, hn]
  first | (intro acts; rw [hl _ acts rfl rfl rfl]) | rw [hl _ _ rfl rfl rfl]
  exact Steps.refl _
end New
end Jvm.RoadKit
namespace Jvm.Pilot.@@N@@
open Jvm Jvm.ClassFile Sem Op Lib Jvm.Free Jvm.Stand Jvm.LawKit Jvm.RoadKit Bundle Jvm.Pilot.@@N@@.Jvm.D
theorem own_go {tb : Tables} {e : Env} {below : List Frame} {A B : State} {P : State → Outcome → Prop} (st : ∀ t, Steps tb e below B t → Steps tb e below A t) (k : ∃ t o, Steps tb e below B t ∧ P t o) : ∃ t o, Steps tb e below A t ∧ P t o := by
  obtain ⟨t, o, h1, h2⟩ := k
  exact ⟨t, o, st t h1, h2⟩
theorem own_goT {tb : Tables} {e : Env} {below : List Frame} {A B : State} {P : State → Outcome → Prop} (st : Steps tb e below A B) (k : ∃ t o, Steps tb e below B t ∧ P t o) : ∃ t o, Steps tb e below A t ∧ P t o := by
  obtain ⟨t, o, h1, h2⟩ := k
  exact ⟨t, o, st.trans h1, h2⟩
theorem own_nfo {args : Array Value} {s : State} {C : String} {x y z : MethodName} (hsel : (Jvm.Cond.selects C x z).before args s = true) (e : z.cls = y.cls) : NotFace s y := fun r0 h0 => by
  obtain ⟨c2, r2, m2, q1, q2, q3, q4, kP, hkP, hkPi⟩ := Cond.selects_spec hsel
  have a1 := findClass_of_methodNamed q3
  have a2 := findClass_of_methodNamed h0
  rw [e] at a1
  have e2 := Option.some.inj (a1.symm.trans a2)
  exact ⟨kP, by rw [← e2]; exact hkP, hkPi⟩
theorem own_ifc {α : Type} {P R : Prop} [Decidable P] [Decidable R] (a b : α) (h : P ↔ R) : (if P then a else b) = (if R then a else b) := by
  by_cases q : P
  · rw [if_pos q, if_pos (h.mp q)]
  · rw [if_neg q, if_neg fun r => q (h.mpr r)]
theorem own_keep_le {h h' : Heap} {ws : List Addr} (K : Keep h h' ws) : h.size ≤ h'.size := K.1
theorem own_nosub3 {Z : State} {a0 : Array Value} {A B D K : String} {n : Nat} (w1 : (Jvm.Cond.superclass A B).before a0 Z = true) (w2 : (Jvm.Cond.superclass B D).before a0 Z = true) (w3 : (Jvm.Cond.noSuperclass D).before a0 Z = true) (wk : (Jvm.Cond.instantiable K n).before a0 Z = true)
    (nA : A ≠ K) (nB : B ≠ K) (nD : D ≠ K) {cA cK : ClassId} (hA : Z.vm.findClass A = some cA) (hK : Z.vm.findClass K = some cK) : Z.vm.assignable cA cK = false := by
  obtain ⟨cB, kA, kB, hB, hkA, hkB, hsA, hoA, -, -⟩ := Cond.superclass_spec hA w1
  obtain ⟨cD, kB', kD, hD, hkB', hkD, hsB, -, -, -⟩ := Cond.superclass_spec hB w2
  cases hkB.symm.trans hkB'
  obtain ⟨cD', kD', hD', hkD', hsD, -, -⟩ := Cond.noSuperclass_spec w3
  cases hD.symm.trans hD'
  cases hkD.symm.trans hkD'
  obtain ⟨cK', kK, hK', hkK, hoK, hiK, -, -⟩ := Cond.instantiable_spec wk
  cases hK.symm.trans hK'
  have ne : ∀ {X : String} {cX : ClassId}, Z.vm.findClass X = some cX → X ≠ K → cX ≠ cK := fun {X cX} hX nX e => by
    subst e
    obtain ⟨k1, p1, p2⟩ := Vm.findClass_spec hX
    obtain ⟨k2, q1, q2⟩ := Vm.findClass_spec hK
    cases p1.symm.trans q1
    exact nX (p2.symm.trans q2)
  have hAK := ne hA nA
  have hBK := ne hB nB
  have hDK := ne hD nD
  have hi : kK.isInterface = false := by
    cases h : kK.isInterface with
    | false => rfl
    | true => simp [h] at hiK
  have sub : ∀ fuel, Z.vm.isSubclassAux fuel cA cK = false := fun fuel => by
    cases fuel with
    | zero => rfl
    | succ f =>
      cases f with
      | zero => simp [Vm.isSubclassAux, hAK, hkA, hsA]
      | succ f' =>
        cases f' with
        | zero => simp [Vm.isSubclassAux, hAK, hBK, hkA, hsA, hkB, hsB]
        | succ f'' => simp [Vm.isSubclassAux, hAK, hBK, hDK, hkA, hsA, hkB, hsB, hkD, hsD]
  show Z.vm.assignableAux (255 + 1) cA cK = false
  simp [Vm.assignableAux, hAK, hkA, hkK, hoA, hoK, hi, Vm.isSubclass, sub]
theorem own_noins {Z : State} {a0 : Array Value} {A B D K : String} {n : Nat} (w1 : (Jvm.Cond.superclass A B).before a0 Z = true) (w2 : (Jvm.Cond.superclass B D).before a0 Z = true) (w3 : (Jvm.Cond.noSuperclass D).before a0 Z = true) (wk : (Jvm.Cond.instantiable K n).before a0 Z = true)
    (nA : A ≠ K) (nB : B ≠ K) (nD : D ≠ K) : ∃ c t, Z.vm.findClass A = some c ∧ Z.vm.findClass K = some t ∧ Z.vm.assignable c t = false := by
  obtain ⟨cA, hA⟩ := found_sup w1
  obtain ⟨cK, kK, hK, -⟩ := Cond.instantiable_spec wk
  exact ⟨cA, cK, hA, hK, own_nosub3 w1 w2 w3 wk nA nB nD hA hK⟩

theorem own_e1 (P Q : Prop) [Decidable P] [Decidable Q] : (if P ∧ Q then (1 : Int32) else (0 : Int32)) = (if P then (if Q then (1 : Int32) else (0 : Int32)) else (0 : Int32)) := by
  by_cases h1 : P <;> by_cases h2 : Q <;> simp [h1, h2]
theorem own_e2 (a b : Int64) (u v : Int32) : (if a = b ∧ u = v then (1 : Int32) else (0 : Int32)) = (if b = a then (if v = u then (1 : Int32) else (0 : Int32)) else (0 : Int32)) :=
  (own_ifc _ _ ⟨fun h => ⟨h.1.symm, h.2.symm⟩, fun h => ⟨h.1.symm, h.2.symm⟩⟩).trans (own_e1 _ _)
def own_lval (j : Int32) : Value := .long (j - 128).toInt64
theorem own_lidx {n : Nat} {q : Int64} (S : n = (256 : Int32).toNatClampNeg) (h1 : ¬ (q < (-128 : Int64))) (h2 : ¬ ((127 : Int64) < q)) : ¬ ((q.toInt32 + (128 : Int32)) < 0 ∨ n ≤ (q.toInt32 + (128 : Int32)).toNatClampNeg) := by
  have e0 : (256 : Int32).toNatClampNeg = 256 := rfl
  rw [e0] at S
  rw [Int64.lt_iff_toInt_lt] at h1 h2
  have a1 : (-128 : Int64).toInt = -128 := rfl
  have a2 : (127 : Int64).toInt = 127 := rfl
  have a3 : (128 : Int32).toInt = 128 := rfl
  have a4 : (0 : Int32).toInt = 0 := rfl
  have c1 := c_l2i q
  have c2 := c_iadd q.toInt32 128
  have c3 := rng32 (q.toInt32 + 128)
  have c4 := rng32 q.toInt32
  rw [Int32.lt_iff_toInt_lt]
  simp only [Int32.toNatClampNeg]
  omega

theorem ef_rmNumber (m : MethodId) (x0 : Addr) : entryFrame m #[(.ref x0)] 1 = mkF m 0 #[.val (.ref x0)] [] := by first | (simp [entryFrame, mkF, argsToLocals, Value.category]; done) | rfl
theorem d7_0 : decode jdk_18_method_1_code 0 = .ok (.aload_n 0, 1) := by decide +kernel
theorem d7_1 : decode jdk_18_method_1_code 1 = .ok (.invokespecial 1, 3) := by decide +kernel
theorem d7_4 : decode jdk_18_method_1_code 4 = .ok (.return_, 1) := by decide +kernel
theorem pn_java_lang_Number : plainName "java/lang/Number" = true := by first | (simp [plainName, overriddenIn]; done) | decide +kernel
def Q_rmNumber (Z : State) (a1 : Addr) (h0 : Heap) (n0 : Nat) (v : Option Value) (h : Heap) (L : List Loc) : Prop := v = none ∧ Fr n0 L ∧ h = h0
set_option maxRecDepth 65536 in
set_option maxHeartbeats 40000000 in
theorem rmNumber (l : Launch) (Z : State) (a0 : Array Value) (hw : ∀ d ∈ tables_1, d.before a0 Z = true) (ws : List Jvm.Cond) (a1 : Addr) (h0 : Heap) (n0 : Nat) (Z0 : n0 ≤ h0.size) (OLD : Old Z n0 h0) :
    MetFree l (⟨"java/lang/Number", "<init>", "()V"⟩ : MethodName) (head1 (Jvm.Cond.code (⟨"java/lang/Number", "<init>", "()V"⟩ : MethodName) jdk_18_method_1_code 1 none :: ws) ({ frames := 1, cells := 0, slots := 0, locals := 12 } : Room)) (fun a U => a = #[(.ref a1)] ∧ Z.Warmed39 U.vm ∧ U.heap = h0) (fun _ _ _ _ _ => True) (fun _ U o U' => ∃ v L, o = .returned v ∧ Q_rmNumber Z a1 h0 n0 v U'.heap L ∧ FrameEnd U o U' L ({ frames := 1, cells := 0, slots := 0, locals := 12 } : Room).cells ({ frames := 1, cells := 0, slots := 0, locals := 12 } : Room).slots) := by
  refine MetFree.of_bodySF (plainFor_of_name pn_java_lang_Number) hisR ?_
  intro p e s m args below meth c s₁ Bd hml0 hP hK
  obtain ⟨rfl, hZ, hh⟩ := hP
  have hx := Bd.exec
  have hby := Bd.bytes
  have hml : c.maxLocals = 1 := hml0
  have hown : s.vm.findClass "java/lang/Number" = some m.cls := findClass_of_methodNamed Bd.named
  have hnm := (name_of_methodNamed Bd.named Bd.method).1
  have X0 : Stand p l e ({ frames := 1, cells := 0, slots := 0, locals := 12 } : Room) s m #[(.ref a1)] below meth c s₁ [] 0 0 := Stand.of_body Bd
  have e0 : s₁.heap = h0 := by rw [← hh, Bd.state]; rfl
  have N0 := Fr.nil n0
  have pre0 : ∀ t, Steps p.tables e below (s₁.setTop (mkF m 0 #[.val (.ref a1)] [])) t → Steps p.tables e below (s₁.setTop (entryFrame m #[(.ref a1)] 1)) t := fun t k => castTop (ef_rmNumber m a1) k
  have oz := OLD.1
  refine own_go (B := s₁.setTop (mkF m 0 #[.val (.ref a1)] [])) pre0 ?_
  show ∃ t o, Steps p.tables e below (s₁.setTop (mkF m 0 #[.val (.ref a1)] [])) t ∧ _
  refine own_go (fun _ => XS.aloadN X0.here hx rfl (hb hby d7_0) rfl rfl) ?_
  show ∃ t o, Steps p.tables e below (s₁.setTop (mkF m 1 #[.val (.ref a1)] [(.ref a1)])) t ∧ _
  obtain ⟨T1, X1, e1, st1⟩ := initO X0 hx hZ hown (hw _ (List.mem_of_getElem? (i := 48) rfl)) (hw _ (List.mem_of_getElem? (i := 12) rfl)) (hw _ (List.mem_of_getElem? (i := 13) rfl)) e0 (g := (mkF m 1 #[.val (.ref a1)] [(.ref a1)])) rfl (by rw [hml]; rfl) rfl (hb hby d7_1) (by decide) (W := 0) (by show 2 * 0 + _ ≤ _; exact Nat.le_of_eq rfl) (by decide)
  refine own_go st1 ?_
  show ∃ t o, Steps p.tables e below (T1.setTop (mkF m 4 #[.val (.ref a1)] [])) t ∧ _
  obtain ⟨fs, hr, hrun, hended, hW, hsame⟩ := X1.leave (v := none) (fun _ => rfl)
  refine ⟨_, _, ?_, hrun, hended, _, _, rfl, ?_, ⟨_, rfl⟩, hW, hsame.mono (by decide) (by decide)⟩
  · exact X1.returnOut hx Bd.returns (hb hby d7_4) hr
  · show Q_rmNumber Z a1 h0 n0 _ T1.heap _
    rw [e1]
    exact ⟨rfl, N0, rfl⟩
theorem ef_rmLongInit (m : MethodId) (x0 : Addr) (x1 : Int64) : entryFrame m #[(.ref x0), (.long x1)] 3 = mkF m 0 #[.val (.ref x0), .val (.long x1), .second] [] := by first | (simp [entryFrame, mkF, argsToLocals, Value.category]; done) | rfl
theorem d6_0 : decode jdk_35_method_26_code 0 = .ok (.aload_n 0, 1) := by decide +kernel
theorem d6_1 : decode jdk_35_method_26_code 1 = .ok (.invokespecial 270, 3) := by decide +kernel
theorem pd__28_29V : parseMethodDescriptor "()V" = some ⟨[], none⟩ := by decide +kernel
theorem d6_4 : decode jdk_35_method_26_code 4 = .ok (.aload_n 0, 1) := by decide +kernel
theorem d6_5 : decode jdk_35_method_26_code 5 = .ok (.lload_n 1, 1) := by decide +kernel
theorem d6_6 : decode jdk_35_method_26_code 6 = .ok (.putfield 273, 3) := by decide +kernel
theorem d6_9 : decode jdk_35_method_26_code 9 = .ok (.return_, 1) := by decide +kernel
theorem pn_java_lang_Long : plainName "java/lang/Long" = true := by first | (simp [plainName, overriddenIn]; done) | decide +kernel
def Q_rmLongInit (Z : State) (a1 : Addr) (q1 : Int64) (h0 : Heap) (n0 : Nat) (v : Option Value) (h : Heap) (L : List Loc) : Prop := v = none ∧ Fr n0 L ∧ Keep h0 h [a1] ∧ Exa Z h a1 "java/lang/Long" ∧ Fld Z h a1 "java/lang/Long" "value" "J" (.long q1)
set_option maxRecDepth 65536 in
set_option maxHeartbeats 40000000 in
theorem rmLongInit (l : Launch) (Z : State) (a0 : Array Value) (hw : ∀ d ∈ tables_1, d.before a0 Z = true) (ws : List Jvm.Cond) (a1 : Addr) (q1 : Int64) (h0 : Heap) (n0 : Nat) (Z0 : n0 ≤ h0.size) (P1 : Exa Z h0 a1 "java/lang/Long") (P2 : Fld Z h0 a1 "java/lang/Long" "value" "J" (.long (0 : Int64))) (OLD : Old Z n0 h0) (ga : n0 ≤ a1) :
    MetFree l (⟨"java/lang/Long", "<init>", "(J)V"⟩ : MethodName) (head1 (Jvm.Cond.code (⟨"java/lang/Long", "<init>", "(J)V"⟩ : MethodName) jdk_35_method_26_code 3 none :: ws) ({ frames := 2, cells := 0, slots := 0, locals := 24 } : Room)) (fun a U => a = #[(.ref a1), (.long q1)] ∧ Z.Warmed39 U.vm ∧ U.heap = h0) (fun _ _ _ _ _ => True) (fun _ U o U' => ∃ v L, o = .returned v ∧ Q_rmLongInit Z a1 q1 h0 n0 v U'.heap L ∧ FrameEnd U o U' L ({ frames := 2, cells := 0, slots := 0, locals := 24 } : Room).cells ({ frames := 2, cells := 0, slots := 0, locals := 24 } : Room).slots) := by
  refine MetFree.of_bodySF (plainFor_of_name pn_java_lang_Long) hisR ?_
  intro p e s m args below meth c s₁ Bd hml0 hP hK
  obtain ⟨rfl, hZ, hh⟩ := hP
  have hx := Bd.exec
  have hby := Bd.bytes
  have hml : c.maxLocals = 3 := hml0
  have hown : s.vm.findClass "java/lang/Long" = some m.cls := findClass_of_methodNamed Bd.named
  have hnm := (name_of_methodNamed Bd.named Bd.method).1
  have X0 : Stand p l e ({ frames := 2, cells := 0, slots := 0, locals := 24 } : Room) s m #[(.ref a1), (.long q1)] below meth c s₁ [] 0 0 := Stand.of_body Bd
  have e0 : s₁.heap = h0 := by rw [← hh, Bd.state]; rfl
  have N0 := Fr.nil n0
  have pre0 : ∀ t, Steps p.tables e below (s₁.setTop (mkF m 0 #[.val (.ref a1), .val (.long q1), .second] [])) t → Steps p.tables e below (s₁.setTop (entryFrame m #[(.ref a1), (.long q1)] 3)) t := fun t k => castTop (ef_rmLongInit m a1 q1) k
  have oz := OLD.1
  have lt_a1 := P1.lt
  refine own_go (B := s₁.setTop (mkF m 0 #[.val (.ref a1), .val (.long q1), .second] [])) pre0 ?_
  show ∃ t o, Steps p.tables e below (s₁.setTop (mkF m 0 #[.val (.ref a1), .val (.long q1), .second] [])) t ∧ _
  refine own_go (fun _ => XS.aloadN X0.here hx rfl (hb hby d6_0) rfl rfl) ?_
  show ∃ t o, Steps p.tables e below (s₁.setTop (mkF m 1 #[.val (.ref a1), .val (.long q1), .second] [(.ref a1)])) t ∧ _
  obtain ⟨_, _, ⟨T3, L3, k3, n3⟩, -, X3, ⟨Lc3, hQ3, l3, y3, z3⟩, st3⟩ := X0.specialBack hx (y := (⟨"java/lang/Number", "<init>", "()V"⟩ : MethodName)) rfl hown (mvT hZ (hw _ (List.mem_of_getElem? (i := 42) rfl))) (mvT hZ (hw _ (List.mem_of_getElem? (i := 43) rfl))) (mvT hZ (hw _ (List.mem_of_getElem? (i := 47) rfl))) (by decide) (backOf (W := 0) (rmNumber l Z a0 hw [] a1 h0 n0 Z0 OLD) hZ (hw _ (List.mem_of_getElem? (i := 47) rfl)) (hw _ (List.mem_of_getElem? (i := 46) rfl)) (by decide) (by decide)) (g := (mkF m 1 #[.val (.ref a1), .val (.long q1), .second] [(.ref a1)])) rfl (by rw [hml]; rfl) (Steps.refl _) (a := a1) (argsL := []) (rest := []) (lenOf pd__28_29V rfl) rfl (by show 2 * 0 + _ ≤ _; exact Nat.le_of_eq rfl) (hb hby d6_1) (fun _ _ => ⟨rfl, e0, (by decide : 0 + 0 ≤ _), (by decide : 0 + 0 ≤ _)⟩)
  dsimp only [Pt.U, Pt.locs, Pt.cells, Pt.slots] at X3 l3 y3 z3 st3 hQ3
  subst l3 y3 z3
  obtain ⟨rfl, Nq3, e3⟩ := hQ3
  have N3 := Fr.app N0 Nq3
  refine own_goT st3 ?_
  show ∃ t o, Steps p.tables e below (T3.setTop (mkF m 4 #[.val (.ref a1), .val (.long q1), .second] [])) t ∧ _
  refine own_go (fun _ => XS.aloadN X3.here hx rfl (hb hby d6_4) rfl rfl) ?_
  show ∃ t o, Steps p.tables e below (T3.setTop (mkF m 5 #[.val (.ref a1), .val (.long q1), .second] [(.ref a1)])) t ∧ _
  refine own_go (fun _ => XS.lloadN X3.here hx rfl (hb hby d6_5) rfl) ?_
  show ∃ t o, Steps p.tables e below (T3.setTop (mkF m 6 #[.val (.ref a1), .val (.long q1), .second] [(.long q1), (.ref a1)])) t ∧ _
  obtain ⟨T4, h4, X4, e4, W4, st4⟩ := putF X3 hx hZ hown (host := "") (Or.inl (hw _ (List.mem_of_getElem? (i := 49) rfl))) Via.refl e3 P2 P1 (Or.inr ⟨(hw _ (List.mem_of_getElem? (i := 50) rfl)), rfl, hnm⟩) (hw _ (List.mem_of_getElem? (i := 37) rfl)) (ty := .long) (by decide) rfl rfl (g := (mkF m 6 #[.val (.ref a1), .val (.long q1), .second] [(.long q1), (.ref a1)])) rfl rfl (hb hby d6_6)
  refine own_go st4 ?_
  have le_4 : h0.size ≤ h4.size := Nat.le_of_eq W4.size.symm
  have K4 : Keep h0 h4 [a1] := Keep.wr (Keep.refl h0 [a1]) W4 (Or.inl (List.mem_of_getElem? (i := 0) rfl))
  have N4 := Fr.snoc X4 N3 ga
  have Fw4 := Fld.same W4 P2
  show ∃ t o, Steps p.tables e below (T4.setTop (mkF m 9 #[.val (.ref a1), .val (.long q1), .second] [])) t ∧ _
  have F5 : Exa Z h4 a1 "java/lang/Long" := (Exa.wr W4 P1)
  obtain ⟨fs, hr, hrun, hended, hW, hsame⟩ := X4.leave (v := none) (fun _ => rfl)
  refine ⟨_, _, ?_, hrun, hended, _, _, rfl, ?_, ⟨_, rfl⟩, hW, hsame.mono (by decide) (by decide)⟩
  · exact X4.returnOut hx Bd.returns (hb hby d6_9) hr
  · show Q_rmLongInit Z a1 q1 h0 n0 _ T4.heap _
    rw [e4]
    exact ⟨rfl, N4, K4, F5, Fw4⟩
theorem ef_rmLongOf (m : MethodId) (x0 : Int64) : entryFrame m #[(.long x0)] 3 = mkF m 0 #[.val (.long x0), .second, .unset] [] := by first | (simp [entryFrame, mkF, argsToLocals, Value.category]; done) | rfl
theorem d4_0 : decode jdk_35_method_24_code 0 = .ok (.sipush 128, 3) := by decide +kernel
theorem d4_3 : decode jdk_35_method_24_code 3 = .ok (.istore_n 2, 1) := by decide +kernel
theorem d4_4 : decode jdk_35_method_24_code 4 = .ok (.lload_n 0, 1) := by decide +kernel
theorem d4_5 : decode jdk_35_method_24_code 5 = .ok (.ldc2_w 230, 3) := by decide +kernel
theorem d4_8 : decode jdk_35_method_24_code 8 = .ok (.lcmp, 1) := by decide +kernel
theorem d4_9 : decode jdk_35_method_24_code 9 = .ok (.ifCond .lt 22, 3) := by decide +kernel
theorem d4_31 : decode jdk_35_method_24_code 31 = .ok (.new 1, 3) := by decide +kernel
theorem d4_34 : decode jdk_35_method_24_code 34 = .ok (.dup, 1) := by decide +kernel
theorem d4_35 : decode jdk_35_method_24_code 35 = .ok (.lload_n 0, 1) := by decide +kernel
theorem d4_36 : decode jdk_35_method_24_code 36 = .ok (.invokespecial 240, 3) := by decide +kernel
theorem pd__28J_29V : parseMethodDescriptor "(J)V" = some ⟨[.long], none⟩ := by decide +kernel
theorem d4_39 : decode jdk_35_method_24_code 39 = .ok (.areturn, 1) := by decide +kernel
theorem d4_12 : decode jdk_35_method_24_code 12 = .ok (.lload_n 0, 1) := by decide +kernel
theorem d4_13 : decode jdk_35_method_24_code 13 = .ok (.ldc2_w 232, 3) := by decide +kernel
theorem d4_16 : decode jdk_35_method_24_code 16 = .ok (.lcmp, 1) := by decide +kernel
theorem d4_17 : decode jdk_35_method_24_code 17 = .ok (.ifCond .gt 14, 3) := by decide +kernel
theorem d4_20 : decode jdk_35_method_24_code 20 = .ok (.getstatic 234, 3) := by decide +kernel
theorem d4_23 : decode jdk_35_method_24_code 23 = .ok (.lload_n 0, 1) := by decide +kernel
theorem d4_24 : decode jdk_35_method_24_code 24 = .ok (.l2i, 1) := by decide +kernel
theorem d4_25 : decode jdk_35_method_24_code 25 = .ok (.sipush 128, 3) := by decide +kernel
theorem d4_28 : decode jdk_35_method_24_code 28 = .ok (.iadd, 1) := by decide +kernel
theorem d4_29 : decode jdk_35_method_24_code 29 = .ok (.aaload, 1) := by decide +kernel
theorem d4_30 : decode jdk_35_method_24_code 30 = .ok (.areturn, 1) := by decide +kernel
def Q_rmLongOf (Z : State) (q1 : Int64) (ca : Addr) (cca : Cell) (h0 : Heap) (n0 : Nat) (v : Option Value) (h : Heap) (L : List Loc) : Prop := ∃ (b : Addr), ∃ (rv : Int64), v = some (.ref b) ∧ Fr n0 L ∧ Keep h0 h [] ∧ Exa Z h b "java/lang/Long" ∧ Fld Z h b "java/lang/Long" "value" "J" (.long rv)
set_option maxRecDepth 65536 in
set_option maxHeartbeats 40000000 in
theorem rmLongOf (l : Launch) (Z : State) (a0 : Array Value) (hw : ∀ d ∈ tables_1, d.before a0 Z = true) (ws : List Jvm.Cond) (q1 : Int64) (ca : Addr) (cca : Cell) (h0 : Heap) (n0 : Nat) (Z0 : n0 ≤ h0.size) (OLD : Old Z n0 h0) (P1 : Sta Z Z.heap "java/lang/Long$LongCache" "cache" "[Ljava/lang/Long;" (.ref ca)) (BX : Bxs Z ca cca "java/lang/Long" "J" (256 : Int32) own_lval) :
    MetFree l (⟨"java/lang/Long", "valueOf", "(J)Ljava/lang/Long;"⟩ : MethodName) (head1 (Jvm.Cond.code (⟨"java/lang/Long", "valueOf", "(J)Ljava/lang/Long;"⟩ : MethodName) jdk_35_method_24_code 3 (some (.object "java/lang/Long")) :: ws) ({ frames := 3, cells := 1, slots := 1, locals := 39 } : Room)) (fun a U => a = #[(.long q1)] ∧ Z.Warmed39 U.vm ∧ U.heap = h0) (fun _ _ _ _ _ => True) (fun _ U o U' => ∃ v L, o = .returned v ∧ Q_rmLongOf Z q1 ca cca h0 n0 v U'.heap L ∧ FrameEnd U o U' L ({ frames := 3, cells := 1, slots := 1, locals := 39 } : Room).cells ({ frames := 3, cells := 1, slots := 1, locals := 39 } : Room).slots) := by
  refine MetFree.of_bodySF (plainFor_of_name pn_java_lang_Long) hisR ?_
  intro p e s m args below meth c s₁ Bd hml0 hP hK
  obtain ⟨rfl, hZ, hh⟩ := hP
  have hx := Bd.exec
  have hby := Bd.bytes
  have hml : c.maxLocals = 3 := hml0
  have hown : s.vm.findClass "java/lang/Long" = some m.cls := findClass_of_methodNamed Bd.named
  have hnm := (name_of_methodNamed Bd.named Bd.method).1
  have X0 : Stand p l e ({ frames := 3, cells := 1, slots := 1, locals := 39 } : Room) s m #[(.long q1)] below meth c s₁ [] 0 0 := Stand.of_body Bd
  have e0 : s₁.heap = h0 := by rw [← hh, Bd.state]; rfl
  have N0 := Fr.nil n0
  have pre0 : ∀ t, Steps p.tables e below (s₁.setTop (mkF m 0 #[.val (.long q1), .second, .unset] [])) t → Steps p.tables e below (s₁.setTop (entryFrame m #[(.long q1)] 3)) t := fun t k => castTop (ef_rmLongOf m q1) k
  have oz := OLD.1
  refine own_go (B := s₁.setTop (mkF m 0 #[.val (.long q1), .second, .unset] [])) pre0 ?_
  show ∃ t o, Steps p.tables e below (s₁.setTop (mkF m 0 #[.val (.long q1), .second, .unset] [])) t ∧ _
  refine own_go (fun _ => XS.sipush X0.here hx rfl (hb hby d4_0)) ?_
  show ∃ t o, Steps p.tables e below (s₁.setTop (mkF m 3 #[.val (.long q1), .second, .unset] [(.int (128 : Int32))])) t ∧ _
  refine own_go (fun _ => XS.istoreN X0.here hx rfl (hb hby d4_3) rfl (l' := #[.val (.long q1), .second, .val (.int (128 : Int32))]) rfl) ?_
  show ∃ t o, Steps p.tables e below (s₁.setTop (mkF m 4 #[.val (.long q1), .second, .val (.int (128 : Int32))] [])) t ∧ _
  refine own_go (fun _ => XS.lloadN X0.here hx rfl (hb hby d4_4) rfl) ?_
  show ∃ t o, Steps p.tables e below (s₁.setTop (mkF m 5 #[.val (.long q1), .second, .val (.int (128 : Int32))] [(.long q1)])) t ∧ _
  refine own_go (fun _ => X0.ldc2Long hx hown (mvT hZ (hw _ (List.mem_of_getElem? (i := 22) rfl))) (g := (mkF m 5 #[.val (.long q1), .second, .val (.int (128 : Int32))] [(.long q1)])) rfl (hb hby d4_5) _) ?_
  show ∃ t o, Steps p.tables e below (s₁.setTop (mkF m 8 #[.val (.long q1), .second, .val (.int (128 : Int32))] [(.long (-128 : Int64)), (.long q1)])) t ∧ _
  refine own_go (fun _ => XS.lcmp X0.here hx rfl (hb hby d4_8) rfl) ?_
  show ∃ t o, Steps p.tables e below (s₁.setTop (mkF m 9 #[.val (.long q1), .second, .val (.int (128 : Int32))] [(.int (lcmpW q1 (-128 : Int64)))])) t ∧ _
  by_cases hc2 : q1 < (-128 : Int64)
  · refine own_go (fun _ => XS.ifYes X0.here hx rfl (pc0 := 9) (pc' := 31) rfl (hb hby d4_9) rfl ((if0 _ _).trans (tlt ((lw_lt _ _).mpr hc2)).1) (by decide) (by decide)) ?_
    show ∃ t o, Steps p.tables e below (s₁.setTop (mkF m 31 #[.val (.long q1), .second, .val (.int (128 : Int32))] [])) t ∧ _
    obtain ⟨T3, h3, X3, e3, E3, A3, D3, -, st3⟩ := newO X0 hx hZ hown (hw _ (List.mem_of_getElem? (i := 36) rfl)) (hw _ (List.mem_of_getElem? (i := 37) rfl)) (hw _ (List.mem_of_getElem? (i := 20) rfl)) e0 (g := (mkF m 31 #[.val (.long q1), .second, .val (.int (128 : Int32))] [])) rfl (hb hby d4_31) (by decide) (by decide)
    obtain ⟨b3, g3⟩ : ∃ z, z = h0.size := ⟨_, rfl⟩
    rw [← g3] at A3 D3 st3
    refine own_go st3 ?_
    have le_3 : h0.size ≤ h3.size := E3.1
    have lt_b3 : b3 < h3.size := A3.lt
    have F_value_b3 : Fld Z h3 b3 "java/lang/Long" "value" "J" (.long (0 : Int64)) := D3 (Or.inr (hw _ (List.mem_of_getElem? (i := 50) rfl))) (ty := .long) (by decide)
    have K3 : Keep h0 h3 [] := Keep.ext (Keep.refl h0 []) E3
    show ∃ t o, Steps p.tables e below (T3.setTop (mkF m 34 #[.val (.long q1), .second, .val (.int (128 : Int32))] [(.ref b3)])) t ∧ _
    refine own_go (fun _ => XS.dup X3.here hx rfl (hb hby d4_34) rfl rfl) ?_
    show ∃ t o, Steps p.tables e below (T3.setTop (mkF m 35 #[.val (.long q1), .second, .val (.int (128 : Int32))] [(.ref b3), (.ref b3)])) t ∧ _
    refine own_go (fun _ => XS.lloadN X3.here hx rfl (hb hby d4_35) rfl) ?_
    show ∃ t o, Steps p.tables e below (T3.setTop (mkF m 36 #[.val (.long q1), .second, .val (.int (128 : Int32))] [(.long q1), (.ref b3), (.ref b3)])) t ∧ _
    have F4 : Old Z n0 h3 := (OLD.ext E3)
    have ge5 : n0 ≤ b3 := by omega
    have zl6 : n0 ≤ h3.size := by omega
    obtain ⟨_, _, ⟨T7, L7, k7, n7⟩, -, X7, ⟨Lc7, hQ7, l7, y7, z7⟩, st7⟩ := X3.specialBack hx (y := (⟨"java/lang/Long", "<init>", "(J)V"⟩ : MethodName)) rfl hown (mvT hZ (hw _ (List.mem_of_getElem? (i := 38) rfl))) (mvT hZ (hw _ (List.mem_of_getElem? (i := 39) rfl))) (mvT hZ (hw _ (List.mem_of_getElem? (i := 41) rfl))) (by decide) (backOf (W := 1) (rmLongInit l Z a0 hw [] b3 q1 h3 n0 zl6 A3 F_value_b3 F4 ge5) hZ (hw _ (List.mem_of_getElem? (i := 41) rfl)) (hw _ (List.mem_of_getElem? (i := 20) rfl)) (by decide) (by decide)) (g := (mkF m 36 #[.val (.long q1), .second, .val (.int (128 : Int32))] [(.long q1), (.ref b3), (.ref b3)])) rfl (by rw [hml]; rfl) (Steps.refl _) (a := b3) (argsL := [(.long q1)]) (rest := [(.ref b3)]) (lenOf pd__28J_29V rfl) rfl (by show 2 * 0 + _ ≤ _; exact Nat.le_of_eq rfl) (hb hby d4_36) (fun _ _ => ⟨rfl, e3, (by decide : 1 + 0 ≤ _), (by decide : 1 + 0 ≤ _)⟩)
    dsimp only [Pt.U, Pt.locs, Pt.cells, Pt.slots] at X7 l7 y7 z7 st7 hQ7
    subst l7 y7 z7
    obtain ⟨rfl, Nq7, Kp7, G7_0, G7_1⟩ := hQ7
    have N7 := Fr.app N0 Nq7
    refine own_goT st7 ?_
    have le_7 : h3.size ≤ T7.heap.size := Kp7.1
    have sz8 : h0.size ≤ b3 := by omega
    have K7 : Keep h0 T7.heap [] := Keep.trans K3 Kp7 (allS (Or.inr sz8) all0)
    show ∃ t o, Steps p.tables e below (T7.setTop (mkF m 39 #[.val (.long q1), .second, .val (.int (128 : Int32))] [(.ref b3)])) t ∧ _
    obtain ⟨fs, hr, hrun, hended, hW, hsame⟩ := X7.leave (v := some (.ref b3)) (fun h => by rw [Bd.returns] at h; cases h)
    refine ⟨_, _, ?_, hrun, hended, _, _, rfl, ?_, ⟨_, rfl⟩, hW, hsame.mono (by decide) (by decide)⟩
    · jvm_step X7.here [X7.here.top, hx, (hb hby d4_39), X7.method', Bd.returns, Value.isRef, FieldType.isReference]
      first | (intro acts; rw [hr _ acts rfl rfl rfl]) | rw [hr _ _ rfl rfl rfl]
      exact Steps.refl _
    · show Q_rmLongOf Z q1 ca cca h0 n0 _ T7.heap _
      exact ⟨b3, q1, rfl, N7, K7, G7_0, G7_1⟩
  · refine own_go (fun _ => XS.ifNo X0.here hx rfl (hb hby d4_9) rfl ((if0 _ _).trans (flt (mt (lw_lt _ _).mp hc2)).1)) ?_
    show ∃ t o, Steps p.tables e below (s₁.setTop (mkF m 12 #[.val (.long q1), .second, .val (.int (128 : Int32))] [])) t ∧ _
    refine own_go (fun _ => XS.lloadN X0.here hx rfl (hb hby d4_12) rfl) ?_
    show ∃ t o, Steps p.tables e below (s₁.setTop (mkF m 13 #[.val (.long q1), .second, .val (.int (128 : Int32))] [(.long q1)])) t ∧ _
    refine own_go (fun _ => X0.ldc2Long hx hown (mvT hZ (hw _ (List.mem_of_getElem? (i := 23) rfl))) (g := (mkF m 13 #[.val (.long q1), .second, .val (.int (128 : Int32))] [(.long q1)])) rfl (hb hby d4_13) _) ?_
    show ∃ t o, Steps p.tables e below (s₁.setTop (mkF m 16 #[.val (.long q1), .second, .val (.int (128 : Int32))] [(.long (127 : Int64)), (.long q1)])) t ∧ _
    refine own_go (fun _ => XS.lcmp X0.here hx rfl (hb hby d4_16) rfl) ?_
    show ∃ t o, Steps p.tables e below (s₁.setTop (mkF m 17 #[.val (.long q1), .second, .val (.int (128 : Int32))] [(.int (lcmpW q1 (127 : Int64)))])) t ∧ _
    by_cases hc9 : (127 : Int64) < q1
    · refine own_go (fun _ => XS.ifYes X0.here hx rfl (pc0 := 17) (pc' := 31) rfl (hb hby d4_17) rfl ((if0 _ _).trans (tlt ((lw_gt _ _).mpr hc9)).2.2.1) (by decide) (by decide)) ?_
      show ∃ t o, Steps p.tables e below (s₁.setTop (mkF m 31 #[.val (.long q1), .second, .val (.int (128 : Int32))] [])) t ∧ _
      obtain ⟨T10, h10, X10, e10, E10, A10, D10, -, st10⟩ := newO X0 hx hZ hown (hw _ (List.mem_of_getElem? (i := 36) rfl)) (hw _ (List.mem_of_getElem? (i := 37) rfl)) (hw _ (List.mem_of_getElem? (i := 20) rfl)) e0 (g := (mkF m 31 #[.val (.long q1), .second, .val (.int (128 : Int32))] [])) rfl (hb hby d4_31) (by decide) (by decide)
      obtain ⟨b10, g10⟩ : ∃ z, z = h0.size := ⟨_, rfl⟩
      rw [← g10] at A10 D10 st10
      refine own_go st10 ?_
      have le_10 : h0.size ≤ h10.size := E10.1
      have lt_b10 : b10 < h10.size := A10.lt
      have F_value_b10 : Fld Z h10 b10 "java/lang/Long" "value" "J" (.long (0 : Int64)) := D10 (Or.inr (hw _ (List.mem_of_getElem? (i := 50) rfl))) (ty := .long) (by decide)
      have K10 : Keep h0 h10 [] := Keep.ext (Keep.refl h0 []) E10
      show ∃ t o, Steps p.tables e below (T10.setTop (mkF m 34 #[.val (.long q1), .second, .val (.int (128 : Int32))] [(.ref b10)])) t ∧ _
      refine own_go (fun _ => XS.dup X10.here hx rfl (hb hby d4_34) rfl rfl) ?_
      show ∃ t o, Steps p.tables e below (T10.setTop (mkF m 35 #[.val (.long q1), .second, .val (.int (128 : Int32))] [(.ref b10), (.ref b10)])) t ∧ _
      refine own_go (fun _ => XS.lloadN X10.here hx rfl (hb hby d4_35) rfl) ?_
      show ∃ t o, Steps p.tables e below (T10.setTop (mkF m 36 #[.val (.long q1), .second, .val (.int (128 : Int32))] [(.long q1), (.ref b10), (.ref b10)])) t ∧ _
      have F11 : Old Z n0 h10 := (OLD.ext E10)
      have ge12 : n0 ≤ b10 := by omega
      have zl13 : n0 ≤ h10.size := by omega
      obtain ⟨_, _, ⟨T14, L14, k14, n14⟩, -, X14, ⟨Lc14, hQ14, l14, y14, z14⟩, st14⟩ := X10.specialBack hx (y := (⟨"java/lang/Long", "<init>", "(J)V"⟩ : MethodName)) rfl hown (mvT hZ (hw _ (List.mem_of_getElem? (i := 38) rfl))) (mvT hZ (hw _ (List.mem_of_getElem? (i := 39) rfl))) (mvT hZ (hw _ (List.mem_of_getElem? (i := 41) rfl))) (by decide) (backOf (W := 1) (rmLongInit l Z a0 hw [] b10 q1 h10 n0 zl13 A10 F_value_b10 F11 ge12) hZ (hw _ (List.mem_of_getElem? (i := 41) rfl)) (hw _ (List.mem_of_getElem? (i := 20) rfl)) (by decide) (by decide)) (g := (mkF m 36 #[.val (.long q1), .second, .val (.int (128 : Int32))] [(.long q1), (.ref b10), (.ref b10)])) rfl (by rw [hml]; rfl) (Steps.refl _) (a := b10) (argsL := [(.long q1)]) (rest := [(.ref b10)]) (lenOf pd__28J_29V rfl) rfl (by show 2 * 0 + _ ≤ _; exact Nat.le_of_eq rfl) (hb hby d4_36) (fun _ _ => ⟨rfl, e10, (by decide : 1 + 0 ≤ _), (by decide : 1 + 0 ≤ _)⟩)
      dsimp only [Pt.U, Pt.locs, Pt.cells, Pt.slots] at X14 l14 y14 z14 st14 hQ14
      subst l14 y14 z14
      obtain ⟨rfl, Nq14, Kp14, G14_0, G14_1⟩ := hQ14
      have N14 := Fr.app N0 Nq14
      refine own_goT st14 ?_
      have le_14 : h10.size ≤ T14.heap.size := Kp14.1
      have sz15 : h0.size ≤ b10 := by omega
      have K14 : Keep h0 T14.heap [] := Keep.trans K10 Kp14 (allS (Or.inr sz15) all0)
      show ∃ t o, Steps p.tables e below (T14.setTop (mkF m 39 #[.val (.long q1), .second, .val (.int (128 : Int32))] [(.ref b10)])) t ∧ _
      obtain ⟨fs, hr, hrun, hended, hW, hsame⟩ := X14.leave (v := some (.ref b10)) (fun h => by rw [Bd.returns] at h; cases h)
      refine ⟨_, _, ?_, hrun, hended, _, _, rfl, ?_, ⟨_, rfl⟩, hW, hsame.mono (by decide) (by decide)⟩
      · jvm_step X14.here [X14.here.top, hx, (hb hby d4_39), X14.method', Bd.returns, Value.isRef, FieldType.isReference]
        first | (intro acts; rw [hr _ acts rfl rfl rfl]) | rw [hr _ _ rfl rfl rfl]
        exact Steps.refl _
      · show Q_rmLongOf Z q1 ca cca h0 n0 _ T14.heap _
        exact ⟨b10, q1, rfl, N14, K14, G14_0, G14_1⟩
    · refine own_go (fun _ => XS.ifNo X0.here hx rfl (hb hby d4_17) rfl ((if0 _ _).trans (flt (mt (lw_gt _ _).mp hc9)).2.2.1)) ?_
      show ∃ t o, Steps p.tables e below (s₁.setTop (mkF m 20 #[.val (.long q1), .second, .val (.int (128 : Int32))] [])) t ∧ _
      obtain ⟨T16, X16, e16, st16⟩ := getS2 X0 hx hZ hown (host := "") (Or.inl (hw _ (List.mem_of_getElem? (i := 24) rfl))) Via.refl e0 (Sta.ext OLD.2 P1) (g := (mkF m 20 #[.val (.long q1), .second, .val (.int (128 : Int32))] [])) rfl (hb hby d4_20)
      refine own_go st16 ?_
      show ∃ t o, Steps p.tables e below (T16.setTop (mkF m 23 #[.val (.long q1), .second, .val (.int (128 : Int32))] [(.ref ca)])) t ∧ _
      refine own_go (fun _ => XS.lloadN X16.here hx rfl (hb hby d4_23) rfl) ?_
      show ∃ t o, Steps p.tables e below (T16.setTop (mkF m 24 #[.val (.long q1), .second, .val (.int (128 : Int32))] [(.long q1), (.ref ca)])) t ∧ _
      refine own_go (fun _ => XS.l2i X16.here hx rfl (hb hby d4_24) rfl) ?_
      show ∃ t o, Steps p.tables e below (T16.setTop (mkF m 25 #[.val (.long q1), .second, .val (.int (128 : Int32))] [(.int (q1.toInt32)), (.ref ca)])) t ∧ _
      refine own_go (fun _ => XS.sipush X16.here hx rfl (hb hby d4_25)) ?_
      show ∃ t o, Steps p.tables e below (T16.setTop (mkF m 28 #[.val (.long q1), .second, .val (.int (128 : Int32))] [(.int (128 : Int32)), (.int (q1.toInt32)), (.ref ca)])) t ∧ _
      refine own_go (fun _ => XS.iadd X16.here hx rfl (hb hby d4_28) rfl) ?_
      show ∃ t o, Steps p.tables e below (T16.setTop (mkF m 29 #[.val (.long q1), .second, .val (.int (128 : Int32))] [(.int ((q1.toInt32) + (128 : Int32))), (.ref ca)])) t ∧ _
      have hj29 := own_lidx BX.2.1 hc2 hc9
      obtain ⟨bx, hat29, ex29, fx29⟩ := BX.2.2.2 _ hj29
      have fx29' : Fld Z h0 bx "java/lang/Long" "value" "J" (.long ((q1.toInt32 + (128 : Int32)) - 128).toInt64) := Fld.ext OLD.2 fx29
      have Ar29 := Arr.ext OLD.2 BX.1
      have ex29' := Exa.ext OLD.2 ex29
      refine own_go (fun _ => X16.aaload hx (j := ((q1.toInt32) + (128 : Int32))) (v := (.ref bx)) (by rw [e16]; exact Ar29.1) (State.isArrayOf_alike hZ.alike Ar29.2.1) rfl Ar29.2.2 hj29 hat29 (g := (mkF m 29 #[.val (.long q1), .second, .val (.int (128 : Int32))] [(.int ((q1.toInt32) + (128 : Int32))), (.ref ca)])) rfl rfl (hb hby d4_29) _) ?_
      show ∃ t o, Steps p.tables e below (T16.setTop (mkF m 30 #[.val (.long q1), .second, .val (.int (128 : Int32))] [(.ref bx)])) t ∧ _
      obtain ⟨fs, hr, hrun, hended, hW, hsame⟩ := X16.leave (v := some (.ref bx)) (fun h => by rw [Bd.returns] at h; cases h)
      refine ⟨_, _, ?_, hrun, hended, _, _, rfl, ?_, ⟨_, rfl⟩, hW, hsame.mono (by decide) (by decide)⟩
      · jvm_step X16.here [X16.here.top, hx, (hb hby d4_30), X16.method', Bd.returns, Value.isRef, FieldType.isReference]
        first | (intro acts; rw [hr _ acts rfl rfl rfl]) | rw [hr _ _ rfl rfl rfl]
        exact Steps.refl _
      · show Q_rmLongOf Z q1 ca cca h0 n0 _ T16.heap _
        rw [e16]
        exact ⟨bx, ((q1.toInt32 + (128 : Int32)) - 128).toInt64, rfl, N0, (Keep.refl h0 []), ex29', fx29'⟩
theorem own_sz {Z : State} {args : Array Value} {t : Jvm.Term} {a : Addr} {c : Cell} {ty : FieldType} (et : t.eval args Z none [] Z = some (.ref a)) (A : Arr Z Z.heap a c ty) (h : (Jvm.Cond.eq (Jvm.Term.length t) (Jvm.Term.int (256 : Int32))).value args Z none Z [] = some true) : c.slots.size < 2 ^ 31 ∧ c.slots.size.toInt32 = (256 : Int32) := by
  have e := eqv_i (Term.int_eval (256 : Int32)) h
  have ar := A.fin (Vm.Alike.refl _)
  by_cases q : c.slots.size < 2 ^ 31
  · rw [len_f et ar q] at e
    exact ⟨q, by injection e with e; injection e⟩
  · simp [Term.eval, et, ar, q] at e
theorem own_bxsL {Z : State} {args : Array Value} {C D : String} {a : Addr} {c : Cell} (et : (Jvm.Term.static C "cache" D).eval args Z none [] Z = some (.ref a)) (A : Arr Z Z.heap a c (.object "java/lang/Long")) (h1 : (Jvm.Cond.eq (Jvm.Term.length (Jvm.Term.static C "cache" D)) (Jvm.Term.int (256 : Int32))).value args Z none Z [] = some true)
    (h : (Jvm.Cond.all (Jvm.Term.static C "cache" D) (Jvm.Cond.and (Jvm.Cond.exactly (Jvm.Term.elem (Jvm.Term.static C "cache" D) (Jvm.Term.index 0)) "java/lang/Long") (Jvm.Cond.eq (Jvm.Term.field (Jvm.Term.elem (Jvm.Term.static C "cache" D) (Jvm.Term.index 0)) "java/lang/Long" "value" "J") (Jvm.Term.op1 Jvm.Unary.i2l (Jvm.Term.sub (Jvm.Term.index 0) (Jvm.Term.int (128 : Int32))))))).value args Z none Z [] = some true) :
    Bxs Z a c "java/lang/Long" "J" (256 : Int32) own_lval := by
  obtain ⟨q1, q2⟩ := own_sz et A h1
  refine Bxs.start (fun idx => et) A q1 q2 (by decide) h fun X j hj hX => ?_
  exact eqv_l (i2l_at (by simp [Term.eval, idx_at hj, (back32 hj).1])) hX

theorem ef_rmRecord (m : MethodId) (x0 : Addr) : entryFrame m #[(.ref x0)] 1 = mkF m 0 #[.val (.ref x0)] [] := by first | (simp [entryFrame, mkF, argsToLocals, Value.category]; done) | rfl
theorem d2_0 : decode jdk_30_method_1_code 0 = .ok (.aload_n 0, 1) := by decide +kernel
theorem d2_1 : decode jdk_30_method_1_code 1 = .ok (.invokespecial 1, 3) := by decide +kernel
theorem d2_4 : decode jdk_30_method_1_code 4 = .ok (.return_, 1) := by decide +kernel
theorem pn_java_lang_Record : plainName "java/lang/Record" = true := by first | (simp [plainName, overriddenIn]; done) | decide +kernel
def Q_rmRecord (Z : State) (a1 : Addr) (h0 : Heap) (n0 : Nat) (v : Option Value) (h : Heap) (L : List Loc) : Prop := v = none ∧ Fr n0 L ∧ h = h0
set_option maxRecDepth 65536 in
set_option maxHeartbeats 40000000 in
theorem rmRecord (l : Launch) (Z : State) (a0 : Array Value) (hw : ∀ d ∈ tables_1, d.before a0 Z = true) (ws : List Jvm.Cond) (a1 : Addr) (h0 : Heap) (n0 : Nat) (Z0 : n0 ≤ h0.size) (OLD : Old Z n0 h0) :
    MetFree l (⟨"java/lang/Record", "<init>", "()V"⟩ : MethodName) (head1 (Jvm.Cond.code (⟨"java/lang/Record", "<init>", "()V"⟩ : MethodName) jdk_30_method_1_code 1 none :: ws) ({ frames := 1, cells := 0, slots := 0, locals := 12 } : Room)) (fun a U => a = #[(.ref a1)] ∧ Z.Warmed39 U.vm ∧ U.heap = h0) (fun _ _ _ _ _ => True) (fun _ U o U' => ∃ v L, o = .returned v ∧ Q_rmRecord Z a1 h0 n0 v U'.heap L ∧ FrameEnd U o U' L ({ frames := 1, cells := 0, slots := 0, locals := 12 } : Room).cells ({ frames := 1, cells := 0, slots := 0, locals := 12 } : Room).slots) := by
  refine MetFree.of_bodySF (plainFor_of_name pn_java_lang_Record) hisR ?_
  intro p e s m args below meth c s₁ Bd hml0 hP hK
  obtain ⟨rfl, hZ, hh⟩ := hP
  have hx := Bd.exec
  have hby := Bd.bytes
  have hml : c.maxLocals = 1 := hml0
  have hown : s.vm.findClass "java/lang/Record" = some m.cls := findClass_of_methodNamed Bd.named
  have hnm := (name_of_methodNamed Bd.named Bd.method).1
  have X0 : Stand p l e ({ frames := 1, cells := 0, slots := 0, locals := 12 } : Room) s m #[(.ref a1)] below meth c s₁ [] 0 0 := Stand.of_body Bd
  have e0 : s₁.heap = h0 := by rw [← hh, Bd.state]; rfl
  have N0 := Fr.nil n0
  have pre0 : ∀ t, Steps p.tables e below (s₁.setTop (mkF m 0 #[.val (.ref a1)] [])) t → Steps p.tables e below (s₁.setTop (entryFrame m #[(.ref a1)] 1)) t := fun t k => castTop (ef_rmRecord m a1) k
  have oz := OLD.1
  refine own_go (B := s₁.setTop (mkF m 0 #[.val (.ref a1)] [])) pre0 ?_
  show ∃ t o, Steps p.tables e below (s₁.setTop (mkF m 0 #[.val (.ref a1)] [])) t ∧ _
  refine own_go (fun _ => XS.aloadN X0.here hx rfl (hb hby d2_0) rfl rfl) ?_
  show ∃ t o, Steps p.tables e below (s₁.setTop (mkF m 1 #[.val (.ref a1)] [(.ref a1)])) t ∧ _
  obtain ⟨T1, X1, e1, st1⟩ := initO X0 hx hZ hown (hw _ (List.mem_of_getElem? (i := 11) rfl)) (hw _ (List.mem_of_getElem? (i := 12) rfl)) (hw _ (List.mem_of_getElem? (i := 13) rfl)) e0 (g := (mkF m 1 #[.val (.ref a1)] [(.ref a1)])) rfl (by rw [hml]; rfl) rfl (hb hby d2_1) (by decide) (W := 0) (by show 2 * 0 + _ ≤ _; exact Nat.le_of_eq rfl) (by decide)
  refine own_go st1 ?_
  show ∃ t o, Steps p.tables e below (T1.setTop (mkF m 4 #[.val (.ref a1)] [])) t ∧ _
  obtain ⟨fs, hr, hrun, hended, hW, hsame⟩ := X1.leave (v := none) (fun _ => rfl)
  refine ⟨_, _, ?_, hrun, hended, _, _, rfl, ?_, ⟨_, rfl⟩, hW, hsame.mono (by decide) (by decide)⟩
  · exact X1.returnOut hx Bd.returns (hb hby d2_4) hr
  · show Q_rmRecord Z a1 h0 n0 _ T1.heap _
    rw [e1]
    exact ⟨rfl, N0, rfl⟩
theorem ef_rmStamp (m : MethodId) (x0 : Addr) (x1 : Int64) (x2 : Int32) : entryFrame m #[(.ref x0), (.long x1), (.int x2)] 4 = mkF m 0 #[.val (.ref x0), .val (.long x1), .second, .val (.int x2)] [] := by first | (simp [entryFrame, mkF, argsToLocals, Value.category]; done) | rfl
theorem d1_0 : decode prog_153_method_1_code 0 = .ok (.aload_n 0, 1) := by decide +kernel
theorem d1_1 : decode prog_153_method_1_code 1 = .ok (.invokespecial 1, 3) := by decide +kernel
theorem d1_4 : decode prog_153_method_1_code 4 = .ok (.aload_n 0, 1) := by decide +kernel
theorem d1_5 : decode prog_153_method_1_code 5 = .ok (.lload_n 1, 1) := by decide +kernel
theorem d1_6 : decode prog_153_method_1_code 6 = .ok (.putfield 7, 3) := by decide +kernel
theorem d1_9 : decode prog_153_method_1_code 9 = .ok (.aload_n 0, 1) := by decide +kernel
theorem d1_10 : decode prog_153_method_1_code 10 = .ok (.iload_n 3, 1) := by decide +kernel
theorem d1_11 : decode prog_153_method_1_code 11 = .ok (.putfield 13, 3) := by decide +kernel
theorem d1_14 : decode prog_153_method_1_code 14 = .ok (.return_, 1) := by decide +kernel
theorem pn_com_example_holdback_holdback_ring_Stamp : plainName "com/example/holdback/holdback/ring/Stamp" = true := by first | (simp [plainName, overriddenIn]; done) | decide +kernel
def Q_rmStamp (Z : State) (a1 : Addr) (t1 : Int64) (o1 : Int32) (h0 : Heap) (n0 : Nat) (v : Option Value) (h : Heap) (L : List Loc) : Prop := v = none ∧ Fr n0 L ∧ Keep h0 h [a1] ∧ Exa Z h a1 "com/example/holdback/holdback/ring/Stamp" ∧ Fld Z h a1 "com/example/holdback/holdback/ring/Stamp" "ts" "J" (.long t1) ∧ Fld Z h a1 "com/example/holdback/holdback/ring/Stamp" "origin" "I" (.int o1)
set_option maxRecDepth 65536 in
set_option maxHeartbeats 40000000 in
theorem rmStamp (l : Launch) (Z : State) (a0 : Array Value) (hw : ∀ d ∈ tables_1, d.before a0 Z = true) (ws : List Jvm.Cond) (a1 : Addr) (t1 : Int64) (o1 : Int32) (h0 : Heap) (n0 : Nat) (Z0 : n0 ≤ h0.size) (P1 : Exa Z h0 a1 "com/example/holdback/holdback/ring/Stamp") (P2 : Fld Z h0 a1 "com/example/holdback/holdback/ring/Stamp" "ts" "J" (.long (0 : Int64))) (P3 : Fld Z h0 a1 "com/example/holdback/holdback/ring/Stamp" "origin" "I" (.int (0 : Int32))) (OLD : Old Z n0 h0) (ga : n0 ≤ a1) :
    MetFree l (⟨"com/example/holdback/holdback/ring/Stamp", "<init>", "(JI)V"⟩ : MethodName) (head1 (Jvm.Cond.code (⟨"com/example/holdback/holdback/ring/Stamp", "<init>", "(JI)V"⟩ : MethodName) prog_153_method_1_code 4 none :: ws) ({ frames := 2, cells := 0, slots := 0, locals := 24 } : Room)) (fun a U => a = #[(.ref a1), (.long t1), (.int o1)] ∧ Z.Warmed39 U.vm ∧ U.heap = h0) (fun _ _ _ _ _ => True) (fun _ U o U' => ∃ v L, o = .returned v ∧ Q_rmStamp Z a1 t1 o1 h0 n0 v U'.heap L ∧ FrameEnd U o U' L ({ frames := 2, cells := 0, slots := 0, locals := 24 } : Room).cells ({ frames := 2, cells := 0, slots := 0, locals := 24 } : Room).slots) := by
  refine MetFree.of_bodySF (plainFor_of_name pn_com_example_holdback_holdback_ring_Stamp) hisR ?_
  intro p e s m args below meth c s₁ Bd hml0 hP hK
  obtain ⟨rfl, hZ, hh⟩ := hP
  have hx := Bd.exec
  have hby := Bd.bytes
  have hml : c.maxLocals = 4 := hml0
  have hown : s.vm.findClass "com/example/holdback/holdback/ring/Stamp" = some m.cls := findClass_of_methodNamed Bd.named
  have hnm := (name_of_methodNamed Bd.named Bd.method).1
  have X0 : Stand p l e ({ frames := 2, cells := 0, slots := 0, locals := 24 } : Room) s m #[(.ref a1), (.long t1), (.int o1)] below meth c s₁ [] 0 0 := Stand.of_body Bd
  have e0 : s₁.heap = h0 := by rw [← hh, Bd.state]; rfl
  have N0 := Fr.nil n0
  have pre0 : ∀ t, Steps p.tables e below (s₁.setTop (mkF m 0 #[.val (.ref a1), .val (.long t1), .second, .val (.int o1)] [])) t → Steps p.tables e below (s₁.setTop (entryFrame m #[(.ref a1), (.long t1), (.int o1)] 4)) t := fun t k => castTop (ef_rmStamp m a1 t1 o1) k
  have oz := OLD.1
  have lt_a1 := P1.lt
  refine own_go (B := s₁.setTop (mkF m 0 #[.val (.ref a1), .val (.long t1), .second, .val (.int o1)] [])) pre0 ?_
  show ∃ t o, Steps p.tables e below (s₁.setTop (mkF m 0 #[.val (.ref a1), .val (.long t1), .second, .val (.int o1)] [])) t ∧ _
  refine own_go (fun _ => XS.aloadN X0.here hx rfl (hb hby d1_0) rfl rfl) ?_
  show ∃ t o, Steps p.tables e below (s₁.setTop (mkF m 1 #[.val (.ref a1), .val (.long t1), .second, .val (.int o1)] [(.ref a1)])) t ∧ _
  obtain ⟨_, _, ⟨T4, L4, k4, n4⟩, -, X4, ⟨Lc4, hQ4, l4, y4, z4⟩, st4⟩ := X0.specialBack hx (y := (⟨"java/lang/Record", "<init>", "()V"⟩ : MethodName)) rfl hown (mvT hZ (hw _ (List.mem_of_getElem? (i := 6) rfl))) (mvT hZ (hw _ (List.mem_of_getElem? (i := 7) rfl))) (mvT hZ (hw _ (List.mem_of_getElem? (i := 10) rfl))) (by decide) (backOf (W := 0) (rmRecord l Z a0 hw [] a1 h0 n0 Z0 OLD) hZ (hw _ (List.mem_of_getElem? (i := 10) rfl)) (hw _ (List.mem_of_getElem? (i := 9) rfl)) (by decide) (by decide)) (g := (mkF m 1 #[.val (.ref a1), .val (.long t1), .second, .val (.int o1)] [(.ref a1)])) rfl (by rw [hml]; rfl) (Steps.refl _) (a := a1) (argsL := []) (rest := []) (lenOf pd__28_29V rfl) rfl (by show 2 * 0 + _ ≤ _; exact Nat.le_of_eq rfl) (hb hby d1_1) (fun _ _ => ⟨rfl, e0, (by decide : 0 + 0 ≤ _), (by decide : 0 + 0 ≤ _)⟩)
  dsimp only [Pt.U, Pt.locs, Pt.cells, Pt.slots] at X4 l4 y4 z4 st4 hQ4
  subst l4 y4 z4
  obtain ⟨rfl, Nq4, e4⟩ := hQ4
  have N4 := Fr.app N0 Nq4
  refine own_goT st4 ?_
  show ∃ t o, Steps p.tables e below (T4.setTop (mkF m 4 #[.val (.ref a1), .val (.long t1), .second, .val (.int o1)] [])) t ∧ _
  refine own_go (fun _ => XS.aloadN X4.here hx rfl (hb hby d1_4) rfl rfl) ?_
  show ∃ t o, Steps p.tables e below (T4.setTop (mkF m 5 #[.val (.ref a1), .val (.long t1), .second, .val (.int o1)] [(.ref a1)])) t ∧ _
  refine own_go (fun _ => XS.lloadN X4.here hx rfl (hb hby d1_5) rfl) ?_
  show ∃ t o, Steps p.tables e below (T4.setTop (mkF m 6 #[.val (.ref a1), .val (.long t1), .second, .val (.int o1)] [(.long t1), (.ref a1)])) t ∧ _
  obtain ⟨T5, h5, X5, e5, W5, st5⟩ := putF X4 hx hZ hown (host := "") (Or.inl (hw _ (List.mem_of_getElem? (i := 14) rfl))) Via.refl e4 P2 P1 (Or.inr ⟨(hw _ (List.mem_of_getElem? (i := 15) rfl)), rfl, hnm⟩) (hw _ (List.mem_of_getElem? (i := 1) rfl)) (ty := .long) (by decide) rfl rfl (g := (mkF m 6 #[.val (.ref a1), .val (.long t1), .second, .val (.int o1)] [(.long t1), (.ref a1)])) rfl rfl (hb hby d1_6)
  refine own_go st5 ?_
  have le_5 : h0.size ≤ h5.size := Nat.le_of_eq W5.size.symm
  have K5 : Keep h0 h5 [a1] := Keep.wr (Keep.refl h0 [a1]) W5 (Or.inl (List.mem_of_getElem? (i := 0) rfl))
  have N5 := Fr.snoc X5 N4 ga
  have Fw5 := Fld.same W5 P2
  show ∃ t o, Steps p.tables e below (T5.setTop (mkF m 9 #[.val (.ref a1), .val (.long t1), .second, .val (.int o1)] [])) t ∧ _
  refine own_go (fun _ => XS.aloadN X5.here hx rfl (hb hby d1_9) rfl rfl) ?_
  show ∃ t o, Steps p.tables e below (T5.setTop (mkF m 10 #[.val (.ref a1), .val (.long t1), .second, .val (.int o1)] [(.ref a1)])) t ∧ _
  refine own_go (fun _ => XS.iloadN X5.here hx rfl (hb hby d1_10) rfl) ?_
  show ∃ t o, Steps p.tables e below (T5.setTop (mkF m 11 #[.val (.ref a1), .val (.long t1), .second, .val (.int o1)] [(.int o1), (.ref a1)])) t ∧ _
  have F6 : Exa Z h5 a1 "com/example/holdback/holdback/ring/Stamp" := (Exa.wr W5 P1)
  have F7 : Fld Z h5 a1 "com/example/holdback/holdback/ring/Stamp" "origin" "I" (.int (0 : Int32)) := (Fld.other W5 P3 (Or.inr (slot_ne (a0 := a0) (Or.inr (hw _ (List.mem_of_getElem? (i := 17) rfl))) (Or.inr (hw _ (List.mem_of_getElem? (i := 15) rfl))) (by decide) (t := .int) (t' := .long) (by decide) (by decide))))
  obtain ⟨T8, h8, X8, e8, W8, st8⟩ := putF X5 hx hZ hown (host := "") (Or.inl (hw _ (List.mem_of_getElem? (i := 16) rfl))) Via.refl e5 F7 F6 (Or.inr ⟨(hw _ (List.mem_of_getElem? (i := 17) rfl)), rfl, hnm⟩) (hw _ (List.mem_of_getElem? (i := 1) rfl)) (ty := .int) (by decide) rfl rfl (g := (mkF m 11 #[.val (.ref a1), .val (.long t1), .second, .val (.int o1)] [(.int o1), (.ref a1)])) rfl rfl (hb hby d1_11)
  refine own_go st8 ?_
  have le_8 : h5.size ≤ h8.size := Nat.le_of_eq W8.size.symm
  have K8 : Keep h0 h8 [a1] := Keep.wr K5 W8 (Or.inl (List.mem_of_getElem? (i := 0) rfl))
  have N8 := Fr.snoc X8 N5 ga
  have Fw8 := Fld.same W8 F7
  show ∃ t o, Steps p.tables e below (T8.setTop (mkF m 14 #[.val (.ref a1), .val (.long t1), .second, .val (.int o1)] [])) t ∧ _
  have F9 : Exa Z h8 a1 "com/example/holdback/holdback/ring/Stamp" := (Exa.wr W8 F6)
  have F10 : Fld Z h8 a1 "com/example/holdback/holdback/ring/Stamp" "ts" "J" (.long t1) := (Fld.other W8 Fw5 (Or.inr (slot_ne (a0 := a0) (Or.inr (hw _ (List.mem_of_getElem? (i := 15) rfl))) (Or.inr (hw _ (List.mem_of_getElem? (i := 17) rfl))) (by decide) (t := .long) (t' := .int) (by decide) (by decide))))
  obtain ⟨fs, hr, hrun, hended, hW, hsame⟩ := X8.leave (v := none) (fun _ => rfl)
  refine ⟨_, _, ?_, hrun, hended, _, _, rfl, ?_, ⟨_, rfl⟩, hW, hsame.mono (by decide) (by decide)⟩
  · exact X8.returnOut hx Bd.returns (hb hby d1_14) hr
  · show Q_rmStamp Z a1 t1 o1 h0 n0 _ T8.heap _
    rw [e8]
    exact ⟨rfl, N8, K8, F9, F10, Fw8⟩
theorem ef_rmEqS (m : MethodId) (x0 : Addr) (x1 : Addr) : entryFrame m #[(.ref x0), (.ref x1)] 3 = mkF m 0 #[.val (.ref x0), .val (.ref x1), .unset] [] := by first | (simp [entryFrame, mkF, argsToLocals, Value.category]; done) | rfl
theorem d5_0 : decode prog_153_method_6_code 0 = .ok (.aload_n 1, 1) := by decide +kernel
theorem d5_1 : decode prog_153_method_6_code 1 = .ok (.instanceof 8, 3) := by decide +kernel
theorem d5_4 : decode prog_153_method_6_code 4 = .ok (.ifCond .eq 35, 3) := by decide +kernel
theorem d5_7 : decode prog_153_method_6_code 7 = .ok (.aload_n 1, 1) := by decide +kernel
theorem d5_8 : decode prog_153_method_6_code 8 = .ok (.checkcast 8, 3) := by decide +kernel
theorem d5_11 : decode prog_153_method_6_code 11 = .ok (.astore_n 2, 1) := by decide +kernel
theorem d5_12 : decode prog_153_method_6_code 12 = .ok (.aload_n 2, 1) := by decide +kernel
theorem d5_13 : decode prog_153_method_6_code 13 = .ok (.getfield 7, 3) := by decide +kernel
theorem d5_16 : decode prog_153_method_6_code 16 = .ok (.aload_n 0, 1) := by decide +kernel
theorem d5_17 : decode prog_153_method_6_code 17 = .ok (.getfield 7, 3) := by decide +kernel
theorem d5_20 : decode prog_153_method_6_code 20 = .ok (.lcmp, 1) := by decide +kernel
theorem d5_21 : decode prog_153_method_6_code 21 = .ok (.ifCond .ne 18, 3) := by decide +kernel
theorem d5_24 : decode prog_153_method_6_code 24 = .ok (.aload_n 2, 1) := by decide +kernel
theorem d5_25 : decode prog_153_method_6_code 25 = .ok (.getfield 13, 3) := by decide +kernel
theorem d5_28 : decode prog_153_method_6_code 28 = .ok (.aload_n 0, 1) := by decide +kernel
theorem d5_29 : decode prog_153_method_6_code 29 = .ok (.getfield 13, 3) := by decide +kernel
theorem d5_32 : decode prog_153_method_6_code 32 = .ok (.if_icmp .ne 7, 3) := by decide +kernel
theorem d5_35 : decode prog_153_method_6_code 35 = .ok (.iconst 1, 1) := by decide +kernel
theorem d5_36 : decode prog_153_method_6_code 36 = .ok (.goto 4, 3) := by decide +kernel
theorem d5_40 : decode prog_153_method_6_code 40 = .ok (.ireturn, 1) := by decide +kernel
theorem d5_39 : decode prog_153_method_6_code 39 = .ok (.iconst 0, 1) := by decide +kernel
def Q_rmEqS (Z : State) (a1 : Addr) (a2 : Addr) (ta : Int64) (oa : Int32) (tb : Int64) (ob : Int32) (h0 : Heap) (n0 : Nat) (v : Option Value) (h : Heap) (L : List Loc) : Prop := v = some (.int (if tb = ta ∧ ob = oa then (1 : Int32) else (0 : Int32))) ∧ Fr n0 L ∧ h = h0
set_option maxRecDepth 65536 in
set_option maxHeartbeats 40000000 in
theorem rmEqS (l : Launch) (Z : State) (a0 : Array Value) (hw : ∀ d ∈ tables_1, d.before a0 Z = true) (ws : List Jvm.Cond) (a1 : Addr) (a2 : Addr) (ta : Int64) (oa : Int32) (tb : Int64) (ob : Int32) (h0 : Heap) (n0 : Nat) (Z0 : n0 ≤ h0.size) (P1 : Fld Z h0 a1 "com/example/holdback/holdback/ring/Stamp" "ts" "J" (.long ta)) (P2 : Fld Z h0 a1 "com/example/holdback/holdback/ring/Stamp" "origin" "I" (.int oa)) (P3 : Fld Z h0 a2 "com/example/holdback/holdback/ring/Stamp" "ts" "J" (.long tb)) (P4 : Fld Z h0 a2 "com/example/holdback/holdback/ring/Stamp" "origin" "I" (.int ob)) (P5 : Ins Z h0 a2 "com/example/holdback/holdback/ring/Stamp" true) (OLD : Old Z n0 h0) :
    MetFree l (⟨"com/example/holdback/holdback/ring/Stamp", "equals", "(Ljava/lang/Object;)Z"⟩ : MethodName) (head1 (Jvm.Cond.code (⟨"com/example/holdback/holdback/ring/Stamp", "equals", "(Ljava/lang/Object;)Z"⟩ : MethodName) prog_153_method_6_code 3 (some .boolean) :: ws) ({ frames := 0, cells := 0, slots := 0, locals := 0 } : Room)) (fun a U => a = #[(.ref a1), (.ref a2)] ∧ Z.Warmed39 U.vm ∧ U.heap = h0) (fun _ _ _ _ _ => True) (fun _ U o U' => ∃ v L, o = .returned v ∧ Q_rmEqS Z a1 a2 ta oa tb ob h0 n0 v U'.heap L ∧ FrameEnd U o U' L ({ frames := 0, cells := 0, slots := 0, locals := 0 } : Room).cells ({ frames := 0, cells := 0, slots := 0, locals := 0 } : Room).slots) := by
  refine MetFree.of_bodySF (plainFor_of_name pn_com_example_holdback_holdback_ring_Stamp) hisR ?_
  intro p e s m args below meth c s₁ Bd hml0 hP hK
  obtain ⟨rfl, hZ, hh⟩ := hP
  have hx := Bd.exec
  have hby := Bd.bytes
  have hml : c.maxLocals = 3 := hml0
  have hown : s.vm.findClass "com/example/holdback/holdback/ring/Stamp" = some m.cls := findClass_of_methodNamed Bd.named
  have hnm := (name_of_methodNamed Bd.named Bd.method).1
  have X0 : Stand p l e ({ frames := 0, cells := 0, slots := 0, locals := 0 } : Room) s m #[(.ref a1), (.ref a2)] below meth c s₁ [] 0 0 := Stand.of_body Bd
  have e0 : s₁.heap = h0 := by rw [← hh, Bd.state]; rfl
  have N0 := Fr.nil n0
  have pre0 : ∀ t, Steps p.tables e below (s₁.setTop (mkF m 0 #[.val (.ref a1), .val (.ref a2), .unset] [])) t → Steps p.tables e below (s₁.setTop (entryFrame m #[(.ref a1), (.ref a2)] 3)) t := fun t k => castTop (ef_rmEqS m a1 a2) k
  have oz := OLD.1
  have lt_a1 := P1.lt
  have lt_a2 := P3.lt
  refine own_go (B := s₁.setTop (mkF m 0 #[.val (.ref a1), .val (.ref a2), .unset] [])) pre0 ?_
  show ∃ t o, Steps p.tables e below (s₁.setTop (mkF m 0 #[.val (.ref a1), .val (.ref a2), .unset] [])) t ∧ _
  refine own_go (fun _ => XS.aloadN X0.here hx rfl (hb hby d5_0) rfl rfl) ?_
  show ∃ t o, Steps p.tables e below (s₁.setTop (mkF m 1 #[.val (.ref a1), .val (.ref a2), .unset] [(.ref a2)])) t ∧ _
  obtain ⟨T6, X6, e6, st6⟩ := instY X0 hx hZ hown (hw _ (List.mem_of_getElem? (i := 31) rfl)) e0 P5 (g := (mkF m 1 #[.val (.ref a1), .val (.ref a2), .unset] [(.ref a2)])) rfl rfl (hb hby d5_1)
  refine own_go st6 ?_
  show ∃ t o, Steps p.tables e below (T6.setTop (mkF m 4 #[.val (.ref a1), .val (.ref a2), .unset] [(.int (1 : Int32))])) t ∧ _
  refine own_go (fun _ => XS.ifNo X6.here hx rfl (hb hby d5_4) rfl ((if0 _ _).trans (feq (by decide : ¬ ((1 : Int32) = (0 : Int32)))).1)) ?_
  show ∃ t o, Steps p.tables e below (T6.setTop (mkF m 7 #[.val (.ref a1), .val (.ref a2), .unset] [])) t ∧ _
  refine own_go (fun _ => XS.aloadN X6.here hx rfl (hb hby d5_7) rfl rfl) ?_
  show ∃ t o, Steps p.tables e below (T6.setTop (mkF m 8 #[.val (.ref a1), .val (.ref a2), .unset] [(.ref a2)])) t ∧ _
  obtain ⟨T7, X7, e7, st7⟩ := castY X6 hx hZ hown (hw _ (List.mem_of_getElem? (i := 31) rfl)) e6 P5 (g := (mkF m 8 #[.val (.ref a1), .val (.ref a2), .unset] [(.ref a2)])) rfl rfl (hb hby d5_8)
  refine own_go st7 ?_
  show ∃ t o, Steps p.tables e below (T7.setTop (mkF m 11 #[.val (.ref a1), .val (.ref a2), .unset] [(.ref a2)])) t ∧ _
  refine own_go (fun _ => XS.astoreN X7.here hx rfl (hb hby d5_11) rfl rfl (l' := #[.val (.ref a1), .val (.ref a2), .val (.ref a2)]) rfl) ?_
  show ∃ t o, Steps p.tables e below (T7.setTop (mkF m 12 #[.val (.ref a1), .val (.ref a2), .val (.ref a2)] [])) t ∧ _
  refine own_go (fun _ => XS.aloadN X7.here hx rfl (hb hby d5_12) rfl rfl) ?_
  show ∃ t o, Steps p.tables e below (T7.setTop (mkF m 13 #[.val (.ref a1), .val (.ref a2), .val (.ref a2)] [(.ref a2)])) t ∧ _
  obtain ⟨T8, X8, e8, st8⟩ := getF X7 hx hZ hown (host := "") (Or.inl (hw _ (List.mem_of_getElem? (i := 14) rfl))) Via.refl e7 P3 (g := (mkF m 13 #[.val (.ref a1), .val (.ref a2), .val (.ref a2)] [(.ref a2)])) rfl rfl (hb hby d5_13)
  refine own_go st8 ?_
  show ∃ t o, Steps p.tables e below (T8.setTop (mkF m 16 #[.val (.ref a1), .val (.ref a2), .val (.ref a2)] [(.long tb)])) t ∧ _
  refine own_go (fun _ => XS.aloadN X8.here hx rfl (hb hby d5_16) rfl rfl) ?_
  show ∃ t o, Steps p.tables e below (T8.setTop (mkF m 17 #[.val (.ref a1), .val (.ref a2), .val (.ref a2)] [(.ref a1), (.long tb)])) t ∧ _
  obtain ⟨T9, X9, e9, st9⟩ := getF X8 hx hZ hown (host := "") (Or.inl (hw _ (List.mem_of_getElem? (i := 14) rfl))) Via.refl e8 P1 (g := (mkF m 17 #[.val (.ref a1), .val (.ref a2), .val (.ref a2)] [(.ref a1), (.long tb)])) rfl rfl (hb hby d5_17)
  refine own_go st9 ?_
  show ∃ t o, Steps p.tables e below (T9.setTop (mkF m 20 #[.val (.ref a1), .val (.ref a2), .val (.ref a2)] [(.long ta), (.long tb)])) t ∧ _
  refine own_go (fun _ => XS.lcmp X9.here hx rfl (hb hby d5_20) rfl) ?_
  show ∃ t o, Steps p.tables e below (T9.setTop (mkF m 21 #[.val (.ref a1), .val (.ref a2), .val (.ref a2)] [(.int (lcmpW tb ta))])) t ∧ _
  by_cases hc10 : tb = ta
  · refine own_go (fun _ => XS.ifNo X9.here hx rfl (hb hby d5_21) rfl ((if0 _ _).trans (teq ((lw_eq _ _).mpr hc10)).2)) ?_
    show ∃ t o, Steps p.tables e below (T9.setTop (mkF m 24 #[.val (.ref a1), .val (.ref a2), .val (.ref a2)] [])) t ∧ _
    refine own_go (fun _ => XS.aloadN X9.here hx rfl (hb hby d5_24) rfl rfl) ?_
    show ∃ t o, Steps p.tables e below (T9.setTop (mkF m 25 #[.val (.ref a1), .val (.ref a2), .val (.ref a2)] [(.ref a2)])) t ∧ _
    obtain ⟨T11, X11, e11, st11⟩ := getF X9 hx hZ hown (host := "") (Or.inl (hw _ (List.mem_of_getElem? (i := 16) rfl))) Via.refl e9 P4 (g := (mkF m 25 #[.val (.ref a1), .val (.ref a2), .val (.ref a2)] [(.ref a2)])) rfl rfl (hb hby d5_25)
    refine own_go st11 ?_
    show ∃ t o, Steps p.tables e below (T11.setTop (mkF m 28 #[.val (.ref a1), .val (.ref a2), .val (.ref a2)] [(.int ob)])) t ∧ _
    refine own_go (fun _ => XS.aloadN X11.here hx rfl (hb hby d5_28) rfl rfl) ?_
    show ∃ t o, Steps p.tables e below (T11.setTop (mkF m 29 #[.val (.ref a1), .val (.ref a2), .val (.ref a2)] [(.ref a1), (.int ob)])) t ∧ _
    obtain ⟨T12, X12, e12, st12⟩ := getF X11 hx hZ hown (host := "") (Or.inl (hw _ (List.mem_of_getElem? (i := 16) rfl))) Via.refl e11 P2 (g := (mkF m 29 #[.val (.ref a1), .val (.ref a2), .val (.ref a2)] [(.ref a1), (.int ob)])) rfl rfl (hb hby d5_29)
    refine own_go st12 ?_
    show ∃ t o, Steps p.tables e below (T12.setTop (mkF m 32 #[.val (.ref a1), .val (.ref a2), .val (.ref a2)] [(.int oa), (.int ob)])) t ∧ _
    by_cases hc13 : ob = oa
    · refine own_go (fun _ => XS.icmpNo X12.here hx rfl (hb hby d5_32) rfl (teq hc13).2) ?_
      show ∃ t o, Steps p.tables e below (T12.setTop (mkF m 35 #[.val (.ref a1), .val (.ref a2), .val (.ref a2)] [])) t ∧ _
      refine own_go (fun _ => XS.iconst X12.here hx rfl (hb hby d5_35)) ?_
      show ∃ t o, Steps p.tables e below (T12.setTop (mkF m 36 #[.val (.ref a1), .val (.ref a2), .val (.ref a2)] [(.int (1 : Int32))])) t ∧ _
      refine own_go (fun _ => XS.goto X12.here hx rfl (pc0 := 36) (pc' := 40) rfl (hb hby d5_36) (by decide) (by decide)) ?_
      show ∃ t o, Steps p.tables e below (T12.setTop (mkF m 40 #[.val (.ref a1), .val (.ref a2), .val (.ref a2)] [(.int (1 : Int32))])) t ∧ _
      obtain ⟨fs, hr, hrun, hended, hW, hsame⟩ := X12.leave (v := some (.int (1 : Int32))) (fun h => by rw [Bd.returns] at h; cases h)
      refine ⟨_, _, ?_, hrun, hended, _, _, rfl, ?_, ⟨_, rfl⟩, hW, hsame.mono (by decide) (by decide)⟩
      · exact retN X12 hx (t := .boolean) Bd.returns (by simp) (hb hby d5_40) hr
      · show Q_rmEqS Z a1 a2 ta oa tb ob h0 n0 _ T12.heap _
        rw [e12]
        exact ⟨(by simp [hc10, hc13]), N0, rfl⟩
    · refine own_go (fun _ => XS.icmpYes X12.here hx rfl (pc0 := 32) (pc' := 39) rfl (hb hby d5_32) rfl (feq hc13).2 (by decide) (by decide)) ?_
      show ∃ t o, Steps p.tables e below (T12.setTop (mkF m 39 #[.val (.ref a1), .val (.ref a2), .val (.ref a2)] [])) t ∧ _
      refine own_go (fun _ => XS.iconst X12.here hx rfl (hb hby d5_39)) ?_
      show ∃ t o, Steps p.tables e below (T12.setTop (mkF m 40 #[.val (.ref a1), .val (.ref a2), .val (.ref a2)] [(.int (0 : Int32))])) t ∧ _
      obtain ⟨fs, hr, hrun, hended, hW, hsame⟩ := X12.leave (v := some (.int (0 : Int32))) (fun h => by rw [Bd.returns] at h; cases h)
      refine ⟨_, _, ?_, hrun, hended, _, _, rfl, ?_, ⟨_, rfl⟩, hW, hsame.mono (by decide) (by decide)⟩
      · exact retN X12 hx (t := .boolean) Bd.returns (by simp) (hb hby d5_40) hr
      · show Q_rmEqS Z a1 a2 ta oa tb ob h0 n0 _ T12.heap _
        rw [e12]
        exact ⟨(by simp [hc10, hc13]), N0, rfl⟩
  · refine own_go (fun _ => XS.ifYes X9.here hx rfl (pc0 := 21) (pc' := 39) rfl (hb hby d5_21) rfl ((if0 _ _).trans (feq (mt (lw_eq _ _).mp hc10)).2) (by decide) (by decide)) ?_
    show ∃ t o, Steps p.tables e below (T9.setTop (mkF m 39 #[.val (.ref a1), .val (.ref a2), .val (.ref a2)] [])) t ∧ _
    refine own_go (fun _ => XS.iconst X9.here hx rfl (hb hby d5_39)) ?_
    show ∃ t o, Steps p.tables e below (T9.setTop (mkF m 40 #[.val (.ref a1), .val (.ref a2), .val (.ref a2)] [(.int (0 : Int32))])) t ∧ _
    obtain ⟨fs, hr, hrun, hended, hW, hsame⟩ := X9.leave (v := some (.int (0 : Int32))) (fun h => by rw [Bd.returns] at h; cases h)
    refine ⟨_, _, ?_, hrun, hended, _, _, rfl, ?_, ⟨_, rfl⟩, hW, hsame.mono (by decide) (by decide)⟩
    · exact retN X9 hx (t := .boolean) Bd.returns (by simp) (hb hby d5_40) hr
    · show Q_rmEqS Z a1 a2 ta oa tb ob h0 n0 _ T9.heap _
      rw [e9]
      exact ⟨(by simp [hc10]), N0, rfl⟩
theorem ef_rmEqN (m : MethodId) (x0 : Addr) : entryFrame m #[(.ref x0), .null] 3 = mkF m 0 #[.val (.ref x0), .val .null, .unset] [] := by first | (simp [entryFrame, mkF, argsToLocals, Value.category]; done) | rfl
def Q_rmEqN (Z : State) (a1 : Addr) (h0 : Heap) (n0 : Nat) (v : Option Value) (h : Heap) (L : List Loc) : Prop := v = some (.int (0 : Int32)) ∧ Fr n0 L ∧ h = h0
set_option maxRecDepth 65536 in
set_option maxHeartbeats 40000000 in
theorem rmEqN (l : Launch) (Z : State) (a0 : Array Value) (hw : ∀ d ∈ tables_1, d.before a0 Z = true) (ws : List Jvm.Cond) (a1 : Addr) (h0 : Heap) (n0 : Nat) (Z0 : n0 ≤ h0.size) (OLD : Old Z n0 h0) :
    MetFree l (⟨"com/example/holdback/holdback/ring/Stamp", "equals", "(Ljava/lang/Object;)Z"⟩ : MethodName) (head1 (Jvm.Cond.code (⟨"com/example/holdback/holdback/ring/Stamp", "equals", "(Ljava/lang/Object;)Z"⟩ : MethodName) prog_153_method_6_code 3 (some .boolean) :: ws) ({ frames := 0, cells := 0, slots := 0, locals := 0 } : Room)) (fun a U => a = #[(.ref a1), .null] ∧ Z.Warmed39 U.vm ∧ U.heap = h0) (fun _ _ _ _ _ => True) (fun _ U o U' => ∃ v L, o = .returned v ∧ Q_rmEqN Z a1 h0 n0 v U'.heap L ∧ FrameEnd U o U' L ({ frames := 0, cells := 0, slots := 0, locals := 0 } : Room).cells ({ frames := 0, cells := 0, slots := 0, locals := 0 } : Room).slots) := by
  refine MetFree.of_bodySF (plainFor_of_name pn_com_example_holdback_holdback_ring_Stamp) hisR ?_
  intro p e s m args below meth c s₁ Bd hml0 hP hK
  obtain ⟨rfl, hZ, hh⟩ := hP
  have hx := Bd.exec
  have hby := Bd.bytes
  have hml : c.maxLocals = 3 := hml0
  have hown : s.vm.findClass "com/example/holdback/holdback/ring/Stamp" = some m.cls := findClass_of_methodNamed Bd.named
  have hnm := (name_of_methodNamed Bd.named Bd.method).1
  have X0 : Stand p l e ({ frames := 0, cells := 0, slots := 0, locals := 0 } : Room) s m #[(.ref a1), .null] below meth c s₁ [] 0 0 := Stand.of_body Bd
  have e0 : s₁.heap = h0 := by rw [← hh, Bd.state]; rfl
  have N0 := Fr.nil n0
  have pre0 : ∀ t, Steps p.tables e below (s₁.setTop (mkF m 0 #[.val (.ref a1), .val .null, .unset] [])) t → Steps p.tables e below (s₁.setTop (entryFrame m #[(.ref a1), .null] 3)) t := fun t k => castTop (ef_rmEqN m a1) k
  have oz := OLD.1
  refine own_go (B := s₁.setTop (mkF m 0 #[.val (.ref a1), .val .null, .unset] [])) pre0 ?_
  show ∃ t o, Steps p.tables e below (s₁.setTop (mkF m 0 #[.val (.ref a1), .val .null, .unset] [])) t ∧ _
  refine own_go (fun _ => XS.aloadN X0.here hx rfl (hb hby d5_0) rfl rfl) ?_
  show ∃ t o, Steps p.tables e below (s₁.setTop (mkF m 1 #[.val (.ref a1), .val .null, .unset] [.null])) t ∧ _
  refine own_go (fun _ => X0.instanceofNull hx (g := (mkF m 1 #[.val (.ref a1), .val .null, .unset] [.null])) rfl rfl (hb hby d5_1) _) ?_
  show ∃ t o, Steps p.tables e below (s₁.setTop (mkF m 4 #[.val (.ref a1), .val .null, .unset] [(.int (0 : Int32))])) t ∧ _
  refine own_go (fun _ => XS.ifYes X0.here hx rfl (pc0 := 4) (pc' := 39) rfl (hb hby d5_4) rfl ((if0 _ _).trans (teq (by decide : (0 : Int32) = (0 : Int32))).1) (by decide) (by decide)) ?_
  show ∃ t o, Steps p.tables e below (s₁.setTop (mkF m 39 #[.val (.ref a1), .val .null, .unset] [])) t ∧ _
  refine own_go (fun _ => XS.iconst X0.here hx rfl (hb hby d5_39)) ?_
  show ∃ t o, Steps p.tables e below (s₁.setTop (mkF m 40 #[.val (.ref a1), .val .null, .unset] [(.int (0 : Int32))])) t ∧ _
  obtain ⟨fs, hr, hrun, hended, hW, hsame⟩ := X0.leave (v := some (.int (0 : Int32))) (fun h => by rw [Bd.returns] at h; cases h)
  refine ⟨_, _, ?_, hrun, hended, _, _, rfl, ?_, ⟨_, rfl⟩, hW, hsame.mono (by decide) (by decide)⟩
  · exact retN X0 hx (t := .boolean) Bd.returns (by simp) (hb hby d5_40) hr
  · show Q_rmEqN Z a1 h0 n0 _ s₁.heap _
    rw [e0]
    exact ⟨rfl, N0, rfl⟩
theorem ef_rmEqL (m : MethodId) (x0 : Addr) (x1 : Addr) : entryFrame m #[(.ref x0), (.ref x1)] 3 = mkF m 0 #[.val (.ref x0), .val (.ref x1), .unset] [] := by first | (simp [entryFrame, mkF, argsToLocals, Value.category]; done) | rfl
def Q_rmEqL (Z : State) (a1 : Addr) (a2 : Addr) (h0 : Heap) (n0 : Nat) (v : Option Value) (h : Heap) (L : List Loc) : Prop := v = some (.int (0 : Int32)) ∧ Fr n0 L ∧ h = h0
set_option maxRecDepth 65536 in
set_option maxHeartbeats 40000000 in
theorem rmEqL (l : Launch) (Z : State) (a0 : Array Value) (hw : ∀ d ∈ tables_1, d.before a0 Z = true) (ws : List Jvm.Cond) (a1 : Addr) (a2 : Addr) (h0 : Heap) (n0 : Nat) (Z0 : n0 ≤ h0.size) (P1 : Exa Z h0 a2 "java/lang/Long") (OLD : Old Z n0 h0) :
    MetFree l (⟨"com/example/holdback/holdback/ring/Stamp", "equals", "(Ljava/lang/Object;)Z"⟩ : MethodName) (head1 (Jvm.Cond.code (⟨"com/example/holdback/holdback/ring/Stamp", "equals", "(Ljava/lang/Object;)Z"⟩ : MethodName) prog_153_method_6_code 3 (some .boolean) :: ws) ({ frames := 0, cells := 0, slots := 0, locals := 0 } : Room)) (fun a U => a = #[(.ref a1), (.ref a2)] ∧ Z.Warmed39 U.vm ∧ U.heap = h0) (fun _ _ _ _ _ => True) (fun _ U o U' => ∃ v L, o = .returned v ∧ Q_rmEqL Z a1 a2 h0 n0 v U'.heap L ∧ FrameEnd U o U' L ({ frames := 0, cells := 0, slots := 0, locals := 0 } : Room).cells ({ frames := 0, cells := 0, slots := 0, locals := 0 } : Room).slots) := by
  refine MetFree.of_bodySF (plainFor_of_name pn_com_example_holdback_holdback_ring_Stamp) hisR ?_
  intro p e s m args below meth c s₁ Bd hml0 hP hK
  obtain ⟨rfl, hZ, hh⟩ := hP
  have hx := Bd.exec
  have hby := Bd.bytes
  have hml : c.maxLocals = 3 := hml0
  have hown : s.vm.findClass "com/example/holdback/holdback/ring/Stamp" = some m.cls := findClass_of_methodNamed Bd.named
  have hnm := (name_of_methodNamed Bd.named Bd.method).1
  have X0 : Stand p l e ({ frames := 0, cells := 0, slots := 0, locals := 0 } : Room) s m #[(.ref a1), (.ref a2)] below meth c s₁ [] 0 0 := Stand.of_body Bd
  have e0 : s₁.heap = h0 := by rw [← hh, Bd.state]; rfl
  have N0 := Fr.nil n0
  have pre0 : ∀ t, Steps p.tables e below (s₁.setTop (mkF m 0 #[.val (.ref a1), .val (.ref a2), .unset] [])) t → Steps p.tables e below (s₁.setTop (entryFrame m #[(.ref a1), (.ref a2)] 3)) t := fun t k => castTop (ef_rmEqL m a1 a2) k
  have oz := OLD.1
  have lt_a2 := P1.lt
  refine own_go (B := s₁.setTop (mkF m 0 #[.val (.ref a1), .val (.ref a2), .unset] [])) pre0 ?_
  show ∃ t o, Steps p.tables e below (s₁.setTop (mkF m 0 #[.val (.ref a1), .val (.ref a2), .unset] [])) t ∧ _
  refine own_go (fun _ => XS.aloadN X0.here hx rfl (hb hby d5_0) rfl rfl) ?_
  show ∃ t o, Steps p.tables e below (s₁.setTop (mkF m 1 #[.val (.ref a1), .val (.ref a2), .unset] [(.ref a2)])) t ∧ _
  obtain ⟨T2, X2, e2, st2⟩ := instNo X0 hx hZ hown (hw _ (List.mem_of_getElem? (i := 31) rfl)) e0 P1 (own_noins (hw _ (List.mem_of_getElem? (i := 33) rfl)) (hw _ (List.mem_of_getElem? (i := 34) rfl)) (hw _ (List.mem_of_getElem? (i := 35) rfl)) (hw _ (List.mem_of_getElem? (i := 1) rfl)) (by decide) (by decide) (by decide)) (g := (mkF m 1 #[.val (.ref a1), .val (.ref a2), .unset] [(.ref a2)])) rfl rfl (hb hby d5_1)
  refine own_go st2 ?_
  show ∃ t o, Steps p.tables e below (T2.setTop (mkF m 4 #[.val (.ref a1), .val (.ref a2), .unset] [(.int (0 : Int32))])) t ∧ _
  refine own_go (fun _ => XS.ifYes X2.here hx rfl (pc0 := 4) (pc' := 39) rfl (hb hby d5_4) rfl ((if0 _ _).trans (teq (by decide : (0 : Int32) = (0 : Int32))).1) (by decide) (by decide)) ?_
  show ∃ t o, Steps p.tables e below (T2.setTop (mkF m 39 #[.val (.ref a1), .val (.ref a2), .unset] [])) t ∧ _
  refine own_go (fun _ => XS.iconst X2.here hx rfl (hb hby d5_39)) ?_
  show ∃ t o, Steps p.tables e below (T2.setTop (mkF m 40 #[.val (.ref a1), .val (.ref a2), .unset] [(.int (0 : Int32))])) t ∧ _
  obtain ⟨fs, hr, hrun, hended, hW, hsame⟩ := X2.leave (v := some (.int (0 : Int32))) (fun h => by rw [Bd.returns] at h; cases h)
  refine ⟨_, _, ?_, hrun, hended, _, _, rfl, ?_, ⟨_, rfl⟩, hW, hsame.mono (by decide) (by decide)⟩
  · exact retN X2 hx (t := .boolean) Bd.returns (by simp) (hb hby d5_40) hr
  · show Q_rmEqL Z a1 a2 h0 n0 _ T2.heap _
    rw [e2]
    exact ⟨rfl, N0, rfl⟩
theorem ef_rm0 (m : MethodId) (x0 : Int64) (x1 : Int32) (x2 : Int64) (x3 : Int32) (x4 : Int32) : entryFrame m #[(.long x0), (.int x1), (.long x2), (.int x3), (.int x4)] maxLocals = mkF m 0 #[.val (.long x0), .second, .val (.int x1), .val (.long x2), .second, .val (.int x3), .val (.int x4), .unset, .unset, .unset, .unset, .unset, .unset, .unset, .unset, .unset, .unset, .unset, .unset, .unset] [] := by first | (simp [entryFrame, mkF, argsToLocals, Value.category, maxLocals]; done) | rfl
theorem pd__28JI_29V : parseMethodDescriptor "(JI)V" = some ⟨[.long, .int], none⟩ := by decide +kernel
theorem pd__28J_29Ljava_2flang_2fLong_3b : parseMethodDescriptor "(J)Ljava/lang/Long;" = some ⟨[.long], some (.object "java/lang/Long")⟩ := by decide +kernel
theorem pd__28Ljava_2flang_2fObject_3b_29Z : parseMethodDescriptor "(Ljava/lang/Object;)Z" = some ⟨[(.object "java/lang/Object")], some .boolean⟩ := by decide +kernel
theorem pn_com_example_holdback_holdback_ring_StampEqualsPinLaw : plainName "com/example/holdback/holdback/ring/StampEqualsPinLaw" = true := by first | (simp [plainName, overriddenIn]; done) | decide +kernel
def Q_rm0 (Z : State) (t1 : Int64) (o1 : Int32) (t2 : Int64) (o2 : Int32) (md : Int32) (ca : Addr) (cca : Cell) (h0 : Heap) (n0 : Nat) (v : Option Value) (h : Heap) (L : List Loc) : Prop := v = some (.int (1 : Int32)) ∧ Fr n0 L ∧ Keep h0 h []
set_option maxRecDepth 65536 in
set_option maxHeartbeats 40000000 in
theorem rm0 (l : Launch) (Z : State) (a0 : Array Value) (hw : ∀ d ∈ tables_1, d.before a0 Z = true) (ws : List Jvm.Cond) (t1 : Int64) (o1 : Int32) (t2 : Int64) (o2 : Int32) (md : Int32) (ca : Addr) (cca : Cell) (h0 : Heap) (n0 : Nat) (Z0 : n0 ≤ h0.size) (OLD : Old Z n0 h0) (P1 : Sta Z Z.heap "java/lang/Long$LongCache" "cache" "[Ljava/lang/Long;" (.ref ca)) (BX : Bxs Z ca cca "java/lang/Long" "J" (256 : Int32) own_lval) :
    MetFree l x (head1 (Jvm.Cond.code x code maxLocals ret :: ws) room_1) (fun a U => a = #[(.long t1), (.int o1), (.long t2), (.int o2), (.int md)] ∧ Z.Warmed39 U.vm ∧ U.heap = h0) (fun _ _ _ _ _ => True) (fun _ U o U' => ∃ v L, o = .returned v ∧ Q_rm0 Z t1 o1 t2 o2 md ca cca h0 n0 v U'.heap L ∧ FrameEnd U o U' L room_1.cells room_1.slots) := by
  refine MetFree.of_bodySF (plainFor_of_name pn_com_example_holdback_holdback_ring_StampEqualsPinLaw) hisR ?_
  intro p e s m args below meth c s₁ Bd hml0 hP hK
  obtain ⟨rfl, hZ, hh⟩ := hP
  have hx := Bd.exec
  have hby := Bd.bytes
  have hml : c.maxLocals = 20 := hml0
  have hown : s.vm.findClass "com/example/holdback/holdback/ring/StampEqualsPinLaw" = some m.cls := findClass_of_methodNamed Bd.named
  have hnm := (name_of_methodNamed Bd.named Bd.method).1
  have X0 : Stand p l e room_1 s m #[(.long t1), (.int o1), (.long t2), (.int o2), (.int md)] below meth c s₁ [] 0 0 := Stand.of_body Bd
  have e0 : s₁.heap = h0 := by rw [← hh, Bd.state]; rfl
  have N0 := Fr.nil n0
  have pre0 : ∀ t, Steps p.tables e below (s₁.setTop (mkF m 0 #[.val (.long t1), .second, .val (.int o1), .val (.long t2), .second, .val (.int o2), .val (.int md), .unset, .unset, .unset, .unset, .unset, .unset, .unset, .unset, .unset, .unset, .unset, .unset, .unset] [])) t → Steps p.tables e below (s₁.setTop (entryFrame m #[(.long t1), (.int o1), (.long t2), (.int o2), (.int md)] maxLocals)) t := fun t k => castTop (ef_rm0 m t1 o1 t2 o2 md) k
  have oz := OLD.1
  refine own_go (B := s₁.setTop (mkF m 0 #[.val (.long t1), .second, .val (.int o1), .val (.long t2), .second, .val (.int o2), .val (.int md), .unset, .unset, .unset, .unset, .unset, .unset, .unset, .unset, .unset, .unset, .unset, .unset, .unset] [])) pre0 ?_
  show ∃ t o, Steps p.tables e below (s₁.setTop (mkF m 0 #[.val (.long t1), .second, .val (.int o1), .val (.long t2), .second, .val (.int o2), .val (.int md), .unset, .unset, .unset, .unset, .unset, .unset, .unset, .unset, .unset, .unset, .unset, .unset, .unset] [])) t ∧ _
  refine own_go (fun _ => XS.iload X0.here hx rfl (hb hby at_0) rfl) ?_
  show ∃ t o, Steps p.tables e below (s₁.setTop (mkF m 2 #[.val (.long t1), .second, .val (.int o1), .val (.long t2), .second, .val (.int o2), .val (.int md), .unset, .unset, .unset, .unset, .unset, .unset, .unset, .unset, .unset, .unset, .unset, .unset, .unset] [(.int md)])) t ∧ _
  refine own_go (fun _ => XS.iconst X0.here hx rfl (hb hby at_2)) ?_
  show ∃ t o, Steps p.tables e below (s₁.setTop (mkF m 3 #[.val (.long t1), .second, .val (.int o1), .val (.long t2), .second, .val (.int o2), .val (.int md), .unset, .unset, .unset, .unset, .unset, .unset, .unset, .unset, .unset, .unset, .unset, .unset, .unset] [(.int (1 : Int32)), (.int md)])) t ∧ _
  refine own_go (fun _ => XS.iand X0.here hx rfl (hb hby at_3) rfl) ?_
  show ∃ t o, Steps p.tables e below (s₁.setTop (mkF m 4 #[.val (.long t1), .second, .val (.int o1), .val (.long t2), .second, .val (.int o2), .val (.int md), .unset, .unset, .unset, .unset, .unset, .unset, .unset, .unset, .unset, .unset, .unset, .unset, .unset] [(.int (md &&& (1 : Int32)))])) t ∧ _
  have seg2 : ∀ t, Steps p.tables e below (s₁.setTop (mkF m 12 #[.val (.long t1), .second, .val (.int o1), .val (.long t2), .second, .val (.int o2), .val (.int md), .unset, .unset, .unset, .unset, .unset, .unset, .unset, .unset, .unset, .unset, .unset, .unset, .unset] [(.long (if (md &&& (1 : Int32)) = (0 : Int32) then t2 else t1))])) t → Steps p.tables e below (s₁.setTop (mkF m 4 #[.val (.long t1), .second, .val (.int o1), .val (.long t2), .second, .val (.int o2), .val (.int md), .unset, .unset, .unset, .unset, .unset, .unset, .unset, .unset, .unset, .unset, .unset, .unset, .unset] [(.int (md &&& (1 : Int32)))])) t := by
    intro t k
    show Steps p.tables e below (s₁.setTop (mkF m 4 #[.val (.long t1), .second, .val (.int o1), .val (.long t2), .second, .val (.int o2), .val (.int md), .unset, .unset, .unset, .unset, .unset, .unset, .unset, .unset, .unset, .unset, .unset, .unset, .unset] [(.int (md &&& (1 : Int32)))])) _
    by_cases hc3 : (md &&& (1 : Int32)) = (0 : Int32)
    · refine XS.ifYes X0.here hx rfl (pc0 := 4) (pc' := 11) rfl (hb hby at_4) rfl ((if0 _ _).trans (teq hc3).1) (by decide) (by decide) ?_
      show Steps p.tables e below (s₁.setTop (mkF m 11 #[.val (.long t1), .second, .val (.int o1), .val (.long t2), .second, .val (.int o2), .val (.int md), .unset, .unset, .unset, .unset, .unset, .unset, .unset, .unset, .unset, .unset, .unset, .unset, .unset] [])) _
      refine XS.lloadN X0.here hx rfl (hb hby at_11) rfl ?_
      simp only [if_pos hc3] at k
      exact k
    · refine XS.ifNo X0.here hx rfl (hb hby at_4) rfl ((if0 _ _).trans (feq hc3).1) ?_
      show Steps p.tables e below (s₁.setTop (mkF m 7 #[.val (.long t1), .second, .val (.int o1), .val (.long t2), .second, .val (.int o2), .val (.int md), .unset, .unset, .unset, .unset, .unset, .unset, .unset, .unset, .unset, .unset, .unset, .unset, .unset] [])) _
      refine XS.lloadN X0.here hx rfl (hb hby at_7) rfl ?_
      show Steps p.tables e below (s₁.setTop (mkF m 8 #[.val (.long t1), .second, .val (.int o1), .val (.long t2), .second, .val (.int o2), .val (.int md), .unset, .unset, .unset, .unset, .unset, .unset, .unset, .unset, .unset, .unset, .unset, .unset, .unset] [(.long t1)])) _
      refine XS.goto X0.here hx rfl (pc0 := 8) (pc' := 12) rfl (hb hby at_8) (by decide) (by decide) ?_
      simp only [if_neg hc3] at k
      exact k
  refine own_go seg2 ?_
  show ∃ t o, Steps p.tables e below (s₁.setTop (mkF m 12 #[.val (.long t1), .second, .val (.int o1), .val (.long t2), .second, .val (.int o2), .val (.int md), .unset, .unset, .unset, .unset, .unset, .unset, .unset, .unset, .unset, .unset, .unset, .unset, .unset] [(.long (if (md &&& (1 : Int32)) = (0 : Int32) then t2 else t1))])) t ∧ _
  refine own_go (fun _ => XS.lstore X0.here hx rfl (hb hby at_12) rfl (l' := #[.val (.long t1), .second, .val (.int o1), .val (.long t2), .second, .val (.int o2), .val (.int md), .val (.long (if (md &&& (1 : Int32)) = (0 : Int32) then t2 else t1)), .second, .unset, .unset, .unset, .unset, .unset, .unset, .unset, .unset, .unset, .unset, .unset]) rfl) ?_
  show ∃ t o, Steps p.tables e below (s₁.setTop (mkF m 14 #[.val (.long t1), .second, .val (.int o1), .val (.long t2), .second, .val (.int o2), .val (.int md), .val (.long (if (md &&& (1 : Int32)) = (0 : Int32) then t2 else t1)), .second, .unset, .unset, .unset, .unset, .unset, .unset, .unset, .unset, .unset, .unset, .unset] [])) t ∧ _
  refine own_go (fun _ => XS.iload X0.here hx rfl (hb hby at_14) rfl) ?_
  show ∃ t o, Steps p.tables e below (s₁.setTop (mkF m 16 #[.val (.long t1), .second, .val (.int o1), .val (.long t2), .second, .val (.int o2), .val (.int md), .val (.long (if (md &&& (1 : Int32)) = (0 : Int32) then t2 else t1)), .second, .unset, .unset, .unset, .unset, .unset, .unset, .unset, .unset, .unset, .unset, .unset] [(.int md)])) t ∧ _
  refine own_go (fun _ => XS.iconst X0.here hx rfl (hb hby at_16)) ?_
  show ∃ t o, Steps p.tables e below (s₁.setTop (mkF m 17 #[.val (.long t1), .second, .val (.int o1), .val (.long t2), .second, .val (.int o2), .val (.int md), .val (.long (if (md &&& (1 : Int32)) = (0 : Int32) then t2 else t1)), .second, .unset, .unset, .unset, .unset, .unset, .unset, .unset, .unset, .unset, .unset, .unset] [(.int (2 : Int32)), (.int md)])) t ∧ _
  refine own_go (fun _ => XS.iand X0.here hx rfl (hb hby at_17) rfl) ?_
  show ∃ t o, Steps p.tables e below (s₁.setTop (mkF m 18 #[.val (.long t1), .second, .val (.int o1), .val (.long t2), .second, .val (.int o2), .val (.int md), .val (.long (if (md &&& (1 : Int32)) = (0 : Int32) then t2 else t1)), .second, .unset, .unset, .unset, .unset, .unset, .unset, .unset, .unset, .unset, .unset, .unset] [(.int (md &&& (2 : Int32)))])) t ∧ _
  have seg4 : ∀ t, Steps p.tables e below (s₁.setTop (mkF m 27 #[.val (.long t1), .second, .val (.int o1), .val (.long t2), .second, .val (.int o2), .val (.int md), .val (.long (if (md &&& (1 : Int32)) = (0 : Int32) then t2 else t1)), .second, .unset, .unset, .unset, .unset, .unset, .unset, .unset, .unset, .unset, .unset, .unset] [(.int (if (md &&& (2 : Int32)) = (0 : Int32) then o2 else o1))])) t → Steps p.tables e below (s₁.setTop (mkF m 18 #[.val (.long t1), .second, .val (.int o1), .val (.long t2), .second, .val (.int o2), .val (.int md), .val (.long (if (md &&& (1 : Int32)) = (0 : Int32) then t2 else t1)), .second, .unset, .unset, .unset, .unset, .unset, .unset, .unset, .unset, .unset, .unset, .unset] [(.int (md &&& (2 : Int32)))])) t := by
    intro t k
    show Steps p.tables e below (s₁.setTop (mkF m 18 #[.val (.long t1), .second, .val (.int o1), .val (.long t2), .second, .val (.int o2), .val (.int md), .val (.long (if (md &&& (1 : Int32)) = (0 : Int32) then t2 else t1)), .second, .unset, .unset, .unset, .unset, .unset, .unset, .unset, .unset, .unset, .unset, .unset] [(.int (md &&& (2 : Int32)))])) _
    by_cases hc5 : (md &&& (2 : Int32)) = (0 : Int32)
    · refine XS.ifYes X0.here hx rfl (pc0 := 18) (pc' := 25) rfl (hb hby at_18) rfl ((if0 _ _).trans (teq hc5).1) (by decide) (by decide) ?_
      show Steps p.tables e below (s₁.setTop (mkF m 25 #[.val (.long t1), .second, .val (.int o1), .val (.long t2), .second, .val (.int o2), .val (.int md), .val (.long (if (md &&& (1 : Int32)) = (0 : Int32) then t2 else t1)), .second, .unset, .unset, .unset, .unset, .unset, .unset, .unset, .unset, .unset, .unset, .unset] [])) _
      refine XS.iload X0.here hx rfl (hb hby at_25) rfl ?_
      simp only [if_pos hc5] at k
      exact k
    · refine XS.ifNo X0.here hx rfl (hb hby at_18) rfl ((if0 _ _).trans (feq hc5).1) ?_
      show Steps p.tables e below (s₁.setTop (mkF m 21 #[.val (.long t1), .second, .val (.int o1), .val (.long t2), .second, .val (.int o2), .val (.int md), .val (.long (if (md &&& (1 : Int32)) = (0 : Int32) then t2 else t1)), .second, .unset, .unset, .unset, .unset, .unset, .unset, .unset, .unset, .unset, .unset, .unset] [])) _
      refine XS.iloadN X0.here hx rfl (hb hby at_21) rfl ?_
      show Steps p.tables e below (s₁.setTop (mkF m 22 #[.val (.long t1), .second, .val (.int o1), .val (.long t2), .second, .val (.int o2), .val (.int md), .val (.long (if (md &&& (1 : Int32)) = (0 : Int32) then t2 else t1)), .second, .unset, .unset, .unset, .unset, .unset, .unset, .unset, .unset, .unset, .unset, .unset] [(.int o1)])) _
      refine XS.goto X0.here hx rfl (pc0 := 22) (pc' := 27) rfl (hb hby at_22) (by decide) (by decide) ?_
      simp only [if_neg hc5] at k
      exact k
  refine own_go seg4 ?_
  show ∃ t o, Steps p.tables e below (s₁.setTop (mkF m 27 #[.val (.long t1), .second, .val (.int o1), .val (.long t2), .second, .val (.int o2), .val (.int md), .val (.long (if (md &&& (1 : Int32)) = (0 : Int32) then t2 else t1)), .second, .unset, .unset, .unset, .unset, .unset, .unset, .unset, .unset, .unset, .unset, .unset] [(.int (if (md &&& (2 : Int32)) = (0 : Int32) then o2 else o1))])) t ∧ _
  refine own_go (fun _ => XS.istore X0.here hx rfl (hb hby at_27) rfl (l' := #[.val (.long t1), .second, .val (.int o1), .val (.long t2), .second, .val (.int o2), .val (.int md), .val (.long (if (md &&& (1 : Int32)) = (0 : Int32) then t2 else t1)), .second, .val (.int (if (md &&& (2 : Int32)) = (0 : Int32) then o2 else o1)), .unset, .unset, .unset, .unset, .unset, .unset, .unset, .unset, .unset, .unset]) rfl) ?_
  show ∃ t o, Steps p.tables e below (s₁.setTop (mkF m 29 #[.val (.long t1), .second, .val (.int o1), .val (.long t2), .second, .val (.int o2), .val (.int md), .val (.long (if (md &&& (1 : Int32)) = (0 : Int32) then t2 else t1)), .second, .val (.int (if (md &&& (2 : Int32)) = (0 : Int32) then o2 else o1)), .unset, .unset, .unset, .unset, .unset, .unset, .unset, .unset, .unset, .unset] [])) t ∧ _
  obtain ⟨T6, h6, X6, e6, E6, A6, D6, -, st6⟩ := newO X0 hx hZ hown (hw _ (List.mem_of_getElem? (i := 0) rfl)) (hw _ (List.mem_of_getElem? (i := 1) rfl)) (hw _ (List.mem_of_getElem? (i := 2) rfl)) e0 (g := (mkF m 29 #[.val (.long t1), .second, .val (.int o1), .val (.long t2), .second, .val (.int o2), .val (.int md), .val (.long (if (md &&& (1 : Int32)) = (0 : Int32) then t2 else t1)), .second, .val (.int (if (md &&& (2 : Int32)) = (0 : Int32) then o2 else o1)), .unset, .unset, .unset, .unset, .unset, .unset, .unset, .unset, .unset, .unset] [])) rfl (hb hby at_29) (by decide) (by decide)
  obtain ⟨b6, g6⟩ : ∃ z, z = h0.size := ⟨_, rfl⟩
  rw [← g6] at A6 D6 st6
  refine own_go st6 ?_
  have le_6 : h0.size ≤ h6.size := E6.1
  have lt_b6 : b6 < h6.size := A6.lt
  have F_ts_b6 : Fld Z h6 b6 "com/example/holdback/holdback/ring/Stamp" "ts" "J" (.long (0 : Int64)) := D6 (Or.inr (hw _ (List.mem_of_getElem? (i := 15) rfl))) (ty := .long) (by decide)
  have F_origin_b6 : Fld Z h6 b6 "com/example/holdback/holdback/ring/Stamp" "origin" "I" (.int (0 : Int32)) := D6 (Or.inr (hw _ (List.mem_of_getElem? (i := 17) rfl))) (ty := .int) (by decide)
  have K6 : Keep h0 h6 [] := Keep.ext (Keep.refl h0 []) E6
  show ∃ t o, Steps p.tables e below (T6.setTop (mkF m 32 #[.val (.long t1), .second, .val (.int o1), .val (.long t2), .second, .val (.int o2), .val (.int md), .val (.long (if (md &&& (1 : Int32)) = (0 : Int32) then t2 else t1)), .second, .val (.int (if (md &&& (2 : Int32)) = (0 : Int32) then o2 else o1)), .unset, .unset, .unset, .unset, .unset, .unset, .unset, .unset, .unset, .unset] [(.ref b6)])) t ∧ _
  refine own_go (fun _ => XS.dup X6.here hx rfl (hb hby at_32) rfl rfl) ?_
  show ∃ t o, Steps p.tables e below (T6.setTop (mkF m 33 #[.val (.long t1), .second, .val (.int o1), .val (.long t2), .second, .val (.int o2), .val (.int md), .val (.long (if (md &&& (1 : Int32)) = (0 : Int32) then t2 else t1)), .second, .val (.int (if (md &&& (2 : Int32)) = (0 : Int32) then o2 else o1)), .unset, .unset, .unset, .unset, .unset, .unset, .unset, .unset, .unset, .unset] [(.ref b6), (.ref b6)])) t ∧ _
  refine own_go (fun _ => XS.lloadN X6.here hx rfl (hb hby at_33) rfl) ?_
  show ∃ t o, Steps p.tables e below (T6.setTop (mkF m 34 #[.val (.long t1), .second, .val (.int o1), .val (.long t2), .second, .val (.int o2), .val (.int md), .val (.long (if (md &&& (1 : Int32)) = (0 : Int32) then t2 else t1)), .second, .val (.int (if (md &&& (2 : Int32)) = (0 : Int32) then o2 else o1)), .unset, .unset, .unset, .unset, .unset, .unset, .unset, .unset, .unset, .unset] [(.long t1), (.ref b6), (.ref b6)])) t ∧ _
  refine own_go (fun _ => XS.iloadN X6.here hx rfl (hb hby at_34) rfl) ?_
  show ∃ t o, Steps p.tables e below (T6.setTop (mkF m 35 #[.val (.long t1), .second, .val (.int o1), .val (.long t2), .second, .val (.int o2), .val (.int md), .val (.long (if (md &&& (1 : Int32)) = (0 : Int32) then t2 else t1)), .second, .val (.int (if (md &&& (2 : Int32)) = (0 : Int32) then o2 else o1)), .unset, .unset, .unset, .unset, .unset, .unset, .unset, .unset, .unset, .unset] [(.int o1), (.long t1), (.ref b6), (.ref b6)])) t ∧ _
  have F7 : Old Z n0 h6 := (OLD.ext E6)
  have ge8 : n0 ≤ b6 := by omega
  have zl9 : n0 ≤ h6.size := by omega
  obtain ⟨_, _, ⟨T10, L10, k10, n10⟩, -, X10, ⟨Lc10, hQ10, l10, y10, z10⟩, st10⟩ := X6.specialBack hx (y := (⟨"com/example/holdback/holdback/ring/Stamp", "<init>", "(JI)V"⟩ : MethodName)) rfl hown (mvT hZ (hw _ (List.mem_of_getElem? (i := 3) rfl))) (mvT hZ (hw _ (List.mem_of_getElem? (i := 4) rfl))) (mvT hZ (hw _ (List.mem_of_getElem? (i := 5) rfl))) (by decide) (backOf (W := 1) (rmStamp l Z a0 hw [] b6 t1 o1 h6 n0 zl9 A6 F_ts_b6 F_origin_b6 F7 ge8) hZ (hw _ (List.mem_of_getElem? (i := 5) rfl)) (hw _ (List.mem_of_getElem? (i := 2) rfl)) (by decide) (by decide)) (g := (mkF m 35 #[.val (.long t1), .second, .val (.int o1), .val (.long t2), .second, .val (.int o2), .val (.int md), .val (.long (if (md &&& (1 : Int32)) = (0 : Int32) then t2 else t1)), .second, .val (.int (if (md &&& (2 : Int32)) = (0 : Int32) then o2 else o1)), .unset, .unset, .unset, .unset, .unset, .unset, .unset, .unset, .unset, .unset] [(.int o1), (.long t1), (.ref b6), (.ref b6)])) rfl (by rw [hml]; rfl) (Steps.refl _) (a := b6) (argsL := [(.long t1), (.int o1)]) (rest := [(.ref b6)]) (lenOf pd__28JI_29V rfl) rfl (by show 2 * 0 + _ ≤ _; exact Nat.le_of_eq rfl) (hb hby at_35) (fun _ _ => ⟨rfl, e6, (by decide : 1 + 0 ≤ _), (by decide : 2 + 0 ≤ _)⟩)
  dsimp only [Pt.U, Pt.locs, Pt.cells, Pt.slots] at X10 l10 y10 z10 st10 hQ10
  subst l10 y10 z10
  obtain ⟨rfl, Nq10, Kp10, G10_0, G10_1, G10_2⟩ := hQ10
  have N10 := Fr.app N0 Nq10
  refine own_goT st10 ?_
  have le_10 : h6.size ≤ T10.heap.size := Kp10.1
  have sz11 : h0.size ≤ b6 := by omega
  have K10 : Keep h0 T10.heap [] := Keep.trans K6 Kp10 (allS (Or.inr sz11) all0)
  show ∃ t o, Steps p.tables e below (T10.setTop (mkF m 38 #[.val (.long t1), .second, .val (.int o1), .val (.long t2), .second, .val (.int o2), .val (.int md), .val (.long (if (md &&& (1 : Int32)) = (0 : Int32) then t2 else t1)), .second, .val (.int (if (md &&& (2 : Int32)) = (0 : Int32) then o2 else o1)), .unset, .unset, .unset, .unset, .unset, .unset, .unset, .unset, .unset, .unset] [(.ref b6)])) t ∧ _
  refine own_go (fun _ => XS.astore X10.here hx rfl (hb hby at_38) rfl rfl (l' := #[.val (.long t1), .second, .val (.int o1), .val (.long t2), .second, .val (.int o2), .val (.int md), .val (.long (if (md &&& (1 : Int32)) = (0 : Int32) then t2 else t1)), .second, .val (.int (if (md &&& (2 : Int32)) = (0 : Int32) then o2 else o1)), .val (.ref b6), .unset, .unset, .unset, .unset, .unset, .unset, .unset, .unset, .unset]) rfl) ?_
  show ∃ t o, Steps p.tables e below (T10.setTop (mkF m 40 #[.val (.long t1), .second, .val (.int o1), .val (.long t2), .second, .val (.int o2), .val (.int md), .val (.long (if (md &&& (1 : Int32)) = (0 : Int32) then t2 else t1)), .second, .val (.int (if (md &&& (2 : Int32)) = (0 : Int32) then o2 else o1)), .val (.ref b6), .unset, .unset, .unset, .unset, .unset, .unset, .unset, .unset, .unset] [])) t ∧ _
  obtain ⟨T12, h12, X12, e12, E12, A12, D12, -, st12⟩ := newO X10 hx hZ hown (hw _ (List.mem_of_getElem? (i := 0) rfl)) (hw _ (List.mem_of_getElem? (i := 1) rfl)) (hw _ (List.mem_of_getElem? (i := 2) rfl)) rfl (g := (mkF m 40 #[.val (.long t1), .second, .val (.int o1), .val (.long t2), .second, .val (.int o2), .val (.int md), .val (.long (if (md &&& (1 : Int32)) = (0 : Int32) then t2 else t1)), .second, .val (.int (if (md &&& (2 : Int32)) = (0 : Int32) then o2 else o1)), .val (.ref b6), .unset, .unset, .unset, .unset, .unset, .unset, .unset, .unset, .unset] [])) rfl (hb hby at_40) (by decide) (by decide)
  obtain ⟨b12, g12⟩ : ∃ z, z = T10.heap.size := ⟨_, rfl⟩
  rw [← g12] at A12 D12 st12
  refine own_go st12 ?_
  have le_12 : T10.heap.size ≤ h12.size := E12.1
  have lt_b12 : b12 < h12.size := A12.lt
  have F_ts_b12 : Fld Z h12 b12 "com/example/holdback/holdback/ring/Stamp" "ts" "J" (.long (0 : Int64)) := D12 (Or.inr (hw _ (List.mem_of_getElem? (i := 15) rfl))) (ty := .long) (by decide)
  have F_origin_b12 : Fld Z h12 b12 "com/example/holdback/holdback/ring/Stamp" "origin" "I" (.int (0 : Int32)) := D12 (Or.inr (hw _ (List.mem_of_getElem? (i := 17) rfl))) (ty := .int) (by decide)
  have K12 : Keep h0 h12 [] := Keep.ext K10 E12
  show ∃ t o, Steps p.tables e below (T12.setTop (mkF m 43 #[.val (.long t1), .second, .val (.int o1), .val (.long t2), .second, .val (.int o2), .val (.int md), .val (.long (if (md &&& (1 : Int32)) = (0 : Int32) then t2 else t1)), .second, .val (.int (if (md &&& (2 : Int32)) = (0 : Int32) then o2 else o1)), .val (.ref b6), .unset, .unset, .unset, .unset, .unset, .unset, .unset, .unset, .unset] [(.ref b12)])) t ∧ _
  refine own_go (fun _ => XS.dup X12.here hx rfl (hb hby at_43) rfl rfl) ?_
  show ∃ t o, Steps p.tables e below (T12.setTop (mkF m 44 #[.val (.long t1), .second, .val (.int o1), .val (.long t2), .second, .val (.int o2), .val (.int md), .val (.long (if (md &&& (1 : Int32)) = (0 : Int32) then t2 else t1)), .second, .val (.int (if (md &&& (2 : Int32)) = (0 : Int32) then o2 else o1)), .val (.ref b6), .unset, .unset, .unset, .unset, .unset, .unset, .unset, .unset, .unset] [(.ref b12), (.ref b12)])) t ∧ _
  refine own_go (fun _ => XS.lload X12.here hx rfl (hb hby at_44) rfl) ?_
  show ∃ t o, Steps p.tables e below (T12.setTop (mkF m 46 #[.val (.long t1), .second, .val (.int o1), .val (.long t2), .second, .val (.int o2), .val (.int md), .val (.long (if (md &&& (1 : Int32)) = (0 : Int32) then t2 else t1)), .second, .val (.int (if (md &&& (2 : Int32)) = (0 : Int32) then o2 else o1)), .val (.ref b6), .unset, .unset, .unset, .unset, .unset, .unset, .unset, .unset, .unset] [(.long (if (md &&& (1 : Int32)) = (0 : Int32) then t2 else t1)), (.ref b12), (.ref b12)])) t ∧ _
  refine own_go (fun _ => XS.iload X12.here hx rfl (hb hby at_46) rfl) ?_
  show ∃ t o, Steps p.tables e below (T12.setTop (mkF m 48 #[.val (.long t1), .second, .val (.int o1), .val (.long t2), .second, .val (.int o2), .val (.int md), .val (.long (if (md &&& (1 : Int32)) = (0 : Int32) then t2 else t1)), .second, .val (.int (if (md &&& (2 : Int32)) = (0 : Int32) then o2 else o1)), .val (.ref b6), .unset, .unset, .unset, .unset, .unset, .unset, .unset, .unset, .unset] [(.int (if (md &&& (2 : Int32)) = (0 : Int32) then o2 else o1)), (.long (if (md &&& (1 : Int32)) = (0 : Int32) then t2 else t1)), (.ref b12), (.ref b12)])) t ∧ _
  have F13 : Old Z n0 h12 := ((Old.keep F7 Kp10 (allS ge8 all0)).ext E12)
  have ge14 : n0 ≤ b12 := by omega
  have zl15 : n0 ≤ h12.size := by omega
  obtain ⟨_, _, ⟨T16, L16, k16, n16⟩, -, X16, ⟨Lc16, hQ16, l16, y16, z16⟩, st16⟩ := X12.specialBack hx (y := (⟨"com/example/holdback/holdback/ring/Stamp", "<init>", "(JI)V"⟩ : MethodName)) rfl hown (mvT hZ (hw _ (List.mem_of_getElem? (i := 3) rfl))) (mvT hZ (hw _ (List.mem_of_getElem? (i := 4) rfl))) (mvT hZ (hw _ (List.mem_of_getElem? (i := 5) rfl))) (by decide) (backOf (W := 1) (rmStamp l Z a0 hw [] b12 ((if (md &&& (1 : Int32)) = (0 : Int32) then t2 else t1)) ((if (md &&& (2 : Int32)) = (0 : Int32) then o2 else o1)) h12 n0 zl15 A12 F_ts_b12 F_origin_b12 F13 ge14) hZ (hw _ (List.mem_of_getElem? (i := 5) rfl)) (hw _ (List.mem_of_getElem? (i := 2) rfl)) (by decide) (by decide)) (g := (mkF m 48 #[.val (.long t1), .second, .val (.int o1), .val (.long t2), .second, .val (.int o2), .val (.int md), .val (.long (if (md &&& (1 : Int32)) = (0 : Int32) then t2 else t1)), .second, .val (.int (if (md &&& (2 : Int32)) = (0 : Int32) then o2 else o1)), .val (.ref b6), .unset, .unset, .unset, .unset, .unset, .unset, .unset, .unset, .unset] [(.int (if (md &&& (2 : Int32)) = (0 : Int32) then o2 else o1)), (.long (if (md &&& (1 : Int32)) = (0 : Int32) then t2 else t1)), (.ref b12), (.ref b12)])) rfl (by rw [hml]; rfl) (Steps.refl _) (a := b12) (argsL := [(.long (if (md &&& (1 : Int32)) = (0 : Int32) then t2 else t1)), (.int (if (md &&& (2 : Int32)) = (0 : Int32) then o2 else o1))]) (rest := [(.ref b12)]) (lenOf pd__28JI_29V rfl) rfl (by show 2 * 0 + _ ≤ _; exact Nat.le_of_eq rfl) (hb hby at_48) (fun _ _ => ⟨rfl, e12, (by decide : 2 + 0 ≤ _), (by decide : 4 + 0 ≤ _)⟩)
  dsimp only [Pt.U, Pt.locs, Pt.cells, Pt.slots] at X16 l16 y16 z16 st16 hQ16
  subst l16 y16 z16
  obtain ⟨rfl, Nq16, Kp16, G16_0, G16_1, G16_2⟩ := hQ16
  have N16 := Fr.app N10 Nq16
  refine own_goT st16 ?_
  have le_16 : h12.size ≤ T16.heap.size := Kp16.1
  have sz17 : h0.size ≤ b12 := by omega
  have K16 : Keep h0 T16.heap [] := Keep.trans K12 Kp16 (allS (Or.inr sz17) all0)
  show ∃ t o, Steps p.tables e below (T16.setTop (mkF m 51 #[.val (.long t1), .second, .val (.int o1), .val (.long t2), .second, .val (.int o2), .val (.int md), .val (.long (if (md &&& (1 : Int32)) = (0 : Int32) then t2 else t1)), .second, .val (.int (if (md &&& (2 : Int32)) = (0 : Int32) then o2 else o1)), .val (.ref b6), .unset, .unset, .unset, .unset, .unset, .unset, .unset, .unset, .unset] [(.ref b12)])) t ∧ _
  refine own_go (fun _ => XS.astore X16.here hx rfl (hb hby at_51) rfl rfl (l' := #[.val (.long t1), .second, .val (.int o1), .val (.long t2), .second, .val (.int o2), .val (.int md), .val (.long (if (md &&& (1 : Int32)) = (0 : Int32) then t2 else t1)), .second, .val (.int (if (md &&& (2 : Int32)) = (0 : Int32) then o2 else o1)), .val (.ref b6), .val (.ref b12), .unset, .unset, .unset, .unset, .unset, .unset, .unset, .unset]) rfl) ?_
  show ∃ t o, Steps p.tables e below (T16.setTop (mkF m 53 #[.val (.long t1), .second, .val (.int o1), .val (.long t2), .second, .val (.int o2), .val (.int md), .val (.long (if (md &&& (1 : Int32)) = (0 : Int32) then t2 else t1)), .second, .val (.int (if (md &&& (2 : Int32)) = (0 : Int32) then o2 else o1)), .val (.ref b6), .val (.ref b12), .unset, .unset, .unset, .unset, .unset, .unset, .unset, .unset] [])) t ∧ _
  refine own_go (fun _ => XS.lload X16.here hx rfl (hb hby at_53) rfl) ?_
  show ∃ t o, Steps p.tables e below (T16.setTop (mkF m 55 #[.val (.long t1), .second, .val (.int o1), .val (.long t2), .second, .val (.int o2), .val (.int md), .val (.long (if (md &&& (1 : Int32)) = (0 : Int32) then t2 else t1)), .second, .val (.int (if (md &&& (2 : Int32)) = (0 : Int32) then o2 else o1)), .val (.ref b6), .val (.ref b12), .unset, .unset, .unset, .unset, .unset, .unset, .unset, .unset] [(.long (if (md &&& (1 : Int32)) = (0 : Int32) then t2 else t1))])) t ∧ _
  refine own_go (fun _ => XS.lloadN X16.here hx rfl (hb hby at_55) rfl) ?_
  show ∃ t o, Steps p.tables e below (T16.setTop (mkF m 56 #[.val (.long t1), .second, .val (.int o1), .val (.long t2), .second, .val (.int o2), .val (.int md), .val (.long (if (md &&& (1 : Int32)) = (0 : Int32) then t2 else t1)), .second, .val (.int (if (md &&& (2 : Int32)) = (0 : Int32) then o2 else o1)), .val (.ref b6), .val (.ref b12), .unset, .unset, .unset, .unset, .unset, .unset, .unset, .unset] [(.long t1), (.long (if (md &&& (1 : Int32)) = (0 : Int32) then t2 else t1))])) t ∧ _
  refine own_go (fun _ => XS.lcmp X16.here hx rfl (hb hby at_56) rfl) ?_
  show ∃ t o, Steps p.tables e below (T16.setTop (mkF m 57 #[.val (.long t1), .second, .val (.int o1), .val (.long t2), .second, .val (.int o2), .val (.int md), .val (.long (if (md &&& (1 : Int32)) = (0 : Int32) then t2 else t1)), .second, .val (.int (if (md &&& (2 : Int32)) = (0 : Int32) then o2 else o1)), .val (.ref b6), .val (.ref b12), .unset, .unset, .unset, .unset, .unset, .unset, .unset, .unset] [(.int (lcmpW (if (md &&& (1 : Int32)) = (0 : Int32) then t2 else t1) t1))])) t ∧ _
  have seg18 : ∀ t, Steps p.tables e below (T16.setTop (mkF m 71 #[.val (.long t1), .second, .val (.int o1), .val (.long t2), .second, .val (.int o2), .val (.int md), .val (.long (if (md &&& (1 : Int32)) = (0 : Int32) then t2 else t1)), .second, .val (.int (if (md &&& (2 : Int32)) = (0 : Int32) then o2 else o1)), .val (.ref b6), .val (.ref b12), .unset, .unset, .unset, .unset, .unset, .unset, .unset, .unset] [(.int (if (if (md &&& (1 : Int32)) = (0 : Int32) then t2 else t1) = t1 then (if (if (md &&& (2 : Int32)) = (0 : Int32) then o2 else o1) = o1 then (1 : Int32) else (0 : Int32)) else (0 : Int32)))])) t → Steps p.tables e below (T16.setTop (mkF m 57 #[.val (.long t1), .second, .val (.int o1), .val (.long t2), .second, .val (.int o2), .val (.int md), .val (.long (if (md &&& (1 : Int32)) = (0 : Int32) then t2 else t1)), .second, .val (.int (if (md &&& (2 : Int32)) = (0 : Int32) then o2 else o1)), .val (.ref b6), .val (.ref b12), .unset, .unset, .unset, .unset, .unset, .unset, .unset, .unset] [(.int (lcmpW (if (md &&& (1 : Int32)) = (0 : Int32) then t2 else t1) t1))])) t := by
    intro t k
    show Steps p.tables e below (T16.setTop (mkF m 57 #[.val (.long t1), .second, .val (.int o1), .val (.long t2), .second, .val (.int o2), .val (.int md), .val (.long (if (md &&& (1 : Int32)) = (0 : Int32) then t2 else t1)), .second, .val (.int (if (md &&& (2 : Int32)) = (0 : Int32) then o2 else o1)), .val (.ref b6), .val (.ref b12), .unset, .unset, .unset, .unset, .unset, .unset, .unset, .unset] [(.int (lcmpW (if (md &&& (1 : Int32)) = (0 : Int32) then t2 else t1) t1))])) _
    by_cases hc19 : (if (md &&& (1 : Int32)) = (0 : Int32) then t2 else t1) = t1
    · refine XS.ifNo X16.here hx rfl (hb hby at_57) rfl ((if0 _ _).trans (teq ((lw_eq _ _).mpr hc19)).2) ?_
      show Steps p.tables e below (T16.setTop (mkF m 60 #[.val (.long t1), .second, .val (.int o1), .val (.long t2), .second, .val (.int o2), .val (.int md), .val (.long (if (md &&& (1 : Int32)) = (0 : Int32) then t2 else t1)), .second, .val (.int (if (md &&& (2 : Int32)) = (0 : Int32) then o2 else o1)), .val (.ref b6), .val (.ref b12), .unset, .unset, .unset, .unset, .unset, .unset, .unset, .unset] [])) _
      refine XS.iload X16.here hx rfl (hb hby at_60) rfl ?_
      show Steps p.tables e below (T16.setTop (mkF m 62 #[.val (.long t1), .second, .val (.int o1), .val (.long t2), .second, .val (.int o2), .val (.int md), .val (.long (if (md &&& (1 : Int32)) = (0 : Int32) then t2 else t1)), .second, .val (.int (if (md &&& (2 : Int32)) = (0 : Int32) then o2 else o1)), .val (.ref b6), .val (.ref b12), .unset, .unset, .unset, .unset, .unset, .unset, .unset, .unset] [(.int (if (md &&& (2 : Int32)) = (0 : Int32) then o2 else o1))])) _
      refine XS.iloadN X16.here hx rfl (hb hby at_62) rfl ?_
      show Steps p.tables e below (T16.setTop (mkF m 63 #[.val (.long t1), .second, .val (.int o1), .val (.long t2), .second, .val (.int o2), .val (.int md), .val (.long (if (md &&& (1 : Int32)) = (0 : Int32) then t2 else t1)), .second, .val (.int (if (md &&& (2 : Int32)) = (0 : Int32) then o2 else o1)), .val (.ref b6), .val (.ref b12), .unset, .unset, .unset, .unset, .unset, .unset, .unset, .unset] [(.int o1), (.int (if (md &&& (2 : Int32)) = (0 : Int32) then o2 else o1))])) _
      by_cases hc20 : (if (md &&& (2 : Int32)) = (0 : Int32) then o2 else o1) = o1
      · refine XS.icmpNo X16.here hx rfl (hb hby at_63) rfl (teq hc20).2 ?_
        show Steps p.tables e below (T16.setTop (mkF m 66 #[.val (.long t1), .second, .val (.int o1), .val (.long t2), .second, .val (.int o2), .val (.int md), .val (.long (if (md &&& (1 : Int32)) = (0 : Int32) then t2 else t1)), .second, .val (.int (if (md &&& (2 : Int32)) = (0 : Int32) then o2 else o1)), .val (.ref b6), .val (.ref b12), .unset, .unset, .unset, .unset, .unset, .unset, .unset, .unset] [])) _
        refine XS.iconst X16.here hx rfl (hb hby at_66) ?_
        show Steps p.tables e below (T16.setTop (mkF m 67 #[.val (.long t1), .second, .val (.int o1), .val (.long t2), .second, .val (.int o2), .val (.int md), .val (.long (if (md &&& (1 : Int32)) = (0 : Int32) then t2 else t1)), .second, .val (.int (if (md &&& (2 : Int32)) = (0 : Int32) then o2 else o1)), .val (.ref b6), .val (.ref b12), .unset, .unset, .unset, .unset, .unset, .unset, .unset, .unset] [(.int (1 : Int32))])) _
        refine XS.goto X16.here hx rfl (pc0 := 67) (pc' := 71) rfl (hb hby at_67) (by decide) (by decide) ?_
        simp only [if_pos hc19, if_pos hc20] at k
        exact k
      · refine XS.icmpYes X16.here hx rfl (pc0 := 63) (pc' := 70) rfl (hb hby at_63) rfl (feq hc20).2 (by decide) (by decide) ?_
        show Steps p.tables e below (T16.setTop (mkF m 70 #[.val (.long t1), .second, .val (.int o1), .val (.long t2), .second, .val (.int o2), .val (.int md), .val (.long (if (md &&& (1 : Int32)) = (0 : Int32) then t2 else t1)), .second, .val (.int (if (md &&& (2 : Int32)) = (0 : Int32) then o2 else o1)), .val (.ref b6), .val (.ref b12), .unset, .unset, .unset, .unset, .unset, .unset, .unset, .unset] [])) _
        refine XS.iconst X16.here hx rfl (hb hby at_70) ?_
        simp only [if_pos hc19, if_neg hc20] at k
        exact k
    · refine XS.ifYes X16.here hx rfl (pc0 := 57) (pc' := 70) rfl (hb hby at_57) rfl ((if0 _ _).trans (feq (mt (lw_eq _ _).mp hc19)).2) (by decide) (by decide) ?_
      show Steps p.tables e below (T16.setTop (mkF m 70 #[.val (.long t1), .second, .val (.int o1), .val (.long t2), .second, .val (.int o2), .val (.int md), .val (.long (if (md &&& (1 : Int32)) = (0 : Int32) then t2 else t1)), .second, .val (.int (if (md &&& (2 : Int32)) = (0 : Int32) then o2 else o1)), .val (.ref b6), .val (.ref b12), .unset, .unset, .unset, .unset, .unset, .unset, .unset, .unset] [])) _
      refine XS.iconst X16.here hx rfl (hb hby at_70) ?_
      simp only [if_neg hc19] at k
      exact k
  refine own_go seg18 ?_
  show ∃ t o, Steps p.tables e below (T16.setTop (mkF m 71 #[.val (.long t1), .second, .val (.int o1), .val (.long t2), .second, .val (.int o2), .val (.int md), .val (.long (if (md &&& (1 : Int32)) = (0 : Int32) then t2 else t1)), .second, .val (.int (if (md &&& (2 : Int32)) = (0 : Int32) then o2 else o1)), .val (.ref b6), .val (.ref b12), .unset, .unset, .unset, .unset, .unset, .unset, .unset, .unset] [(.int (if (if (md &&& (1 : Int32)) = (0 : Int32) then t2 else t1) = t1 then (if (if (md &&& (2 : Int32)) = (0 : Int32) then o2 else o1) = o1 then (1 : Int32) else (0 : Int32)) else (0 : Int32)))])) t ∧ _
  refine own_go (fun _ => XS.istore X16.here hx rfl (hb hby at_71) rfl (l' := #[.val (.long t1), .second, .val (.int o1), .val (.long t2), .second, .val (.int o2), .val (.int md), .val (.long (if (md &&& (1 : Int32)) = (0 : Int32) then t2 else t1)), .second, .val (.int (if (md &&& (2 : Int32)) = (0 : Int32) then o2 else o1)), .val (.ref b6), .val (.ref b12), .val (.int (if (if (md &&& (1 : Int32)) = (0 : Int32) then t2 else t1) = t1 then (if (if (md &&& (2 : Int32)) = (0 : Int32) then o2 else o1) = o1 then (1 : Int32) else (0 : Int32)) else (0 : Int32))), .unset, .unset, .unset, .unset, .unset, .unset, .unset]) rfl) ?_
  show ∃ t o, Steps p.tables e below (T16.setTop (mkF m 73 #[.val (.long t1), .second, .val (.int o1), .val (.long t2), .second, .val (.int o2), .val (.int md), .val (.long (if (md &&& (1 : Int32)) = (0 : Int32) then t2 else t1)), .second, .val (.int (if (md &&& (2 : Int32)) = (0 : Int32) then o2 else o1)), .val (.ref b6), .val (.ref b12), .val (.int (if (if (md &&& (1 : Int32)) = (0 : Int32) then t2 else t1) = t1 then (if (if (md &&& (2 : Int32)) = (0 : Int32) then o2 else o1) = o1 then (1 : Int32) else (0 : Int32)) else (0 : Int32))), .unset, .unset, .unset, .unset, .unset, .unset, .unset] [])) t ∧ _
  refine own_go (fun _ => XS.aconstNull X16.here hx rfl (hb hby at_73)) ?_
  show ∃ t o, Steps p.tables e below (T16.setTop (mkF m 74 #[.val (.long t1), .second, .val (.int o1), .val (.long t2), .second, .val (.int o2), .val (.int md), .val (.long (if (md &&& (1 : Int32)) = (0 : Int32) then t2 else t1)), .second, .val (.int (if (md &&& (2 : Int32)) = (0 : Int32) then o2 else o1)), .val (.ref b6), .val (.ref b12), .val (.int (if (if (md &&& (1 : Int32)) = (0 : Int32) then t2 else t1) = t1 then (if (if (md &&& (2 : Int32)) = (0 : Int32) then o2 else o1) = o1 then (1 : Int32) else (0 : Int32)) else (0 : Int32))), .unset, .unset, .unset, .unset, .unset, .unset, .unset] [.null])) t ∧ _
  refine own_go (fun _ => XS.astore X16.here hx rfl (hb hby at_74) rfl rfl (l' := #[.val (.long t1), .second, .val (.int o1), .val (.long t2), .second, .val (.int o2), .val (.int md), .val (.long (if (md &&& (1 : Int32)) = (0 : Int32) then t2 else t1)), .second, .val (.int (if (md &&& (2 : Int32)) = (0 : Int32) then o2 else o1)), .val (.ref b6), .val (.ref b12), .val (.int (if (if (md &&& (1 : Int32)) = (0 : Int32) then t2 else t1) = t1 then (if (if (md &&& (2 : Int32)) = (0 : Int32) then o2 else o1) = o1 then (1 : Int32) else (0 : Int32)) else (0 : Int32))), .val .null, .unset, .unset, .unset, .unset, .unset, .unset]) rfl) ?_
  show ∃ t o, Steps p.tables e below (T16.setTop (mkF m 76 #[.val (.long t1), .second, .val (.int o1), .val (.long t2), .second, .val (.int o2), .val (.int md), .val (.long (if (md &&& (1 : Int32)) = (0 : Int32) then t2 else t1)), .second, .val (.int (if (md &&& (2 : Int32)) = (0 : Int32) then o2 else o1)), .val (.ref b6), .val (.ref b12), .val (.int (if (if (md &&& (1 : Int32)) = (0 : Int32) then t2 else t1) = t1 then (if (if (md &&& (2 : Int32)) = (0 : Int32) then o2 else o1) = o1 then (1 : Int32) else (0 : Int32)) else (0 : Int32))), .val .null, .unset, .unset, .unset, .unset, .unset, .unset] [])) t ∧ _
  refine own_go (fun _ => XS.lloadN X16.here hx rfl (hb hby at_76) rfl) ?_
  show ∃ t o, Steps p.tables e below (T16.setTop (mkF m 77 #[.val (.long t1), .second, .val (.int o1), .val (.long t2), .second, .val (.int o2), .val (.int md), .val (.long (if (md &&& (1 : Int32)) = (0 : Int32) then t2 else t1)), .second, .val (.int (if (md &&& (2 : Int32)) = (0 : Int32) then o2 else o1)), .val (.ref b6), .val (.ref b12), .val (.int (if (if (md &&& (1 : Int32)) = (0 : Int32) then t2 else t1) = t1 then (if (if (md &&& (2 : Int32)) = (0 : Int32) then o2 else o1) = o1 then (1 : Int32) else (0 : Int32)) else (0 : Int32))), .val .null, .unset, .unset, .unset, .unset, .unset, .unset] [(.long t1)])) t ∧ _
  have F21 : Old Z n0 T16.heap := (Old.keep F13 Kp16 (allS ge14 all0))
  have zl22 : n0 ≤ T16.heap.size := by omega
  obtain ⟨_, _, ⟨T23, L23, k23, n23⟩, -, X23, ⟨Lc23, hQ23, l23, y23, z23⟩, st23⟩ := Jvm.LawKit.callS X16 hx (y := (⟨"java/lang/Long", "valueOf", "(J)Ljava/lang/Long;"⟩ : MethodName)) hown (mvT hZ (hw _ (List.mem_of_getElem? (i := 18) rfl))) (mvT hZ (hw _ (List.mem_of_getElem? (i := 19) rfl))) (mvT hZ (hw _ (List.mem_of_getElem? (i := 20) rfl))) (mvT hZ (hw _ (List.mem_of_getElem? (i := 21) rfl))) (by decide) (backOf (W := 0) (rmLongOf l Z a0 hw [] t1 ca cca T16.heap n0 zl22 F21 P1 BX) hZ (hw _ (List.mem_of_getElem? (i := 21) rfl)) (hw _ (List.mem_of_getElem? (i := 20) rfl)) (by decide) (by decide)) (g := (mkF m 77 #[.val (.long t1), .second, .val (.int o1), .val (.long t2), .second, .val (.int o2), .val (.int md), .val (.long (if (md &&& (1 : Int32)) = (0 : Int32) then t2 else t1)), .second, .val (.int (if (md &&& (2 : Int32)) = (0 : Int32) then o2 else o1)), .val (.ref b6), .val (.ref b12), .val (.int (if (if (md &&& (1 : Int32)) = (0 : Int32) then t2 else t1) = t1 then (if (if (md &&& (2 : Int32)) = (0 : Int32) then o2 else o1) = o1 then (1 : Int32) else (0 : Int32)) else (0 : Int32))), .val .null, .unset, .unset, .unset, .unset, .unset, .unset] [(.long t1)])) rfl (by rw [hml]; rfl) (argsL := [(.long t1)]) (rest := []) (lenOf pd__28J_29Ljava_2flang_2fLong_3b rfl) rfl (by show 2 * 0 + _ ≤ _; exact Nat.le_of_eq rfl) (hb hby at_77) (fun _ _ => ⟨rfl, rfl, (by decide : 2 + 1 ≤ _), (by decide : 4 + 1 ≤ _)⟩)
  dsimp only [Pt.U, Pt.locs, Pt.cells, Pt.slots] at X23 l23 y23 z23 st23 hQ23
  subst l23 y23 z23
  obtain ⟨b_23, rv_23, rfl, Nq23, Kp23, G23_0, G23_1⟩ := hQ23
  have N23 := Fr.app N16 Nq23
  refine own_go st23 ?_
  have le_23 : T16.heap.size ≤ T23.heap.size := Kp23.1
  have K23 : Keep h0 T23.heap [] := Keep.trans K16 Kp23 all0
  have lt_b_23 := (G23_0).lt
  show ∃ t o, Steps p.tables e below (T23.setTop (mkF m 80 #[.val (.long t1), .second, .val (.int o1), .val (.long t2), .second, .val (.int o2), .val (.int md), .val (.long (if (md &&& (1 : Int32)) = (0 : Int32) then t2 else t1)), .second, .val (.int (if (md &&& (2 : Int32)) = (0 : Int32) then o2 else o1)), .val (.ref b6), .val (.ref b12), .val (.int (if (if (md &&& (1 : Int32)) = (0 : Int32) then t2 else t1) = t1 then (if (if (md &&& (2 : Int32)) = (0 : Int32) then o2 else o1) = o1 then (1 : Int32) else (0 : Int32)) else (0 : Int32))), .val .null, .unset, .unset, .unset, .unset, .unset, .unset] [(.ref b_23)])) t ∧ _
  refine own_go (fun _ => XS.astore X23.here hx rfl (hb hby at_80) rfl rfl (l' := #[.val (.long t1), .second, .val (.int o1), .val (.long t2), .second, .val (.int o2), .val (.int md), .val (.long (if (md &&& (1 : Int32)) = (0 : Int32) then t2 else t1)), .second, .val (.int (if (md &&& (2 : Int32)) = (0 : Int32) then o2 else o1)), .val (.ref b6), .val (.ref b12), .val (.int (if (if (md &&& (1 : Int32)) = (0 : Int32) then t2 else t1) = t1 then (if (if (md &&& (2 : Int32)) = (0 : Int32) then o2 else o1) = o1 then (1 : Int32) else (0 : Int32)) else (0 : Int32))), .val .null, .val (.ref b_23), .unset, .unset, .unset, .unset, .unset]) rfl) ?_
  show ∃ t o, Steps p.tables e below (T23.setTop (mkF m 82 #[.val (.long t1), .second, .val (.int o1), .val (.long t2), .second, .val (.int o2), .val (.int md), .val (.long (if (md &&& (1 : Int32)) = (0 : Int32) then t2 else t1)), .second, .val (.int (if (md &&& (2 : Int32)) = (0 : Int32) then o2 else o1)), .val (.ref b6), .val (.ref b12), .val (.int (if (if (md &&& (1 : Int32)) = (0 : Int32) then t2 else t1) = t1 then (if (if (md &&& (2 : Int32)) = (0 : Int32) then o2 else o1) = o1 then (1 : Int32) else (0 : Int32)) else (0 : Int32))), .val .null, .val (.ref b_23), .unset, .unset, .unset, .unset, .unset] [])) t ∧ _
  refine own_go (fun _ => XS.aload X23.here hx rfl (hb hby at_82) rfl rfl) ?_
  show ∃ t o, Steps p.tables e below (T23.setTop (mkF m 84 #[.val (.long t1), .second, .val (.int o1), .val (.long t2), .second, .val (.int o2), .val (.int md), .val (.long (if (md &&& (1 : Int32)) = (0 : Int32) then t2 else t1)), .second, .val (.int (if (md &&& (2 : Int32)) = (0 : Int32) then o2 else o1)), .val (.ref b6), .val (.ref b12), .val (.int (if (if (md &&& (1 : Int32)) = (0 : Int32) then t2 else t1) = t1 then (if (if (md &&& (2 : Int32)) = (0 : Int32) then o2 else o1) = o1 then (1 : Int32) else (0 : Int32)) else (0 : Int32))), .val .null, .val (.ref b_23), .unset, .unset, .unset, .unset, .unset] [(.ref b6)])) t ∧ _
  refine own_go (fun _ => XS.aload X23.here hx rfl (hb hby at_84) rfl rfl) ?_
  show ∃ t o, Steps p.tables e below (T23.setTop (mkF m 86 #[.val (.long t1), .second, .val (.int o1), .val (.long t2), .second, .val (.int o2), .val (.int md), .val (.long (if (md &&& (1 : Int32)) = (0 : Int32) then t2 else t1)), .second, .val (.int (if (md &&& (2 : Int32)) = (0 : Int32) then o2 else o1)), .val (.ref b6), .val (.ref b12), .val (.int (if (if (md &&& (1 : Int32)) = (0 : Int32) then t2 else t1) = t1 then (if (if (md &&& (2 : Int32)) = (0 : Int32) then o2 else o1) = o1 then (1 : Int32) else (0 : Int32)) else (0 : Int32))), .val .null, .val (.ref b_23), .unset, .unset, .unset, .unset, .unset] [(.ref b12), (.ref b6)])) t ∧ _
  have F24 : Exa Z T23.heap b6 "com/example/holdback/holdback/ring/Stamp" := (Exa.keep (Exa.keep (Exa.ext E12 G10_0) Kp16) Kp23)
  have ne25 : b6 ≠ b12 := by omega
  have F26 : Fld Z T23.heap b6 "com/example/holdback/holdback/ring/Stamp" "ts" "J" (.long t1) := (Fld.keep (Fld.keep (Fld.ext E12 G10_1) Kp16 (ninS ne25 nin0)) Kp23 nin0)
  have F27 : Fld Z T23.heap b6 "com/example/holdback/holdback/ring/Stamp" "origin" "I" (.int o1) := (Fld.keep (Fld.keep (Fld.ext E12 G10_2) Kp16 (ninS ne25 nin0)) Kp23 nin0)
  have F28 : Fld Z T23.heap b12 "com/example/holdback/holdback/ring/Stamp" "ts" "J" (.long (if (md &&& (1 : Int32)) = (0 : Int32) then t2 else t1)) := (Fld.keep G16_1 Kp23 nin0)
  have F29 : Fld Z T23.heap b12 "com/example/holdback/holdback/ring/Stamp" "origin" "I" (.int (if (md &&& (2 : Int32)) = (0 : Int32) then o2 else o1)) := (Fld.keep G16_2 Kp23 nin0)
  have F30 : Exa Z T23.heap b12 "com/example/holdback/holdback/ring/Stamp" := (Exa.keep G16_0 Kp23)
  have F31 : Old Z n0 T23.heap := (Old.keep F21 Kp23 all0)
  have zl32 : n0 ≤ T23.heap.size := by omega
  obtain ⟨cq33, kq33, q33a, q33b, q33c⟩ := isOf hZ rfl F24
  obtain ⟨_, _, ⟨T33, L33, k33, n33⟩, -, X33, ⟨Lc33, hQ33, l33, y33, z33⟩, st33⟩ := X23.virtualBack hx (y := (⟨"com/example/holdback/holdback/ring/Stamp", "equals", "(Ljava/lang/Object;)Z"⟩ : MethodName)) (z := (⟨"com/example/holdback/holdback/ring/Stamp", "equals", "(Ljava/lang/Object;)Z"⟩ : MethodName)) hown (mvT hZ (hw _ (List.mem_of_getElem? (i := 26) rfl))) (mvT hZ (hw _ (List.mem_of_getElem? (i := 27) rfl))) (notFace_of_selects (args := #[]) (mvT hZ (hw _ (List.mem_of_getElem? (i := 29) rfl)))) (mvT hZ (hw _ (List.mem_of_getElem? (i := 29) rfl))) (mvT hZ (hw _ (List.mem_of_getElem? (i := 28) rfl))) (by decide) (backOf (W := 0) (rmEqS l Z a0 hw [] b6 b12 t1 o1 ((if (md &&& (1 : Int32)) = (0 : Int32) then t2 else t1)) ((if (md &&& (2 : Int32)) = (0 : Int32) then o2 else o1)) T23.heap n0 zl32 F26 F27 F28 F29 (Ins.self F30) F31) hZ (hw _ (List.mem_of_getElem? (i := 30) rfl)) (hw _ (List.mem_of_getElem? (i := 2) rfl)) (by decide) (by decide)) q33a q33c (g := (mkF m 86 #[.val (.long t1), .second, .val (.int o1), .val (.long t2), .second, .val (.int o2), .val (.int md), .val (.long (if (md &&& (1 : Int32)) = (0 : Int32) then t2 else t1)), .second, .val (.int (if (md &&& (2 : Int32)) = (0 : Int32) then o2 else o1)), .val (.ref b6), .val (.ref b12), .val (.int (if (if (md &&& (1 : Int32)) = (0 : Int32) then t2 else t1) = t1 then (if (if (md &&& (2 : Int32)) = (0 : Int32) then o2 else o1) = o1 then (1 : Int32) else (0 : Int32)) else (0 : Int32))), .val .null, .val (.ref b_23), .unset, .unset, .unset, .unset, .unset] [(.ref b12), (.ref b6)])) rfl (by rw [hml]; rfl) (Steps.refl _) (argsL := [(.ref b12)]) (rest := []) (lenOf pd__28Ljava_2flang_2fObject_3b_29Z rfl) rfl (by show 2 * 0 + _ ≤ _; exact Nat.le_of_eq rfl) (hb hby at_86) (fun _ _ => ⟨rfl, rfl, (by decide : 3 + 0 ≤ _), (by decide : 5 + 0 ≤ _)⟩)
  dsimp only [Pt.U, Pt.locs, Pt.cells, Pt.slots] at X33 l33 y33 z33 st33 hQ33
  subst l33 y33 z33
  obtain ⟨rfl, Nq33, e33⟩ := hQ33
  have N33 := Fr.app N23 Nq33
  refine own_goT st33 ?_
  show ∃ t o, Steps p.tables e below (T33.setTop (mkF m 89 #[.val (.long t1), .second, .val (.int o1), .val (.long t2), .second, .val (.int o2), .val (.int md), .val (.long (if (md &&& (1 : Int32)) = (0 : Int32) then t2 else t1)), .second, .val (.int (if (md &&& (2 : Int32)) = (0 : Int32) then o2 else o1)), .val (.ref b6), .val (.ref b12), .val (.int (if (if (md &&& (1 : Int32)) = (0 : Int32) then t2 else t1) = t1 then (if (if (md &&& (2 : Int32)) = (0 : Int32) then o2 else o1) = o1 then (1 : Int32) else (0 : Int32)) else (0 : Int32))), .val .null, .val (.ref b_23), .unset, .unset, .unset, .unset, .unset] [(.int (if (if (md &&& (1 : Int32)) = (0 : Int32) then t2 else t1) = t1 ∧ (if (md &&& (2 : Int32)) = (0 : Int32) then o2 else o1) = o1 then (1 : Int32) else (0 : Int32)))])) t ∧ _
  refine own_go (fun _ => XS.istore X33.here hx rfl (hb hby at_89) rfl (l' := #[.val (.long t1), .second, .val (.int o1), .val (.long t2), .second, .val (.int o2), .val (.int md), .val (.long (if (md &&& (1 : Int32)) = (0 : Int32) then t2 else t1)), .second, .val (.int (if (md &&& (2 : Int32)) = (0 : Int32) then o2 else o1)), .val (.ref b6), .val (.ref b12), .val (.int (if (if (md &&& (1 : Int32)) = (0 : Int32) then t2 else t1) = t1 then (if (if (md &&& (2 : Int32)) = (0 : Int32) then o2 else o1) = o1 then (1 : Int32) else (0 : Int32)) else (0 : Int32))), .val .null, .val (.ref b_23), .val (.int (if (if (md &&& (1 : Int32)) = (0 : Int32) then t2 else t1) = t1 ∧ (if (md &&& (2 : Int32)) = (0 : Int32) then o2 else o1) = o1 then (1 : Int32) else (0 : Int32))), .unset, .unset, .unset, .unset]) rfl) ?_
  show ∃ t o, Steps p.tables e below (T33.setTop (mkF m 91 #[.val (.long t1), .second, .val (.int o1), .val (.long t2), .second, .val (.int o2), .val (.int md), .val (.long (if (md &&& (1 : Int32)) = (0 : Int32) then t2 else t1)), .second, .val (.int (if (md &&& (2 : Int32)) = (0 : Int32) then o2 else o1)), .val (.ref b6), .val (.ref b12), .val (.int (if (if (md &&& (1 : Int32)) = (0 : Int32) then t2 else t1) = t1 then (if (if (md &&& (2 : Int32)) = (0 : Int32) then o2 else o1) = o1 then (1 : Int32) else (0 : Int32)) else (0 : Int32))), .val .null, .val (.ref b_23), .val (.int (if (if (md &&& (1 : Int32)) = (0 : Int32) then t2 else t1) = t1 ∧ (if (md &&& (2 : Int32)) = (0 : Int32) then o2 else o1) = o1 then (1 : Int32) else (0 : Int32))), .unset, .unset, .unset, .unset] [])) t ∧ _
  refine own_go (fun _ => XS.aload X33.here hx rfl (hb hby at_91) rfl rfl) ?_
  show ∃ t o, Steps p.tables e below (T33.setTop (mkF m 93 #[.val (.long t1), .second, .val (.int o1), .val (.long t2), .second, .val (.int o2), .val (.int md), .val (.long (if (md &&& (1 : Int32)) = (0 : Int32) then t2 else t1)), .second, .val (.int (if (md &&& (2 : Int32)) = (0 : Int32) then o2 else o1)), .val (.ref b6), .val (.ref b12), .val (.int (if (if (md &&& (1 : Int32)) = (0 : Int32) then t2 else t1) = t1 then (if (if (md &&& (2 : Int32)) = (0 : Int32) then o2 else o1) = o1 then (1 : Int32) else (0 : Int32)) else (0 : Int32))), .val .null, .val (.ref b_23), .val (.int (if (if (md &&& (1 : Int32)) = (0 : Int32) then t2 else t1) = t1 ∧ (if (md &&& (2 : Int32)) = (0 : Int32) then o2 else o1) = o1 then (1 : Int32) else (0 : Int32))), .unset, .unset, .unset, .unset] [(.ref b12)])) t ∧ _
  refine own_go (fun _ => XS.aload X33.here hx rfl (hb hby at_93) rfl rfl) ?_
  show ∃ t o, Steps p.tables e below (T33.setTop (mkF m 95 #[.val (.long t1), .second, .val (.int o1), .val (.long t2), .second, .val (.int o2), .val (.int md), .val (.long (if (md &&& (1 : Int32)) = (0 : Int32) then t2 else t1)), .second, .val (.int (if (md &&& (2 : Int32)) = (0 : Int32) then o2 else o1)), .val (.ref b6), .val (.ref b12), .val (.int (if (if (md &&& (1 : Int32)) = (0 : Int32) then t2 else t1) = t1 then (if (if (md &&& (2 : Int32)) = (0 : Int32) then o2 else o1) = o1 then (1 : Int32) else (0 : Int32)) else (0 : Int32))), .val .null, .val (.ref b_23), .val (.int (if (if (md &&& (1 : Int32)) = (0 : Int32) then t2 else t1) = t1 ∧ (if (md &&& (2 : Int32)) = (0 : Int32) then o2 else o1) = o1 then (1 : Int32) else (0 : Int32))), .unset, .unset, .unset, .unset] [(.ref b6), (.ref b12)])) t ∧ _
  obtain ⟨cq34, kq34, q34a, q34b, q34c⟩ := isOf hZ e33 F30
  obtain ⟨_, _, ⟨T34, L34, k34, n34⟩, -, X34, ⟨Lc34, hQ34, l34, y34, z34⟩, st34⟩ := X33.virtualBack hx (y := (⟨"com/example/holdback/holdback/ring/Stamp", "equals", "(Ljava/lang/Object;)Z"⟩ : MethodName)) (z := (⟨"com/example/holdback/holdback/ring/Stamp", "equals", "(Ljava/lang/Object;)Z"⟩ : MethodName)) hown (mvT hZ (hw _ (List.mem_of_getElem? (i := 26) rfl))) (mvT hZ (hw _ (List.mem_of_getElem? (i := 27) rfl))) (notFace_of_selects (args := #[]) (mvT hZ (hw _ (List.mem_of_getElem? (i := 29) rfl)))) (mvT hZ (hw _ (List.mem_of_getElem? (i := 29) rfl))) (mvT hZ (hw _ (List.mem_of_getElem? (i := 28) rfl))) (by decide) (backOf (W := 0) (rmEqS l Z a0 hw [] b12 b6 ((if (md &&& (1 : Int32)) = (0 : Int32) then t2 else t1)) ((if (md &&& (2 : Int32)) = (0 : Int32) then o2 else o1)) t1 o1 T23.heap n0 zl32 F28 F29 F26 F27 (Ins.self F24) F31) hZ (hw _ (List.mem_of_getElem? (i := 30) rfl)) (hw _ (List.mem_of_getElem? (i := 2) rfl)) (by decide) (by decide)) q34a q34c (g := (mkF m 95 #[.val (.long t1), .second, .val (.int o1), .val (.long t2), .second, .val (.int o2), .val (.int md), .val (.long (if (md &&& (1 : Int32)) = (0 : Int32) then t2 else t1)), .second, .val (.int (if (md &&& (2 : Int32)) = (0 : Int32) then o2 else o1)), .val (.ref b6), .val (.ref b12), .val (.int (if (if (md &&& (1 : Int32)) = (0 : Int32) then t2 else t1) = t1 then (if (if (md &&& (2 : Int32)) = (0 : Int32) then o2 else o1) = o1 then (1 : Int32) else (0 : Int32)) else (0 : Int32))), .val .null, .val (.ref b_23), .val (.int (if (if (md &&& (1 : Int32)) = (0 : Int32) then t2 else t1) = t1 ∧ (if (md &&& (2 : Int32)) = (0 : Int32) then o2 else o1) = o1 then (1 : Int32) else (0 : Int32))), .unset, .unset, .unset, .unset] [(.ref b6), (.ref b12)])) rfl (by rw [hml]; rfl) (Steps.refl _) (argsL := [(.ref b6)]) (rest := []) (lenOf pd__28Ljava_2flang_2fObject_3b_29Z rfl) rfl (by show 2 * 0 + _ ≤ _; exact Nat.le_of_eq rfl) (hb hby at_95) (fun _ _ => ⟨rfl, e33, (by decide : 3 + 0 ≤ _), (by decide : 5 + 0 ≤ _)⟩)
  dsimp only [Pt.U, Pt.locs, Pt.cells, Pt.slots] at X34 l34 y34 z34 st34 hQ34
  subst l34 y34 z34
  obtain ⟨rfl, Nq34, e34⟩ := hQ34
  have N34 := Fr.app N33 Nq34
  refine own_goT st34 ?_
  show ∃ t o, Steps p.tables e below (T34.setTop (mkF m 98 #[.val (.long t1), .second, .val (.int o1), .val (.long t2), .second, .val (.int o2), .val (.int md), .val (.long (if (md &&& (1 : Int32)) = (0 : Int32) then t2 else t1)), .second, .val (.int (if (md &&& (2 : Int32)) = (0 : Int32) then o2 else o1)), .val (.ref b6), .val (.ref b12), .val (.int (if (if (md &&& (1 : Int32)) = (0 : Int32) then t2 else t1) = t1 then (if (if (md &&& (2 : Int32)) = (0 : Int32) then o2 else o1) = o1 then (1 : Int32) else (0 : Int32)) else (0 : Int32))), .val .null, .val (.ref b_23), .val (.int (if (if (md &&& (1 : Int32)) = (0 : Int32) then t2 else t1) = t1 ∧ (if (md &&& (2 : Int32)) = (0 : Int32) then o2 else o1) = o1 then (1 : Int32) else (0 : Int32))), .unset, .unset, .unset, .unset] [(.int (if t1 = (if (md &&& (1 : Int32)) = (0 : Int32) then t2 else t1) ∧ o1 = (if (md &&& (2 : Int32)) = (0 : Int32) then o2 else o1) then (1 : Int32) else (0 : Int32)))])) t ∧ _
  refine own_go (fun _ => XS.istore X34.here hx rfl (hb hby at_98) rfl (l' := #[.val (.long t1), .second, .val (.int o1), .val (.long t2), .second, .val (.int o2), .val (.int md), .val (.long (if (md &&& (1 : Int32)) = (0 : Int32) then t2 else t1)), .second, .val (.int (if (md &&& (2 : Int32)) = (0 : Int32) then o2 else o1)), .val (.ref b6), .val (.ref b12), .val (.int (if (if (md &&& (1 : Int32)) = (0 : Int32) then t2 else t1) = t1 then (if (if (md &&& (2 : Int32)) = (0 : Int32) then o2 else o1) = o1 then (1 : Int32) else (0 : Int32)) else (0 : Int32))), .val .null, .val (.ref b_23), .val (.int (if (if (md &&& (1 : Int32)) = (0 : Int32) then t2 else t1) = t1 ∧ (if (md &&& (2 : Int32)) = (0 : Int32) then o2 else o1) = o1 then (1 : Int32) else (0 : Int32))), .val (.int (if t1 = (if (md &&& (1 : Int32)) = (0 : Int32) then t2 else t1) ∧ o1 = (if (md &&& (2 : Int32)) = (0 : Int32) then o2 else o1) then (1 : Int32) else (0 : Int32))), .unset, .unset, .unset]) rfl) ?_
  show ∃ t o, Steps p.tables e below (T34.setTop (mkF m 100 #[.val (.long t1), .second, .val (.int o1), .val (.long t2), .second, .val (.int o2), .val (.int md), .val (.long (if (md &&& (1 : Int32)) = (0 : Int32) then t2 else t1)), .second, .val (.int (if (md &&& (2 : Int32)) = (0 : Int32) then o2 else o1)), .val (.ref b6), .val (.ref b12), .val (.int (if (if (md &&& (1 : Int32)) = (0 : Int32) then t2 else t1) = t1 then (if (if (md &&& (2 : Int32)) = (0 : Int32) then o2 else o1) = o1 then (1 : Int32) else (0 : Int32)) else (0 : Int32))), .val .null, .val (.ref b_23), .val (.int (if (if (md &&& (1 : Int32)) = (0 : Int32) then t2 else t1) = t1 ∧ (if (md &&& (2 : Int32)) = (0 : Int32) then o2 else o1) = o1 then (1 : Int32) else (0 : Int32))), .val (.int (if t1 = (if (md &&& (1 : Int32)) = (0 : Int32) then t2 else t1) ∧ o1 = (if (md &&& (2 : Int32)) = (0 : Int32) then o2 else o1) then (1 : Int32) else (0 : Int32))), .unset, .unset, .unset] [])) t ∧ _
  refine own_go (fun _ => XS.aload X34.here hx rfl (hb hby at_100) rfl rfl) ?_
  show ∃ t o, Steps p.tables e below (T34.setTop (mkF m 102 #[.val (.long t1), .second, .val (.int o1), .val (.long t2), .second, .val (.int o2), .val (.int md), .val (.long (if (md &&& (1 : Int32)) = (0 : Int32) then t2 else t1)), .second, .val (.int (if (md &&& (2 : Int32)) = (0 : Int32) then o2 else o1)), .val (.ref b6), .val (.ref b12), .val (.int (if (if (md &&& (1 : Int32)) = (0 : Int32) then t2 else t1) = t1 then (if (if (md &&& (2 : Int32)) = (0 : Int32) then o2 else o1) = o1 then (1 : Int32) else (0 : Int32)) else (0 : Int32))), .val .null, .val (.ref b_23), .val (.int (if (if (md &&& (1 : Int32)) = (0 : Int32) then t2 else t1) = t1 ∧ (if (md &&& (2 : Int32)) = (0 : Int32) then o2 else o1) = o1 then (1 : Int32) else (0 : Int32))), .val (.int (if t1 = (if (md &&& (1 : Int32)) = (0 : Int32) then t2 else t1) ∧ o1 = (if (md &&& (2 : Int32)) = (0 : Int32) then o2 else o1) then (1 : Int32) else (0 : Int32))), .unset, .unset, .unset] [(.ref b6)])) t ∧ _
  refine own_go (fun _ => XS.aload X34.here hx rfl (hb hby at_102) rfl rfl) ?_
  show ∃ t o, Steps p.tables e below (T34.setTop (mkF m 104 #[.val (.long t1), .second, .val (.int o1), .val (.long t2), .second, .val (.int o2), .val (.int md), .val (.long (if (md &&& (1 : Int32)) = (0 : Int32) then t2 else t1)), .second, .val (.int (if (md &&& (2 : Int32)) = (0 : Int32) then o2 else o1)), .val (.ref b6), .val (.ref b12), .val (.int (if (if (md &&& (1 : Int32)) = (0 : Int32) then t2 else t1) = t1 then (if (if (md &&& (2 : Int32)) = (0 : Int32) then o2 else o1) = o1 then (1 : Int32) else (0 : Int32)) else (0 : Int32))), .val .null, .val (.ref b_23), .val (.int (if (if (md &&& (1 : Int32)) = (0 : Int32) then t2 else t1) = t1 ∧ (if (md &&& (2 : Int32)) = (0 : Int32) then o2 else o1) = o1 then (1 : Int32) else (0 : Int32))), .val (.int (if t1 = (if (md &&& (1 : Int32)) = (0 : Int32) then t2 else t1) ∧ o1 = (if (md &&& (2 : Int32)) = (0 : Int32) then o2 else o1) then (1 : Int32) else (0 : Int32))), .unset, .unset, .unset] [(.ref b6), (.ref b6)])) t ∧ _
  obtain ⟨cq35, kq35, q35a, q35b, q35c⟩ := isOf hZ e34 F24
  obtain ⟨_, _, ⟨T35, L35, k35, n35⟩, -, X35, ⟨Lc35, hQ35, l35, y35, z35⟩, st35⟩ := X34.virtualBack hx (y := (⟨"com/example/holdback/holdback/ring/Stamp", "equals", "(Ljava/lang/Object;)Z"⟩ : MethodName)) (z := (⟨"com/example/holdback/holdback/ring/Stamp", "equals", "(Ljava/lang/Object;)Z"⟩ : MethodName)) hown (mvT hZ (hw _ (List.mem_of_getElem? (i := 26) rfl))) (mvT hZ (hw _ (List.mem_of_getElem? (i := 27) rfl))) (notFace_of_selects (args := #[]) (mvT hZ (hw _ (List.mem_of_getElem? (i := 29) rfl)))) (mvT hZ (hw _ (List.mem_of_getElem? (i := 29) rfl))) (mvT hZ (hw _ (List.mem_of_getElem? (i := 28) rfl))) (by decide) (backOf (W := 0) (rmEqS l Z a0 hw [] b6 b6 t1 o1 t1 o1 T23.heap n0 zl32 F26 F27 F26 F27 (Ins.self F24) F31) hZ (hw _ (List.mem_of_getElem? (i := 30) rfl)) (hw _ (List.mem_of_getElem? (i := 2) rfl)) (by decide) (by decide)) q35a q35c (g := (mkF m 104 #[.val (.long t1), .second, .val (.int o1), .val (.long t2), .second, .val (.int o2), .val (.int md), .val (.long (if (md &&& (1 : Int32)) = (0 : Int32) then t2 else t1)), .second, .val (.int (if (md &&& (2 : Int32)) = (0 : Int32) then o2 else o1)), .val (.ref b6), .val (.ref b12), .val (.int (if (if (md &&& (1 : Int32)) = (0 : Int32) then t2 else t1) = t1 then (if (if (md &&& (2 : Int32)) = (0 : Int32) then o2 else o1) = o1 then (1 : Int32) else (0 : Int32)) else (0 : Int32))), .val .null, .val (.ref b_23), .val (.int (if (if (md &&& (1 : Int32)) = (0 : Int32) then t2 else t1) = t1 ∧ (if (md &&& (2 : Int32)) = (0 : Int32) then o2 else o1) = o1 then (1 : Int32) else (0 : Int32))), .val (.int (if t1 = (if (md &&& (1 : Int32)) = (0 : Int32) then t2 else t1) ∧ o1 = (if (md &&& (2 : Int32)) = (0 : Int32) then o2 else o1) then (1 : Int32) else (0 : Int32))), .unset, .unset, .unset] [(.ref b6), (.ref b6)])) rfl (by rw [hml]; rfl) (Steps.refl _) (argsL := [(.ref b6)]) (rest := []) (lenOf pd__28Ljava_2flang_2fObject_3b_29Z rfl) rfl (by show 2 * 0 + _ ≤ _; exact Nat.le_of_eq rfl) (hb hby at_104) (fun _ _ => ⟨rfl, e34, (by decide : 3 + 0 ≤ _), (by decide : 5 + 0 ≤ _)⟩)
  dsimp only [Pt.U, Pt.locs, Pt.cells, Pt.slots] at X35 l35 y35 z35 st35 hQ35
  subst l35 y35 z35
  obtain ⟨rfl, Nq35, e35⟩ := hQ35
  have N35 := Fr.app N34 Nq35
  refine own_goT st35 ?_
  show ∃ t o, Steps p.tables e below (T35.setTop (mkF m 107 #[.val (.long t1), .second, .val (.int o1), .val (.long t2), .second, .val (.int o2), .val (.int md), .val (.long (if (md &&& (1 : Int32)) = (0 : Int32) then t2 else t1)), .second, .val (.int (if (md &&& (2 : Int32)) = (0 : Int32) then o2 else o1)), .val (.ref b6), .val (.ref b12), .val (.int (if (if (md &&& (1 : Int32)) = (0 : Int32) then t2 else t1) = t1 then (if (if (md &&& (2 : Int32)) = (0 : Int32) then o2 else o1) = o1 then (1 : Int32) else (0 : Int32)) else (0 : Int32))), .val .null, .val (.ref b_23), .val (.int (if (if (md &&& (1 : Int32)) = (0 : Int32) then t2 else t1) = t1 ∧ (if (md &&& (2 : Int32)) = (0 : Int32) then o2 else o1) = o1 then (1 : Int32) else (0 : Int32))), .val (.int (if t1 = (if (md &&& (1 : Int32)) = (0 : Int32) then t2 else t1) ∧ o1 = (if (md &&& (2 : Int32)) = (0 : Int32) then o2 else o1) then (1 : Int32) else (0 : Int32))), .unset, .unset, .unset] [(.int (if t1 = t1 ∧ o1 = o1 then (1 : Int32) else (0 : Int32)))])) t ∧ _
  refine own_go (fun _ => XS.istore X35.here hx rfl (hb hby at_107) rfl (l' := #[.val (.long t1), .second, .val (.int o1), .val (.long t2), .second, .val (.int o2), .val (.int md), .val (.long (if (md &&& (1 : Int32)) = (0 : Int32) then t2 else t1)), .second, .val (.int (if (md &&& (2 : Int32)) = (0 : Int32) then o2 else o1)), .val (.ref b6), .val (.ref b12), .val (.int (if (if (md &&& (1 : Int32)) = (0 : Int32) then t2 else t1) = t1 then (if (if (md &&& (2 : Int32)) = (0 : Int32) then o2 else o1) = o1 then (1 : Int32) else (0 : Int32)) else (0 : Int32))), .val .null, .val (.ref b_23), .val (.int (if (if (md &&& (1 : Int32)) = (0 : Int32) then t2 else t1) = t1 ∧ (if (md &&& (2 : Int32)) = (0 : Int32) then o2 else o1) = o1 then (1 : Int32) else (0 : Int32))), .val (.int (if t1 = (if (md &&& (1 : Int32)) = (0 : Int32) then t2 else t1) ∧ o1 = (if (md &&& (2 : Int32)) = (0 : Int32) then o2 else o1) then (1 : Int32) else (0 : Int32))), .val (.int (if t1 = t1 ∧ o1 = o1 then (1 : Int32) else (0 : Int32))), .unset, .unset]) rfl) ?_
  show ∃ t o, Steps p.tables e below (T35.setTop (mkF m 109 #[.val (.long t1), .second, .val (.int o1), .val (.long t2), .second, .val (.int o2), .val (.int md), .val (.long (if (md &&& (1 : Int32)) = (0 : Int32) then t2 else t1)), .second, .val (.int (if (md &&& (2 : Int32)) = (0 : Int32) then o2 else o1)), .val (.ref b6), .val (.ref b12), .val (.int (if (if (md &&& (1 : Int32)) = (0 : Int32) then t2 else t1) = t1 then (if (if (md &&& (2 : Int32)) = (0 : Int32) then o2 else o1) = o1 then (1 : Int32) else (0 : Int32)) else (0 : Int32))), .val .null, .val (.ref b_23), .val (.int (if (if (md &&& (1 : Int32)) = (0 : Int32) then t2 else t1) = t1 ∧ (if (md &&& (2 : Int32)) = (0 : Int32) then o2 else o1) = o1 then (1 : Int32) else (0 : Int32))), .val (.int (if t1 = (if (md &&& (1 : Int32)) = (0 : Int32) then t2 else t1) ∧ o1 = (if (md &&& (2 : Int32)) = (0 : Int32) then o2 else o1) then (1 : Int32) else (0 : Int32))), .val (.int (if t1 = t1 ∧ o1 = o1 then (1 : Int32) else (0 : Int32))), .unset, .unset] [])) t ∧ _
  refine own_go (fun _ => XS.aload X35.here hx rfl (hb hby at_109) rfl rfl) ?_
  show ∃ t o, Steps p.tables e below (T35.setTop (mkF m 111 #[.val (.long t1), .second, .val (.int o1), .val (.long t2), .second, .val (.int o2), .val (.int md), .val (.long (if (md &&& (1 : Int32)) = (0 : Int32) then t2 else t1)), .second, .val (.int (if (md &&& (2 : Int32)) = (0 : Int32) then o2 else o1)), .val (.ref b6), .val (.ref b12), .val (.int (if (if (md &&& (1 : Int32)) = (0 : Int32) then t2 else t1) = t1 then (if (if (md &&& (2 : Int32)) = (0 : Int32) then o2 else o1) = o1 then (1 : Int32) else (0 : Int32)) else (0 : Int32))), .val .null, .val (.ref b_23), .val (.int (if (if (md &&& (1 : Int32)) = (0 : Int32) then t2 else t1) = t1 ∧ (if (md &&& (2 : Int32)) = (0 : Int32) then o2 else o1) = o1 then (1 : Int32) else (0 : Int32))), .val (.int (if t1 = (if (md &&& (1 : Int32)) = (0 : Int32) then t2 else t1) ∧ o1 = (if (md &&& (2 : Int32)) = (0 : Int32) then o2 else o1) then (1 : Int32) else (0 : Int32))), .val (.int (if t1 = t1 ∧ o1 = o1 then (1 : Int32) else (0 : Int32))), .unset, .unset] [(.ref b6)])) t ∧ _
  refine own_go (fun _ => XS.aload X35.here hx rfl (hb hby at_111) rfl rfl) ?_
  show ∃ t o, Steps p.tables e below (T35.setTop (mkF m 113 #[.val (.long t1), .second, .val (.int o1), .val (.long t2), .second, .val (.int o2), .val (.int md), .val (.long (if (md &&& (1 : Int32)) = (0 : Int32) then t2 else t1)), .second, .val (.int (if (md &&& (2 : Int32)) = (0 : Int32) then o2 else o1)), .val (.ref b6), .val (.ref b12), .val (.int (if (if (md &&& (1 : Int32)) = (0 : Int32) then t2 else t1) = t1 then (if (if (md &&& (2 : Int32)) = (0 : Int32) then o2 else o1) = o1 then (1 : Int32) else (0 : Int32)) else (0 : Int32))), .val .null, .val (.ref b_23), .val (.int (if (if (md &&& (1 : Int32)) = (0 : Int32) then t2 else t1) = t1 ∧ (if (md &&& (2 : Int32)) = (0 : Int32) then o2 else o1) = o1 then (1 : Int32) else (0 : Int32))), .val (.int (if t1 = (if (md &&& (1 : Int32)) = (0 : Int32) then t2 else t1) ∧ o1 = (if (md &&& (2 : Int32)) = (0 : Int32) then o2 else o1) then (1 : Int32) else (0 : Int32))), .val (.int (if t1 = t1 ∧ o1 = o1 then (1 : Int32) else (0 : Int32))), .unset, .unset] [.null, (.ref b6)])) t ∧ _
  obtain ⟨cq36, kq36, q36a, q36b, q36c⟩ := isOf hZ e35 F24
  obtain ⟨_, _, ⟨T36, L36, k36, n36⟩, -, X36, ⟨Lc36, hQ36, l36, y36, z36⟩, st36⟩ := X35.virtualBack hx (y := (⟨"com/example/holdback/holdback/ring/Stamp", "equals", "(Ljava/lang/Object;)Z"⟩ : MethodName)) (z := (⟨"com/example/holdback/holdback/ring/Stamp", "equals", "(Ljava/lang/Object;)Z"⟩ : MethodName)) hown (mvT hZ (hw _ (List.mem_of_getElem? (i := 26) rfl))) (mvT hZ (hw _ (List.mem_of_getElem? (i := 27) rfl))) (notFace_of_selects (args := #[]) (mvT hZ (hw _ (List.mem_of_getElem? (i := 29) rfl)))) (mvT hZ (hw _ (List.mem_of_getElem? (i := 29) rfl))) (mvT hZ (hw _ (List.mem_of_getElem? (i := 28) rfl))) (by decide) (backOf (W := 0) (rmEqN l Z a0 hw [] b6 T23.heap n0 zl32 F31) hZ (hw _ (List.mem_of_getElem? (i := 30) rfl)) (hw _ (List.mem_of_getElem? (i := 2) rfl)) (by decide) (by decide)) q36a q36c (g := (mkF m 113 #[.val (.long t1), .second, .val (.int o1), .val (.long t2), .second, .val (.int o2), .val (.int md), .val (.long (if (md &&& (1 : Int32)) = (0 : Int32) then t2 else t1)), .second, .val (.int (if (md &&& (2 : Int32)) = (0 : Int32) then o2 else o1)), .val (.ref b6), .val (.ref b12), .val (.int (if (if (md &&& (1 : Int32)) = (0 : Int32) then t2 else t1) = t1 then (if (if (md &&& (2 : Int32)) = (0 : Int32) then o2 else o1) = o1 then (1 : Int32) else (0 : Int32)) else (0 : Int32))), .val .null, .val (.ref b_23), .val (.int (if (if (md &&& (1 : Int32)) = (0 : Int32) then t2 else t1) = t1 ∧ (if (md &&& (2 : Int32)) = (0 : Int32) then o2 else o1) = o1 then (1 : Int32) else (0 : Int32))), .val (.int (if t1 = (if (md &&& (1 : Int32)) = (0 : Int32) then t2 else t1) ∧ o1 = (if (md &&& (2 : Int32)) = (0 : Int32) then o2 else o1) then (1 : Int32) else (0 : Int32))), .val (.int (if t1 = t1 ∧ o1 = o1 then (1 : Int32) else (0 : Int32))), .unset, .unset] [.null, (.ref b6)])) rfl (by rw [hml]; rfl) (Steps.refl _) (argsL := [.null]) (rest := []) (lenOf pd__28Ljava_2flang_2fObject_3b_29Z rfl) rfl (by show 2 * 0 + _ ≤ _; exact Nat.le_of_eq rfl) (hb hby at_113) (fun _ _ => ⟨rfl, e35, (by decide : 3 + 0 ≤ _), (by decide : 5 + 0 ≤ _)⟩)
  dsimp only [Pt.U, Pt.locs, Pt.cells, Pt.slots] at X36 l36 y36 z36 st36 hQ36
  subst l36 y36 z36
  obtain ⟨rfl, Nq36, e36⟩ := hQ36
  have N36 := Fr.app N35 Nq36
  refine own_goT st36 ?_
  show ∃ t o, Steps p.tables e below (T36.setTop (mkF m 116 #[.val (.long t1), .second, .val (.int o1), .val (.long t2), .second, .val (.int o2), .val (.int md), .val (.long (if (md &&& (1 : Int32)) = (0 : Int32) then t2 else t1)), .second, .val (.int (if (md &&& (2 : Int32)) = (0 : Int32) then o2 else o1)), .val (.ref b6), .val (.ref b12), .val (.int (if (if (md &&& (1 : Int32)) = (0 : Int32) then t2 else t1) = t1 then (if (if (md &&& (2 : Int32)) = (0 : Int32) then o2 else o1) = o1 then (1 : Int32) else (0 : Int32)) else (0 : Int32))), .val .null, .val (.ref b_23), .val (.int (if (if (md &&& (1 : Int32)) = (0 : Int32) then t2 else t1) = t1 ∧ (if (md &&& (2 : Int32)) = (0 : Int32) then o2 else o1) = o1 then (1 : Int32) else (0 : Int32))), .val (.int (if t1 = (if (md &&& (1 : Int32)) = (0 : Int32) then t2 else t1) ∧ o1 = (if (md &&& (2 : Int32)) = (0 : Int32) then o2 else o1) then (1 : Int32) else (0 : Int32))), .val (.int (if t1 = t1 ∧ o1 = o1 then (1 : Int32) else (0 : Int32))), .unset, .unset] [(.int (0 : Int32))])) t ∧ _
  refine own_go (fun _ => XS.istore X36.here hx rfl (hb hby at_116) rfl (l' := #[.val (.long t1), .second, .val (.int o1), .val (.long t2), .second, .val (.int o2), .val (.int md), .val (.long (if (md &&& (1 : Int32)) = (0 : Int32) then t2 else t1)), .second, .val (.int (if (md &&& (2 : Int32)) = (0 : Int32) then o2 else o1)), .val (.ref b6), .val (.ref b12), .val (.int (if (if (md &&& (1 : Int32)) = (0 : Int32) then t2 else t1) = t1 then (if (if (md &&& (2 : Int32)) = (0 : Int32) then o2 else o1) = o1 then (1 : Int32) else (0 : Int32)) else (0 : Int32))), .val .null, .val (.ref b_23), .val (.int (if (if (md &&& (1 : Int32)) = (0 : Int32) then t2 else t1) = t1 ∧ (if (md &&& (2 : Int32)) = (0 : Int32) then o2 else o1) = o1 then (1 : Int32) else (0 : Int32))), .val (.int (if t1 = (if (md &&& (1 : Int32)) = (0 : Int32) then t2 else t1) ∧ o1 = (if (md &&& (2 : Int32)) = (0 : Int32) then o2 else o1) then (1 : Int32) else (0 : Int32))), .val (.int (if t1 = t1 ∧ o1 = o1 then (1 : Int32) else (0 : Int32))), .val (.int (0 : Int32)), .unset]) rfl) ?_
  show ∃ t o, Steps p.tables e below (T36.setTop (mkF m 118 #[.val (.long t1), .second, .val (.int o1), .val (.long t2), .second, .val (.int o2), .val (.int md), .val (.long (if (md &&& (1 : Int32)) = (0 : Int32) then t2 else t1)), .second, .val (.int (if (md &&& (2 : Int32)) = (0 : Int32) then o2 else o1)), .val (.ref b6), .val (.ref b12), .val (.int (if (if (md &&& (1 : Int32)) = (0 : Int32) then t2 else t1) = t1 then (if (if (md &&& (2 : Int32)) = (0 : Int32) then o2 else o1) = o1 then (1 : Int32) else (0 : Int32)) else (0 : Int32))), .val .null, .val (.ref b_23), .val (.int (if (if (md &&& (1 : Int32)) = (0 : Int32) then t2 else t1) = t1 ∧ (if (md &&& (2 : Int32)) = (0 : Int32) then o2 else o1) = o1 then (1 : Int32) else (0 : Int32))), .val (.int (if t1 = (if (md &&& (1 : Int32)) = (0 : Int32) then t2 else t1) ∧ o1 = (if (md &&& (2 : Int32)) = (0 : Int32) then o2 else o1) then (1 : Int32) else (0 : Int32))), .val (.int (if t1 = t1 ∧ o1 = o1 then (1 : Int32) else (0 : Int32))), .val (.int (0 : Int32)), .unset] [])) t ∧ _
  refine own_go (fun _ => XS.aload X36.here hx rfl (hb hby at_118) rfl rfl) ?_
  show ∃ t o, Steps p.tables e below (T36.setTop (mkF m 120 #[.val (.long t1), .second, .val (.int o1), .val (.long t2), .second, .val (.int o2), .val (.int md), .val (.long (if (md &&& (1 : Int32)) = (0 : Int32) then t2 else t1)), .second, .val (.int (if (md &&& (2 : Int32)) = (0 : Int32) then o2 else o1)), .val (.ref b6), .val (.ref b12), .val (.int (if (if (md &&& (1 : Int32)) = (0 : Int32) then t2 else t1) = t1 then (if (if (md &&& (2 : Int32)) = (0 : Int32) then o2 else o1) = o1 then (1 : Int32) else (0 : Int32)) else (0 : Int32))), .val .null, .val (.ref b_23), .val (.int (if (if (md &&& (1 : Int32)) = (0 : Int32) then t2 else t1) = t1 ∧ (if (md &&& (2 : Int32)) = (0 : Int32) then o2 else o1) = o1 then (1 : Int32) else (0 : Int32))), .val (.int (if t1 = (if (md &&& (1 : Int32)) = (0 : Int32) then t2 else t1) ∧ o1 = (if (md &&& (2 : Int32)) = (0 : Int32) then o2 else o1) then (1 : Int32) else (0 : Int32))), .val (.int (if t1 = t1 ∧ o1 = o1 then (1 : Int32) else (0 : Int32))), .val (.int (0 : Int32)), .unset] [(.ref b6)])) t ∧ _
  refine own_go (fun _ => XS.aload X36.here hx rfl (hb hby at_120) rfl rfl) ?_
  show ∃ t o, Steps p.tables e below (T36.setTop (mkF m 122 #[.val (.long t1), .second, .val (.int o1), .val (.long t2), .second, .val (.int o2), .val (.int md), .val (.long (if (md &&& (1 : Int32)) = (0 : Int32) then t2 else t1)), .second, .val (.int (if (md &&& (2 : Int32)) = (0 : Int32) then o2 else o1)), .val (.ref b6), .val (.ref b12), .val (.int (if (if (md &&& (1 : Int32)) = (0 : Int32) then t2 else t1) = t1 then (if (if (md &&& (2 : Int32)) = (0 : Int32) then o2 else o1) = o1 then (1 : Int32) else (0 : Int32)) else (0 : Int32))), .val .null, .val (.ref b_23), .val (.int (if (if (md &&& (1 : Int32)) = (0 : Int32) then t2 else t1) = t1 ∧ (if (md &&& (2 : Int32)) = (0 : Int32) then o2 else o1) = o1 then (1 : Int32) else (0 : Int32))), .val (.int (if t1 = (if (md &&& (1 : Int32)) = (0 : Int32) then t2 else t1) ∧ o1 = (if (md &&& (2 : Int32)) = (0 : Int32) then o2 else o1) then (1 : Int32) else (0 : Int32))), .val (.int (if t1 = t1 ∧ o1 = o1 then (1 : Int32) else (0 : Int32))), .val (.int (0 : Int32)), .unset] [(.ref b_23), (.ref b6)])) t ∧ _
  obtain ⟨cq37, kq37, q37a, q37b, q37c⟩ := isOf hZ e36 F24
  obtain ⟨_, _, ⟨T37, L37, k37, n37⟩, -, X37, ⟨Lc37, hQ37, l37, y37, z37⟩, st37⟩ := X36.virtualBack hx (y := (⟨"com/example/holdback/holdback/ring/Stamp", "equals", "(Ljava/lang/Object;)Z"⟩ : MethodName)) (z := (⟨"com/example/holdback/holdback/ring/Stamp", "equals", "(Ljava/lang/Object;)Z"⟩ : MethodName)) hown (mvT hZ (hw _ (List.mem_of_getElem? (i := 26) rfl))) (mvT hZ (hw _ (List.mem_of_getElem? (i := 27) rfl))) (notFace_of_selects (args := #[]) (mvT hZ (hw _ (List.mem_of_getElem? (i := 29) rfl)))) (mvT hZ (hw _ (List.mem_of_getElem? (i := 29) rfl))) (mvT hZ (hw _ (List.mem_of_getElem? (i := 28) rfl))) (by decide) (backOf (W := 0) (rmEqL l Z a0 hw [] b6 b_23 T23.heap n0 zl32 G23_0 F31) hZ (hw _ (List.mem_of_getElem? (i := 30) rfl)) (hw _ (List.mem_of_getElem? (i := 2) rfl)) (by decide) (by decide)) q37a q37c (g := (mkF m 122 #[.val (.long t1), .second, .val (.int o1), .val (.long t2), .second, .val (.int o2), .val (.int md), .val (.long (if (md &&& (1 : Int32)) = (0 : Int32) then t2 else t1)), .second, .val (.int (if (md &&& (2 : Int32)) = (0 : Int32) then o2 else o1)), .val (.ref b6), .val (.ref b12), .val (.int (if (if (md &&& (1 : Int32)) = (0 : Int32) then t2 else t1) = t1 then (if (if (md &&& (2 : Int32)) = (0 : Int32) then o2 else o1) = o1 then (1 : Int32) else (0 : Int32)) else (0 : Int32))), .val .null, .val (.ref b_23), .val (.int (if (if (md &&& (1 : Int32)) = (0 : Int32) then t2 else t1) = t1 ∧ (if (md &&& (2 : Int32)) = (0 : Int32) then o2 else o1) = o1 then (1 : Int32) else (0 : Int32))), .val (.int (if t1 = (if (md &&& (1 : Int32)) = (0 : Int32) then t2 else t1) ∧ o1 = (if (md &&& (2 : Int32)) = (0 : Int32) then o2 else o1) then (1 : Int32) else (0 : Int32))), .val (.int (if t1 = t1 ∧ o1 = o1 then (1 : Int32) else (0 : Int32))), .val (.int (0 : Int32)), .unset] [(.ref b_23), (.ref b6)])) rfl (by rw [hml]; rfl) (Steps.refl _) (argsL := [(.ref b_23)]) (rest := []) (lenOf pd__28Ljava_2flang_2fObject_3b_29Z rfl) rfl (by show 2 * 0 + _ ≤ _; exact Nat.le_of_eq rfl) (hb hby at_122) (fun _ _ => ⟨rfl, e36, (by decide : 3 + 0 ≤ _), (by decide : 5 + 0 ≤ _)⟩)
  dsimp only [Pt.U, Pt.locs, Pt.cells, Pt.slots] at X37 l37 y37 z37 st37 hQ37
  subst l37 y37 z37
  obtain ⟨rfl, Nq37, e37⟩ := hQ37
  have N37 := Fr.app N36 Nq37
  refine own_goT st37 ?_
  show ∃ t o, Steps p.tables e below (T37.setTop (mkF m 125 #[.val (.long t1), .second, .val (.int o1), .val (.long t2), .second, .val (.int o2), .val (.int md), .val (.long (if (md &&& (1 : Int32)) = (0 : Int32) then t2 else t1)), .second, .val (.int (if (md &&& (2 : Int32)) = (0 : Int32) then o2 else o1)), .val (.ref b6), .val (.ref b12), .val (.int (if (if (md &&& (1 : Int32)) = (0 : Int32) then t2 else t1) = t1 then (if (if (md &&& (2 : Int32)) = (0 : Int32) then o2 else o1) = o1 then (1 : Int32) else (0 : Int32)) else (0 : Int32))), .val .null, .val (.ref b_23), .val (.int (if (if (md &&& (1 : Int32)) = (0 : Int32) then t2 else t1) = t1 ∧ (if (md &&& (2 : Int32)) = (0 : Int32) then o2 else o1) = o1 then (1 : Int32) else (0 : Int32))), .val (.int (if t1 = (if (md &&& (1 : Int32)) = (0 : Int32) then t2 else t1) ∧ o1 = (if (md &&& (2 : Int32)) = (0 : Int32) then o2 else o1) then (1 : Int32) else (0 : Int32))), .val (.int (if t1 = t1 ∧ o1 = o1 then (1 : Int32) else (0 : Int32))), .val (.int (0 : Int32)), .unset] [(.int (0 : Int32))])) t ∧ _
  refine own_go (fun _ => XS.istore X37.here hx rfl (hb hby at_125) rfl (l' := #[.val (.long t1), .second, .val (.int o1), .val (.long t2), .second, .val (.int o2), .val (.int md), .val (.long (if (md &&& (1 : Int32)) = (0 : Int32) then t2 else t1)), .second, .val (.int (if (md &&& (2 : Int32)) = (0 : Int32) then o2 else o1)), .val (.ref b6), .val (.ref b12), .val (.int (if (if (md &&& (1 : Int32)) = (0 : Int32) then t2 else t1) = t1 then (if (if (md &&& (2 : Int32)) = (0 : Int32) then o2 else o1) = o1 then (1 : Int32) else (0 : Int32)) else (0 : Int32))), .val .null, .val (.ref b_23), .val (.int (if (if (md &&& (1 : Int32)) = (0 : Int32) then t2 else t1) = t1 ∧ (if (md &&& (2 : Int32)) = (0 : Int32) then o2 else o1) = o1 then (1 : Int32) else (0 : Int32))), .val (.int (if t1 = (if (md &&& (1 : Int32)) = (0 : Int32) then t2 else t1) ∧ o1 = (if (md &&& (2 : Int32)) = (0 : Int32) then o2 else o1) then (1 : Int32) else (0 : Int32))), .val (.int (if t1 = t1 ∧ o1 = o1 then (1 : Int32) else (0 : Int32))), .val (.int (0 : Int32)), .val (.int (0 : Int32))]) rfl) ?_
  show ∃ t o, Steps p.tables e below (T37.setTop (mkF m 127 #[.val (.long t1), .second, .val (.int o1), .val (.long t2), .second, .val (.int o2), .val (.int md), .val (.long (if (md &&& (1 : Int32)) = (0 : Int32) then t2 else t1)), .second, .val (.int (if (md &&& (2 : Int32)) = (0 : Int32) then o2 else o1)), .val (.ref b6), .val (.ref b12), .val (.int (if (if (md &&& (1 : Int32)) = (0 : Int32) then t2 else t1) = t1 then (if (if (md &&& (2 : Int32)) = (0 : Int32) then o2 else o1) = o1 then (1 : Int32) else (0 : Int32)) else (0 : Int32))), .val .null, .val (.ref b_23), .val (.int (if (if (md &&& (1 : Int32)) = (0 : Int32) then t2 else t1) = t1 ∧ (if (md &&& (2 : Int32)) = (0 : Int32) then o2 else o1) = o1 then (1 : Int32) else (0 : Int32))), .val (.int (if t1 = (if (md &&& (1 : Int32)) = (0 : Int32) then t2 else t1) ∧ o1 = (if (md &&& (2 : Int32)) = (0 : Int32) then o2 else o1) then (1 : Int32) else (0 : Int32))), .val (.int (if t1 = t1 ∧ o1 = o1 then (1 : Int32) else (0 : Int32))), .val (.int (0 : Int32)), .val (.int (0 : Int32))] [])) t ∧ _
  refine own_go (fun _ => XS.iload X37.here hx rfl (hb hby at_127) rfl) ?_
  show ∃ t o, Steps p.tables e below (T37.setTop (mkF m 129 #[.val (.long t1), .second, .val (.int o1), .val (.long t2), .second, .val (.int o2), .val (.int md), .val (.long (if (md &&& (1 : Int32)) = (0 : Int32) then t2 else t1)), .second, .val (.int (if (md &&& (2 : Int32)) = (0 : Int32) then o2 else o1)), .val (.ref b6), .val (.ref b12), .val (.int (if (if (md &&& (1 : Int32)) = (0 : Int32) then t2 else t1) = t1 then (if (if (md &&& (2 : Int32)) = (0 : Int32) then o2 else o1) = o1 then (1 : Int32) else (0 : Int32)) else (0 : Int32))), .val .null, .val (.ref b_23), .val (.int (if (if (md &&& (1 : Int32)) = (0 : Int32) then t2 else t1) = t1 ∧ (if (md &&& (2 : Int32)) = (0 : Int32) then o2 else o1) = o1 then (1 : Int32) else (0 : Int32))), .val (.int (if t1 = (if (md &&& (1 : Int32)) = (0 : Int32) then t2 else t1) ∧ o1 = (if (md &&& (2 : Int32)) = (0 : Int32) then o2 else o1) then (1 : Int32) else (0 : Int32))), .val (.int (if t1 = t1 ∧ o1 = o1 then (1 : Int32) else (0 : Int32))), .val (.int (0 : Int32)), .val (.int (0 : Int32))] [(.int (if (if (md &&& (1 : Int32)) = (0 : Int32) then t2 else t1) = t1 ∧ (if (md &&& (2 : Int32)) = (0 : Int32) then o2 else o1) = o1 then (1 : Int32) else (0 : Int32)))])) t ∧ _
  refine own_go (fun _ => XS.iload X37.here hx rfl (hb hby at_129) rfl) ?_
  show ∃ t o, Steps p.tables e below (T37.setTop (mkF m 131 #[.val (.long t1), .second, .val (.int o1), .val (.long t2), .second, .val (.int o2), .val (.int md), .val (.long (if (md &&& (1 : Int32)) = (0 : Int32) then t2 else t1)), .second, .val (.int (if (md &&& (2 : Int32)) = (0 : Int32) then o2 else o1)), .val (.ref b6), .val (.ref b12), .val (.int (if (if (md &&& (1 : Int32)) = (0 : Int32) then t2 else t1) = t1 then (if (if (md &&& (2 : Int32)) = (0 : Int32) then o2 else o1) = o1 then (1 : Int32) else (0 : Int32)) else (0 : Int32))), .val .null, .val (.ref b_23), .val (.int (if (if (md &&& (1 : Int32)) = (0 : Int32) then t2 else t1) = t1 ∧ (if (md &&& (2 : Int32)) = (0 : Int32) then o2 else o1) = o1 then (1 : Int32) else (0 : Int32))), .val (.int (if t1 = (if (md &&& (1 : Int32)) = (0 : Int32) then t2 else t1) ∧ o1 = (if (md &&& (2 : Int32)) = (0 : Int32) then o2 else o1) then (1 : Int32) else (0 : Int32))), .val (.int (if t1 = t1 ∧ o1 = o1 then (1 : Int32) else (0 : Int32))), .val (.int (0 : Int32)), .val (.int (0 : Int32))] [(.int (if (if (md &&& (1 : Int32)) = (0 : Int32) then t2 else t1) = t1 then (if (if (md &&& (2 : Int32)) = (0 : Int32) then o2 else o1) = o1 then (1 : Int32) else (0 : Int32)) else (0 : Int32))), (.int (if (if (md &&& (1 : Int32)) = (0 : Int32) then t2 else t1) = t1 ∧ (if (md &&& (2 : Int32)) = (0 : Int32) then o2 else o1) = o1 then (1 : Int32) else (0 : Int32)))])) t ∧ _
  have hd38 : (if (if (md &&& (1 : Int32)) = (0 : Int32) then t2 else t1) = t1 ∧ (if (md &&& (2 : Int32)) = (0 : Int32) then o2 else o1) = o1 then (1 : Int32) else (0 : Int32)) = (if (if (md &&& (1 : Int32)) = (0 : Int32) then t2 else t1) = t1 then (if (if (md &&& (2 : Int32)) = (0 : Int32) then o2 else o1) = o1 then (1 : Int32) else (0 : Int32)) else (0 : Int32)) := own_e1 _ _
  refine own_go (fun _ => XS.icmpNo X37.here hx rfl (hb hby at_131) rfl (teq hd38).2) ?_
  show ∃ t o, Steps p.tables e below (T37.setTop (mkF m 134 #[.val (.long t1), .second, .val (.int o1), .val (.long t2), .second, .val (.int o2), .val (.int md), .val (.long (if (md &&& (1 : Int32)) = (0 : Int32) then t2 else t1)), .second, .val (.int (if (md &&& (2 : Int32)) = (0 : Int32) then o2 else o1)), .val (.ref b6), .val (.ref b12), .val (.int (if (if (md &&& (1 : Int32)) = (0 : Int32) then t2 else t1) = t1 then (if (if (md &&& (2 : Int32)) = (0 : Int32) then o2 else o1) = o1 then (1 : Int32) else (0 : Int32)) else (0 : Int32))), .val .null, .val (.ref b_23), .val (.int (if (if (md &&& (1 : Int32)) = (0 : Int32) then t2 else t1) = t1 ∧ (if (md &&& (2 : Int32)) = (0 : Int32) then o2 else o1) = o1 then (1 : Int32) else (0 : Int32))), .val (.int (if t1 = (if (md &&& (1 : Int32)) = (0 : Int32) then t2 else t1) ∧ o1 = (if (md &&& (2 : Int32)) = (0 : Int32) then o2 else o1) then (1 : Int32) else (0 : Int32))), .val (.int (if t1 = t1 ∧ o1 = o1 then (1 : Int32) else (0 : Int32))), .val (.int (0 : Int32)), .val (.int (0 : Int32))] [])) t ∧ _
  refine own_go (fun _ => XS.iload X37.here hx rfl (hb hby at_134) rfl) ?_
  show ∃ t o, Steps p.tables e below (T37.setTop (mkF m 136 #[.val (.long t1), .second, .val (.int o1), .val (.long t2), .second, .val (.int o2), .val (.int md), .val (.long (if (md &&& (1 : Int32)) = (0 : Int32) then t2 else t1)), .second, .val (.int (if (md &&& (2 : Int32)) = (0 : Int32) then o2 else o1)), .val (.ref b6), .val (.ref b12), .val (.int (if (if (md &&& (1 : Int32)) = (0 : Int32) then t2 else t1) = t1 then (if (if (md &&& (2 : Int32)) = (0 : Int32) then o2 else o1) = o1 then (1 : Int32) else (0 : Int32)) else (0 : Int32))), .val .null, .val (.ref b_23), .val (.int (if (if (md &&& (1 : Int32)) = (0 : Int32) then t2 else t1) = t1 ∧ (if (md &&& (2 : Int32)) = (0 : Int32) then o2 else o1) = o1 then (1 : Int32) else (0 : Int32))), .val (.int (if t1 = (if (md &&& (1 : Int32)) = (0 : Int32) then t2 else t1) ∧ o1 = (if (md &&& (2 : Int32)) = (0 : Int32) then o2 else o1) then (1 : Int32) else (0 : Int32))), .val (.int (if t1 = t1 ∧ o1 = o1 then (1 : Int32) else (0 : Int32))), .val (.int (0 : Int32)), .val (.int (0 : Int32))] [(.int (if t1 = (if (md &&& (1 : Int32)) = (0 : Int32) then t2 else t1) ∧ o1 = (if (md &&& (2 : Int32)) = (0 : Int32) then o2 else o1) then (1 : Int32) else (0 : Int32)))])) t ∧ _
  refine own_go (fun _ => XS.iload X37.here hx rfl (hb hby at_136) rfl) ?_
  show ∃ t o, Steps p.tables e below (T37.setTop (mkF m 138 #[.val (.long t1), .second, .val (.int o1), .val (.long t2), .second, .val (.int o2), .val (.int md), .val (.long (if (md &&& (1 : Int32)) = (0 : Int32) then t2 else t1)), .second, .val (.int (if (md &&& (2 : Int32)) = (0 : Int32) then o2 else o1)), .val (.ref b6), .val (.ref b12), .val (.int (if (if (md &&& (1 : Int32)) = (0 : Int32) then t2 else t1) = t1 then (if (if (md &&& (2 : Int32)) = (0 : Int32) then o2 else o1) = o1 then (1 : Int32) else (0 : Int32)) else (0 : Int32))), .val .null, .val (.ref b_23), .val (.int (if (if (md &&& (1 : Int32)) = (0 : Int32) then t2 else t1) = t1 ∧ (if (md &&& (2 : Int32)) = (0 : Int32) then o2 else o1) = o1 then (1 : Int32) else (0 : Int32))), .val (.int (if t1 = (if (md &&& (1 : Int32)) = (0 : Int32) then t2 else t1) ∧ o1 = (if (md &&& (2 : Int32)) = (0 : Int32) then o2 else o1) then (1 : Int32) else (0 : Int32))), .val (.int (if t1 = t1 ∧ o1 = o1 then (1 : Int32) else (0 : Int32))), .val (.int (0 : Int32)), .val (.int (0 : Int32))] [(.int (if (if (md &&& (1 : Int32)) = (0 : Int32) then t2 else t1) = t1 then (if (if (md &&& (2 : Int32)) = (0 : Int32) then o2 else o1) = o1 then (1 : Int32) else (0 : Int32)) else (0 : Int32))), (.int (if t1 = (if (md &&& (1 : Int32)) = (0 : Int32) then t2 else t1) ∧ o1 = (if (md &&& (2 : Int32)) = (0 : Int32) then o2 else o1) then (1 : Int32) else (0 : Int32)))])) t ∧ _
  have hd39 : (if t1 = (if (md &&& (1 : Int32)) = (0 : Int32) then t2 else t1) ∧ o1 = (if (md &&& (2 : Int32)) = (0 : Int32) then o2 else o1) then (1 : Int32) else (0 : Int32)) = (if (if (md &&& (1 : Int32)) = (0 : Int32) then t2 else t1) = t1 then (if (if (md &&& (2 : Int32)) = (0 : Int32) then o2 else o1) = o1 then (1 : Int32) else (0 : Int32)) else (0 : Int32)) := own_e2 _ _ _ _
  refine own_go (fun _ => XS.icmpNo X37.here hx rfl (hb hby at_138) rfl (teq hd39).2) ?_
  show ∃ t o, Steps p.tables e below (T37.setTop (mkF m 141 #[.val (.long t1), .second, .val (.int o1), .val (.long t2), .second, .val (.int o2), .val (.int md), .val (.long (if (md &&& (1 : Int32)) = (0 : Int32) then t2 else t1)), .second, .val (.int (if (md &&& (2 : Int32)) = (0 : Int32) then o2 else o1)), .val (.ref b6), .val (.ref b12), .val (.int (if (if (md &&& (1 : Int32)) = (0 : Int32) then t2 else t1) = t1 then (if (if (md &&& (2 : Int32)) = (0 : Int32) then o2 else o1) = o1 then (1 : Int32) else (0 : Int32)) else (0 : Int32))), .val .null, .val (.ref b_23), .val (.int (if (if (md &&& (1 : Int32)) = (0 : Int32) then t2 else t1) = t1 ∧ (if (md &&& (2 : Int32)) = (0 : Int32) then o2 else o1) = o1 then (1 : Int32) else (0 : Int32))), .val (.int (if t1 = (if (md &&& (1 : Int32)) = (0 : Int32) then t2 else t1) ∧ o1 = (if (md &&& (2 : Int32)) = (0 : Int32) then o2 else o1) then (1 : Int32) else (0 : Int32))), .val (.int (if t1 = t1 ∧ o1 = o1 then (1 : Int32) else (0 : Int32))), .val (.int (0 : Int32)), .val (.int (0 : Int32))] [])) t ∧ _
  refine own_go (fun _ => XS.iload X37.here hx rfl (hb hby at_141) rfl) ?_
  show ∃ t o, Steps p.tables e below (T37.setTop (mkF m 143 #[.val (.long t1), .second, .val (.int o1), .val (.long t2), .second, .val (.int o2), .val (.int md), .val (.long (if (md &&& (1 : Int32)) = (0 : Int32) then t2 else t1)), .second, .val (.int (if (md &&& (2 : Int32)) = (0 : Int32) then o2 else o1)), .val (.ref b6), .val (.ref b12), .val (.int (if (if (md &&& (1 : Int32)) = (0 : Int32) then t2 else t1) = t1 then (if (if (md &&& (2 : Int32)) = (0 : Int32) then o2 else o1) = o1 then (1 : Int32) else (0 : Int32)) else (0 : Int32))), .val .null, .val (.ref b_23), .val (.int (if (if (md &&& (1 : Int32)) = (0 : Int32) then t2 else t1) = t1 ∧ (if (md &&& (2 : Int32)) = (0 : Int32) then o2 else o1) = o1 then (1 : Int32) else (0 : Int32))), .val (.int (if t1 = (if (md &&& (1 : Int32)) = (0 : Int32) then t2 else t1) ∧ o1 = (if (md &&& (2 : Int32)) = (0 : Int32) then o2 else o1) then (1 : Int32) else (0 : Int32))), .val (.int (if t1 = t1 ∧ o1 = o1 then (1 : Int32) else (0 : Int32))), .val (.int (0 : Int32)), .val (.int (0 : Int32))] [(.int (if t1 = t1 ∧ o1 = o1 then (1 : Int32) else (0 : Int32)))])) t ∧ _
  have hd40 : ¬ ((if t1 = t1 ∧ o1 = o1 then (1 : Int32) else (0 : Int32)) = (0 : Int32)) := by simp
  refine own_go (fun _ => XS.ifNo X37.here hx rfl (hb hby at_143) rfl ((if0 _ _).trans (feq hd40).1)) ?_
  show ∃ t o, Steps p.tables e below (T37.setTop (mkF m 146 #[.val (.long t1), .second, .val (.int o1), .val (.long t2), .second, .val (.int o2), .val (.int md), .val (.long (if (md &&& (1 : Int32)) = (0 : Int32) then t2 else t1)), .second, .val (.int (if (md &&& (2 : Int32)) = (0 : Int32) then o2 else o1)), .val (.ref b6), .val (.ref b12), .val (.int (if (if (md &&& (1 : Int32)) = (0 : Int32) then t2 else t1) = t1 then (if (if (md &&& (2 : Int32)) = (0 : Int32) then o2 else o1) = o1 then (1 : Int32) else (0 : Int32)) else (0 : Int32))), .val .null, .val (.ref b_23), .val (.int (if (if (md &&& (1 : Int32)) = (0 : Int32) then t2 else t1) = t1 ∧ (if (md &&& (2 : Int32)) = (0 : Int32) then o2 else o1) = o1 then (1 : Int32) else (0 : Int32))), .val (.int (if t1 = (if (md &&& (1 : Int32)) = (0 : Int32) then t2 else t1) ∧ o1 = (if (md &&& (2 : Int32)) = (0 : Int32) then o2 else o1) then (1 : Int32) else (0 : Int32))), .val (.int (if t1 = t1 ∧ o1 = o1 then (1 : Int32) else (0 : Int32))), .val (.int (0 : Int32)), .val (.int (0 : Int32))] [])) t ∧ _
  refine own_go (fun _ => XS.iload X37.here hx rfl (hb hby at_146) rfl) ?_
  show ∃ t o, Steps p.tables e below (T37.setTop (mkF m 148 #[.val (.long t1), .second, .val (.int o1), .val (.long t2), .second, .val (.int o2), .val (.int md), .val (.long (if (md &&& (1 : Int32)) = (0 : Int32) then t2 else t1)), .second, .val (.int (if (md &&& (2 : Int32)) = (0 : Int32) then o2 else o1)), .val (.ref b6), .val (.ref b12), .val (.int (if (if (md &&& (1 : Int32)) = (0 : Int32) then t2 else t1) = t1 then (if (if (md &&& (2 : Int32)) = (0 : Int32) then o2 else o1) = o1 then (1 : Int32) else (0 : Int32)) else (0 : Int32))), .val .null, .val (.ref b_23), .val (.int (if (if (md &&& (1 : Int32)) = (0 : Int32) then t2 else t1) = t1 ∧ (if (md &&& (2 : Int32)) = (0 : Int32) then o2 else o1) = o1 then (1 : Int32) else (0 : Int32))), .val (.int (if t1 = (if (md &&& (1 : Int32)) = (0 : Int32) then t2 else t1) ∧ o1 = (if (md &&& (2 : Int32)) = (0 : Int32) then o2 else o1) then (1 : Int32) else (0 : Int32))), .val (.int (if t1 = t1 ∧ o1 = o1 then (1 : Int32) else (0 : Int32))), .val (.int (0 : Int32)), .val (.int (0 : Int32))] [(.int (0 : Int32))])) t ∧ _
  refine own_go (fun _ => XS.ifNo X37.here hx rfl (hb hby at_148) rfl ((if0 _ _).trans (teq (by decide : (0 : Int32) = (0 : Int32))).2)) ?_
  show ∃ t o, Steps p.tables e below (T37.setTop (mkF m 151 #[.val (.long t1), .second, .val (.int o1), .val (.long t2), .second, .val (.int o2), .val (.int md), .val (.long (if (md &&& (1 : Int32)) = (0 : Int32) then t2 else t1)), .second, .val (.int (if (md &&& (2 : Int32)) = (0 : Int32) then o2 else o1)), .val (.ref b6), .val (.ref b12), .val (.int (if (if (md &&& (1 : Int32)) = (0 : Int32) then t2 else t1) = t1 then (if (if (md &&& (2 : Int32)) = (0 : Int32) then o2 else o1) = o1 then (1 : Int32) else (0 : Int32)) else (0 : Int32))), .val .null, .val (.ref b_23), .val (.int (if (if (md &&& (1 : Int32)) = (0 : Int32) then t2 else t1) = t1 ∧ (if (md &&& (2 : Int32)) = (0 : Int32) then o2 else o1) = o1 then (1 : Int32) else (0 : Int32))), .val (.int (if t1 = (if (md &&& (1 : Int32)) = (0 : Int32) then t2 else t1) ∧ o1 = (if (md &&& (2 : Int32)) = (0 : Int32) then o2 else o1) then (1 : Int32) else (0 : Int32))), .val (.int (if t1 = t1 ∧ o1 = o1 then (1 : Int32) else (0 : Int32))), .val (.int (0 : Int32)), .val (.int (0 : Int32))] [])) t ∧ _
  refine own_go (fun _ => XS.iload X37.here hx rfl (hb hby at_151) rfl) ?_
  show ∃ t o, Steps p.tables e below (T37.setTop (mkF m 153 #[.val (.long t1), .second, .val (.int o1), .val (.long t2), .second, .val (.int o2), .val (.int md), .val (.long (if (md &&& (1 : Int32)) = (0 : Int32) then t2 else t1)), .second, .val (.int (if (md &&& (2 : Int32)) = (0 : Int32) then o2 else o1)), .val (.ref b6), .val (.ref b12), .val (.int (if (if (md &&& (1 : Int32)) = (0 : Int32) then t2 else t1) = t1 then (if (if (md &&& (2 : Int32)) = (0 : Int32) then o2 else o1) = o1 then (1 : Int32) else (0 : Int32)) else (0 : Int32))), .val .null, .val (.ref b_23), .val (.int (if (if (md &&& (1 : Int32)) = (0 : Int32) then t2 else t1) = t1 ∧ (if (md &&& (2 : Int32)) = (0 : Int32) then o2 else o1) = o1 then (1 : Int32) else (0 : Int32))), .val (.int (if t1 = (if (md &&& (1 : Int32)) = (0 : Int32) then t2 else t1) ∧ o1 = (if (md &&& (2 : Int32)) = (0 : Int32) then o2 else o1) then (1 : Int32) else (0 : Int32))), .val (.int (if t1 = t1 ∧ o1 = o1 then (1 : Int32) else (0 : Int32))), .val (.int (0 : Int32)), .val (.int (0 : Int32))] [(.int (0 : Int32))])) t ∧ _
  refine own_go (fun _ => XS.ifNo X37.here hx rfl (hb hby at_153) rfl ((if0 _ _).trans (teq (by decide : (0 : Int32) = (0 : Int32))).2)) ?_
  show ∃ t o, Steps p.tables e below (T37.setTop (mkF m 156 #[.val (.long t1), .second, .val (.int o1), .val (.long t2), .second, .val (.int o2), .val (.int md), .val (.long (if (md &&& (1 : Int32)) = (0 : Int32) then t2 else t1)), .second, .val (.int (if (md &&& (2 : Int32)) = (0 : Int32) then o2 else o1)), .val (.ref b6), .val (.ref b12), .val (.int (if (if (md &&& (1 : Int32)) = (0 : Int32) then t2 else t1) = t1 then (if (if (md &&& (2 : Int32)) = (0 : Int32) then o2 else o1) = o1 then (1 : Int32) else (0 : Int32)) else (0 : Int32))), .val .null, .val (.ref b_23), .val (.int (if (if (md &&& (1 : Int32)) = (0 : Int32) then t2 else t1) = t1 ∧ (if (md &&& (2 : Int32)) = (0 : Int32) then o2 else o1) = o1 then (1 : Int32) else (0 : Int32))), .val (.int (if t1 = (if (md &&& (1 : Int32)) = (0 : Int32) then t2 else t1) ∧ o1 = (if (md &&& (2 : Int32)) = (0 : Int32) then o2 else o1) then (1 : Int32) else (0 : Int32))), .val (.int (if t1 = t1 ∧ o1 = o1 then (1 : Int32) else (0 : Int32))), .val (.int (0 : Int32)), .val (.int (0 : Int32))] [])) t ∧ _
  refine own_go (fun _ => XS.iconst X37.here hx rfl (hb hby at_156)) ?_
  show ∃ t o, Steps p.tables e below (T37.setTop (mkF m 157 #[.val (.long t1), .second, .val (.int o1), .val (.long t2), .second, .val (.int o2), .val (.int md), .val (.long (if (md &&& (1 : Int32)) = (0 : Int32) then t2 else t1)), .second, .val (.int (if (md &&& (2 : Int32)) = (0 : Int32) then o2 else o1)), .val (.ref b6), .val (.ref b12), .val (.int (if (if (md &&& (1 : Int32)) = (0 : Int32) then t2 else t1) = t1 then (if (if (md &&& (2 : Int32)) = (0 : Int32) then o2 else o1) = o1 then (1 : Int32) else (0 : Int32)) else (0 : Int32))), .val .null, .val (.ref b_23), .val (.int (if (if (md &&& (1 : Int32)) = (0 : Int32) then t2 else t1) = t1 ∧ (if (md &&& (2 : Int32)) = (0 : Int32) then o2 else o1) = o1 then (1 : Int32) else (0 : Int32))), .val (.int (if t1 = (if (md &&& (1 : Int32)) = (0 : Int32) then t2 else t1) ∧ o1 = (if (md &&& (2 : Int32)) = (0 : Int32) then o2 else o1) then (1 : Int32) else (0 : Int32))), .val (.int (if t1 = t1 ∧ o1 = o1 then (1 : Int32) else (0 : Int32))), .val (.int (0 : Int32)), .val (.int (0 : Int32))] [(.int (1 : Int32))])) t ∧ _
  refine own_go (fun _ => XS.goto X37.here hx rfl (pc0 := 157) (pc' := 161) rfl (hb hby at_157) (by decide) (by decide)) ?_
  show ∃ t o, Steps p.tables e below (T37.setTop (mkF m 161 #[.val (.long t1), .second, .val (.int o1), .val (.long t2), .second, .val (.int o2), .val (.int md), .val (.long (if (md &&& (1 : Int32)) = (0 : Int32) then t2 else t1)), .second, .val (.int (if (md &&& (2 : Int32)) = (0 : Int32) then o2 else o1)), .val (.ref b6), .val (.ref b12), .val (.int (if (if (md &&& (1 : Int32)) = (0 : Int32) then t2 else t1) = t1 then (if (if (md &&& (2 : Int32)) = (0 : Int32) then o2 else o1) = o1 then (1 : Int32) else (0 : Int32)) else (0 : Int32))), .val .null, .val (.ref b_23), .val (.int (if (if (md &&& (1 : Int32)) = (0 : Int32) then t2 else t1) = t1 ∧ (if (md &&& (2 : Int32)) = (0 : Int32) then o2 else o1) = o1 then (1 : Int32) else (0 : Int32))), .val (.int (if t1 = (if (md &&& (1 : Int32)) = (0 : Int32) then t2 else t1) ∧ o1 = (if (md &&& (2 : Int32)) = (0 : Int32) then o2 else o1) then (1 : Int32) else (0 : Int32))), .val (.int (if t1 = t1 ∧ o1 = o1 then (1 : Int32) else (0 : Int32))), .val (.int (0 : Int32)), .val (.int (0 : Int32))] [(.int (1 : Int32))])) t ∧ _
  obtain ⟨fs, hr, hrun, hended, hW, hsame⟩ := X37.leave (v := some (.int (1 : Int32))) (fun h => by rw [Bd.returns] at h; cases h)
  refine ⟨_, _, ?_, hrun, hended, _, _, rfl, ?_, ⟨_, rfl⟩, hW, hsame.mono (by decide) (by decide)⟩
  · exact retN X37 hx (t := .boolean) Bd.returns (by simp) (hb hby at_161) hr
  · show Q_rm0 Z t1 o1 t2 o2 md ca cca h0 n0 _ T37.heap _
    rw [e37]
    exact ⟨rfl, N37, K23⟩
set_option maxRecDepth 65536 in
set_option maxHeartbeats 40000000 in
theorem comes_1 {Post : Tables → Env → Array Value → State → Outcome → State → Prop} (hpost : ∀ tb e args s v u, (limb_1_1.after args s (.returned v) u = true ∧ limb_1_2.after args s (.returned v) u = true ∧ True) → FrameEnd s (.returned v) u (Jvm.fieldLocs frame_1_writes args s ++ Jvm.arrayLocs frame_1_arrays args s ++ Jvm.staticLocs frame_1_statics s) 16 128 → Post tb e args s (.returned v) u) :
    ArmFor flags0 classFile x code maxLocals ret World_1 tables_1 room_1 Calls_1 rest_1 Pre_1 Post := by
  intro l hfl _ _ p e ha hc hk s m args below hf hA hF happ hP
  obtain ⟨hcalls, hrest, hpre⟩ := hP
  obtain ⟨-, -, -, hnamed, -, -, -, hat⟩ := (Spec.applies_iff hf).mp happ
  obtain ⟨hg, hn⟩ := and_e (Cond.before_iff.mp (show (Jvm.Cond.and given_1 narrow_1).before args s = true from hpre))
  obtain ⟨g1, g2⟩ := and_e hg
  obtain ⟨g3, g4⟩ := and_e g2
  obtain ⟨g5, g6⟩ := and_e g4
  obtain ⟨g7, g8⟩ := and_e g6
  obtain ⟨g9, g10⟩ := and_e g8
  obtain ⟨w0, w1, w2, w3, w4, rfl⟩ : ∃ w0 w1 w2 w3 w4 : Value, args = #[w0, w1, w2, w3, w4] := by
    have hs : args.size = 5 := by simpa [Cond.value, given_1] using g1
    obtain ⟨L⟩ := args
    match L, hs with
    | [w0, w1, w2, w3, w4], _ => exact ⟨w0, w1, w2, w3, w4, rfl⟩
  have hw := fun d (hd : d ∈ tables_1) => atoms_spec (ws := Jvm.Cond.code x code maxLocals ret :: tables_1) hat d (List.mem_cons_of_mem _ hd)
  have hfit : Fit s := fun {y c} hc i hi => by
    obtain ⟨ha, rfl⟩ := Array.getElem?_eq_some_iff.mp hc
    have q := List.all_eq_true.mp ((Array.all_eq_true_iff_forall_mem.mp hF) _ (Array.getElem_mem ha)) i (List.mem_range.mpr hi)
    simpa [Array.getElem?_eq_getElem hi] using q
  obtain ⟨hsets, hown0⟩ := atoms_of _ (rest_1_c_eq ▸ (show rest_1_c.before _ s = true from hrest))
  have hr0 := Cond.before_iff.mp hown0
  obtain ⟨i0, ei0⟩ := isL_v g3
  obtain rfl : w0 = (.long i0) := Option.some.inj ei0
  obtain ⟨i1, ei1⟩ := is_v g5
  obtain rfl : w1 = (.int i1) := Option.some.inj ei1
  obtain ⟨i2, ei2⟩ := isL_v g7
  obtain rfl : w2 = (.long i2) := Option.some.inj ei2
  obtain ⟨i3, ei3⟩ := is_v g9
  obtain rfl : w3 = (.int i3) := Option.some.inj ei3
  obtain ⟨i4, ei4⟩ := is_v g10
  obtain rfl : w4 = (.int i4) := Option.some.inj ei4
  have LA : (Jvm.Cond.arrayOf (Jvm.Term.static "java/lang/Long$LongCache" "cache" "[Ljava/lang/Long;") (Jvm.ClassFile.FieldType.object "java/lang/Long")).value _ s none s [] = some true := Cond.before_iff.mp (hsets _ (List.mem_of_getElem? (i := 2) rfl))
  obtain ⟨caL, evL⟩ := arr_v LA
  have SCL : Sta s s.heap "java/lang/Long$LongCache" "cache" "[Ljava/lang/Long;" (.ref caL) := Sta.start evL (Or.inl (hsets _ (List.mem_of_getElem? (i := 1) rfl)))
  obtain ⟨ccL, ARL⟩ := Arr.start evL LA
  have LNL : (Jvm.Cond.eq (Jvm.Term.length (Jvm.Term.static "java/lang/Long$LongCache" "cache" "[Ljava/lang/Long;")) (Jvm.Term.int (256 : Int32))).value _ s none s [] = some true := Cond.before_iff.mp (hsets _ (List.mem_of_getElem? (i := 4) rfl))
  have ALL := Cond.before_iff.mp (hsets _ (List.mem_of_getElem? (i := 5) rfl))
  have BXL : Bxs s caL ccL "java/lang/Long" "J" (256 : Int32) own_lval := own_bxsL evL ARL LNL ALL
  have OLD := Old.start s
  obtain ⟨n, o, h1, h2, h3, _, L, rfl, ⟨rfl, N, -⟩, hq⟩ := rm0 l s _ hw tables_1 i0 i1 i2 i3 i4 caL ccL s.heap s.heap.size (Nat.le_refl _) OLD SCL BXL p e ha hc hk s m _ below hf ((Spec.applies_iff_loose hf).mp happ).1 ⟨rfl, State.Warmed39.refl s, rfl⟩ trivial
  refine ⟨n, _, h1, h2, h3, hpost _ _ _ _ _ _ ⟨Cond.after_iff.mpr rfl, Cond.after_iff.mpr (eq_i res_at (Term.int_eval (1)) rfl), trivial⟩ ⟨hq.1, hq.2.1, (hq.2.2.sift fun y hy => Or.inr (N y hy)).mono (by decide) (by decide)⟩⟩
theorem main_1_1 : Claimed_1_1 := comes_1 fun _ _ _ _ _ _ h hF => ⟨h.1, hF⟩
theorem main_1_2 : Claimed_1_2 := comes_1 fun _ _ _ _ _ _ h hF => ⟨h.2.1, hF⟩
end Jvm.Pilot.@@N@@
namespace Jvm.Pilot.@@N@@
open Jvm Jvm.ClassFile Sem Op Lib Jvm.Free Jvm.Stand Jvm.Pilot.@@N@@.Jvm.D
/-! MADE BY PROGRAM (witnessworld.py) out of the Statement's table words and the real class files: 17 classes; the members and pool entries that the words name. The judged class is class 1, her method 1. -/
namespace start1
open Jvm.ClassFile
def u (s : String) : CpInfo := .utf8 (stringToUtf16 s)
/-- a pool by its gaps: so many unusable entries, then the entry; so many at the end -/
def gap : Nat → List CpInfo → List CpInfo
  | 0, r => r
  | n + 1, r => .unusable :: gap n r
def poolList (es : List (Nat × CpInfo)) (last : Nat) : List CpInfo := es.foldr (fun e r => gap e.1 (e.2 :: r)) (gap last [])
def pool (es : List (Nat × CpInfo)) (last : Nat) : Array CpInfo := ⟨poolList es last⟩
def fileOf (pool : Array CpInfo) (this : Nat) (attrs : Array Attribute := #[]) (ms : Array MethodInfo := #[]) (fl : Nat := 33) (sup : Nat := 0) (ifs : Array Nat := #[]) (fds : Array FieldInfo := #[]) : ClassFile where
  minorVersion := 0
  majorVersion := 65
  constantPool := pool
  accessFlags := fl
  thisClass := this
  superClass := sup
  interfaces := ifs
  fields := fds
  methods := ms
  attributes := attrs
def plain (name : String) (sup : Option ClassId) : Class where
  name := name
  kind := .ordinary
  loader := none
  accessFlags := 33
  super := sup
  interfaces := #[]
  cf := none
  fields := #[]
  methods := #[]
  instanceTypes := #[]
  staticTypes := #[]
  resolved := #[]
  callSites := []
  init := .initialized
  statics := none
  mirror := none

def pool0 : Array CpInfo := pool [(5, u "<init>"), (0, u "()V"), (1, .class_ 10), (1, u "java/lang/Object")] 113

def k0c0 : Code := { maxStack := 0, maxLocals := 1, code := object_method_1_code, exceptionTable := #[], attributes := #[] }
def k0m0 : Method := { name := "<init>", desc := "()V", sig := { parameters := [], returnType := none }, accessFlags := 1, code := some k0c0 }
/-- java/lang/Object -/
def k0 : Class := { plain "java/lang/Object" none with
  accessFlags := 33
  interfaces := #[]
  cf := some (fileOf pool0 8 #[] #[{ accessFlags := 1, nameIndex := 5, descriptorIndex := 6, attributes := #[] }] 33 0 #[] #[])
  fields := #[]
  methods := #[k0m0]
  instanceTypes := #[]
  staticTypes := #[]
  resolved := Array.replicate 124 none
  statics := none }

def pool1 : Array CpInfo := pool [(2, .class_ 4), (1, u "java/lang/Object"), (0, u "<init>"), (0, u "()V"), (0, .class_ 8), (0, u "com/example/holdback/holdback/ring/Stamp"), (0, .methodref 7 10), (0, .nameAndType 5 11), (0, u "(JI)V"), (0, .methodref 13 14), (0, .class_ 15), (0, .nameAndType 16 17), (0, u "java/lang/Long"), (0, u "valueOf"), (0, u "(J)Ljava/lang/Long;"), (0, .methodref 7 19), (0, .nameAndType 20 21), (0, u "equals"), (0, u "(Ljava/lang/Object;)Z"), (0, .class_ 23), (0, u "com/example/holdback/holdback/ring/StampEqualsPinLaw"), (2, u "law"), (0, u "(JIJII)Z")] 3

def k1m0 : Method := { name := "<init>", desc := "()V", sig := { parameters := [], returnType := none }, accessFlags := 1, code := none }
def k1c1 : Code := { maxStack := 5, maxLocals := 20, code := code, exceptionTable := #[], attributes := #[] }
def k1m1 : Method := { name := "law", desc := "(JIJII)Z", sig := { parameters := [.long, .int, .long, .int, .int], returnType := some .boolean }, accessFlags := 9, code := some k1c1 }
/-- com/example/holdback/holdback/ring/StampEqualsPinLaw -/
def k1 : Class := { plain "com/example/holdback/holdback/ring/StampEqualsPinLaw" (some 0) with
  accessFlags := 49
  interfaces := #[]
  cf := some (fileOf pool1 22 #[] #[{ accessFlags := 1, nameIndex := 5, descriptorIndex := 6, attributes := #[] }, { accessFlags := 9, nameIndex := 26, descriptorIndex := 27, attributes := #[] }] 49 2 #[] #[])
  fields := #[]
  methods := #[k1m0, k1m1]
  instanceTypes := #[]
  staticTypes := #[]
  resolved := Array.replicate 31 none
  statics := none }

def pool2 : Array CpInfo := pool [(1, .methodref 2 3), (0, .class_ 4), (0, .nameAndType 5 6), (0, u "java/lang/Object"), (0, u "<init>"), (0, u "()V"), (0, .class_ 8), (0, u "java/lang/Record")] 13

def k2c0 : Code := { maxStack := 1, maxLocals := 1, code := jdk_30_method_1_code, exceptionTable := #[], attributes := #[] }
def k2m0 : Method := { name := "<init>", desc := "()V", sig := { parameters := [], returnType := none }, accessFlags := 4, code := some k2c0 }
/-- java/lang/Record -/
def k2 : Class := { plain "java/lang/Record" (some 0) with
  accessFlags := 1057
  interfaces := #[]
  cf := some (fileOf pool2 7 #[] #[{ accessFlags := 4, nameIndex := 5, descriptorIndex := 6, attributes := #[] }] 1057 2 #[] #[])
  fields := #[]
  methods := #[k2m0]
  instanceTypes := #[]
  staticTypes := #[]
  resolved := Array.replicate 22 none
  statics := none }

def pool3 : Array CpInfo := pool [(1, .class_ 2), (0, u "java/lang/Comparable"), (0, .class_ 4), (0, u "java/lang/Object")] 7

/-- java/lang/Comparable -/
def k3 : Class := { plain "java/lang/Comparable" (some 0) with
  accessFlags := 1537
  interfaces := #[]
  cf := some (fileOf pool3 1 #[] #[] 1537 3 #[] #[])
  fields := #[]
  methods := #[]
  instanceTypes := #[]
  staticTypes := #[]
  resolved := Array.replicate 12 none
  statics := none }

def pool4 : Array CpInfo := pool [(1, .methodref 2 3), (0, .class_ 4), (0, .nameAndType 5 6), (0, u "java/lang/Record"), (0, u "<init>"), (0, u "()V"), (0, .fieldref 8 9), (0, .class_ 10), (0, .nameAndType 11 12), (0, u "com/example/holdback/holdback/ring/Stamp"), (0, u "ts"), (0, u "J"), (0, .fieldref 8 14), (0, .nameAndType 15 16), (0, u "origin"), (0, u "I"), (2, u "(JI)V"), (32, .class_ 53), (0, u "java/lang/Comparable"), (6, u "equals"), (0, u "(Ljava/lang/Object;)Z")] 25

def k4c0 : Code := { maxStack := 3, maxLocals := 4, code := prog_153_method_1_code, exceptionTable := #[], attributes := #[] }
def k4m0 : Method := { name := "<init>", desc := "(JI)V", sig := { parameters := [.long, .int], returnType := none }, accessFlags := 1, code := some k4c0 }
def k4c1 : Code := { maxStack := 4, maxLocals := 3, code := prog_153_method_6_code, exceptionTable := #[], attributes := #[] }
def k4m1 : Method := { name := "equals", desc := "(Ljava/lang/Object;)Z", sig := { parameters := [(.object "java/lang/Object")], returnType := some .boolean }, accessFlags := 1, code := some k4c1 }
/-- com/example/holdback/holdback/ring/Stamp -/
def k4 : Class := { plain "com/example/holdback/holdback/ring/Stamp" (some 2) with
  accessFlags := 49
  interfaces := #[3]
  cf := some (fileOf pool4 8 #[] #[{ accessFlags := 1, nameIndex := 5, descriptorIndex := 19, attributes := #[] }, { accessFlags := 1, nameIndex := 60, descriptorIndex := 61, attributes := #[] }] 49 2 #[52] #[{ accessFlags := 18, nameIndex := 11, descriptorIndex := 12, attributes := #[] }, { accessFlags := 18, nameIndex := 15, descriptorIndex := 16, attributes := #[] }])
  fields := #[{ name := "ts", type := .long, accessFlags := 18, slot := 0, constantValue := 0 }, { name := "origin", type := .int, accessFlags := 18, slot := 1, constantValue := 0 }]
  methods := #[k4m0, k4m1]
  instanceTypes := #[.long, .int]
  staticTypes := #[]
  resolved := Array.replicate 87 none
  statics := none }

def pool5 : Array CpInfo := pool [(1, .class_ 2), (0, u "java/io/Serializable"), (0, .class_ 4), (0, u "java/lang/Object")] 2

/-- java/io/Serializable -/
def k5 : Class := { plain "java/io/Serializable" (some 0) with
  accessFlags := 1537
  interfaces := #[]
  cf := some (fileOf pool5 1 #[] #[] 1537 3 #[] #[])
  fields := #[]
  methods := #[]
  instanceTypes := #[]
  staticTypes := #[]
  resolved := Array.replicate 7 none
  statics := none }

def pool6 : Array CpInfo := pool [(1, .methodref 2 3), (0, .class_ 4), (0, .nameAndType 5 6), (0, u "java/lang/Object"), (0, u "<init>"), (0, u "()V"), (1, .class_ 10), (1, u "java/lang/Number"), (2, .class_ 14), (0, u "java/io/Serializable"), (0, u "serialVersionUID"), (0, u "J")] 20

def k6c0 : Code := { maxStack := 1, maxLocals := 1, code := jdk_18_method_1_code, exceptionTable := #[], attributes := #[] }
def k6m0 : Method := { name := "<init>", desc := "()V", sig := { parameters := [], returnType := none }, accessFlags := 1, code := some k6c0 }
/-- java/lang/Number -/
def k6 : Class := { plain "java/lang/Number" (some 0) with
  accessFlags := 1057
  interfaces := #[5]
  cf := some (fileOf pool6 8 #[] #[{ accessFlags := 1, nameIndex := 5, descriptorIndex := 6, attributes := #[] }] 1057 2 #[13] #[{ accessFlags := 26, nameIndex := 15, descriptorIndex := 16, attributes := #[] }])
  fields := #[{ name := "serialVersionUID", type := .long, accessFlags := 26, slot := 0, constantValue := 0 }]
  methods := #[k6m0]
  instanceTypes := #[]
  staticTypes := #[.long]
  resolved := Array.replicate 37 none
  statics := none }

def pool7 : Array CpInfo := pool [(1, .class_ 2), (0, u "java/lang/constant/Constable"), (0, .class_ 4), (0, u "java/lang/Object")] 6

/-- java/lang/constant/Constable -/
def k7 : Class := { plain "java/lang/constant/Constable" (some 0) with
  accessFlags := 1537
  interfaces := #[]
  cf := some (fileOf pool7 1 #[] #[] 1537 3 #[] #[])
  fields := #[]
  methods := #[]
  instanceTypes := #[]
  staticTypes := #[]
  resolved := Array.replicate 11 none
  statics := none }

def pool8 : Array CpInfo := pool [(1, .class_ 2), (0, u "java/lang/constant/ConstantDesc"), (0, .class_ 4), (0, u "java/lang/Object")] 32

/-- java/lang/constant/ConstantDesc -/
def k8 : Class := { plain "java/lang/constant/ConstantDesc" (some 0) with
  accessFlags := 1537
  interfaces := #[]
  cf := some (fileOf pool8 1 #[] #[] 1537 3 #[] #[])
  fields := #[]
  methods := #[]
  instanceTypes := #[]
  staticTypes := #[]
  resolved := Array.replicate 37 none
  statics := none }

def pool9 : Array CpInfo := pool [(1, .class_ 2), (0, u "java/lang/Long"), (55, .nameAndType 59 60), (0, u "<init>"), (0, u "()V"), (24, u "valueOf"), (143, u "(J)Ljava/lang/Long;"), (0, .long 18446744073709551488), (1, .long 127), (1, .fieldref 235 236), (0, .class_ 237), (0, .nameAndType 238 239), (0, u "java/lang/Long$LongCache"), (0, u "cache"), (0, u "[Ljava/lang/Long;"), (0, .methodref 1 241), (0, .nameAndType 59 242), (0, u "(J)V"), (27, .methodref 271 58), (0, .class_ 272), (0, u "java/lang/Number"), (0, .fieldref 1 274), (0, .nameAndType 275 276), (0, u "value"), (0, u "J"), (84, u "TYPE"), (0, u "Ljava/lang/Class;"), (0, .class_ 364), (0, u "java/lang/Comparable"), (0, .class_ 366), (0, u "java/lang/constant/Constable"), (0, .class_ 368), (0, u "java/lang/constant/ConstantDesc"), (0, u "MIN_VALUE"), (1, u "MAX_VALUE"), (4, u "SIZE"), (0, u "I"), (1, u "BYTES"), (1, u "serialVersionUID")] 142

def k9c0 : Code := { maxStack := 4, maxLocals := 3, code := jdk_35_method_24_code, exceptionTable := #[], attributes := #[] }
def k9m0 : Method := { name := "valueOf", desc := "(J)Ljava/lang/Long;", sig := { parameters := [.long], returnType := some (.object "java/lang/Long") }, accessFlags := 9, code := some k9c0 }
def k9c1 : Code := { maxStack := 3, maxLocals := 3, code := jdk_35_method_26_code, exceptionTable := #[], attributes := #[] }
def k9m1 : Method := { name := "<init>", desc := "(J)V", sig := { parameters := [.long], returnType := none }, accessFlags := 1, code := some k9c1 }
/-- java/lang/Long -/
def k9 : Class := { plain "java/lang/Long" (some 6) with
  accessFlags := 49
  interfaces := #[3, 7, 8]
  cf := some (fileOf pool9 1 #[.nestMembers #[235]] #[{ accessFlags := 9, nameIndex := 85, descriptorIndex := 229, attributes := #[] }, { accessFlags := 1, nameIndex := 59, descriptorIndex := 242, attributes := #[] }] 49 271 #[363, 365, 367] #[{ accessFlags := 25, nameIndex := 369, descriptorIndex := 276, attributes := #[] }, { accessFlags := 25, nameIndex := 371, descriptorIndex := 276, attributes := #[] }, { accessFlags := 25, nameIndex := 361, descriptorIndex := 362, attributes := #[] }, { accessFlags := 18, nameIndex := 275, descriptorIndex := 276, attributes := #[] }, { accessFlags := 25, nameIndex := 376, descriptorIndex := 377, attributes := #[] }, { accessFlags := 25, nameIndex := 379, descriptorIndex := 377, attributes := #[] }, { accessFlags := 26, nameIndex := 381, descriptorIndex := 276, attributes := #[] }])
  fields := #[{ name := "MIN_VALUE", type := .long, accessFlags := 25, slot := 0, constantValue := 0 }, { name := "MAX_VALUE", type := .long, accessFlags := 25, slot := 1, constantValue := 0 }, { name := "TYPE", type := (.object "java/lang/Class"), accessFlags := 25, slot := 2, constantValue := 0 }, { name := "value", type := .long, accessFlags := 18, slot := 0, constantValue := 0 }, { name := "SIZE", type := .int, accessFlags := 25, slot := 3, constantValue := 0 }, { name := "BYTES", type := .int, accessFlags := 25, slot := 4, constantValue := 0 }, { name := "serialVersionUID", type := .long, accessFlags := 26, slot := 5, constantValue := 0 }]
  methods := #[k9m0, k9m1]
  instanceTypes := #[.long]
  staticTypes := #[.long, .long, (.object "java/lang/Class"), .int, .int, .long]
  resolved := Array.replicate 524 none
  statics := none }

def pool10 : Array CpInfo := pool [(2, .class_ 4), (1, u "java/lang/Object"), (0, u "<init>"), (0, u "()V"), (0, .class_ 8), (0, u "java/lang/Long"), (7, .class_ 18), (1, u "java/lang/Long$LongCache"), (0, u "$assertionsDisabled"), (0, u "Z"), (8, u "archivedCache"), (0, u "[Ljava/lang/Long;"), (7, u "cache")] 24

def k10m0 : Method := { name := "<init>", desc := "()V", sig := { parameters := [], returnType := none }, accessFlags := 2, code := none }
/-- java/lang/Long$LongCache -/
def k10 : Class := { plain "java/lang/Long$LongCache" (some 0) with
  accessFlags := 48
  interfaces := #[]
  cf := some (fileOf pool10 16 #[.nestHost 7] #[{ accessFlags := 2, nameIndex := 5, descriptorIndex := 6, attributes := #[] }] 48 2 #[] #[{ accessFlags := 24, nameIndex := 38, descriptorIndex := 30, attributes := #[] }, { accessFlags := 8, nameIndex := 29, descriptorIndex := 30, attributes := #[] }, { accessFlags := 4120, nameIndex := 19, descriptorIndex := 20, attributes := #[] }])
  fields := #[{ name := "cache", type := (.array (.object "java/lang/Long")), accessFlags := 24, slot := 0, constantValue := 0 }, { name := "archivedCache", type := (.array (.object "java/lang/Long")), accessFlags := 8, slot := 1, constantValue := 0 }, { name := "$assertionsDisabled", type := .boolean, accessFlags := 4120, slot := 2, constantValue := 0 }]
  methods := #[k10m0]
  instanceTypes := #[]
  staticTypes := #[(.array (.object "java/lang/Long")), (.array (.object "java/lang/Long")), .boolean]
  resolved := Array.replicate 63 none
  statics := some 0 }

def pool11 : Array CpInfo := pool [(1, u "java/lang/Cloneable"), (0, .class_ 1), (0, u "java/lang/Object"), (0, .class_ 3)] 3

/-- java/lang/Cloneable -/
def k11 : Class := { plain "java/lang/Cloneable" (some 0) with
  accessFlags := 1537
  interfaces := #[]
  cf := some (fileOf pool11 2 #[] #[] 1537 4 #[] #[])
  fields := #[]
  methods := #[]
  instanceTypes := #[]
  staticTypes := #[]
  resolved := Array.replicate 8 none
  statics := none }

/-- the primitive byte -/
def k12 : Class := { plain "byte" none with kind := .primitive 'B', accessFlags := 0x411 }
/-- [B -/
def k13 : Class := { plain "[B" (some 0) with kind := .array 12 .byte, interfaces := #[11, 5], accessFlags := 1041 }

/-- the primitive int -/
def k14 : Class := { plain "int" none with kind := .primitive 'I', accessFlags := 0x411 }
/-- [I -/
def k15 : Class := { plain "[I" (some 0) with kind := .array 14 .int, interfaces := #[11, 5], accessFlags := 1041 }

/-- [Ljava/lang/Long; -/
def k16 : Class := { plain "[Ljava/lang/Long;" (some 0) with kind := .array 9 (.object "java/lang/Long"), interfaces := #[11, 5], accessFlags := 1041 }

def heap : Heap := #[{ cls := 10, slots := #[.ref 1, .null, .int 0], vm := .statics 10 },
  { cls := 16, slots := #[.ref 2, .ref 3, .ref 4, .ref 5, .ref 6, .ref 7, .ref 8, .ref 9, .ref 10, .ref 11, .ref 12, .ref 13, .ref 14, .ref 15, .ref 16, .ref 17, .ref 18, .ref 19, .ref 20, .ref 21, .ref 22, .ref 23, .ref 24, .ref 25, .ref 26, .ref 27, .ref 28, .ref 29, .ref 30, .ref 31, .ref 32, .ref 33, .ref 34, .ref 35, .ref 36, .ref 37, .ref 38, .ref 39, .ref 40, .ref 41, .ref 42, .ref 43, .ref 44, .ref 45, .ref 46, .ref 47, .ref 48, .ref 49, .ref 50, .ref 51, .ref 52, .ref 53, .ref 54, .ref 55, .ref 56, .ref 57, .ref 58, .ref 59, .ref 60, .ref 61, .ref 62, .ref 63, .ref 64, .ref 65, .ref 66, .ref 67, .ref 68, .ref 69, .ref 70, .ref 71, .ref 72, .ref 73, .ref 74, .ref 75, .ref 76, .ref 77, .ref 78, .ref 79, .ref 80, .ref 81, .ref 82, .ref 83, .ref 84, .ref 85, .ref 86, .ref 87, .ref 88, .ref 89, .ref 90, .ref 91, .ref 92, .ref 93, .ref 94, .ref 95, .ref 96, .ref 97, .ref 98, .ref 99, .ref 100, .ref 101, .ref 102, .ref 103, .ref 104, .ref 105, .ref 106, .ref 107, .ref 108, .ref 109, .ref 110, .ref 111, .ref 112, .ref 113, .ref 114, .ref 115, .ref 116, .ref 117, .ref 118, .ref 119, .ref 120, .ref 121, .ref 122, .ref 123, .ref 124, .ref 125, .ref 126, .ref 127, .ref 128, .ref 129, .ref 130, .ref 131, .ref 132, .ref 133, .ref 134, .ref 135, .ref 136, .ref 137, .ref 138, .ref 139, .ref 140, .ref 141, .ref 142, .ref 143, .ref 144, .ref 145, .ref 146, .ref 147, .ref 148, .ref 149, .ref 150, .ref 151, .ref 152, .ref 153, .ref 154, .ref 155, .ref 156, .ref 157, .ref 158, .ref 159, .ref 160, .ref 161, .ref 162, .ref 163, .ref 164, .ref 165, .ref 166, .ref 167, .ref 168, .ref 169, .ref 170, .ref 171, .ref 172, .ref 173, .ref 174, .ref 175, .ref 176, .ref 177, .ref 178, .ref 179, .ref 180, .ref 181, .ref 182, .ref 183, .ref 184, .ref 185, .ref 186, .ref 187, .ref 188, .ref 189, .ref 190, .ref 191, .ref 192, .ref 193, .ref 194, .ref 195, .ref 196, .ref 197, .ref 198, .ref 199, .ref 200, .ref 201, .ref 202, .ref 203, .ref 204, .ref 205, .ref 206, .ref 207, .ref 208, .ref 209, .ref 210, .ref 211, .ref 212, .ref 213, .ref 214, .ref 215, .ref 216, .ref 217, .ref 218, .ref 219, .ref 220, .ref 221, .ref 222, .ref 223, .ref 224, .ref 225, .ref 226, .ref 227, .ref 228, .ref 229, .ref 230, .ref 231, .ref 232, .ref 233, .ref 234, .ref 235, .ref 236, .ref 237, .ref 238, .ref 239, .ref 240, .ref 241, .ref 242, .ref 243, .ref 244, .ref 245, .ref 246, .ref 247, .ref 248, .ref 249, .ref 250, .ref 251, .ref 252, .ref 253, .ref 254, .ref 255, .ref 256, .ref 257], vm := .none },
  { cls := 9, slots := #[.long (-128)], vm := .none },
  { cls := 9, slots := #[.long (-127)], vm := .none },
  { cls := 9, slots := #[.long (-126)], vm := .none },
  { cls := 9, slots := #[.long (-125)], vm := .none },
  { cls := 9, slots := #[.long (-124)], vm := .none },
  { cls := 9, slots := #[.long (-123)], vm := .none },
  { cls := 9, slots := #[.long (-122)], vm := .none },
  { cls := 9, slots := #[.long (-121)], vm := .none },
  { cls := 9, slots := #[.long (-120)], vm := .none },
  { cls := 9, slots := #[.long (-119)], vm := .none },
  { cls := 9, slots := #[.long (-118)], vm := .none },
  { cls := 9, slots := #[.long (-117)], vm := .none },
  { cls := 9, slots := #[.long (-116)], vm := .none },
  { cls := 9, slots := #[.long (-115)], vm := .none },
  { cls := 9, slots := #[.long (-114)], vm := .none },
  { cls := 9, slots := #[.long (-113)], vm := .none },
  { cls := 9, slots := #[.long (-112)], vm := .none },
  { cls := 9, slots := #[.long (-111)], vm := .none },
  { cls := 9, slots := #[.long (-110)], vm := .none },
  { cls := 9, slots := #[.long (-109)], vm := .none },
  { cls := 9, slots := #[.long (-108)], vm := .none },
  { cls := 9, slots := #[.long (-107)], vm := .none },
  { cls := 9, slots := #[.long (-106)], vm := .none },
  { cls := 9, slots := #[.long (-105)], vm := .none },
  { cls := 9, slots := #[.long (-104)], vm := .none },
  { cls := 9, slots := #[.long (-103)], vm := .none },
  { cls := 9, slots := #[.long (-102)], vm := .none },
  { cls := 9, slots := #[.long (-101)], vm := .none },
  { cls := 9, slots := #[.long (-100)], vm := .none },
  { cls := 9, slots := #[.long (-99)], vm := .none },
  { cls := 9, slots := #[.long (-98)], vm := .none },
  { cls := 9, slots := #[.long (-97)], vm := .none },
  { cls := 9, slots := #[.long (-96)], vm := .none },
  { cls := 9, slots := #[.long (-95)], vm := .none },
  { cls := 9, slots := #[.long (-94)], vm := .none },
  { cls := 9, slots := #[.long (-93)], vm := .none },
  { cls := 9, slots := #[.long (-92)], vm := .none },
  { cls := 9, slots := #[.long (-91)], vm := .none },
  { cls := 9, slots := #[.long (-90)], vm := .none },
  { cls := 9, slots := #[.long (-89)], vm := .none },
  { cls := 9, slots := #[.long (-88)], vm := .none },
  { cls := 9, slots := #[.long (-87)], vm := .none },
  { cls := 9, slots := #[.long (-86)], vm := .none },
  { cls := 9, slots := #[.long (-85)], vm := .none },
  { cls := 9, slots := #[.long (-84)], vm := .none },
  { cls := 9, slots := #[.long (-83)], vm := .none },
  { cls := 9, slots := #[.long (-82)], vm := .none },
  { cls := 9, slots := #[.long (-81)], vm := .none },
  { cls := 9, slots := #[.long (-80)], vm := .none },
  { cls := 9, slots := #[.long (-79)], vm := .none },
  { cls := 9, slots := #[.long (-78)], vm := .none },
  { cls := 9, slots := #[.long (-77)], vm := .none },
  { cls := 9, slots := #[.long (-76)], vm := .none },
  { cls := 9, slots := #[.long (-75)], vm := .none },
  { cls := 9, slots := #[.long (-74)], vm := .none },
  { cls := 9, slots := #[.long (-73)], vm := .none },
  { cls := 9, slots := #[.long (-72)], vm := .none },
  { cls := 9, slots := #[.long (-71)], vm := .none },
  { cls := 9, slots := #[.long (-70)], vm := .none },
  { cls := 9, slots := #[.long (-69)], vm := .none },
  { cls := 9, slots := #[.long (-68)], vm := .none },
  { cls := 9, slots := #[.long (-67)], vm := .none },
  { cls := 9, slots := #[.long (-66)], vm := .none },
  { cls := 9, slots := #[.long (-65)], vm := .none },
  { cls := 9, slots := #[.long (-64)], vm := .none },
  { cls := 9, slots := #[.long (-63)], vm := .none },
  { cls := 9, slots := #[.long (-62)], vm := .none },
  { cls := 9, slots := #[.long (-61)], vm := .none },
  { cls := 9, slots := #[.long (-60)], vm := .none },
  { cls := 9, slots := #[.long (-59)], vm := .none },
  { cls := 9, slots := #[.long (-58)], vm := .none },
  { cls := 9, slots := #[.long (-57)], vm := .none },
  { cls := 9, slots := #[.long (-56)], vm := .none },
  { cls := 9, slots := #[.long (-55)], vm := .none },
  { cls := 9, slots := #[.long (-54)], vm := .none },
  { cls := 9, slots := #[.long (-53)], vm := .none },
  { cls := 9, slots := #[.long (-52)], vm := .none },
  { cls := 9, slots := #[.long (-51)], vm := .none },
  { cls := 9, slots := #[.long (-50)], vm := .none },
  { cls := 9, slots := #[.long (-49)], vm := .none },
  { cls := 9, slots := #[.long (-48)], vm := .none },
  { cls := 9, slots := #[.long (-47)], vm := .none },
  { cls := 9, slots := #[.long (-46)], vm := .none },
  { cls := 9, slots := #[.long (-45)], vm := .none },
  { cls := 9, slots := #[.long (-44)], vm := .none },
  { cls := 9, slots := #[.long (-43)], vm := .none },
  { cls := 9, slots := #[.long (-42)], vm := .none },
  { cls := 9, slots := #[.long (-41)], vm := .none },
  { cls := 9, slots := #[.long (-40)], vm := .none },
  { cls := 9, slots := #[.long (-39)], vm := .none },
  { cls := 9, slots := #[.long (-38)], vm := .none },
  { cls := 9, slots := #[.long (-37)], vm := .none },
  { cls := 9, slots := #[.long (-36)], vm := .none },
  { cls := 9, slots := #[.long (-35)], vm := .none },
  { cls := 9, slots := #[.long (-34)], vm := .none },
  { cls := 9, slots := #[.long (-33)], vm := .none },
  { cls := 9, slots := #[.long (-32)], vm := .none },
  { cls := 9, slots := #[.long (-31)], vm := .none },
  { cls := 9, slots := #[.long (-30)], vm := .none },
  { cls := 9, slots := #[.long (-29)], vm := .none },
  { cls := 9, slots := #[.long (-28)], vm := .none },
  { cls := 9, slots := #[.long (-27)], vm := .none },
  { cls := 9, slots := #[.long (-26)], vm := .none },
  { cls := 9, slots := #[.long (-25)], vm := .none },
  { cls := 9, slots := #[.long (-24)], vm := .none },
  { cls := 9, slots := #[.long (-23)], vm := .none },
  { cls := 9, slots := #[.long (-22)], vm := .none },
  { cls := 9, slots := #[.long (-21)], vm := .none },
  { cls := 9, slots := #[.long (-20)], vm := .none },
  { cls := 9, slots := #[.long (-19)], vm := .none },
  { cls := 9, slots := #[.long (-18)], vm := .none },
  { cls := 9, slots := #[.long (-17)], vm := .none },
  { cls := 9, slots := #[.long (-16)], vm := .none },
  { cls := 9, slots := #[.long (-15)], vm := .none },
  { cls := 9, slots := #[.long (-14)], vm := .none },
  { cls := 9, slots := #[.long (-13)], vm := .none },
  { cls := 9, slots := #[.long (-12)], vm := .none },
  { cls := 9, slots := #[.long (-11)], vm := .none },
  { cls := 9, slots := #[.long (-10)], vm := .none },
  { cls := 9, slots := #[.long (-9)], vm := .none },
  { cls := 9, slots := #[.long (-8)], vm := .none },
  { cls := 9, slots := #[.long (-7)], vm := .none },
  { cls := 9, slots := #[.long (-6)], vm := .none },
  { cls := 9, slots := #[.long (-5)], vm := .none },
  { cls := 9, slots := #[.long (-4)], vm := .none },
  { cls := 9, slots := #[.long (-3)], vm := .none },
  { cls := 9, slots := #[.long (-2)], vm := .none },
  { cls := 9, slots := #[.long (-1)], vm := .none },
  { cls := 9, slots := #[.long 0], vm := .none },
  { cls := 9, slots := #[.long 1], vm := .none },
  { cls := 9, slots := #[.long 2], vm := .none },
  { cls := 9, slots := #[.long 3], vm := .none },
  { cls := 9, slots := #[.long 4], vm := .none },
  { cls := 9, slots := #[.long 5], vm := .none },
  { cls := 9, slots := #[.long 6], vm := .none },
  { cls := 9, slots := #[.long 7], vm := .none },
  { cls := 9, slots := #[.long 8], vm := .none },
  { cls := 9, slots := #[.long 9], vm := .none },
  { cls := 9, slots := #[.long 10], vm := .none },
  { cls := 9, slots := #[.long 11], vm := .none },
  { cls := 9, slots := #[.long 12], vm := .none },
  { cls := 9, slots := #[.long 13], vm := .none },
  { cls := 9, slots := #[.long 14], vm := .none },
  { cls := 9, slots := #[.long 15], vm := .none },
  { cls := 9, slots := #[.long 16], vm := .none },
  { cls := 9, slots := #[.long 17], vm := .none },
  { cls := 9, slots := #[.long 18], vm := .none },
  { cls := 9, slots := #[.long 19], vm := .none },
  { cls := 9, slots := #[.long 20], vm := .none },
  { cls := 9, slots := #[.long 21], vm := .none },
  { cls := 9, slots := #[.long 22], vm := .none },
  { cls := 9, slots := #[.long 23], vm := .none },
  { cls := 9, slots := #[.long 24], vm := .none },
  { cls := 9, slots := #[.long 25], vm := .none },
  { cls := 9, slots := #[.long 26], vm := .none },
  { cls := 9, slots := #[.long 27], vm := .none },
  { cls := 9, slots := #[.long 28], vm := .none },
  { cls := 9, slots := #[.long 29], vm := .none },
  { cls := 9, slots := #[.long 30], vm := .none },
  { cls := 9, slots := #[.long 31], vm := .none },
  { cls := 9, slots := #[.long 32], vm := .none },
  { cls := 9, slots := #[.long 33], vm := .none },
  { cls := 9, slots := #[.long 34], vm := .none },
  { cls := 9, slots := #[.long 35], vm := .none },
  { cls := 9, slots := #[.long 36], vm := .none },
  { cls := 9, slots := #[.long 37], vm := .none },
  { cls := 9, slots := #[.long 38], vm := .none },
  { cls := 9, slots := #[.long 39], vm := .none },
  { cls := 9, slots := #[.long 40], vm := .none },
  { cls := 9, slots := #[.long 41], vm := .none },
  { cls := 9, slots := #[.long 42], vm := .none },
  { cls := 9, slots := #[.long 43], vm := .none },
  { cls := 9, slots := #[.long 44], vm := .none },
  { cls := 9, slots := #[.long 45], vm := .none },
  { cls := 9, slots := #[.long 46], vm := .none },
  { cls := 9, slots := #[.long 47], vm := .none },
  { cls := 9, slots := #[.long 48], vm := .none },
  { cls := 9, slots := #[.long 49], vm := .none },
  { cls := 9, slots := #[.long 50], vm := .none },
  { cls := 9, slots := #[.long 51], vm := .none },
  { cls := 9, slots := #[.long 52], vm := .none },
  { cls := 9, slots := #[.long 53], vm := .none },
  { cls := 9, slots := #[.long 54], vm := .none },
  { cls := 9, slots := #[.long 55], vm := .none },
  { cls := 9, slots := #[.long 56], vm := .none },
  { cls := 9, slots := #[.long 57], vm := .none },
  { cls := 9, slots := #[.long 58], vm := .none },
  { cls := 9, slots := #[.long 59], vm := .none },
  { cls := 9, slots := #[.long 60], vm := .none },
  { cls := 9, slots := #[.long 61], vm := .none },
  { cls := 9, slots := #[.long 62], vm := .none },
  { cls := 9, slots := #[.long 63], vm := .none },
  { cls := 9, slots := #[.long 64], vm := .none },
  { cls := 9, slots := #[.long 65], vm := .none },
  { cls := 9, slots := #[.long 66], vm := .none },
  { cls := 9, slots := #[.long 67], vm := .none },
  { cls := 9, slots := #[.long 68], vm := .none },
  { cls := 9, slots := #[.long 69], vm := .none },
  { cls := 9, slots := #[.long 70], vm := .none },
  { cls := 9, slots := #[.long 71], vm := .none },
  { cls := 9, slots := #[.long 72], vm := .none },
  { cls := 9, slots := #[.long 73], vm := .none },
  { cls := 9, slots := #[.long 74], vm := .none },
  { cls := 9, slots := #[.long 75], vm := .none },
  { cls := 9, slots := #[.long 76], vm := .none },
  { cls := 9, slots := #[.long 77], vm := .none },
  { cls := 9, slots := #[.long 78], vm := .none },
  { cls := 9, slots := #[.long 79], vm := .none },
  { cls := 9, slots := #[.long 80], vm := .none },
  { cls := 9, slots := #[.long 81], vm := .none },
  { cls := 9, slots := #[.long 82], vm := .none },
  { cls := 9, slots := #[.long 83], vm := .none },
  { cls := 9, slots := #[.long 84], vm := .none },
  { cls := 9, slots := #[.long 85], vm := .none },
  { cls := 9, slots := #[.long 86], vm := .none },
  { cls := 9, slots := #[.long 87], vm := .none },
  { cls := 9, slots := #[.long 88], vm := .none },
  { cls := 9, slots := #[.long 89], vm := .none },
  { cls := 9, slots := #[.long 90], vm := .none },
  { cls := 9, slots := #[.long 91], vm := .none },
  { cls := 9, slots := #[.long 92], vm := .none },
  { cls := 9, slots := #[.long 93], vm := .none },
  { cls := 9, slots := #[.long 94], vm := .none },
  { cls := 9, slots := #[.long 95], vm := .none },
  { cls := 9, slots := #[.long 96], vm := .none },
  { cls := 9, slots := #[.long 97], vm := .none },
  { cls := 9, slots := #[.long 98], vm := .none },
  { cls := 9, slots := #[.long 99], vm := .none },
  { cls := 9, slots := #[.long 100], vm := .none },
  { cls := 9, slots := #[.long 101], vm := .none },
  { cls := 9, slots := #[.long 102], vm := .none },
  { cls := 9, slots := #[.long 103], vm := .none },
  { cls := 9, slots := #[.long 104], vm := .none },
  { cls := 9, slots := #[.long 105], vm := .none },
  { cls := 9, slots := #[.long 106], vm := .none },
  { cls := 9, slots := #[.long 107], vm := .none },
  { cls := 9, slots := #[.long 108], vm := .none },
  { cls := 9, slots := #[.long 109], vm := .none },
  { cls := 9, slots := #[.long 110], vm := .none },
  { cls := 9, slots := #[.long 111], vm := .none },
  { cls := 9, slots := #[.long 112], vm := .none },
  { cls := 9, slots := #[.long 113], vm := .none },
  { cls := 9, slots := #[.long 114], vm := .none },
  { cls := 9, slots := #[.long 115], vm := .none },
  { cls := 9, slots := #[.long 116], vm := .none },
  { cls := 9, slots := #[.long 117], vm := .none },
  { cls := 9, slots := #[.long 118], vm := .none },
  { cls := 9, slots := #[.long 119], vm := .none },
  { cls := 9, slots := #[.long 120], vm := .none },
  { cls := 9, slots := #[.long 121], vm := .none },
  { cls := 9, slots := #[.long 122], vm := .none },
  { cls := 9, slots := #[.long 123], vm := .none },
  { cls := 9, slots := #[.long 124], vm := .none },
  { cls := 9, slots := #[.long 125], vm := .none },
  { cls := 9, slots := #[.long 126], vm := .none },
  { cls := 9, slots := #[.long 127], vm := .none }]
def classes : Array Class := #[k0, k1, k2, k3, k4, k5, k6, k7, k8, k9, k10, k11, k12, k13, k14, k15, k16]
def interned : List (Array UInt16 × Addr) := []
def slotsUsed : Nat := 515
def theMethod : MethodId := ⟨1, 1⟩
def args0 : Array Value := #[.long 5, .int 7, .long 6, .int 8, .int 0]
def aboutOver (below : List Frame) : State where
  vm := { classes := classes, interned := interned.toArray }
  heap := heap
  slotsUsed := slotsUsed
  threads := #[{ frames := .invoking theMethod args0 :: below }]
def below0 : List Frame := [.native { method := ⟨0, 0⟩, args := #[] }]
def about1 : State := aboutOver below0
def p0 : Program := .bare "" "" ""
def e0 : Env := launch0.env 0 0 0
theorem w_frames : about1.frames = Frame.invoking theMethod args0 :: below0 := rfl
set_option maxRecDepth 65536 in
theorem w_args : argsFit about1.vm theMethod args0 = true := by decide +kernel
set_option maxRecDepth 65536 in
theorem w_heap : heapFits about1 = true := by decide +kernel
set_option maxRecDepth 65536 in
theorem w_runnable : about1.curStatus? = some .runnable := by decide +kernel
set_option maxRecDepth 65536 in
theorem w_alone : about1.alone = true := by decide +kernel
set_option maxRecDepth 65536 in
theorem w_named : about1.methodNamed? x = some theMethod := by decide +kernel
set_option maxRecDepth 65536 in
theorem w_hears : about1.hears theMethod below0 = true := by decide +kernel
set_option maxRecDepth 65536 in
theorem w_ripe : about1.ripe theMethod args0 below0 = true := by decide +kernel
theorem w_running : about1.status = .running := rfl
set_option maxRecDepth 65536 in
theorem w_room : about1.hasRoom e0.platform room_1 = true :=
  launch0.hasRoom_least _ room_1 (by decide +kernel) (by decide +kernel) (by decide +kernel) (by decide +kernel) (by decide +kernel) (by decide +kernel)
theorem allAtoms_all (ts : List Jvm.Cond) (a : Array Jvm.Value) (st : Jvm.State) : (allAtoms ts).before a st = ts.all (fun c => c.before a st) := by
  induction ts with
  | nil => rfl
  | cons c t ih =>
    show (Jvm.Cond.and c (allAtoms t)).before a st = _
    rw [Jvm.Cond.before_and, ih, List.all_cons]
def words1 : List Jvm.Cond := Jvm.Cond.code x code maxLocals ret :: tables_1
/-- a 'code' word, met by the world's own term for the bytes: nothing is compared byte by byte -/
theorem code_word {y : MethodName} {bytes : ByteArray} {mx : Nat} {rt : Option FieldType} {a : Array Value} {s : State} {m : MethodId} {meth : Method} {c : Code} (h1 : s.methodNamed? y = some m) (h2 : s.vm.method? m = some meth) (h3 : meth.code = some c) (h4 : c.code = bytes)
    (h5 : (c.maxLocals == mx && c.exceptionTable.isEmpty && decide (c.maxStack ≤ mostOperands) && decide (meth.sig.returnType = rt) && !meth.locks && decide (parseMethodDescriptor y.desc = some meth.sig)) = true) : (Jvm.Cond.code y bytes mx rt).before a s = true := by
  simp only [Bool.and_eq_true, beq_iff_eq, Bool.not_eq_true', decide_eq_true_eq] at h5
  obtain ⟨⟨⟨⟨⟨g1, g2⟩, g3⟩, g4⟩, g5⟩, g6⟩ := h5
  simp [Cond.before, Cond.holds, Cond.value, h1, h2, h3, h4, g1, g2, g3, g4, g5, g6]
def isCode : Jvm.Cond → Bool
  | .code _ _ _ _ => true
  | _ => false
theorem all_split {L : List Jvm.Cond} {P : Jvm.Cond → Bool} (h1 : L.all (fun c => isCode c || P c) = true) (h2 : ∀ c ∈ L.filter isCode, P c = true) : L.all P = true := by
  refine List.all_eq_true.mpr fun c hc => ?_
  have h := List.all_eq_true.mp h1 c hc
  rcases Bool.eq_false_or_eq_true (isCode c) with hi | hi
  · exact h2 c (List.mem_filter.mpr ⟨hc, hi⟩)
  · simpa [hi] using h
set_option maxRecDepth 65536 in
theorem w_c0 : (Jvm.Cond.code x code maxLocals ret).before args0 about1 = true := code_word (m := ⟨1, 1⟩) (meth := k1m1) (c := k1c1) (by decide +kernel) rfl rfl rfl (by decide +kernel)
set_option maxRecDepth 65536 in
theorem w_c1 : (Jvm.Cond.code ({ cls := "com/example/holdback/holdback/ring/Stamp", name := "<init>", desc := "(JI)V" } : Jvm.MethodName) prog_153_method_1_code (4 : Nat) (Option.none : Option Jvm.ClassFile.FieldType)).before args0 about1 = true := code_word (m := ⟨4, 0⟩) (meth := k4m0) (c := k4c0) (by decide +kernel) rfl rfl rfl (by decide +kernel)
set_option maxRecDepth 65536 in
theorem w_c2 : (Jvm.Cond.code ({ cls := "java/lang/Record", name := "<init>", desc := "()V" } : Jvm.MethodName) jdk_30_method_1_code (1 : Nat) (Option.none : Option Jvm.ClassFile.FieldType)).before args0 about1 = true := code_word (m := ⟨2, 0⟩) (meth := k2m0) (c := k2c0) (by decide +kernel) rfl rfl rfl (by decide +kernel)
set_option maxRecDepth 65536 in
theorem w_c3 : (Jvm.Cond.code ({ cls := "java/lang/Object", name := "<init>", desc := "()V" } : Jvm.MethodName) object_method_1_code (1 : Nat) (Option.none : Option Jvm.ClassFile.FieldType)).before args0 about1 = true := code_word (m := ⟨0, 0⟩) (meth := k0m0) (c := k0c0) (by decide +kernel) rfl rfl rfl (by decide +kernel)
set_option maxRecDepth 65536 in
theorem w_c4 : (Jvm.Cond.code ({ cls := "java/lang/Long", name := "valueOf", desc := "(J)Ljava/lang/Long;" } : Jvm.MethodName) jdk_35_method_24_code (3 : Nat) (Option.some (Jvm.ClassFile.FieldType.object "java/lang/Long"))).before args0 about1 = true := code_word (m := ⟨9, 0⟩) (meth := k9m0) (c := k9c0) (by decide +kernel) rfl rfl rfl (by decide +kernel)
set_option maxRecDepth 65536 in
theorem w_c5 : (Jvm.Cond.code ({ cls := "com/example/holdback/holdback/ring/Stamp", name := "equals", desc := "(Ljava/lang/Object;)Z" } : Jvm.MethodName) prog_153_method_6_code (3 : Nat) (Option.some Jvm.ClassFile.FieldType.boolean)).before args0 about1 = true := code_word (m := ⟨4, 1⟩) (meth := k4m1) (c := k4c1) (by decide +kernel) rfl rfl rfl (by decide +kernel)
set_option maxRecDepth 65536 in
theorem w_c6 : (Jvm.Cond.code ({ cls := "java/lang/Long", name := "<init>", desc := "(J)V" } : Jvm.MethodName) jdk_35_method_26_code (3 : Nat) (Option.none : Option Jvm.ClassFile.FieldType)).before args0 about1 = true := code_word (m := ⟨9, 1⟩) (meth := k9m1) (c := k9c1) (by decide +kernel) rfl rfl rfl (by decide +kernel)
set_option maxRecDepth 65536 in
theorem w_c7 : (Jvm.Cond.code ({ cls := "java/lang/Number", name := "<init>", desc := "()V" } : Jvm.MethodName) jdk_18_method_1_code (1 : Nat) (Option.none : Option Jvm.ClassFile.FieldType)).before args0 about1 = true := code_word (m := ⟨6, 0⟩) (meth := k6m0) (c := k6c0) (by decide +kernel) rfl rfl rfl (by decide +kernel)
def codes1 : List Jvm.Cond := [Jvm.Cond.code x code maxLocals ret, Jvm.Cond.code ({ cls := "com/example/holdback/holdback/ring/Stamp", name := "<init>", desc := "(JI)V" } : Jvm.MethodName) prog_153_method_1_code (4 : Nat) (Option.none : Option Jvm.ClassFile.FieldType), Jvm.Cond.code ({ cls := "java/lang/Record", name := "<init>", desc := "()V" } : Jvm.MethodName) jdk_30_method_1_code (1 : Nat) (Option.none : Option Jvm.ClassFile.FieldType), Jvm.Cond.code ({ cls := "java/lang/Object", name := "<init>", desc := "()V" } : Jvm.MethodName) object_method_1_code (1 : Nat) (Option.none : Option Jvm.ClassFile.FieldType), Jvm.Cond.code ({ cls := "java/lang/Long", name := "valueOf", desc := "(J)Ljava/lang/Long;" } : Jvm.MethodName) jdk_35_method_24_code (3 : Nat) (Option.some (Jvm.ClassFile.FieldType.object "java/lang/Long")), Jvm.Cond.code ({ cls := "com/example/holdback/holdback/ring/Stamp", name := "equals", desc := "(Ljava/lang/Object;)Z" } : Jvm.MethodName) prog_153_method_6_code (3 : Nat) (Option.some Jvm.ClassFile.FieldType.boolean), Jvm.Cond.code ({ cls := "java/lang/Long", name := "<init>", desc := "(J)V" } : Jvm.MethodName) jdk_35_method_26_code (3 : Nat) (Option.none : Option Jvm.ClassFile.FieldType), Jvm.Cond.code ({ cls := "java/lang/Number", name := "<init>", desc := "()V" } : Jvm.MethodName) jdk_18_method_1_code (1 : Nat) (Option.none : Option Jvm.ClassFile.FieldType)]
set_option maxRecDepth 65536 in
theorem codes_eq : words1.filter isCode = codes1 := rfl
theorem w_codes : ∀ c ∈ words1.filter isCode, c.before args0 about1 = true := by
  rw [codes_eq]
  intro c hc
  simp only [codes1, List.mem_cons, List.not_mem_nil, or_false] at hc
  rcases hc with rfl | rfl | rfl | rfl | rfl | rfl | rfl | rfl
  · exact w_c0
  · exact w_c1
  · exact w_c2
  · exact w_c3
  · exact w_c4
  · exact w_c5
  · exact w_c6
  · exact w_c7
set_option maxRecDepth 65536 in
theorem w_t1 : (words1.take 24).all (fun c => isCode c || c.before args0 about1) = true := by decide +kernel
set_option maxRecDepth 65536 in
theorem w_t2 : ((words1.drop 24).take 24).all (fun c => isCode c || c.before args0 about1) = true := by decide +kernel
set_option maxRecDepth 65536 in
theorem w_t3 : ((words1.drop 24).drop 24).all (fun c => isCode c || c.before args0 about1) = true := by decide +kernel
theorem w_tables : (allAtoms (Jvm.Cond.code x code maxLocals ret :: tables_1)).before args0 about1 = true := by
  rw [allAtoms_all]
  show words1.all (fun c => c.before args0 about1) = true
  refine all_split ?_ w_codes
  rw [← List.take_append_drop 24 words1, List.all_append, w_t1, ← List.take_append_drop 24 (words1.drop 24), List.all_append, w_t2, w_t3]
  rfl
set_option maxRecDepth 65536 in
theorem w_rest : rest_1_c.before args0 about1 = true := by decide +kernel
set_option maxRecDepth 65536 in
theorem w_case : (Jvm.Cond.and given_1 narrow_1).before args0 about1 = true := by decide +kernel
theorem w_applies : (headSpec (Jvm.Cond.code x code maxLocals ret :: tables_1) room_1).applies x e0.platform about1 = true :=
  (Spec.applies_iff w_frames).mpr ⟨w_running, w_runnable, w_alone, w_named, w_hears, w_ripe, w_room, w_tables⟩
theorem atStart : AtStart classFile x code maxLocals ret World_1 tables_1 room_1 Calls_1 rest_1 Pre_1 launch0 p0 e0 about1 theMethod args0 below0 :=
  ⟨lists_1, trivial, launch0.admits_env _ _ _, launch0.least_env, fairChoices_fair.cas, fairChoices_fair.clock, w_frames, w_args, w_heap, w_applies, trivial, w_rest, w_case⟩
end start1
theorem witness_1 : WitnessClaimed_1 := ⟨start1.p0, start1.e0, start1.about1, start1.theMethod, start1.args0, start1.below0, start1.atStart⟩
end Jvm.Pilot.@@N@@
