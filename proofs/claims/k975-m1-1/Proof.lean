import JvmDerived
import JvmDerived.Pilot.@@N@@Statement
import JvmDerived.Pilot.@@N@@Code
set_option linter.unusedVariables false
set_option linter.unusedSimpArgs false
namespace Jvm.RoadKit
open Sem ClassFile Op Lib Jvm.Stand Jvm.Free Jvm.LawKit
section New
variable {p : Program} {l : Launch} {e : Env} {R : Room} {s : State} {m : MethodId} {args : Array Value} {below : List Frame} {meth : Method} {c : Code} {T : State} {locs : List Loc} {cells slots : Nat}
theorem retI (X : Stand p l e R s m args below meth c T locs cells slots) (hx : p.tables.exec = Jvm.exec) {pc : Nat} {Ls : Array Slot} {z : Int32} {rest : List Value} (hret : meth.sig.returnType = some .int) (hd : decode c.code pc = .ok (.ireturn, 1)) {fs : List Frame}
    (hl : ∀ (f : JFrame) (acts : List Action), f.method = m → f.locked = none → f.entered = [] → (doReturn e (T.setTop f) acts (some (.int z))).1 = T.setFrames fs) : Steps p.tables e below (T.setTop (mkF m pc Ls (.int z :: rest))) (T.setFrames fs) := by
  have hm' : T.vm.method? m = some meth := X.method'
  have hn : narrow .int (.int z) = .int z := rfl
  show Steps p.tables e below (T.setTop { method := m, pc := pc, locals := Ls, stack := _ :: rest, locked := none }) _
  jvm_step X.here [X.here.top, hx, hd, hm', hret, hn]
  first | (intro acts; rw [hl _ acts rfl rfl rfl]) | rw [hl _ _ rfl rfl rfl]
  exact Steps.refl _
end New
end Jvm.RoadKit
namespace Jvm.Pilot.@@N@@
open Jvm Jvm.ClassFile Sem Op Lib Jvm.Free Jvm.Stand Jvm.LawKit Jvm.RoadKit Bundle Jvm.Pilot.@@N@@.Jvm.D
theorem own_go {tb : Tables} {e : Env} {below : List Frame} {A B : State} {P : State → Outcome → Prop} (st : ∀ t, Steps tb e below B t → Steps tb e below A t) (k : ∃ t o, Steps tb e below B t ∧ P t o) : ∃ t o, Steps tb e below A t ∧ P t o := by
  obtain ⟨t, o, h1, h2⟩ := k
  exact ⟨t, o, st t h1, h2⟩
theorem own_goT {tb : Tables} {e : Env} {below : List Frame} {A B : State} {P : State → Outcome → Prop} (st : Steps tb e below A B) (k : ∃ t o, Steps tb e below B t ∧ P t o) : ∃ t o, Steps tb e below A t ∧ P t o := by
  obtain ⟨t, o, h1, h2⟩ := k
  exact ⟨t, o, st.trans h1, h2⟩
theorem own_nfo {args : Array Value} {s : State} {C : String} {x y z : MethodName} (hsel : (Jvm.Cond.selects C x z).before args s = true) (e : z.cls = y.cls) : NotFace s y := fun r0 h0 => by
  obtain ⟨c2, r2, m2, q1, q2, q3, q4, kP, hkP, hkPi⟩ := Cond.selects_spec hsel
  have a1 := findClass_of_methodNamed q3
  have a2 := findClass_of_methodNamed h0
  rw [e] at a1
  have e2 := Option.some.inj (a1.symm.trans a2)
  exact ⟨kP, by rw [← e2]; exact hkP, hkPi⟩
theorem own_ifc {α : Type} {P R : Prop} [Decidable P] [Decidable R] (a b : α) (h : P ↔ R) : (if P then a else b) = (if R then a else b) := by
  by_cases q : P
  · rw [if_pos q, if_pos (h.mp q)]
  · rw [if_neg q, if_neg fun r => q (h.mpr r)]
theorem own_ne {a b : Nat} (h : a < b ∨ b < a) : a ≠ b := by omega
theorem own_keep_le {h h' : Heap} {ws : List Addr} (K : Keep h h' ws) : h.size ≤ h'.size := K.1
theorem own_and3 (k : Int32) : k &&& 3 = 0 ∨ k &&& 3 = 1 ∨ k &&& 3 = 2 ∨ k &&& 3 = 3 := by
  have h := c_mask k 3 2 (by decide) (by decide)
  have h1 : ((2 ^ 2 : Nat) : Int) = 4 := rfl
  rw [h1] at h
  have h2 : (k &&& 3).toInt = 0 ∨ (k &&& 3).toInt = 1 ∨ (k &&& 3).toInt = 2 ∨ (k &&& 3).toInt = 3 := by omega
  rcases h2 with h2 | h2 | h2 | h2
  · exact Or.inl (Int32.toInt_inj.mp h2)
  · exact Or.inr (Or.inl (Int32.toInt_inj.mp h2))
  · exact Or.inr (Or.inr (Or.inl (Int32.toInt_inj.mp h2)))
  · exact Or.inr (Or.inr (Or.inr (Int32.toInt_inj.mp h2)))
def own_lval (j : Int32) : Value := .long (j - 128).toInt64
theorem own_lidx {n : Nat} {q : Int64} (S : n = (256 : Int32).toNatClampNeg) (h1 : ¬ (q < (-128 : Int64))) (h2 : ¬ ((127 : Int64) < q)) : ¬ ((q.toInt32 + (128 : Int32)) < 0 ∨ n ≤ (q.toInt32 + (128 : Int32)).toNatClampNeg) := by
  have e0 : (256 : Int32).toNatClampNeg = 256 := rfl
  rw [e0] at S
  rw [Int64.lt_iff_toInt_lt] at h1 h2
  have a1 : (-128 : Int64).toInt = -128 := rfl
  have a2 : (127 : Int64).toInt = 127 := rfl
  have a3 : (128 : Int32).toInt = 128 := rfl
  have a4 : (0 : Int32).toInt = 0 := rfl
  have c1 := c_l2i q
  have c2 := c_iadd q.toInt32 128
  have c3 := rng32 (q.toInt32 + 128)
  have c4 := rng32 q.toInt32
  rw [Int32.lt_iff_toInt_lt]
  simp only [Int32.toNatClampNeg]
  omega

theorem ef_rmNumber (m : MethodId) (x0 : Nat) : entryFrame m #[(.ref x0)] 1 = mkF m 0 #[.val (.ref x0)] [] := by first | (simp [entryFrame, mkF, argsToLocals, Value.category]; done) | rfl
theorem d9_0 : decode jdk_18_method_1_code 0 = .ok (.aload_n 0, 1) := by decide +kernel
theorem d9_1 : decode jdk_18_method_1_code 1 = .ok (.invokespecial 1, 3) := by decide +kernel
theorem d9_4 : decode jdk_18_method_1_code 4 = .ok (.return_, 1) := by decide +kernel
theorem pn_java_lang_Number : plainName "java/lang/Number" = true := by first | (simp [plainName, overriddenIn]; done) | decide +kernel
def Q_rmNumber (Z : State) (a1 : Nat) (h0 : Heap) (n0 : Nat) (v : Option Value) (h : Heap) (L : List Loc) : Prop := v = none ∧ Fr n0 L ∧ h = h0
set_option maxRecDepth 65536 in
set_option maxHeartbeats 40000000 in
theorem rmNumber (l : Launch) (Z : State) (a0 : Array Value) (hw : ∀ d ∈ tables_1, d.before a0 Z = true) (ws : List Jvm.Cond) (a1 : Nat) (h0 : Heap) (n0 : Nat) (Z0 : n0 ≤ h0.size) (OLD : Old Z n0 h0) :
    MetFree l (⟨"java/lang/Number", "<init>", "()V"⟩ : MethodName) (head1 (Jvm.Cond.code (⟨"java/lang/Number", "<init>", "()V"⟩ : MethodName) jdk_18_method_1_code 1 none :: ws) ({ frames := 1, cells := 0, slots := 0, locals := 12 } : Room)) (fun a U => a = #[(.ref a1)] ∧ Z.Warmed39 U.vm ∧ U.heap = h0) (fun _ _ _ _ _ => True) (fun _ U o U' => ∃ v L, o = .returned v ∧ Q_rmNumber Z a1 h0 n0 v U'.heap L ∧ FrameEnd U o U' L ({ frames := 1, cells := 0, slots := 0, locals := 12 } : Room).cells ({ frames := 1, cells := 0, slots := 0, locals := 12 } : Room).slots) := by
  refine MetFree.of_bodySF (plainFor_of_name pn_java_lang_Number) hisR ?_
  intro p e s m args below meth c s₁ Bd hml0 hP hK
  obtain ⟨rfl, hZ, hh⟩ := hP
  have hx := Bd.exec
  have hby := Bd.bytes
  have hml : c.maxLocals = 1 := hml0
  have hown : s.vm.findClass "java/lang/Number" = some m.cls := findClass_of_methodNamed Bd.named
  have hnm := (name_of_methodNamed Bd.named Bd.method).1
  have X0 : Stand p l e ({ frames := 1, cells := 0, slots := 0, locals := 12 } : Room) s m #[(.ref a1)] below meth c s₁ [] 0 0 := Stand.of_body Bd
  have e0 : s₁.heap = h0 := by rw [← hh, Bd.state]; rfl
  have N0 := Fr.nil n0
  have pre0 : ∀ t, Steps p.tables e below (s₁.setTop (mkF m 0 #[.val (.ref a1)] [])) t → Steps p.tables e below (s₁.setTop (entryFrame m #[(.ref a1)] 1)) t := fun t k => castTop (ef_rmNumber m a1) k
  have oz := OLD.1
  refine own_go (B := s₁.setTop (mkF m 0 #[.val (.ref a1)] [])) pre0 ?_
  show ∃ t o, Steps p.tables e below (s₁.setTop (mkF m 0 #[.val (.ref a1)] [])) t ∧ _
  refine own_go (fun _ => XS.aloadN X0.here hx rfl (hb hby d9_0) rfl rfl) ?_
  show ∃ t o, Steps p.tables e below (s₁.setTop (mkF m 1 #[.val (.ref a1)] [(.ref a1)])) t ∧ _
  obtain ⟨T1, X1, e1, st1⟩ := initO X0 hx hZ hown (hw _ (List.mem_of_getElem? (i := 62) rfl)) (hw _ (List.mem_of_getElem? (i := 27) rfl)) (hw _ (List.mem_of_getElem? (i := 28) rfl)) e0 (g := (mkF m 1 #[.val (.ref a1)] [(.ref a1)])) rfl (by rw [hml]; rfl) rfl (hb hby d9_1) (by decide) (W := 0) (by show 2 * 0 + _ ≤ _; exact Nat.le_of_eq rfl) (by decide)
  refine own_go st1 ?_
  show ∃ t o, Steps p.tables e below (T1.setTop (mkF m 4 #[.val (.ref a1)] [])) t ∧ _
  obtain ⟨fs, hr, hrun, hended, hW, hsame⟩ := X1.leave (v := none) (fun _ => rfl)
  refine ⟨_, _, ?_, hrun, hended, _, _, rfl, ?_, ⟨_, rfl⟩, hW, hsame.mono (by decide) (by decide)⟩
  · exact X1.returnOut hx Bd.returns (hb hby d9_4) hr
  · show Q_rmNumber Z a1 h0 n0 _ T1.heap _
    rw [e1]
    exact ⟨rfl, N0, rfl⟩
theorem ef_rmLongInit (m : MethodId) (x0 : Nat) (x1 : Int64) : entryFrame m #[(.ref x0), (.long x1)] 3 = mkF m 0 #[.val (.ref x0), .val (.long x1), .second] [] := by first | (simp [entryFrame, mkF, argsToLocals, Value.category]; done) | rfl
theorem d10_0 : decode jdk_35_method_26_code 0 = .ok (.aload_n 0, 1) := by decide +kernel
theorem d10_1 : decode jdk_35_method_26_code 1 = .ok (.invokespecial 270, 3) := by decide +kernel
theorem pd__28_29V : parseMethodDescriptor "()V" = some ⟨[], none⟩ := by decide +kernel
theorem d10_4 : decode jdk_35_method_26_code 4 = .ok (.aload_n 0, 1) := by decide +kernel
theorem d10_5 : decode jdk_35_method_26_code 5 = .ok (.lload_n 1, 1) := by decide +kernel
theorem d10_6 : decode jdk_35_method_26_code 6 = .ok (.putfield 273, 3) := by decide +kernel
theorem d10_9 : decode jdk_35_method_26_code 9 = .ok (.return_, 1) := by decide +kernel
theorem pn_java_lang_Long : plainName "java/lang/Long" = true := by first | (simp [plainName, overriddenIn]; done) | decide +kernel
def Q_rmLongInit (Z : State) (a1 : Nat) (q1 : Int64) (h0 : Heap) (n0 : Nat) (v : Option Value) (h : Heap) (L : List Loc) : Prop := v = none ∧ Fr n0 L ∧ Keep h0 h [a1] ∧ Exa Z h a1 "java/lang/Long" ∧ Fld Z h a1 "java/lang/Long" "value" "J" (.long q1)
set_option maxRecDepth 65536 in
set_option maxHeartbeats 40000000 in
theorem rmLongInit (l : Launch) (Z : State) (a0 : Array Value) (hw : ∀ d ∈ tables_1, d.before a0 Z = true) (ws : List Jvm.Cond) (a1 : Nat) (q1 : Int64) (h0 : Heap) (n0 : Nat) (Z0 : n0 ≤ h0.size) (P1 : Exa Z h0 a1 "java/lang/Long") (P2 : Fld Z h0 a1 "java/lang/Long" "value" "J" (.long (0 : Int64))) (OLD : Old Z n0 h0) (ga : n0 ≤ a1) :
    MetFree l (⟨"java/lang/Long", "<init>", "(J)V"⟩ : MethodName) (head1 (Jvm.Cond.code (⟨"java/lang/Long", "<init>", "(J)V"⟩ : MethodName) jdk_35_method_26_code 3 none :: ws) ({ frames := 2, cells := 0, slots := 0, locals := 24 } : Room)) (fun a U => a = #[(.ref a1), (.long q1)] ∧ Z.Warmed39 U.vm ∧ U.heap = h0) (fun _ _ _ _ _ => True) (fun _ U o U' => ∃ v L, o = .returned v ∧ Q_rmLongInit Z a1 q1 h0 n0 v U'.heap L ∧ FrameEnd U o U' L ({ frames := 2, cells := 0, slots := 0, locals := 24 } : Room).cells ({ frames := 2, cells := 0, slots := 0, locals := 24 } : Room).slots) := by
  refine MetFree.of_bodySF (plainFor_of_name pn_java_lang_Long) hisR ?_
  intro p e s m args below meth c s₁ Bd hml0 hP hK
  obtain ⟨rfl, hZ, hh⟩ := hP
  have hx := Bd.exec
  have hby := Bd.bytes
  have hml : c.maxLocals = 3 := hml0
  have hown : s.vm.findClass "java/lang/Long" = some m.cls := findClass_of_methodNamed Bd.named
  have hnm := (name_of_methodNamed Bd.named Bd.method).1
  have X0 : Stand p l e ({ frames := 2, cells := 0, slots := 0, locals := 24 } : Room) s m #[(.ref a1), (.long q1)] below meth c s₁ [] 0 0 := Stand.of_body Bd
  have e0 : s₁.heap = h0 := by rw [← hh, Bd.state]; rfl
  have N0 := Fr.nil n0
  have pre0 : ∀ t, Steps p.tables e below (s₁.setTop (mkF m 0 #[.val (.ref a1), .val (.long q1), .second] [])) t → Steps p.tables e below (s₁.setTop (entryFrame m #[(.ref a1), (.long q1)] 3)) t := fun t k => castTop (ef_rmLongInit m a1 q1) k
  have oz := OLD.1
  have lt_a1 : a1 < h0.size := P1.lt
  refine own_go (B := s₁.setTop (mkF m 0 #[.val (.ref a1), .val (.long q1), .second] [])) pre0 ?_
  show ∃ t o, Steps p.tables e below (s₁.setTop (mkF m 0 #[.val (.ref a1), .val (.long q1), .second] [])) t ∧ _
  refine own_go (fun _ => XS.aloadN X0.here hx rfl (hb hby d10_0) rfl rfl) ?_
  show ∃ t o, Steps p.tables e below (s₁.setTop (mkF m 1 #[.val (.ref a1), .val (.long q1), .second] [(.ref a1)])) t ∧ _
  obtain ⟨_, _, ⟨T3, L3, k3, n3⟩, -, X3, ⟨Lc3, hQ3, l3, y3, z3⟩, st3⟩ := X0.specialBack hx (y := (⟨"java/lang/Number", "<init>", "()V"⟩ : MethodName)) rfl hown (mvT hZ (hw _ (List.mem_of_getElem? (i := 71) rfl))) (mvT hZ (hw _ (List.mem_of_getElem? (i := 57) rfl))) (mvT hZ (hw _ (List.mem_of_getElem? (i := 61) rfl))) (by decide) (backOf (W := 0) (rmNumber l Z a0 hw [] a1 h0 n0 Z0 OLD) hZ (hw _ (List.mem_of_getElem? (i := 61) rfl)) (hw _ (List.mem_of_getElem? (i := 60) rfl)) (by decide) (by decide)) (g := (mkF m 1 #[.val (.ref a1), .val (.long q1), .second] [(.ref a1)])) rfl (by rw [hml]; rfl) (Steps.refl _) (a := a1) (argsL := []) (rest := []) (lenOf pd__28_29V rfl) rfl (by show 2 * 0 + _ ≤ _; exact Nat.le_of_eq rfl) (hb hby d10_1) (fun _ _ => ⟨rfl, e0, (by decide : 0 + 0 ≤ _), (by decide : 0 + 0 ≤ _)⟩)
  dsimp only [Pt.U, Pt.locs, Pt.cells, Pt.slots] at X3 l3 y3 z3 st3 hQ3
  subst l3 y3 z3
  obtain ⟨rfl, Nq3, e3⟩ := hQ3
  have N3 := Fr.app N0 Nq3
  refine own_goT st3 ?_
  show ∃ t o, Steps p.tables e below (T3.setTop (mkF m 4 #[.val (.ref a1), .val (.long q1), .second] [])) t ∧ _
  refine own_go (fun _ => XS.aloadN X3.here hx rfl (hb hby d10_4) rfl rfl) ?_
  show ∃ t o, Steps p.tables e below (T3.setTop (mkF m 5 #[.val (.ref a1), .val (.long q1), .second] [(.ref a1)])) t ∧ _
  refine own_go (fun _ => XS.lloadN X3.here hx rfl (hb hby d10_5) rfl) ?_
  show ∃ t o, Steps p.tables e below (T3.setTop (mkF m 6 #[.val (.ref a1), .val (.long q1), .second] [(.long q1), (.ref a1)])) t ∧ _
  obtain ⟨T4, h4, X4, e4, W4, st4⟩ := putF X3 hx hZ hown (host := "") (Or.inl (hw _ (List.mem_of_getElem? (i := 73) rfl))) Via.refl e3 P2 P1 (Or.inr ⟨(hw _ (List.mem_of_getElem? (i := 74) rfl)), rfl, hnm⟩) (hw _ (List.mem_of_getElem? (i := 66) rfl)) (ty := .long) (by decide) rfl rfl (g := (mkF m 6 #[.val (.ref a1), .val (.long q1), .second] [(.long q1), (.ref a1)])) rfl rfl (hb hby d10_6)
  refine own_go st4 ?_
  have le_4 : h0.size ≤ h4.size := Nat.le_of_eq W4.size.symm
  have K4 : Keep h0 h4 [a1] := Keep.wr (Keep.refl h0 [a1]) W4 (Or.inl (List.mem_of_getElem? (i := 0) rfl))
  have N4 := Fr.snoc X4 N3 ga
  have Fw4 := Fld.same W4 P2
  show ∃ t o, Steps p.tables e below (T4.setTop (mkF m 9 #[.val (.ref a1), .val (.long q1), .second] [])) t ∧ _
  have F5 : Exa Z h4 a1 "java/lang/Long" := (Exa.wr W4 P1)
  obtain ⟨fs, hr, hrun, hended, hW, hsame⟩ := X4.leave (v := none) (fun _ => rfl)
  refine ⟨_, _, ?_, hrun, hended, _, _, rfl, ?_, ⟨_, rfl⟩, hW, hsame.mono (by decide) (by decide)⟩
  · exact X4.returnOut hx Bd.returns (hb hby d10_9) hr
  · show Q_rmLongInit Z a1 q1 h0 n0 _ T4.heap _
    rw [e4]
    exact ⟨rfl, N4, K4, F5, Fw4⟩
theorem ef_rmLongOf (m : MethodId) (x0 : Int64) : entryFrame m #[(.long x0)] 3 = mkF m 0 #[.val (.long x0), .second, .unset] [] := by first | (simp [entryFrame, mkF, argsToLocals, Value.category]; done) | rfl
theorem d2_0 : decode jdk_35_method_24_code 0 = .ok (.sipush 128, 3) := by decide +kernel
theorem d2_3 : decode jdk_35_method_24_code 3 = .ok (.istore_n 2, 1) := by decide +kernel
theorem d2_4 : decode jdk_35_method_24_code 4 = .ok (.lload_n 0, 1) := by decide +kernel
theorem d2_5 : decode jdk_35_method_24_code 5 = .ok (.ldc2_w 230, 3) := by decide +kernel
theorem d2_8 : decode jdk_35_method_24_code 8 = .ok (.lcmp, 1) := by decide +kernel
theorem d2_9 : decode jdk_35_method_24_code 9 = .ok (.ifCond .lt 22, 3) := by decide +kernel
theorem d2_31 : decode jdk_35_method_24_code 31 = .ok (.new 1, 3) := by decide +kernel
theorem d2_34 : decode jdk_35_method_24_code 34 = .ok (.dup, 1) := by decide +kernel
theorem d2_35 : decode jdk_35_method_24_code 35 = .ok (.lload_n 0, 1) := by decide +kernel
theorem d2_36 : decode jdk_35_method_24_code 36 = .ok (.invokespecial 240, 3) := by decide +kernel
theorem pd__28J_29V : parseMethodDescriptor "(J)V" = some ⟨[.long], none⟩ := by decide +kernel
theorem d2_39 : decode jdk_35_method_24_code 39 = .ok (.areturn, 1) := by decide +kernel
theorem d2_12 : decode jdk_35_method_24_code 12 = .ok (.lload_n 0, 1) := by decide +kernel
theorem d2_13 : decode jdk_35_method_24_code 13 = .ok (.ldc2_w 232, 3) := by decide +kernel
theorem d2_16 : decode jdk_35_method_24_code 16 = .ok (.lcmp, 1) := by decide +kernel
theorem d2_17 : decode jdk_35_method_24_code 17 = .ok (.ifCond .gt 14, 3) := by decide +kernel
theorem d2_20 : decode jdk_35_method_24_code 20 = .ok (.getstatic 234, 3) := by decide +kernel
theorem d2_23 : decode jdk_35_method_24_code 23 = .ok (.lload_n 0, 1) := by decide +kernel
theorem d2_24 : decode jdk_35_method_24_code 24 = .ok (.l2i, 1) := by decide +kernel
theorem d2_25 : decode jdk_35_method_24_code 25 = .ok (.sipush 128, 3) := by decide +kernel
theorem d2_28 : decode jdk_35_method_24_code 28 = .ok (.iadd, 1) := by decide +kernel
theorem d2_29 : decode jdk_35_method_24_code 29 = .ok (.aaload, 1) := by decide +kernel
theorem d2_30 : decode jdk_35_method_24_code 30 = .ok (.areturn, 1) := by decide +kernel
def Q_rmLongOf (Z : State) (q1 : Int64) (ca : Nat) (cca : Cell) (h0 : Heap) (n0 : Nat) (v : Option Value) (h : Heap) (L : List Loc) : Prop := ∃ (b : Nat), ∃ (rv : Int64), v = some (.ref b) ∧ Fr n0 L ∧ Keep h0 h [] ∧ Exa Z h b "java/lang/Long" ∧ Fld Z h b "java/lang/Long" "value" "J" (.long rv)
set_option maxRecDepth 65536 in
set_option maxHeartbeats 40000000 in
theorem rmLongOf (l : Launch) (Z : State) (a0 : Array Value) (hw : ∀ d ∈ tables_1, d.before a0 Z = true) (ws : List Jvm.Cond) (q1 : Int64) (ca : Nat) (cca : Cell) (h0 : Heap) (n0 : Nat) (Z0 : n0 ≤ h0.size) (OLD : Old Z n0 h0) (P1 : Sta Z Z.heap "java/lang/Long$LongCache" "cache" "[Ljava/lang/Long;" (.ref ca)) (BX : Bxs Z ca cca "java/lang/Long" "J" (256 : Int32) own_lval) :
    MetFree l (⟨"java/lang/Long", "valueOf", "(J)Ljava/lang/Long;"⟩ : MethodName) (head1 (Jvm.Cond.code (⟨"java/lang/Long", "valueOf", "(J)Ljava/lang/Long;"⟩ : MethodName) jdk_35_method_24_code 3 (some (.object "java/lang/Long")) :: ws) ({ frames := 3, cells := 1, slots := 1, locals := 39 } : Room)) (fun a U => a = #[(.long q1)] ∧ Z.Warmed39 U.vm ∧ U.heap = h0) (fun _ _ _ _ _ => True) (fun _ U o U' => ∃ v L, o = .returned v ∧ Q_rmLongOf Z q1 ca cca h0 n0 v U'.heap L ∧ FrameEnd U o U' L ({ frames := 3, cells := 1, slots := 1, locals := 39 } : Room).cells ({ frames := 3, cells := 1, slots := 1, locals := 39 } : Room).slots) := by
  refine MetFree.of_bodySF (plainFor_of_name pn_java_lang_Long) hisR ?_
  intro p e s m args below meth c s₁ Bd hml0 hP hK
  obtain ⟨rfl, hZ, hh⟩ := hP
  have hx := Bd.exec
  have hby := Bd.bytes
  have hml : c.maxLocals = 3 := hml0
  have hown : s.vm.findClass "java/lang/Long" = some m.cls := findClass_of_methodNamed Bd.named
  have hnm := (name_of_methodNamed Bd.named Bd.method).1
  have X0 : Stand p l e ({ frames := 3, cells := 1, slots := 1, locals := 39 } : Room) s m #[(.long q1)] below meth c s₁ [] 0 0 := Stand.of_body Bd
  have e0 : s₁.heap = h0 := by rw [← hh, Bd.state]; rfl
  have N0 := Fr.nil n0
  have pre0 : ∀ t, Steps p.tables e below (s₁.setTop (mkF m 0 #[.val (.long q1), .second, .unset] [])) t → Steps p.tables e below (s₁.setTop (entryFrame m #[(.long q1)] 3)) t := fun t k => castTop (ef_rmLongOf m q1) k
  have oz := OLD.1
  refine own_go (B := s₁.setTop (mkF m 0 #[.val (.long q1), .second, .unset] [])) pre0 ?_
  show ∃ t o, Steps p.tables e below (s₁.setTop (mkF m 0 #[.val (.long q1), .second, .unset] [])) t ∧ _
  refine own_go (fun _ => XS.sipush X0.here hx rfl (hb hby d2_0)) ?_
  show ∃ t o, Steps p.tables e below (s₁.setTop (mkF m 3 #[.val (.long q1), .second, .unset] [(.int (128 : Int32))])) t ∧ _
  refine own_go (fun _ => XS.istoreN X0.here hx rfl (hb hby d2_3) rfl (l' := #[.val (.long q1), .second, .val (.int (128 : Int32))]) rfl) ?_
  show ∃ t o, Steps p.tables e below (s₁.setTop (mkF m 4 #[.val (.long q1), .second, .val (.int (128 : Int32))] [])) t ∧ _
  refine own_go (fun _ => XS.lloadN X0.here hx rfl (hb hby d2_4) rfl) ?_
  show ∃ t o, Steps p.tables e below (s₁.setTop (mkF m 5 #[.val (.long q1), .second, .val (.int (128 : Int32))] [(.long q1)])) t ∧ _
  refine own_go (fun _ => X0.ldc2Long hx hown (mvT hZ (hw _ (List.mem_of_getElem? (i := 11) rfl))) (g := (mkF m 5 #[.val (.long q1), .second, .val (.int (128 : Int32))] [(.long q1)])) rfl (hb hby d2_5) _) ?_
  show ∃ t o, Steps p.tables e below (s₁.setTop (mkF m 8 #[.val (.long q1), .second, .val (.int (128 : Int32))] [(.long (-128 : Int64)), (.long q1)])) t ∧ _
  refine own_go (fun _ => XS.lcmp X0.here hx rfl (hb hby d2_8) rfl) ?_
  show ∃ t o, Steps p.tables e below (s₁.setTop (mkF m 9 #[.val (.long q1), .second, .val (.int (128 : Int32))] [(.int (lcmpW q1 (-128 : Int64)))])) t ∧ _
  by_cases hc2 : q1 < (-128 : Int64)
  · refine own_go (fun _ => XS.ifYes X0.here hx rfl (pc0 := 9) (pc' := 31) rfl (hb hby d2_9) rfl ((if0 _ _).trans (tlt ((lw_lt _ _).mpr hc2)).1) (by decide) (by decide)) ?_
    show ∃ t o, Steps p.tables e below (s₁.setTop (mkF m 31 #[.val (.long q1), .second, .val (.int (128 : Int32))] [])) t ∧ _
    obtain ⟨T3, h3, X3, e3, E3, A3, D3, -, st3⟩ := newO X0 hx hZ hown (hw _ (List.mem_of_getElem? (i := 65) rfl)) (hw _ (List.mem_of_getElem? (i := 66) rfl)) (hw _ (List.mem_of_getElem? (i := 9) rfl)) e0 (g := (mkF m 31 #[.val (.long q1), .second, .val (.int (128 : Int32))] [])) rfl (hb hby d2_31) (by decide) (by decide)
    obtain ⟨b3, g3⟩ : ∃ z, z = h0.size := ⟨_, rfl⟩
    rw [← g3] at A3 D3 st3
    refine own_go st3 ?_
    have le_3 : h0.size ≤ h3.size := E3.1
    have lt_b3 : b3 < h3.size := A3.lt
    have F_value_b3 : Fld Z h3 b3 "java/lang/Long" "value" "J" (.long (0 : Int64)) := D3 (Or.inr (hw _ (List.mem_of_getElem? (i := 74) rfl))) (ty := .long) (by decide)
    have K3 : Keep h0 h3 [] := Keep.ext (Keep.refl h0 []) E3
    show ∃ t o, Steps p.tables e below (T3.setTop (mkF m 34 #[.val (.long q1), .second, .val (.int (128 : Int32))] [(.ref b3)])) t ∧ _
    refine own_go (fun _ => XS.dup X3.here hx rfl (hb hby d2_34) rfl rfl) ?_
    show ∃ t o, Steps p.tables e below (T3.setTop (mkF m 35 #[.val (.long q1), .second, .val (.int (128 : Int32))] [(.ref b3), (.ref b3)])) t ∧ _
    refine own_go (fun _ => XS.lloadN X3.here hx rfl (hb hby d2_35) rfl) ?_
    show ∃ t o, Steps p.tables e below (T3.setTop (mkF m 36 #[.val (.long q1), .second, .val (.int (128 : Int32))] [(.long q1), (.ref b3), (.ref b3)])) t ∧ _
    have F4 : Old Z n0 h3 := (OLD.ext E3)
    have ge5 : n0 ≤ b3 := by omega
    have zl6 : n0 ≤ h3.size := by omega
    obtain ⟨_, _, ⟨T7, L7, k7, n7⟩, -, X7, ⟨Lc7, hQ7, l7, y7, z7⟩, st7⟩ := X3.specialBack hx (y := (⟨"java/lang/Long", "<init>", "(J)V"⟩ : MethodName)) rfl hown (mvT hZ (hw _ (List.mem_of_getElem? (i := 67) rfl))) (mvT hZ (hw _ (List.mem_of_getElem? (i := 68) rfl))) (mvT hZ (hw _ (List.mem_of_getElem? (i := 70) rfl))) (by decide) (backOf (W := 1) (rmLongInit l Z a0 hw [] b3 q1 h3 n0 zl6 A3 F_value_b3 F4 ge5) hZ (hw _ (List.mem_of_getElem? (i := 70) rfl)) (hw _ (List.mem_of_getElem? (i := 9) rfl)) (by decide) (by decide)) (g := (mkF m 36 #[.val (.long q1), .second, .val (.int (128 : Int32))] [(.long q1), (.ref b3), (.ref b3)])) rfl (by rw [hml]; rfl) (Steps.refl _) (a := b3) (argsL := [(.long q1)]) (rest := [(.ref b3)]) (lenOf pd__28J_29V rfl) rfl (by show 2 * 0 + _ ≤ _; exact Nat.le_of_eq rfl) (hb hby d2_36) (fun _ _ => ⟨rfl, e3, (by decide : 1 + 0 ≤ _), (by decide : 1 + 0 ≤ _)⟩)
    dsimp only [Pt.U, Pt.locs, Pt.cells, Pt.slots] at X7 l7 y7 z7 st7 hQ7
    subst l7 y7 z7
    obtain ⟨rfl, Nq7, Kp7, G7_0, G7_1⟩ := hQ7
    have N7 := Fr.app N0 Nq7
    refine own_goT st7 ?_
    have le_7 : h3.size ≤ T7.heap.size := Kp7.1
    have sz8 : h0.size ≤ b3 := by omega
    have K7 : Keep h0 T7.heap [] := Keep.trans K3 Kp7 (allS (Or.inr sz8) all0)
    show ∃ t o, Steps p.tables e below (T7.setTop (mkF m 39 #[.val (.long q1), .second, .val (.int (128 : Int32))] [(.ref b3)])) t ∧ _
    obtain ⟨fs, hr, hrun, hended, hW, hsame⟩ := X7.leave (v := some (.ref b3)) (fun h => by rw [Bd.returns] at h; cases h)
    refine ⟨_, _, ?_, hrun, hended, _, _, rfl, ?_, ⟨_, rfl⟩, hW, hsame.mono (by decide) (by decide)⟩
    · jvm_step X7.here [X7.here.top, hx, (hb hby d2_39), X7.method', Bd.returns, Value.isRef, FieldType.isReference]
      first | (intro acts; rw [hr _ acts rfl rfl rfl]) | rw [hr _ _ rfl rfl rfl]
      exact Steps.refl _
    · show Q_rmLongOf Z q1 ca cca h0 n0 _ T7.heap _
      exact ⟨b3, q1, rfl, N7, K7, G7_0, G7_1⟩
  · refine own_go (fun _ => XS.ifNo X0.here hx rfl (hb hby d2_9) rfl ((if0 _ _).trans (flt (mt (lw_lt _ _).mp hc2)).1)) ?_
    show ∃ t o, Steps p.tables e below (s₁.setTop (mkF m 12 #[.val (.long q1), .second, .val (.int (128 : Int32))] [])) t ∧ _
    refine own_go (fun _ => XS.lloadN X0.here hx rfl (hb hby d2_12) rfl) ?_
    show ∃ t o, Steps p.tables e below (s₁.setTop (mkF m 13 #[.val (.long q1), .second, .val (.int (128 : Int32))] [(.long q1)])) t ∧ _
    refine own_go (fun _ => X0.ldc2Long hx hown (mvT hZ (hw _ (List.mem_of_getElem? (i := 12) rfl))) (g := (mkF m 13 #[.val (.long q1), .second, .val (.int (128 : Int32))] [(.long q1)])) rfl (hb hby d2_13) _) ?_
    show ∃ t o, Steps p.tables e below (s₁.setTop (mkF m 16 #[.val (.long q1), .second, .val (.int (128 : Int32))] [(.long (127 : Int64)), (.long q1)])) t ∧ _
    refine own_go (fun _ => XS.lcmp X0.here hx rfl (hb hby d2_16) rfl) ?_
    show ∃ t o, Steps p.tables e below (s₁.setTop (mkF m 17 #[.val (.long q1), .second, .val (.int (128 : Int32))] [(.int (lcmpW q1 (127 : Int64)))])) t ∧ _
    by_cases hc9 : (127 : Int64) < q1
    · refine own_go (fun _ => XS.ifYes X0.here hx rfl (pc0 := 17) (pc' := 31) rfl (hb hby d2_17) rfl ((if0 _ _).trans (tlt ((lw_gt _ _).mpr hc9)).2.2.1) (by decide) (by decide)) ?_
      show ∃ t o, Steps p.tables e below (s₁.setTop (mkF m 31 #[.val (.long q1), .second, .val (.int (128 : Int32))] [])) t ∧ _
      obtain ⟨T10, h10, X10, e10, E10, A10, D10, -, st10⟩ := newO X0 hx hZ hown (hw _ (List.mem_of_getElem? (i := 65) rfl)) (hw _ (List.mem_of_getElem? (i := 66) rfl)) (hw _ (List.mem_of_getElem? (i := 9) rfl)) e0 (g := (mkF m 31 #[.val (.long q1), .second, .val (.int (128 : Int32))] [])) rfl (hb hby d2_31) (by decide) (by decide)
      obtain ⟨b10, g10⟩ : ∃ z, z = h0.size := ⟨_, rfl⟩
      rw [← g10] at A10 D10 st10
      refine own_go st10 ?_
      have le_10 : h0.size ≤ h10.size := E10.1
      have lt_b10 : b10 < h10.size := A10.lt
      have F_value_b10 : Fld Z h10 b10 "java/lang/Long" "value" "J" (.long (0 : Int64)) := D10 (Or.inr (hw _ (List.mem_of_getElem? (i := 74) rfl))) (ty := .long) (by decide)
      have K10 : Keep h0 h10 [] := Keep.ext (Keep.refl h0 []) E10
      show ∃ t o, Steps p.tables e below (T10.setTop (mkF m 34 #[.val (.long q1), .second, .val (.int (128 : Int32))] [(.ref b10)])) t ∧ _
      refine own_go (fun _ => XS.dup X10.here hx rfl (hb hby d2_34) rfl rfl) ?_
      show ∃ t o, Steps p.tables e below (T10.setTop (mkF m 35 #[.val (.long q1), .second, .val (.int (128 : Int32))] [(.ref b10), (.ref b10)])) t ∧ _
      refine own_go (fun _ => XS.lloadN X10.here hx rfl (hb hby d2_35) rfl) ?_
      show ∃ t o, Steps p.tables e below (T10.setTop (mkF m 36 #[.val (.long q1), .second, .val (.int (128 : Int32))] [(.long q1), (.ref b10), (.ref b10)])) t ∧ _
      have F11 : Old Z n0 h10 := (OLD.ext E10)
      have ge12 : n0 ≤ b10 := by omega
      have zl13 : n0 ≤ h10.size := by omega
      obtain ⟨_, _, ⟨T14, L14, k14, n14⟩, -, X14, ⟨Lc14, hQ14, l14, y14, z14⟩, st14⟩ := X10.specialBack hx (y := (⟨"java/lang/Long", "<init>", "(J)V"⟩ : MethodName)) rfl hown (mvT hZ (hw _ (List.mem_of_getElem? (i := 67) rfl))) (mvT hZ (hw _ (List.mem_of_getElem? (i := 68) rfl))) (mvT hZ (hw _ (List.mem_of_getElem? (i := 70) rfl))) (by decide) (backOf (W := 1) (rmLongInit l Z a0 hw [] b10 q1 h10 n0 zl13 A10 F_value_b10 F11 ge12) hZ (hw _ (List.mem_of_getElem? (i := 70) rfl)) (hw _ (List.mem_of_getElem? (i := 9) rfl)) (by decide) (by decide)) (g := (mkF m 36 #[.val (.long q1), .second, .val (.int (128 : Int32))] [(.long q1), (.ref b10), (.ref b10)])) rfl (by rw [hml]; rfl) (Steps.refl _) (a := b10) (argsL := [(.long q1)]) (rest := [(.ref b10)]) (lenOf pd__28J_29V rfl) rfl (by show 2 * 0 + _ ≤ _; exact Nat.le_of_eq rfl) (hb hby d2_36) (fun _ _ => ⟨rfl, e10, (by decide : 1 + 0 ≤ _), (by decide : 1 + 0 ≤ _)⟩)
      dsimp only [Pt.U, Pt.locs, Pt.cells, Pt.slots] at X14 l14 y14 z14 st14 hQ14
      subst l14 y14 z14
      obtain ⟨rfl, Nq14, Kp14, G14_0, G14_1⟩ := hQ14
      have N14 := Fr.app N0 Nq14
      refine own_goT st14 ?_
      have le_14 : h10.size ≤ T14.heap.size := Kp14.1
      have sz15 : h0.size ≤ b10 := by omega
      have K14 : Keep h0 T14.heap [] := Keep.trans K10 Kp14 (allS (Or.inr sz15) all0)
      show ∃ t o, Steps p.tables e below (T14.setTop (mkF m 39 #[.val (.long q1), .second, .val (.int (128 : Int32))] [(.ref b10)])) t ∧ _
      obtain ⟨fs, hr, hrun, hended, hW, hsame⟩ := X14.leave (v := some (.ref b10)) (fun h => by rw [Bd.returns] at h; cases h)
      refine ⟨_, _, ?_, hrun, hended, _, _, rfl, ?_, ⟨_, rfl⟩, hW, hsame.mono (by decide) (by decide)⟩
      · jvm_step X14.here [X14.here.top, hx, (hb hby d2_39), X14.method', Bd.returns, Value.isRef, FieldType.isReference]
        first | (intro acts; rw [hr _ acts rfl rfl rfl]) | rw [hr _ _ rfl rfl rfl]
        exact Steps.refl _
      · show Q_rmLongOf Z q1 ca cca h0 n0 _ T14.heap _
        exact ⟨b10, q1, rfl, N14, K14, G14_0, G14_1⟩
    · refine own_go (fun _ => XS.ifNo X0.here hx rfl (hb hby d2_17) rfl ((if0 _ _).trans (flt (mt (lw_gt _ _).mp hc9)).2.2.1)) ?_
      show ∃ t o, Steps p.tables e below (s₁.setTop (mkF m 20 #[.val (.long q1), .second, .val (.int (128 : Int32))] [])) t ∧ _
      obtain ⟨T16, X16, e16, st16⟩ := getS2 X0 hx hZ hown (host := "") (Or.inl (hw _ (List.mem_of_getElem? (i := 13) rfl))) Via.refl e0 (Sta.ext OLD.2 P1) (g := (mkF m 20 #[.val (.long q1), .second, .val (.int (128 : Int32))] [])) rfl (hb hby d2_20)
      refine own_go st16 ?_
      show ∃ t o, Steps p.tables e below (T16.setTop (mkF m 23 #[.val (.long q1), .second, .val (.int (128 : Int32))] [(.ref ca)])) t ∧ _
      refine own_go (fun _ => XS.lloadN X16.here hx rfl (hb hby d2_23) rfl) ?_
      show ∃ t o, Steps p.tables e below (T16.setTop (mkF m 24 #[.val (.long q1), .second, .val (.int (128 : Int32))] [(.long q1), (.ref ca)])) t ∧ _
      refine own_go (fun _ => XS.l2i X16.here hx rfl (hb hby d2_24) rfl) ?_
      show ∃ t o, Steps p.tables e below (T16.setTop (mkF m 25 #[.val (.long q1), .second, .val (.int (128 : Int32))] [(.int (q1.toInt32)), (.ref ca)])) t ∧ _
      refine own_go (fun _ => XS.sipush X16.here hx rfl (hb hby d2_25)) ?_
      show ∃ t o, Steps p.tables e below (T16.setTop (mkF m 28 #[.val (.long q1), .second, .val (.int (128 : Int32))] [(.int (128 : Int32)), (.int (q1.toInt32)), (.ref ca)])) t ∧ _
      refine own_go (fun _ => XS.iadd X16.here hx rfl (hb hby d2_28) rfl) ?_
      show ∃ t o, Steps p.tables e below (T16.setTop (mkF m 29 #[.val (.long q1), .second, .val (.int (128 : Int32))] [(.int ((q1.toInt32) + (128 : Int32))), (.ref ca)])) t ∧ _
      have hj29 := own_lidx BX.2.1 hc2 hc9
      obtain ⟨bx, hat29, ex29, fx29⟩ := BX.2.2.2 _ hj29
      have fx29' : Fld Z h0 bx "java/lang/Long" "value" "J" (.long ((q1.toInt32 + (128 : Int32)) - 128).toInt64) := Fld.ext OLD.2 fx29
      have Ar29 := Arr.ext OLD.2 BX.1
      have ex29' := Exa.ext OLD.2 ex29
      refine own_go (fun _ => X16.aaload hx (j := ((q1.toInt32) + (128 : Int32))) (v := (.ref bx)) (by rw [e16]; exact Ar29.1) (State.isArrayOf_alike hZ.alike Ar29.2.1) rfl Ar29.2.2 hj29 hat29 (g := (mkF m 29 #[.val (.long q1), .second, .val (.int (128 : Int32))] [(.int ((q1.toInt32) + (128 : Int32))), (.ref ca)])) rfl rfl (hb hby d2_29) _) ?_
      show ∃ t o, Steps p.tables e below (T16.setTop (mkF m 30 #[.val (.long q1), .second, .val (.int (128 : Int32))] [(.ref bx)])) t ∧ _
      obtain ⟨fs, hr, hrun, hended, hW, hsame⟩ := X16.leave (v := some (.ref bx)) (fun h => by rw [Bd.returns] at h; cases h)
      refine ⟨_, _, ?_, hrun, hended, _, _, rfl, ?_, ⟨_, rfl⟩, hW, hsame.mono (by decide) (by decide)⟩
      · jvm_step X16.here [X16.here.top, hx, (hb hby d2_30), X16.method', Bd.returns, Value.isRef, FieldType.isReference]
        first | (intro acts; rw [hr _ acts rfl rfl rfl]) | rw [hr _ _ rfl rfl rfl]
        exact Steps.refl _
      · show Q_rmLongOf Z q1 ca cca h0 n0 _ T16.heap _
        rw [e16]
        exact ⟨bx, ((q1.toInt32 + (128 : Int32)) - 128).toInt64, rfl, N0, (Keep.refl h0 []), ex29', fx29'⟩
def own_ival (j : Int32) : Value := .int (j - 128)
theorem own_iidx {n : Nat} {q : Int32} (S : n = (256 : Int32).toNatClampNeg) (h1 : ¬ (q < (-128 : Int32))) (h2 : ¬ ((127 : Int32) < q)) : ¬ ((q + (128 : Int32)) < 0 ∨ n ≤ (q + (128 : Int32)).toNatClampNeg) := by
  have e0 : (256 : Int32).toNatClampNeg = 256 := rfl
  rw [e0] at S
  rw [Int32.lt_iff_toInt_lt] at h1 h2
  have a1 : (-128 : Int32).toInt = -128 := rfl
  have a2 : (127 : Int32).toInt = 127 := rfl
  have a3 : (128 : Int32).toInt = 128 := rfl
  have a4 : (0 : Int32).toInt = 0 := rfl
  have c2 := c_iadd q 128
  have c3 := rng32 (q + 128)
  rw [Int32.lt_iff_toInt_lt]
  simp only [Int32.toNatClampNeg]
  omega

theorem ef_rmIntInit (m : MethodId) (x0 : Nat) (x1 : Int32) : entryFrame m #[(.ref x0), (.int x1)] 2 = mkF m 0 #[.val (.ref x0), .val (.int x1)] [] := by first | (simp [entryFrame, mkF, argsToLocals, Value.category]; done) | rfl
theorem d8_0 : decode jdk_33_method_23_code 0 = .ok (.aload_n 0, 1) := by decide +kernel
theorem d8_1 : decode jdk_33_method_23_code 1 = .ok (.invokespecial 202, 3) := by decide +kernel
theorem d8_4 : decode jdk_33_method_23_code 4 = .ok (.aload_n 0, 1) := by decide +kernel
theorem d8_5 : decode jdk_33_method_23_code 5 = .ok (.iload_n 1, 1) := by decide +kernel
theorem d8_6 : decode jdk_33_method_23_code 6 = .ok (.putfield 205, 3) := by decide +kernel
theorem d8_9 : decode jdk_33_method_23_code 9 = .ok (.return_, 1) := by decide +kernel
theorem pn_java_lang_Integer : plainName "java/lang/Integer" = true := by first | (simp [plainName, overriddenIn]; done) | decide +kernel
def Q_rmIntInit (Z : State) (a1 : Nat) (q1 : Int32) (h0 : Heap) (n0 : Nat) (v : Option Value) (h : Heap) (L : List Loc) : Prop := v = none ∧ Fr n0 L ∧ Keep h0 h [a1] ∧ Exa Z h a1 "java/lang/Integer" ∧ Fld Z h a1 "java/lang/Integer" "value" "I" (.int q1)
set_option maxRecDepth 65536 in
set_option maxHeartbeats 40000000 in
theorem rmIntInit (l : Launch) (Z : State) (a0 : Array Value) (hw : ∀ d ∈ tables_1, d.before a0 Z = true) (ws : List Jvm.Cond) (a1 : Nat) (q1 : Int32) (h0 : Heap) (n0 : Nat) (Z0 : n0 ≤ h0.size) (P1 : Exa Z h0 a1 "java/lang/Integer") (P2 : Fld Z h0 a1 "java/lang/Integer" "value" "I" (.int (0 : Int32))) (OLD : Old Z n0 h0) (ga : n0 ≤ a1) :
    MetFree l (⟨"java/lang/Integer", "<init>", "(I)V"⟩ : MethodName) (head1 (Jvm.Cond.code (⟨"java/lang/Integer", "<init>", "(I)V"⟩ : MethodName) jdk_33_method_23_code 2 none :: ws) ({ frames := 2, cells := 0, slots := 0, locals := 24 } : Room)) (fun a U => a = #[(.ref a1), (.int q1)] ∧ Z.Warmed39 U.vm ∧ U.heap = h0) (fun _ _ _ _ _ => True) (fun _ U o U' => ∃ v L, o = .returned v ∧ Q_rmIntInit Z a1 q1 h0 n0 v U'.heap L ∧ FrameEnd U o U' L ({ frames := 2, cells := 0, slots := 0, locals := 24 } : Room).cells ({ frames := 2, cells := 0, slots := 0, locals := 24 } : Room).slots) := by
  refine MetFree.of_bodySF (plainFor_of_name pn_java_lang_Integer) hisR ?_
  intro p e s m args below meth c s₁ Bd hml0 hP hK
  obtain ⟨rfl, hZ, hh⟩ := hP
  have hx := Bd.exec
  have hby := Bd.bytes
  have hml : c.maxLocals = 2 := hml0
  have hown : s.vm.findClass "java/lang/Integer" = some m.cls := findClass_of_methodNamed Bd.named
  have hnm := (name_of_methodNamed Bd.named Bd.method).1
  have X0 : Stand p l e ({ frames := 2, cells := 0, slots := 0, locals := 24 } : Room) s m #[(.ref a1), (.int q1)] below meth c s₁ [] 0 0 := Stand.of_body Bd
  have e0 : s₁.heap = h0 := by rw [← hh, Bd.state]; rfl
  have N0 := Fr.nil n0
  have pre0 : ∀ t, Steps p.tables e below (s₁.setTop (mkF m 0 #[.val (.ref a1), .val (.int q1)] [])) t → Steps p.tables e below (s₁.setTop (entryFrame m #[(.ref a1), (.int q1)] 2)) t := fun t k => castTop (ef_rmIntInit m a1 q1) k
  have oz := OLD.1
  have lt_a1 : a1 < h0.size := P1.lt
  refine own_go (B := s₁.setTop (mkF m 0 #[.val (.ref a1), .val (.int q1)] [])) pre0 ?_
  show ∃ t o, Steps p.tables e below (s₁.setTop (mkF m 0 #[.val (.ref a1), .val (.int q1)] [])) t ∧ _
  refine own_go (fun _ => XS.aloadN X0.here hx rfl (hb hby d8_0) rfl rfl) ?_
  show ∃ t o, Steps p.tables e below (s₁.setTop (mkF m 1 #[.val (.ref a1), .val (.int q1)] [(.ref a1)])) t ∧ _
  obtain ⟨_, _, ⟨T3, L3, k3, n3⟩, -, X3, ⟨Lc3, hQ3, l3, y3, z3⟩, st3⟩ := X0.specialBack hx (y := (⟨"java/lang/Number", "<init>", "()V"⟩ : MethodName)) rfl hown (mvT hZ (hw _ (List.mem_of_getElem? (i := 56) rfl))) (mvT hZ (hw _ (List.mem_of_getElem? (i := 57) rfl))) (mvT hZ (hw _ (List.mem_of_getElem? (i := 61) rfl))) (by decide) (backOf (W := 0) (rmNumber l Z a0 hw [] a1 h0 n0 Z0 OLD) hZ (hw _ (List.mem_of_getElem? (i := 61) rfl)) (hw _ (List.mem_of_getElem? (i := 60) rfl)) (by decide) (by decide)) (g := (mkF m 1 #[.val (.ref a1), .val (.int q1)] [(.ref a1)])) rfl (by rw [hml]; rfl) (Steps.refl _) (a := a1) (argsL := []) (rest := []) (lenOf pd__28_29V rfl) rfl (by show 2 * 0 + _ ≤ _; exact Nat.le_of_eq rfl) (hb hby d8_1) (fun _ _ => ⟨rfl, e0, (by decide : 0 + 0 ≤ _), (by decide : 0 + 0 ≤ _)⟩)
  dsimp only [Pt.U, Pt.locs, Pt.cells, Pt.slots] at X3 l3 y3 z3 st3 hQ3
  subst l3 y3 z3
  obtain ⟨rfl, Nq3, e3⟩ := hQ3
  have N3 := Fr.app N0 Nq3
  refine own_goT st3 ?_
  show ∃ t o, Steps p.tables e below (T3.setTop (mkF m 4 #[.val (.ref a1), .val (.int q1)] [])) t ∧ _
  refine own_go (fun _ => XS.aloadN X3.here hx rfl (hb hby d8_4) rfl rfl) ?_
  show ∃ t o, Steps p.tables e below (T3.setTop (mkF m 5 #[.val (.ref a1), .val (.int q1)] [(.ref a1)])) t ∧ _
  refine own_go (fun _ => XS.iloadN X3.here hx rfl (hb hby d8_5) rfl) ?_
  show ∃ t o, Steps p.tables e below (T3.setTop (mkF m 6 #[.val (.ref a1), .val (.int q1)] [(.int q1), (.ref a1)])) t ∧ _
  obtain ⟨T4, h4, X4, e4, W4, st4⟩ := putF X3 hx hZ hown (host := "") (Or.inl (hw _ (List.mem_of_getElem? (i := 63) rfl))) Via.refl e3 P2 P1 (Or.inr ⟨(hw _ (List.mem_of_getElem? (i := 64) rfl)), rfl, hnm⟩) (hw _ (List.mem_of_getElem? (i := 51) rfl)) (ty := .int) (by decide) rfl rfl (g := (mkF m 6 #[.val (.ref a1), .val (.int q1)] [(.int q1), (.ref a1)])) rfl rfl (hb hby d8_6)
  refine own_go st4 ?_
  have le_4 : h0.size ≤ h4.size := Nat.le_of_eq W4.size.symm
  have K4 : Keep h0 h4 [a1] := Keep.wr (Keep.refl h0 [a1]) W4 (Or.inl (List.mem_of_getElem? (i := 0) rfl))
  have N4 := Fr.snoc X4 N3 ga
  have Fw4 := Fld.same W4 P2
  show ∃ t o, Steps p.tables e below (T4.setTop (mkF m 9 #[.val (.ref a1), .val (.int q1)] [])) t ∧ _
  have F5 : Exa Z h4 a1 "java/lang/Integer" := (Exa.wr W4 P1)
  obtain ⟨fs, hr, hrun, hended, hW, hsame⟩ := X4.leave (v := none) (fun _ => rfl)
  refine ⟨_, _, ?_, hrun, hended, _, _, rfl, ?_, ⟨_, rfl⟩, hW, hsame.mono (by decide) (by decide)⟩
  · exact X4.returnOut hx Bd.returns (hb hby d8_9) hr
  · show Q_rmIntInit Z a1 q1 h0 n0 _ T4.heap _
    rw [e4]
    exact ⟨rfl, N4, K4, F5, Fw4⟩
theorem ef_rmIntOf (m : MethodId) (x0 : Int32) : entryFrame m #[(.int x0)] 1 = mkF m 0 #[.val (.int x0)] [] := by first | (simp [entryFrame, mkF, argsToLocals, Value.category]; done) | rfl
theorem d1_0 : decode jdk_33_method_22_code 0 = .ok (.iload_n 0, 1) := by decide +kernel
theorem d1_1 : decode jdk_33_method_22_code 1 = .ok (.bipush (-128), 2) := by decide +kernel
theorem d1_3 : decode jdk_33_method_22_code 3 = .ok (.if_icmp .lt 20, 3) := by decide +kernel
theorem d1_23 : decode jdk_33_method_22_code 23 = .ok (.new 1, 3) := by decide +kernel
theorem d1_26 : decode jdk_33_method_22_code 26 = .ok (.dup, 1) := by decide +kernel
theorem d1_27 : decode jdk_33_method_22_code 27 = .ok (.iload_n 0, 1) := by decide +kernel
theorem d1_28 : decode jdk_33_method_22_code 28 = .ok (.invokespecial 199, 3) := by decide +kernel
theorem pd__28I_29V : parseMethodDescriptor "(I)V" = some ⟨[.int], none⟩ := by decide +kernel
theorem d1_31 : decode jdk_33_method_22_code 31 = .ok (.areturn, 1) := by decide +kernel
theorem d1_6 : decode jdk_33_method_22_code 6 = .ok (.iload_n 0, 1) := by decide +kernel
theorem d1_7 : decode jdk_33_method_22_code 7 = .ok (.getstatic 191, 3) := by decide +kernel
theorem d1_10 : decode jdk_33_method_22_code 10 = .ok (.if_icmp .gt 13, 3) := by decide +kernel
theorem d1_13 : decode jdk_33_method_22_code 13 = .ok (.getstatic 195, 3) := by decide +kernel
theorem d1_16 : decode jdk_33_method_22_code 16 = .ok (.iload_n 0, 1) := by decide +kernel
theorem d1_17 : decode jdk_33_method_22_code 17 = .ok (.sipush 128, 3) := by decide +kernel
theorem d1_20 : decode jdk_33_method_22_code 20 = .ok (.iadd, 1) := by decide +kernel
theorem d1_21 : decode jdk_33_method_22_code 21 = .ok (.aaload, 1) := by decide +kernel
theorem d1_22 : decode jdk_33_method_22_code 22 = .ok (.areturn, 1) := by decide +kernel
def Q_rmIntOf (Z : State) (q1 : Int32) (ca : Nat) (cca : Cell) (h0 : Heap) (n0 : Nat) (v : Option Value) (h : Heap) (L : List Loc) : Prop := ∃ (b : Nat), ∃ (rv : Int32), v = some (.ref b) ∧ Fr n0 L ∧ Keep h0 h [] ∧ Exa Z h b "java/lang/Integer" ∧ Fld Z h b "java/lang/Integer" "value" "I" (.int rv)
set_option maxRecDepth 65536 in
set_option maxHeartbeats 40000000 in
theorem rmIntOf (l : Launch) (Z : State) (a0 : Array Value) (hw : ∀ d ∈ tables_1, d.before a0 Z = true) (ws : List Jvm.Cond) (q1 : Int32) (ca : Nat) (cca : Cell) (h0 : Heap) (n0 : Nat) (Z0 : n0 ≤ h0.size) (OLD : Old Z n0 h0) (P1 : Sta Z Z.heap "java/lang/Integer$IntegerCache" "cache" "[Ljava/lang/Integer;" (.ref ca)) (P2 : Sta Z Z.heap "java/lang/Integer$IntegerCache" "high" "I" (.int (127 : Int32))) (BX : Bxs Z ca cca "java/lang/Integer" "I" (256 : Int32) own_ival) :
    MetFree l (⟨"java/lang/Integer", "valueOf", "(I)Ljava/lang/Integer;"⟩ : MethodName) (head1 (Jvm.Cond.code (⟨"java/lang/Integer", "valueOf", "(I)Ljava/lang/Integer;"⟩ : MethodName) jdk_33_method_22_code 1 (some (.object "java/lang/Integer")) :: ws) ({ frames := 3, cells := 1, slots := 1, locals := 38 } : Room)) (fun a U => a = #[(.int q1)] ∧ Z.Warmed39 U.vm ∧ U.heap = h0) (fun _ _ _ _ _ => True) (fun _ U o U' => ∃ v L, o = .returned v ∧ Q_rmIntOf Z q1 ca cca h0 n0 v U'.heap L ∧ FrameEnd U o U' L ({ frames := 3, cells := 1, slots := 1, locals := 38 } : Room).cells ({ frames := 3, cells := 1, slots := 1, locals := 38 } : Room).slots) := by
  refine MetFree.of_bodySF (plainFor_of_name pn_java_lang_Integer) hisR ?_
  intro p e s m args below meth c s₁ Bd hml0 hP hK
  obtain ⟨rfl, hZ, hh⟩ := hP
  have hx := Bd.exec
  have hby := Bd.bytes
  have hml : c.maxLocals = 1 := hml0
  have hown : s.vm.findClass "java/lang/Integer" = some m.cls := findClass_of_methodNamed Bd.named
  have hnm := (name_of_methodNamed Bd.named Bd.method).1
  have X0 : Stand p l e ({ frames := 3, cells := 1, slots := 1, locals := 38 } : Room) s m #[(.int q1)] below meth c s₁ [] 0 0 := Stand.of_body Bd
  have e0 : s₁.heap = h0 := by rw [← hh, Bd.state]; rfl
  have N0 := Fr.nil n0
  have pre0 : ∀ t, Steps p.tables e below (s₁.setTop (mkF m 0 #[.val (.int q1)] [])) t → Steps p.tables e below (s₁.setTop (entryFrame m #[(.int q1)] 1)) t := fun t k => castTop (ef_rmIntOf m q1) k
  have oz := OLD.1
  refine own_go (B := s₁.setTop (mkF m 0 #[.val (.int q1)] [])) pre0 ?_
  show ∃ t o, Steps p.tables e below (s₁.setTop (mkF m 0 #[.val (.int q1)] [])) t ∧ _
  refine own_go (fun _ => XS.iloadN X0.here hx rfl (hb hby d1_0) rfl) ?_
  show ∃ t o, Steps p.tables e below (s₁.setTop (mkF m 1 #[.val (.int q1)] [(.int q1)])) t ∧ _
  refine own_go (fun _ => XS.bipush X0.here hx rfl (hb hby d1_1)) ?_
  show ∃ t o, Steps p.tables e below (s₁.setTop (mkF m 3 #[.val (.int q1)] [(.int (-128 : Int32)), (.int q1)])) t ∧ _
  by_cases hc3 : q1 < (-128 : Int32)
  · refine own_go (fun _ => XS.icmpYes X0.here hx rfl (pc0 := 3) (pc' := 23) rfl (hb hby d1_3) rfl (tlt hc3).1 (by decide) (by decide)) ?_
    show ∃ t o, Steps p.tables e below (s₁.setTop (mkF m 23 #[.val (.int q1)] [])) t ∧ _
    obtain ⟨T4, h4, X4, e4, E4, A4, D4, -, st4⟩ := newO X0 hx hZ hown (hw _ (List.mem_of_getElem? (i := 50) rfl)) (hw _ (List.mem_of_getElem? (i := 51) rfl)) (hw _ (List.mem_of_getElem? (i := 2) rfl)) e0 (g := (mkF m 23 #[.val (.int q1)] [])) rfl (hb hby d1_23) (by decide) (by decide)
    obtain ⟨b4, g4⟩ : ∃ z, z = h0.size := ⟨_, rfl⟩
    rw [← g4] at A4 D4 st4
    refine own_go st4 ?_
    have le_4 : h0.size ≤ h4.size := E4.1
    have lt_b4 : b4 < h4.size := A4.lt
    have F_value_b4 : Fld Z h4 b4 "java/lang/Integer" "value" "I" (.int (0 : Int32)) := D4 (Or.inr (hw _ (List.mem_of_getElem? (i := 64) rfl))) (ty := .int) (by decide)
    have K4 : Keep h0 h4 [] := Keep.ext (Keep.refl h0 []) E4
    show ∃ t o, Steps p.tables e below (T4.setTop (mkF m 26 #[.val (.int q1)] [(.ref b4)])) t ∧ _
    refine own_go (fun _ => XS.dup X4.here hx rfl (hb hby d1_26) rfl rfl) ?_
    show ∃ t o, Steps p.tables e below (T4.setTop (mkF m 27 #[.val (.int q1)] [(.ref b4), (.ref b4)])) t ∧ _
    refine own_go (fun _ => XS.iloadN X4.here hx rfl (hb hby d1_27) rfl) ?_
    show ∃ t o, Steps p.tables e below (T4.setTop (mkF m 28 #[.val (.int q1)] [(.int q1), (.ref b4), (.ref b4)])) t ∧ _
    have F5 : Old Z n0 h4 := (OLD.ext E4)
    have ge6 : n0 ≤ b4 := by omega
    have zl7 : n0 ≤ h4.size := by omega
    obtain ⟨_, _, ⟨T8, L8, k8, n8⟩, -, X8, ⟨Lc8, hQ8, l8, y8, z8⟩, st8⟩ := X4.specialBack hx (y := (⟨"java/lang/Integer", "<init>", "(I)V"⟩ : MethodName)) rfl hown (mvT hZ (hw _ (List.mem_of_getElem? (i := 52) rfl))) (mvT hZ (hw _ (List.mem_of_getElem? (i := 53) rfl))) (mvT hZ (hw _ (List.mem_of_getElem? (i := 55) rfl))) (by decide) (backOf (W := 1) (rmIntInit l Z a0 hw [] b4 q1 h4 n0 zl7 A4 F_value_b4 F5 ge6) hZ (hw _ (List.mem_of_getElem? (i := 55) rfl)) (hw _ (List.mem_of_getElem? (i := 2) rfl)) (by decide) (by decide)) (g := (mkF m 28 #[.val (.int q1)] [(.int q1), (.ref b4), (.ref b4)])) rfl (by rw [hml]; rfl) (Steps.refl _) (a := b4) (argsL := [(.int q1)]) (rest := [(.ref b4)]) (lenOf pd__28I_29V rfl) rfl (by show 2 * 0 + _ ≤ _; exact Nat.le_of_eq rfl) (hb hby d1_28) (fun _ _ => ⟨rfl, e4, (by decide : 1 + 0 ≤ _), (by decide : 1 + 0 ≤ _)⟩)
    dsimp only [Pt.U, Pt.locs, Pt.cells, Pt.slots] at X8 l8 y8 z8 st8 hQ8
    subst l8 y8 z8
    obtain ⟨rfl, Nq8, Kp8, G8_0, G8_1⟩ := hQ8
    have N8 := Fr.app N0 Nq8
    refine own_goT st8 ?_
    have le_8 : h4.size ≤ T8.heap.size := Kp8.1
    have sz9 : h0.size ≤ b4 := by omega
    have K8 : Keep h0 T8.heap [] := Keep.trans K4 Kp8 (allS (Or.inr sz9) all0)
    show ∃ t o, Steps p.tables e below (T8.setTop (mkF m 31 #[.val (.int q1)] [(.ref b4)])) t ∧ _
    obtain ⟨fs, hr, hrun, hended, hW, hsame⟩ := X8.leave (v := some (.ref b4)) (fun h => by rw [Bd.returns] at h; cases h)
    refine ⟨_, _, ?_, hrun, hended, _, _, rfl, ?_, ⟨_, rfl⟩, hW, hsame.mono (by decide) (by decide)⟩
    · jvm_step X8.here [X8.here.top, hx, (hb hby d1_31), X8.method', Bd.returns, Value.isRef, FieldType.isReference]
      first | (intro acts; rw [hr _ acts rfl rfl rfl]) | rw [hr _ _ rfl rfl rfl]
      exact Steps.refl _
    · show Q_rmIntOf Z q1 ca cca h0 n0 _ T8.heap _
      exact ⟨b4, q1, rfl, N8, K8, G8_0, G8_1⟩
  · refine own_go (fun _ => XS.icmpNo X0.here hx rfl (hb hby d1_3) rfl (flt hc3).1) ?_
    show ∃ t o, Steps p.tables e below (s₁.setTop (mkF m 6 #[.val (.int q1)] [])) t ∧ _
    refine own_go (fun _ => XS.iloadN X0.here hx rfl (hb hby d1_6) rfl) ?_
    show ∃ t o, Steps p.tables e below (s₁.setTop (mkF m 7 #[.val (.int q1)] [(.int q1)])) t ∧ _
    obtain ⟨T10, X10, e10, st10⟩ := getS2 X0 hx hZ hown (host := "") (Or.inl (hw _ (List.mem_of_getElem? (i := 4) rfl))) Via.refl e0 (Sta.ext OLD.2 P2) (g := (mkF m 7 #[.val (.int q1)] [(.int q1)])) rfl (hb hby d1_7)
    refine own_go st10 ?_
    show ∃ t o, Steps p.tables e below (T10.setTop (mkF m 10 #[.val (.int q1)] [(.int (127 : Int32)), (.int q1)])) t ∧ _
    by_cases hc11 : (127 : Int32) < q1
    · refine own_go (fun _ => XS.icmpYes X10.here hx rfl (pc0 := 10) (pc' := 23) rfl (hb hby d1_10) rfl (tlt hc11).2.2.1 (by decide) (by decide)) ?_
      show ∃ t o, Steps p.tables e below (T10.setTop (mkF m 23 #[.val (.int q1)] [])) t ∧ _
      obtain ⟨T12, h12, X12, e12, E12, A12, D12, -, st12⟩ := newO X10 hx hZ hown (hw _ (List.mem_of_getElem? (i := 50) rfl)) (hw _ (List.mem_of_getElem? (i := 51) rfl)) (hw _ (List.mem_of_getElem? (i := 2) rfl)) e10 (g := (mkF m 23 #[.val (.int q1)] [])) rfl (hb hby d1_23) (by decide) (by decide)
      obtain ⟨b12, g12⟩ : ∃ z, z = h0.size := ⟨_, rfl⟩
      rw [← g12] at A12 D12 st12
      refine own_go st12 ?_
      have le_12 : h0.size ≤ h12.size := E12.1
      have lt_b12 : b12 < h12.size := A12.lt
      have F_value_b12 : Fld Z h12 b12 "java/lang/Integer" "value" "I" (.int (0 : Int32)) := D12 (Or.inr (hw _ (List.mem_of_getElem? (i := 64) rfl))) (ty := .int) (by decide)
      have K12 : Keep h0 h12 [] := Keep.ext (Keep.refl h0 []) E12
      show ∃ t o, Steps p.tables e below (T12.setTop (mkF m 26 #[.val (.int q1)] [(.ref b12)])) t ∧ _
      refine own_go (fun _ => XS.dup X12.here hx rfl (hb hby d1_26) rfl rfl) ?_
      show ∃ t o, Steps p.tables e below (T12.setTop (mkF m 27 #[.val (.int q1)] [(.ref b12), (.ref b12)])) t ∧ _
      refine own_go (fun _ => XS.iloadN X12.here hx rfl (hb hby d1_27) rfl) ?_
      show ∃ t o, Steps p.tables e below (T12.setTop (mkF m 28 #[.val (.int q1)] [(.int q1), (.ref b12), (.ref b12)])) t ∧ _
      have F13 : Old Z n0 h12 := (OLD.ext E12)
      have ge14 : n0 ≤ b12 := by omega
      have zl15 : n0 ≤ h12.size := by omega
      obtain ⟨_, _, ⟨T16, L16, k16, n16⟩, -, X16, ⟨Lc16, hQ16, l16, y16, z16⟩, st16⟩ := X12.specialBack hx (y := (⟨"java/lang/Integer", "<init>", "(I)V"⟩ : MethodName)) rfl hown (mvT hZ (hw _ (List.mem_of_getElem? (i := 52) rfl))) (mvT hZ (hw _ (List.mem_of_getElem? (i := 53) rfl))) (mvT hZ (hw _ (List.mem_of_getElem? (i := 55) rfl))) (by decide) (backOf (W := 1) (rmIntInit l Z a0 hw [] b12 q1 h12 n0 zl15 A12 F_value_b12 F13 ge14) hZ (hw _ (List.mem_of_getElem? (i := 55) rfl)) (hw _ (List.mem_of_getElem? (i := 2) rfl)) (by decide) (by decide)) (g := (mkF m 28 #[.val (.int q1)] [(.int q1), (.ref b12), (.ref b12)])) rfl (by rw [hml]; rfl) (Steps.refl _) (a := b12) (argsL := [(.int q1)]) (rest := [(.ref b12)]) (lenOf pd__28I_29V rfl) rfl (by show 2 * 0 + _ ≤ _; exact Nat.le_of_eq rfl) (hb hby d1_28) (fun _ _ => ⟨rfl, e12, (by decide : 1 + 0 ≤ _), (by decide : 1 + 0 ≤ _)⟩)
      dsimp only [Pt.U, Pt.locs, Pt.cells, Pt.slots] at X16 l16 y16 z16 st16 hQ16
      subst l16 y16 z16
      obtain ⟨rfl, Nq16, Kp16, G16_0, G16_1⟩ := hQ16
      have N16 := Fr.app N0 Nq16
      refine own_goT st16 ?_
      have le_16 : h12.size ≤ T16.heap.size := Kp16.1
      have sz17 : h0.size ≤ b12 := by omega
      have K16 : Keep h0 T16.heap [] := Keep.trans K12 Kp16 (allS (Or.inr sz17) all0)
      show ∃ t o, Steps p.tables e below (T16.setTop (mkF m 31 #[.val (.int q1)] [(.ref b12)])) t ∧ _
      obtain ⟨fs, hr, hrun, hended, hW, hsame⟩ := X16.leave (v := some (.ref b12)) (fun h => by rw [Bd.returns] at h; cases h)
      refine ⟨_, _, ?_, hrun, hended, _, _, rfl, ?_, ⟨_, rfl⟩, hW, hsame.mono (by decide) (by decide)⟩
      · jvm_step X16.here [X16.here.top, hx, (hb hby d1_31), X16.method', Bd.returns, Value.isRef, FieldType.isReference]
        first | (intro acts; rw [hr _ acts rfl rfl rfl]) | rw [hr _ _ rfl rfl rfl]
        exact Steps.refl _
      · show Q_rmIntOf Z q1 ca cca h0 n0 _ T16.heap _
        exact ⟨b12, q1, rfl, N16, K16, G16_0, G16_1⟩
    · refine own_go (fun _ => XS.icmpNo X10.here hx rfl (hb hby d1_10) rfl (flt hc11).2.2.1) ?_
      show ∃ t o, Steps p.tables e below (T10.setTop (mkF m 13 #[.val (.int q1)] [])) t ∧ _
      obtain ⟨T18, X18, e18, st18⟩ := getS2 X10 hx hZ hown (host := "") (Or.inl (hw _ (List.mem_of_getElem? (i := 6) rfl))) Via.refl e10 (Sta.ext OLD.2 P1) (g := (mkF m 13 #[.val (.int q1)] [])) rfl (hb hby d1_13)
      refine own_go st18 ?_
      show ∃ t o, Steps p.tables e below (T18.setTop (mkF m 16 #[.val (.int q1)] [(.ref ca)])) t ∧ _
      refine own_go (fun _ => XS.iloadN X18.here hx rfl (hb hby d1_16) rfl) ?_
      show ∃ t o, Steps p.tables e below (T18.setTop (mkF m 17 #[.val (.int q1)] [(.int q1), (.ref ca)])) t ∧ _
      refine own_go (fun _ => XS.sipush X18.here hx rfl (hb hby d1_17)) ?_
      show ∃ t o, Steps p.tables e below (T18.setTop (mkF m 20 #[.val (.int q1)] [(.int (128 : Int32)), (.int q1), (.ref ca)])) t ∧ _
      refine own_go (fun _ => XS.iadd X18.here hx rfl (hb hby d1_20) rfl) ?_
      show ∃ t o, Steps p.tables e below (T18.setTop (mkF m 21 #[.val (.int q1)] [(.int (q1 + (128 : Int32))), (.ref ca)])) t ∧ _
      have hj21 := own_iidx BX.2.1 hc3 hc11
      obtain ⟨bx, hat21, ex21, fx21⟩ := BX.2.2.2 _ hj21
      have Ar21 := Arr.ext OLD.2 BX.1
      have ex21' := Exa.ext OLD.2 ex21
      have fx21' : Fld Z h0 bx "java/lang/Integer" "value" "I" (.int ((q1 + (128 : Int32)) - 128)) := Fld.ext OLD.2 fx21
      refine own_go (fun _ => X18.aaload hx (j := (q1 + (128 : Int32))) (v := (.ref bx)) (by rw [e18]; exact Ar21.1) (State.isArrayOf_alike hZ.alike Ar21.2.1) rfl Ar21.2.2 hj21 hat21 (g := (mkF m 21 #[.val (.int q1)] [(.int (q1 + (128 : Int32))), (.ref ca)])) rfl rfl (hb hby d1_21) _) ?_
      show ∃ t o, Steps p.tables e below (T18.setTop (mkF m 22 #[.val (.int q1)] [(.ref bx)])) t ∧ _
      obtain ⟨fs, hr, hrun, hended, hW, hsame⟩ := X18.leave (v := some (.ref bx)) (fun h => by rw [Bd.returns] at h; cases h)
      refine ⟨_, _, ?_, hrun, hended, _, _, rfl, ?_, ⟨_, rfl⟩, hW, hsame.mono (by decide) (by decide)⟩
      · jvm_step X18.here [X18.here.top, hx, (hb hby d1_22), X18.method', Bd.returns, Value.isRef, FieldType.isReference]
        first | (intro acts; rw [hr _ acts rfl rfl rfl]) | rw [hr _ _ rfl rfl rfl]
        exact Steps.refl _
      · show Q_rmIntOf Z q1 ca cca h0 n0 _ T18.heap _
        rw [e18]
        exact ⟨bx, ((q1 + (128 : Int32)) - 128), rfl, N0, (Keep.refl h0 []), ex21', fx21'⟩
theorem own_sz {Z : State} {args : Array Value} {t : Jvm.Term} {a : Addr} {c : Cell} {ty : FieldType} (et : t.eval args Z none [] Z = some (.ref a)) (A : Arr Z Z.heap a c ty) (h : (Jvm.Cond.eq (Jvm.Term.length t) (Jvm.Term.int (256 : Int32))).value args Z none Z [] = some true) : c.slots.size < 2 ^ 31 ∧ c.slots.size.toInt32 = (256 : Int32) := by
  have e := eqv_i (Term.int_eval (256 : Int32)) h
  have ar := A.fin (Vm.Alike.refl _)
  by_cases q : c.slots.size < 2 ^ 31
  · rw [len_f et ar q] at e
    exact ⟨q, by injection e with e; injection e⟩
  · simp [Term.eval, et, ar, q] at e
theorem own_bxsL {Z : State} {args : Array Value} {C D : String} {a : Addr} {c : Cell} (et : (Jvm.Term.static C "cache" D).eval args Z none [] Z = some (.ref a)) (A : Arr Z Z.heap a c (.object "java/lang/Long")) (h1 : (Jvm.Cond.eq (Jvm.Term.length (Jvm.Term.static C "cache" D)) (Jvm.Term.int (256 : Int32))).value args Z none Z [] = some true)
    (h : (Jvm.Cond.all (Jvm.Term.static C "cache" D) (Jvm.Cond.and (Jvm.Cond.exactly (Jvm.Term.elem (Jvm.Term.static C "cache" D) (Jvm.Term.index 0)) "java/lang/Long") (Jvm.Cond.eq (Jvm.Term.field (Jvm.Term.elem (Jvm.Term.static C "cache" D) (Jvm.Term.index 0)) "java/lang/Long" "value" "J") (Jvm.Term.op1 Jvm.Unary.i2l (Jvm.Term.sub (Jvm.Term.index 0) (Jvm.Term.int (128 : Int32))))))).value args Z none Z [] = some true) :
    Bxs Z a c "java/lang/Long" "J" (256 : Int32) own_lval := by
  obtain ⟨q1, q2⟩ := own_sz et A h1
  refine Bxs.start (fun idx => et) A q1 q2 (by decide) h fun X j hj hX => ?_
  exact eqv_l (i2l_at (by simp [Term.eval, idx_at hj, (back32 hj).1])) hX
theorem own_bxsI {Z : State} {args : Array Value} {C D : String} {a : Addr} {c : Cell} (et : (Jvm.Term.static C "cache" D).eval args Z none [] Z = some (.ref a)) (A : Arr Z Z.heap a c (.object "java/lang/Integer")) (h1 : (Jvm.Cond.eq (Jvm.Term.length (Jvm.Term.static C "cache" D)) (Jvm.Term.int (256 : Int32))).value args Z none Z [] = some true)
    (h : (Jvm.Cond.all (Jvm.Term.static C "cache" D) (Jvm.Cond.and (Jvm.Cond.exactly (Jvm.Term.elem (Jvm.Term.static C "cache" D) (Jvm.Term.index 0)) "java/lang/Integer") (Jvm.Cond.eq (Jvm.Term.field (Jvm.Term.elem (Jvm.Term.static C "cache" D) (Jvm.Term.index 0)) "java/lang/Integer" "value" "I") (Jvm.Term.sub (Jvm.Term.index 0) (Jvm.Term.int (128 : Int32)))))).value args Z none Z [] = some true) :
    Bxs Z a c "java/lang/Integer" "I" (256 : Int32) own_ival := by
  obtain ⟨q1, q2⟩ := own_sz et A h1
  refine Bxs.start (fun idx => et) A q1 q2 (by decide) h fun X j hj hX => ?_
  exact eqv_i (by simp [Term.eval, idx_at hj, (back32 hj).1]) hX

theorem ef_rmIH (m : MethodId) (x0 : Int32) : entryFrame m #[(.int x0)] 1 = mkF m 0 #[.val (.int x0)] [] := by first | (simp [entryFrame, mkF, argsToLocals, Value.category]; done) | rfl
theorem d12_0 : decode jdk_33_method_33_code 0 = .ok (.iload_n 0, 1) := by decide +kernel
theorem d12_1 : decode jdk_33_method_33_code 1 = .ok (.ireturn, 1) := by decide +kernel
def Q_rmIH (Z : State) (r1 : Int32) (h0 : Heap) (n0 : Nat) (v : Option Value) (h : Heap) (L : List Loc) : Prop := v = some (.int r1) ∧ Fr n0 L ∧ h = h0
set_option maxRecDepth 65536 in
set_option maxHeartbeats 40000000 in
theorem rmIH (l : Launch) (Z : State) (a0 : Array Value) (hw : ∀ d ∈ tables_1, d.before a0 Z = true) (ws : List Jvm.Cond) (r1 : Int32) (h0 : Heap) (n0 : Nat) (Z0 : n0 ≤ h0.size) (OLD : Old Z n0 h0) :
    MetFree l (⟨"java/lang/Integer", "hashCode", "(I)I"⟩ : MethodName) (head1 (Jvm.Cond.code (⟨"java/lang/Integer", "hashCode", "(I)I"⟩ : MethodName) jdk_33_method_33_code 1 (some .int) :: ws) ({ frames := 0, cells := 0, slots := 0, locals := 0 } : Room)) (fun a U => a = #[(.int r1)] ∧ Z.Warmed39 U.vm ∧ U.heap = h0) (fun _ _ _ _ _ => True) (fun _ U o U' => ∃ v L, o = .returned v ∧ Q_rmIH Z r1 h0 n0 v U'.heap L ∧ FrameEnd U o U' L ({ frames := 0, cells := 0, slots := 0, locals := 0 } : Room).cells ({ frames := 0, cells := 0, slots := 0, locals := 0 } : Room).slots) := by
  refine MetFree.of_bodySF (plainFor_of_name pn_java_lang_Integer) hisR ?_
  intro p e s m args below meth c s₁ Bd hml0 hP hK
  obtain ⟨rfl, hZ, hh⟩ := hP
  have hx := Bd.exec
  have hby := Bd.bytes
  have hml : c.maxLocals = 1 := hml0
  have hown : s.vm.findClass "java/lang/Integer" = some m.cls := findClass_of_methodNamed Bd.named
  have hnm := (name_of_methodNamed Bd.named Bd.method).1
  have X0 : Stand p l e ({ frames := 0, cells := 0, slots := 0, locals := 0 } : Room) s m #[(.int r1)] below meth c s₁ [] 0 0 := Stand.of_body Bd
  have e0 : s₁.heap = h0 := by rw [← hh, Bd.state]; rfl
  have N0 := Fr.nil n0
  have pre0 : ∀ t, Steps p.tables e below (s₁.setTop (mkF m 0 #[.val (.int r1)] [])) t → Steps p.tables e below (s₁.setTop (entryFrame m #[(.int r1)] 1)) t := fun t k => castTop (ef_rmIH m r1) k
  have oz := OLD.1
  refine own_go (B := s₁.setTop (mkF m 0 #[.val (.int r1)] [])) pre0 ?_
  show ∃ t o, Steps p.tables e below (s₁.setTop (mkF m 0 #[.val (.int r1)] [])) t ∧ _
  refine own_go (fun _ => XS.iloadN X0.here hx rfl (hb hby d12_0) rfl) ?_
  show ∃ t o, Steps p.tables e below (s₁.setTop (mkF m 1 #[.val (.int r1)] [(.int r1)])) t ∧ _
  obtain ⟨fs, hr, hrun, hended, hW, hsame⟩ := X0.leave (v := some (.int r1)) (fun h => by rw [Bd.returns] at h; cases h)
  refine ⟨_, _, ?_, hrun, hended, _, _, rfl, ?_, ⟨_, rfl⟩, hW, hsame.mono (by decide) (by decide)⟩
  · exact retI X0 hx Bd.returns (hb hby d12_1) hr
  · show Q_rmIH Z r1 h0 n0 _ s₁.heap _
    rw [e0]
    exact ⟨rfl, N0, rfl⟩
theorem ef_rmLH (m : MethodId) (x0 : Int64) : entryFrame m #[(.long x0)] 2 = mkF m 0 #[.val (.long x0), .second] [] := by first | (simp [entryFrame, mkF, argsToLocals, Value.category]; done) | rfl
theorem d14_0 : decode jdk_35_method_36_code 0 = .ok (.lload_n 0, 1) := by decide +kernel
theorem d14_1 : decode jdk_35_method_36_code 1 = .ok (.lload_n 0, 1) := by decide +kernel
theorem d14_2 : decode jdk_35_method_36_code 2 = .ok (.bipush 32, 2) := by decide +kernel
theorem d14_4 : decode jdk_35_method_36_code 4 = .ok (.lushr, 1) := by decide +kernel
theorem d14_5 : decode jdk_35_method_36_code 5 = .ok (.lxor, 1) := by decide +kernel
theorem d14_6 : decode jdk_35_method_36_code 6 = .ok (.l2i, 1) := by decide +kernel
theorem d14_7 : decode jdk_35_method_36_code 7 = .ok (.ireturn, 1) := by decide +kernel
def Q_rmLH (Z : State) (r1 : Int64) (h0 : Heap) (n0 : Nat) (v : Option Value) (h : Heap) (L : List Loc) : Prop := ∃ (rh : Int32), v = some (.int rh) ∧ Fr n0 L ∧ h = h0
set_option maxRecDepth 65536 in
set_option maxHeartbeats 40000000 in
theorem rmLH (l : Launch) (Z : State) (a0 : Array Value) (hw : ∀ d ∈ tables_1, d.before a0 Z = true) (ws : List Jvm.Cond) (r1 : Int64) (h0 : Heap) (n0 : Nat) (Z0 : n0 ≤ h0.size) (OLD : Old Z n0 h0) :
    MetFree l (⟨"java/lang/Long", "hashCode", "(J)I"⟩ : MethodName) (head1 (Jvm.Cond.code (⟨"java/lang/Long", "hashCode", "(J)I"⟩ : MethodName) jdk_35_method_36_code 2 (some .int) :: ws) ({ frames := 0, cells := 0, slots := 0, locals := 0 } : Room)) (fun a U => a = #[(.long r1)] ∧ Z.Warmed39 U.vm ∧ U.heap = h0) (fun _ _ _ _ _ => True) (fun _ U o U' => ∃ v L, o = .returned v ∧ Q_rmLH Z r1 h0 n0 v U'.heap L ∧ FrameEnd U o U' L ({ frames := 0, cells := 0, slots := 0, locals := 0 } : Room).cells ({ frames := 0, cells := 0, slots := 0, locals := 0 } : Room).slots) := by
  refine MetFree.of_bodySF (plainFor_of_name pn_java_lang_Long) hisR ?_
  intro p e s m args below meth c s₁ Bd hml0 hP hK
  obtain ⟨rfl, hZ, hh⟩ := hP
  have hx := Bd.exec
  have hby := Bd.bytes
  have hml : c.maxLocals = 2 := hml0
  have hown : s.vm.findClass "java/lang/Long" = some m.cls := findClass_of_methodNamed Bd.named
  have hnm := (name_of_methodNamed Bd.named Bd.method).1
  have X0 : Stand p l e ({ frames := 0, cells := 0, slots := 0, locals := 0 } : Room) s m #[(.long r1)] below meth c s₁ [] 0 0 := Stand.of_body Bd
  have e0 : s₁.heap = h0 := by rw [← hh, Bd.state]; rfl
  have N0 := Fr.nil n0
  have pre0 : ∀ t, Steps p.tables e below (s₁.setTop (mkF m 0 #[.val (.long r1), .second] [])) t → Steps p.tables e below (s₁.setTop (entryFrame m #[(.long r1)] 2)) t := fun t k => castTop (ef_rmLH m r1) k
  have oz := OLD.1
  refine own_go (B := s₁.setTop (mkF m 0 #[.val (.long r1), .second] [])) pre0 ?_
  show ∃ t o, Steps p.tables e below (s₁.setTop (mkF m 0 #[.val (.long r1), .second] [])) t ∧ _
  refine own_go (fun _ => XS.lloadN X0.here hx rfl (hb hby d14_0) rfl) ?_
  show ∃ t o, Steps p.tables e below (s₁.setTop (mkF m 1 #[.val (.long r1), .second] [(.long r1)])) t ∧ _
  refine own_go (fun _ => XS.lloadN X0.here hx rfl (hb hby d14_1) rfl) ?_
  show ∃ t o, Steps p.tables e below (s₁.setTop (mkF m 2 #[.val (.long r1), .second] [(.long r1), (.long r1)])) t ∧ _
  refine own_go (fun _ => XS.bipush X0.here hx rfl (hb hby d14_2)) ?_
  show ∃ t o, Steps p.tables e below (s₁.setTop (mkF m 4 #[.val (.long r1), .second] [(.int (32 : Int32)), (.long r1), (.long r1)])) t ∧ _
  refine own_go (fun _ => XS.lushr X0.here hx rfl (hb hby d14_4) rfl) ?_
  show ∃ t o, Steps p.tables e below (s₁.setTop (mkF m 5 #[.val (.long r1), .second] [(.long ((r1.toUInt64 >>> ((32 : Int32) &&& 0x3f).toInt64.toUInt64).toInt64)), (.long r1)])) t ∧ _
  refine own_go (fun _ => XS.lxor X0.here hx rfl (hb hby d14_5) rfl) ?_
  show ∃ t o, Steps p.tables e below (s₁.setTop (mkF m 6 #[.val (.long r1), .second] [(.long (r1 ^^^ ((r1.toUInt64 >>> ((32 : Int32) &&& 0x3f).toInt64.toUInt64).toInt64)))])) t ∧ _
  refine own_go (fun _ => XS.l2i X0.here hx rfl (hb hby d14_6) rfl) ?_
  show ∃ t o, Steps p.tables e below (s₁.setTop (mkF m 7 #[.val (.long r1), .second] [(.int ((r1 ^^^ ((r1.toUInt64 >>> ((32 : Int32) &&& 0x3f).toInt64.toUInt64).toInt64)).toInt32))])) t ∧ _
  obtain ⟨fs, hr, hrun, hended, hW, hsame⟩ := X0.leave (v := some (.int ((r1 ^^^ ((r1.toUInt64 >>> ((32 : Int32) &&& 0x3f).toInt64.toUInt64).toInt64)).toInt32))) (fun h => by rw [Bd.returns] at h; cases h)
  refine ⟨_, _, ?_, hrun, hended, _, _, rfl, ?_, ⟨_, rfl⟩, hW, hsame.mono (by decide) (by decide)⟩
  · exact retI X0 hx Bd.returns (hb hby d14_7) hr
  · show Q_rmLH Z r1 h0 n0 _ s₁.heap _
    rw [e0]
    exact ⟨((r1 ^^^ ((r1.toUInt64 >>> ((32 : Int32) &&& 0x3f).toInt64.toUInt64).toInt64)).toInt32), rfl, N0, rfl⟩
theorem ef_rmIHC (m : MethodId) (x0 : Nat) : entryFrame m #[(.ref x0)] 1 = mkF m 0 #[.val (.ref x0)] [] := by first | (simp [entryFrame, mkF, argsToLocals, Value.category]; done) | rfl
theorem d11_0 : decode jdk_33_method_32_code 0 = .ok (.aload_n 0, 1) := by decide +kernel
theorem d11_1 : decode jdk_33_method_32_code 1 = .ok (.getfield 205, 3) := by decide +kernel
theorem d11_4 : decode jdk_33_method_32_code 4 = .ok (.invokestatic 208, 3) := by decide +kernel
theorem pd__28I_29I : parseMethodDescriptor "(I)I" = some ⟨[.int], some .int⟩ := by decide +kernel
theorem d11_7 : decode jdk_33_method_32_code 7 = .ok (.ireturn, 1) := by decide +kernel
def Q_rmIHC (Z : State) (a1 : Nat) (r1 : Int32) (h0 : Heap) (n0 : Nat) (v : Option Value) (h : Heap) (L : List Loc) : Prop := v = some (.int r1) ∧ Fr n0 L ∧ h = h0
set_option maxRecDepth 65536 in
set_option maxHeartbeats 40000000 in
theorem rmIHC (l : Launch) (Z : State) (a0 : Array Value) (hw : ∀ d ∈ tables_1, d.before a0 Z = true) (ws : List Jvm.Cond) (a1 : Nat) (r1 : Int32) (h0 : Heap) (n0 : Nat) (Z0 : n0 ≤ h0.size) (P1 : Fld Z h0 a1 "java/lang/Integer" "value" "I" (.int r1)) (OLD : Old Z n0 h0) :
    MetFree l (⟨"java/lang/Integer", "hashCode", "()I"⟩ : MethodName) (head1 (Jvm.Cond.code (⟨"java/lang/Integer", "hashCode", "()I"⟩ : MethodName) jdk_33_method_32_code 1 (some .int) :: ws) ({ frames := 1, cells := 0, slots := 0, locals := 12 } : Room)) (fun a U => a = #[(.ref a1)] ∧ Z.Warmed39 U.vm ∧ U.heap = h0) (fun _ _ _ _ _ => True) (fun _ U o U' => ∃ v L, o = .returned v ∧ Q_rmIHC Z a1 r1 h0 n0 v U'.heap L ∧ FrameEnd U o U' L ({ frames := 1, cells := 0, slots := 0, locals := 12 } : Room).cells ({ frames := 1, cells := 0, slots := 0, locals := 12 } : Room).slots) := by
  refine MetFree.of_bodySF (plainFor_of_name pn_java_lang_Integer) hisR ?_
  intro p e s m args below meth c s₁ Bd hml0 hP hK
  obtain ⟨rfl, hZ, hh⟩ := hP
  have hx := Bd.exec
  have hby := Bd.bytes
  have hml : c.maxLocals = 1 := hml0
  have hown : s.vm.findClass "java/lang/Integer" = some m.cls := findClass_of_methodNamed Bd.named
  have hnm := (name_of_methodNamed Bd.named Bd.method).1
  have X0 : Stand p l e ({ frames := 1, cells := 0, slots := 0, locals := 12 } : Room) s m #[(.ref a1)] below meth c s₁ [] 0 0 := Stand.of_body Bd
  have e0 : s₁.heap = h0 := by rw [← hh, Bd.state]; rfl
  have N0 := Fr.nil n0
  have pre0 : ∀ t, Steps p.tables e below (s₁.setTop (mkF m 0 #[.val (.ref a1)] [])) t → Steps p.tables e below (s₁.setTop (entryFrame m #[(.ref a1)] 1)) t := fun t k => castTop (ef_rmIHC m a1) k
  have oz := OLD.1
  have lt_a1 : a1 < h0.size := P1.lt
  refine own_go (B := s₁.setTop (mkF m 0 #[.val (.ref a1)] [])) pre0 ?_
  show ∃ t o, Steps p.tables e below (s₁.setTop (mkF m 0 #[.val (.ref a1)] [])) t ∧ _
  refine own_go (fun _ => XS.aloadN X0.here hx rfl (hb hby d11_0) rfl rfl) ?_
  show ∃ t o, Steps p.tables e below (s₁.setTop (mkF m 1 #[.val (.ref a1)] [(.ref a1)])) t ∧ _
  obtain ⟨T2, X2, e2, st2⟩ := getF X0 hx hZ hown (host := "") (Or.inl (hw _ (List.mem_of_getElem? (i := 63) rfl))) Via.refl e0 P1 (g := (mkF m 1 #[.val (.ref a1)] [(.ref a1)])) rfl rfl (hb hby d11_1)
  refine own_go st2 ?_
  show ∃ t o, Steps p.tables e below (T2.setTop (mkF m 4 #[.val (.ref a1)] [(.int r1)])) t ∧ _
  obtain ⟨_, _, ⟨T3, L3, k3, n3⟩, -, X3, ⟨Lc3, hQ3, l3, y3, z3⟩, st3⟩ := Jvm.LawKit.callS X2 hx (y := (⟨"java/lang/Integer", "hashCode", "(I)I"⟩ : MethodName)) hown (mvT hZ (hw _ (List.mem_of_getElem? (i := 83) rfl))) (mvT hZ (hw _ (List.mem_of_getElem? (i := 84) rfl))) (mvT hZ (hw _ (List.mem_of_getElem? (i := 2) rfl))) (mvT hZ (hw _ (List.mem_of_getElem? (i := 85) rfl))) (by decide) (backOf (W := 0) (rmIH l Z a0 hw [] r1 h0 n0 Z0 OLD) hZ (hw _ (List.mem_of_getElem? (i := 85) rfl)) (hw _ (List.mem_of_getElem? (i := 2) rfl)) (by decide) (by decide)) (g := (mkF m 4 #[.val (.ref a1)] [(.int r1)])) rfl (by rw [hml]; rfl) (argsL := [(.int r1)]) (rest := []) (lenOf pd__28I_29I rfl) rfl (by show 2 * 0 + _ ≤ _; exact Nat.le_of_eq rfl) (hb hby d11_4) (fun _ _ => ⟨rfl, e2, (by decide : 0 + 0 ≤ _), (by decide : 0 + 0 ≤ _)⟩)
  dsimp only [Pt.U, Pt.locs, Pt.cells, Pt.slots] at X3 l3 y3 z3 st3 hQ3
  subst l3 y3 z3
  obtain ⟨rfl, Nq3, e3⟩ := hQ3
  have N3 := Fr.app N0 Nq3
  refine own_go st3 ?_
  show ∃ t o, Steps p.tables e below (T3.setTop (mkF m 7 #[.val (.ref a1)] [(.int r1)])) t ∧ _
  obtain ⟨fs, hr, hrun, hended, hW, hsame⟩ := X3.leave (v := some (.int r1)) (fun h => by rw [Bd.returns] at h; cases h)
  refine ⟨_, _, ?_, hrun, hended, _, _, rfl, ?_, ⟨_, rfl⟩, hW, hsame.mono (by decide) (by decide)⟩
  · exact retI X3 hx Bd.returns (hb hby d11_7) hr
  · show Q_rmIHC Z a1 r1 h0 n0 _ T3.heap _
    rw [e3]
    exact ⟨rfl, N3, rfl⟩
theorem ef_rmLHC (m : MethodId) (x0 : Nat) : entryFrame m #[(.ref x0)] 1 = mkF m 0 #[.val (.ref x0)] [] := by first | (simp [entryFrame, mkF, argsToLocals, Value.category]; done) | rfl
theorem d13_0 : decode jdk_35_method_35_code 0 = .ok (.aload_n 0, 1) := by decide +kernel
theorem d13_1 : decode jdk_35_method_35_code 1 = .ok (.getfield 273, 3) := by decide +kernel
theorem d13_4 : decode jdk_35_method_35_code 4 = .ok (.invokestatic 277, 3) := by decide +kernel
theorem pd__28J_29I : parseMethodDescriptor "(J)I" = some ⟨[.long], some .int⟩ := by decide +kernel
theorem d13_7 : decode jdk_35_method_35_code 7 = .ok (.ireturn, 1) := by decide +kernel
def Q_rmLHC (Z : State) (a1 : Nat) (r1 : Int64) (h0 : Heap) (n0 : Nat) (v : Option Value) (h : Heap) (L : List Loc) : Prop := ∃ (rh : Int32), v = some (.int rh) ∧ Fr n0 L ∧ h = h0
set_option maxRecDepth 65536 in
set_option maxHeartbeats 40000000 in
theorem rmLHC (l : Launch) (Z : State) (a0 : Array Value) (hw : ∀ d ∈ tables_1, d.before a0 Z = true) (ws : List Jvm.Cond) (a1 : Nat) (r1 : Int64) (h0 : Heap) (n0 : Nat) (Z0 : n0 ≤ h0.size) (P1 : Fld Z h0 a1 "java/lang/Long" "value" "J" (.long r1)) (OLD : Old Z n0 h0) :
    MetFree l (⟨"java/lang/Long", "hashCode", "()I"⟩ : MethodName) (head1 (Jvm.Cond.code (⟨"java/lang/Long", "hashCode", "()I"⟩ : MethodName) jdk_35_method_35_code 1 (some .int) :: ws) ({ frames := 1, cells := 0, slots := 0, locals := 13 } : Room)) (fun a U => a = #[(.ref a1)] ∧ Z.Warmed39 U.vm ∧ U.heap = h0) (fun _ _ _ _ _ => True) (fun _ U o U' => ∃ v L, o = .returned v ∧ Q_rmLHC Z a1 r1 h0 n0 v U'.heap L ∧ FrameEnd U o U' L ({ frames := 1, cells := 0, slots := 0, locals := 13 } : Room).cells ({ frames := 1, cells := 0, slots := 0, locals := 13 } : Room).slots) := by
  refine MetFree.of_bodySF (plainFor_of_name pn_java_lang_Long) hisR ?_
  intro p e s m args below meth c s₁ Bd hml0 hP hK
  obtain ⟨rfl, hZ, hh⟩ := hP
  have hx := Bd.exec
  have hby := Bd.bytes
  have hml : c.maxLocals = 1 := hml0
  have hown : s.vm.findClass "java/lang/Long" = some m.cls := findClass_of_methodNamed Bd.named
  have hnm := (name_of_methodNamed Bd.named Bd.method).1
  have X0 : Stand p l e ({ frames := 1, cells := 0, slots := 0, locals := 13 } : Room) s m #[(.ref a1)] below meth c s₁ [] 0 0 := Stand.of_body Bd
  have e0 : s₁.heap = h0 := by rw [← hh, Bd.state]; rfl
  have N0 := Fr.nil n0
  have pre0 : ∀ t, Steps p.tables e below (s₁.setTop (mkF m 0 #[.val (.ref a1)] [])) t → Steps p.tables e below (s₁.setTop (entryFrame m #[(.ref a1)] 1)) t := fun t k => castTop (ef_rmLHC m a1) k
  have oz := OLD.1
  have lt_a1 : a1 < h0.size := P1.lt
  refine own_go (B := s₁.setTop (mkF m 0 #[.val (.ref a1)] [])) pre0 ?_
  show ∃ t o, Steps p.tables e below (s₁.setTop (mkF m 0 #[.val (.ref a1)] [])) t ∧ _
  refine own_go (fun _ => XS.aloadN X0.here hx rfl (hb hby d13_0) rfl rfl) ?_
  show ∃ t o, Steps p.tables e below (s₁.setTop (mkF m 1 #[.val (.ref a1)] [(.ref a1)])) t ∧ _
  obtain ⟨T2, X2, e2, st2⟩ := getF X0 hx hZ hown (host := "") (Or.inl (hw _ (List.mem_of_getElem? (i := 73) rfl))) Via.refl e0 P1 (g := (mkF m 1 #[.val (.ref a1)] [(.ref a1)])) rfl rfl (hb hby d13_1)
  refine own_go st2 ?_
  show ∃ t o, Steps p.tables e below (T2.setTop (mkF m 4 #[.val (.ref a1)] [(.long r1)])) t ∧ _
  obtain ⟨_, _, ⟨T3, L3, k3, n3⟩, -, X3, ⟨Lc3, hQ3, l3, y3, z3⟩, st3⟩ := Jvm.LawKit.callS X2 hx (y := (⟨"java/lang/Long", "hashCode", "(J)I"⟩ : MethodName)) hown (mvT hZ (hw _ (List.mem_of_getElem? (i := 89) rfl))) (mvT hZ (hw _ (List.mem_of_getElem? (i := 90) rfl))) (mvT hZ (hw _ (List.mem_of_getElem? (i := 9) rfl))) (mvT hZ (hw _ (List.mem_of_getElem? (i := 91) rfl))) (by decide) (backOf (W := 0) (rmLH l Z a0 hw [] r1 h0 n0 Z0 OLD) hZ (hw _ (List.mem_of_getElem? (i := 91) rfl)) (hw _ (List.mem_of_getElem? (i := 9) rfl)) (by decide) (by decide)) (g := (mkF m 4 #[.val (.ref a1)] [(.long r1)])) rfl (by rw [hml]; rfl) (argsL := [(.long r1)]) (rest := []) (lenOf pd__28J_29I rfl) rfl (by show 2 * 0 + _ ≤ _; exact Nat.le_of_eq rfl) (hb hby d13_4) (fun _ _ => ⟨rfl, e2, (by decide : 0 + 0 ≤ _), (by decide : 0 + 0 ≤ _)⟩)
  dsimp only [Pt.U, Pt.locs, Pt.cells, Pt.slots] at X3 l3 y3 z3 st3 hQ3
  subst l3 y3 z3
  obtain ⟨rh_3, rfl, Nq3, e3⟩ := hQ3
  have N3 := Fr.app N0 Nq3
  refine own_go st3 ?_
  show ∃ t o, Steps p.tables e below (T3.setTop (mkF m 7 #[.val (.ref a1)] [(.int rh_3)])) t ∧ _
  obtain ⟨fs, hr, hrun, hended, hW, hsame⟩ := X3.leave (v := some (.int rh_3)) (fun h => by rw [Bd.returns] at h; cases h)
  refine ⟨_, _, ?_, hrun, hended, _, _, rfl, ?_, ⟨_, rfl⟩, hW, hsame.mono (by decide) (by decide)⟩
  · exact retI X3 hx Bd.returns (hb hby d13_7) hr
  · show Q_rmLHC Z a1 r1 h0 n0 _ T3.heap _
    rw [e3]
    exact ⟨rh_3, rfl, N3, rfl⟩
theorem ef_rmHash0 (m : MethodId) (x0 : Nat) : entryFrame m #[(.ref x0)] 6 = mkF m 0 #[.val (.ref x0), .unset, .unset, .unset, .unset, .unset] [] := by first | (simp [entryFrame, mkF, argsToLocals, Value.category]; done) | rfl
theorem d6_0 : decode jdk_65_method_157_code 0 = .ok (.aload_n 0, 1) := by decide +kernel
theorem d6_1 : decode jdk_65_method_157_code 1 = .ok (.ifnonnull 5, 3) := by decide +kernel
theorem d6_6 : decode jdk_65_method_157_code 6 = .ok (.iconst 1, 1) := by decide +kernel
theorem d6_7 : decode jdk_65_method_157_code 7 = .ok (.istore_n 1, 1) := by decide +kernel
theorem d6_8 : decode jdk_65_method_157_code 8 = .ok (.aload_n 0, 1) := by decide +kernel
theorem d6_9 : decode jdk_65_method_157_code 9 = .ok (.astore_n 2, 1) := by decide +kernel
theorem d6_10 : decode jdk_65_method_157_code 10 = .ok (.aload_n 2, 1) := by decide +kernel
theorem d6_11 : decode jdk_65_method_157_code 11 = .ok (.arraylength, 1) := by decide +kernel
theorem d6_12 : decode jdk_65_method_157_code 12 = .ok (.istore_n 3, 1) := by decide +kernel
theorem d6_13 : decode jdk_65_method_157_code 13 = .ok (.iconst 0, 1) := by decide +kernel
theorem d6_14 : decode jdk_65_method_157_code 14 = .ok (.istore 4, 2) := by decide +kernel
theorem d6_16 : decode jdk_65_method_157_code 16 = .ok (.iload 4, 2) := by decide +kernel
theorem d6_18 : decode jdk_65_method_157_code 18 = .ok (.iload_n 3, 1) := by decide +kernel
theorem d6_19 : decode jdk_65_method_157_code 19 = .ok (.if_icmp .ge 35, 3) := by decide +kernel
theorem d6_54 : decode jdk_65_method_157_code 54 = .ok (.iload_n 1, 1) := by decide +kernel
theorem d6_55 : decode jdk_65_method_157_code 55 = .ok (.ireturn, 1) := by decide +kernel
theorem pn_java_util_Arrays : plainName "java/util/Arrays" = true := by first | (simp [plainName, overriddenIn]; done) | decide +kernel
def Q_rmHash0 (Z : State) (ar : Nat) (kk : ClassId) (h0 : Heap) (n0 : Nat) (v : Option Value) (h : Heap) (L : List Loc) : Prop := ∃ (rh : Int32), v = some (.int rh) ∧ Fr n0 L ∧ h = h0
set_option maxRecDepth 65536 in
set_option maxHeartbeats 40000000 in
theorem rmHash0 (l : Launch) (Z : State) (a0 : Array Value) (hw : ∀ d ∈ tables_1, d.before a0 Z = true) (ws : List Jvm.Cond) (ar : Nat) (kk : ClassId) (h0 : Heap) (n0 : Nat) (Z0 : n0 ≤ h0.size) (P1 : Arv Z h0 ar kk (.object "java/lang/Object") (0 : Int32) [] .null) (OLD : Old Z n0 h0) :
    MetFree l (⟨"java/util/Arrays", "hashCode", "([Ljava/lang/Object;)I"⟩ : MethodName) (head1 (Jvm.Cond.code (⟨"java/util/Arrays", "hashCode", "([Ljava/lang/Object;)I"⟩ : MethodName) jdk_65_method_157_code 6 (some .int) :: ws) ({ frames := 0, cells := 0, slots := 0, locals := 0 } : Room)) (fun a U => a = #[(.ref ar)] ∧ Z.Warmed39 U.vm ∧ U.heap = h0) (fun _ _ _ _ _ => True) (fun _ U o U' => ∃ v L, o = .returned v ∧ Q_rmHash0 Z ar kk h0 n0 v U'.heap L ∧ FrameEnd U o U' L ({ frames := 0, cells := 0, slots := 0, locals := 0 } : Room).cells ({ frames := 0, cells := 0, slots := 0, locals := 0 } : Room).slots) := by
  refine MetFree.of_bodySF (plainFor_of_name pn_java_util_Arrays) hisR ?_
  intro p e s m args below meth c s₁ Bd hml0 hP hK
  obtain ⟨rfl, hZ, hh⟩ := hP
  have hx := Bd.exec
  have hby := Bd.bytes
  have hml : c.maxLocals = 6 := hml0
  have hown : s.vm.findClass "java/util/Arrays" = some m.cls := findClass_of_methodNamed Bd.named
  have hnm := (name_of_methodNamed Bd.named Bd.method).1
  have X0 : Stand p l e ({ frames := 0, cells := 0, slots := 0, locals := 0 } : Room) s m #[(.ref ar)] below meth c s₁ [] 0 0 := Stand.of_body Bd
  have e0 : s₁.heap = h0 := by rw [← hh, Bd.state]; rfl
  have N0 := Fr.nil n0
  have pre0 : ∀ t, Steps p.tables e below (s₁.setTop (mkF m 0 #[.val (.ref ar), .unset, .unset, .unset, .unset, .unset] [])) t → Steps p.tables e below (s₁.setTop (entryFrame m #[(.ref ar)] 6)) t := fun t k => castTop (ef_rmHash0 m ar) k
  have oz := OLD.1
  have lt_ar : ar < h0.size := P1.lt
  refine own_go (B := s₁.setTop (mkF m 0 #[.val (.ref ar), .unset, .unset, .unset, .unset, .unset] [])) pre0 ?_
  show ∃ t o, Steps p.tables e below (s₁.setTop (mkF m 0 #[.val (.ref ar), .unset, .unset, .unset, .unset, .unset] [])) t ∧ _
  refine own_go (fun _ => XS.aloadN X0.here hx rfl (hb hby d6_0) rfl rfl) ?_
  show ∃ t o, Steps p.tables e below (s₁.setTop (mkF m 1 #[.val (.ref ar), .unset, .unset, .unset, .unset, .unset] [(.ref ar)])) t ∧ _
  refine own_go (fun _ => XS.ifnonnullYes X0.here hx rfl (pc0 := 1) (pc' := 6) rfl (hb hby d6_1) rfl (by decide) (by decide)) ?_
  show ∃ t o, Steps p.tables e below (s₁.setTop (mkF m 6 #[.val (.ref ar), .unset, .unset, .unset, .unset, .unset] [])) t ∧ _
  refine own_go (fun _ => XS.iconst X0.here hx rfl (hb hby d6_6)) ?_
  show ∃ t o, Steps p.tables e below (s₁.setTop (mkF m 7 #[.val (.ref ar), .unset, .unset, .unset, .unset, .unset] [(.int (1 : Int32))])) t ∧ _
  refine own_go (fun _ => XS.istoreN X0.here hx rfl (hb hby d6_7) rfl (l' := #[.val (.ref ar), .val (.int (1 : Int32)), .unset, .unset, .unset, .unset]) rfl) ?_
  show ∃ t o, Steps p.tables e below (s₁.setTop (mkF m 8 #[.val (.ref ar), .val (.int (1 : Int32)), .unset, .unset, .unset, .unset] [])) t ∧ _
  refine own_go (fun _ => XS.aloadN X0.here hx rfl (hb hby d6_8) rfl rfl) ?_
  show ∃ t o, Steps p.tables e below (s₁.setTop (mkF m 9 #[.val (.ref ar), .val (.int (1 : Int32)), .unset, .unset, .unset, .unset] [(.ref ar)])) t ∧ _
  refine own_go (fun _ => XS.astoreN X0.here hx rfl (hb hby d6_9) rfl rfl (l' := #[.val (.ref ar), .val (.int (1 : Int32)), .val (.ref ar), .unset, .unset, .unset]) rfl) ?_
  show ∃ t o, Steps p.tables e below (s₁.setTop (mkF m 10 #[.val (.ref ar), .val (.int (1 : Int32)), .val (.ref ar), .unset, .unset, .unset] [])) t ∧ _
  refine own_go (fun _ => XS.aloadN X0.here hx rfl (hb hby d6_10) rfl rfl) ?_
  show ∃ t o, Steps p.tables e below (s₁.setTop (mkF m 11 #[.val (.ref ar), .val (.int (1 : Int32)), .val (.ref ar), .unset, .unset, .unset] [(.ref ar)])) t ∧ _
  obtain ⟨cl2, Ar2, q2, S2, N2, H2, G2⟩ := id P1
  have ln2 : cl2.slots.size.toInt32 = (0 : Int32) := len_of S2 N2
  have al2 := X0.arraylength hx (by rw [e0]; exact Ar2.1) (State.isArrayOf_alike hZ.alike Ar2.2.1) (g := (mkF m 11 #[.val (.ref ar), .val (.int (1 : Int32)), .val (.ref ar), .unset, .unset, .unset] [(.ref ar)])) rfl rfl (hb hby d6_11)
  rw [ln2] at al2
  refine own_go al2 ?_
  show ∃ t o, Steps p.tables e below (s₁.setTop (mkF m 12 #[.val (.ref ar), .val (.int (1 : Int32)), .val (.ref ar), .unset, .unset, .unset] [(.int (0 : Int32))])) t ∧ _
  refine own_go (fun _ => XS.istoreN X0.here hx rfl (hb hby d6_12) rfl (l' := #[.val (.ref ar), .val (.int (1 : Int32)), .val (.ref ar), .val (.int (0 : Int32)), .unset, .unset]) rfl) ?_
  show ∃ t o, Steps p.tables e below (s₁.setTop (mkF m 13 #[.val (.ref ar), .val (.int (1 : Int32)), .val (.ref ar), .val (.int (0 : Int32)), .unset, .unset] [])) t ∧ _
  refine own_go (fun _ => XS.iconst X0.here hx rfl (hb hby d6_13)) ?_
  show ∃ t o, Steps p.tables e below (s₁.setTop (mkF m 14 #[.val (.ref ar), .val (.int (1 : Int32)), .val (.ref ar), .val (.int (0 : Int32)), .unset, .unset] [(.int (0 : Int32))])) t ∧ _
  refine own_go (fun _ => XS.istore X0.here hx rfl (hb hby d6_14) rfl (l' := #[.val (.ref ar), .val (.int (1 : Int32)), .val (.ref ar), .val (.int (0 : Int32)), .val (.int (0 : Int32)), .unset]) rfl) ?_
  show ∃ t o, Steps p.tables e below (s₁.setTop (mkF m 16 #[.val (.ref ar), .val (.int (1 : Int32)), .val (.ref ar), .val (.int (0 : Int32)), .val (.int (0 : Int32)), .unset] [])) t ∧ _
  refine own_go (fun _ => XS.iload X0.here hx rfl (hb hby d6_16) rfl) ?_
  show ∃ t o, Steps p.tables e below (s₁.setTop (mkF m 18 #[.val (.ref ar), .val (.int (1 : Int32)), .val (.ref ar), .val (.int (0 : Int32)), .val (.int (0 : Int32)), .unset] [(.int (0 : Int32))])) t ∧ _
  refine own_go (fun _ => XS.iloadN X0.here hx rfl (hb hby d6_18) rfl) ?_
  show ∃ t o, Steps p.tables e below (s₁.setTop (mkF m 19 #[.val (.ref ar), .val (.int (1 : Int32)), .val (.ref ar), .val (.int (0 : Int32)), .val (.int (0 : Int32)), .unset] [(.int (0 : Int32)), (.int (0 : Int32))])) t ∧ _
  refine own_go (fun _ => XS.icmpYes X0.here hx rfl (pc0 := 19) (pc' := 54) rfl (hb hby d6_19) rfl (flt (by decide : ¬ ((0 : Int32) < (0 : Int32)))).2.1 (by decide) (by decide)) ?_
  show ∃ t o, Steps p.tables e below (s₁.setTop (mkF m 54 #[.val (.ref ar), .val (.int (1 : Int32)), .val (.ref ar), .val (.int (0 : Int32)), .val (.int (0 : Int32)), .unset] [])) t ∧ _
  refine own_go (fun _ => XS.iloadN X0.here hx rfl (hb hby d6_54) rfl) ?_
  show ∃ t o, Steps p.tables e below (s₁.setTop (mkF m 55 #[.val (.ref ar), .val (.int (1 : Int32)), .val (.ref ar), .val (.int (0 : Int32)), .val (.int (0 : Int32)), .unset] [(.int (1 : Int32))])) t ∧ _
  obtain ⟨fs, hr, hrun, hended, hW, hsame⟩ := X0.leave (v := some (.int (1 : Int32))) (fun h => by rw [Bd.returns] at h; cases h)
  refine ⟨_, _, ?_, hrun, hended, _, _, rfl, ?_, ⟨_, rfl⟩, hW, hsame.mono (by decide) (by decide)⟩
  · exact retI X0 hx Bd.returns (hb hby d6_55) hr
  · show Q_rmHash0 Z ar kk h0 n0 _ s₁.heap _
    rw [e0]
    exact ⟨(1 : Int32), rfl, N0, rfl⟩
theorem ef_rmKeyInit0 (m : MethodId) (x0 : Nat) (x1 : Nat) : entryFrame m #[(.ref x0), (.ref x1)] 2 = mkF m 0 #[.val (.ref x0), .val (.ref x1)] [] := by first | (simp [entryFrame, mkF, argsToLocals, Value.category]; done) | rfl
theorem d4_0 : decode prog_66_method_1_code 0 = .ok (.aload_n 0, 1) := by decide +kernel
theorem d4_1 : decode prog_66_method_1_code 1 = .ok (.invokespecial 1, 3) := by decide +kernel
theorem d4_4 : decode prog_66_method_1_code 4 = .ok (.aload_n 0, 1) := by decide +kernel
theorem d4_5 : decode prog_66_method_1_code 5 = .ok (.aload_n 1, 1) := by decide +kernel
theorem d4_6 : decode prog_66_method_1_code 6 = .ok (.putfield 7, 3) := by decide +kernel
theorem d4_9 : decode prog_66_method_1_code 9 = .ok (.aload_n 0, 1) := by decide +kernel
theorem d4_10 : decode prog_66_method_1_code 10 = .ok (.aload_n 1, 1) := by decide +kernel
theorem d4_11 : decode prog_66_method_1_code 11 = .ok (.invokestatic 13, 3) := by decide +kernel
theorem pd__28_5bLjava_2flang_2fObject_3b_29I : parseMethodDescriptor "([Ljava/lang/Object;)I" = some ⟨[(.array (.object "java/lang/Object"))], some .int⟩ := by decide +kernel
theorem d4_14 : decode prog_66_method_1_code 14 = .ok (.putfield 19, 3) := by decide +kernel
theorem d4_17 : decode prog_66_method_1_code 17 = .ok (.return_, 1) := by decide +kernel
theorem pn_com_example_planwright_planwright_plan_Key : plainName "com/example/planwright/planwright/plan/Key" = true := by first | (simp [plainName, overriddenIn]; done) | decide +kernel
def Q_rmKeyInit0 (Z : State) (a1 : Nat) (ar : Nat) (kk : ClassId) (h0 : Heap) (n0 : Nat) (v : Option Value) (h : Heap) (L : List Loc) : Prop := v = none ∧ Fr n0 L ∧ Keep h0 h [a1] ∧ Exa Z h a1 "com/example/planwright/planwright/plan/Key" ∧ Fld Z h a1 "com/example/planwright/planwright/plan/Key" "values" "[Ljava/lang/Object;" (.ref ar)
set_option maxRecDepth 65536 in
set_option maxHeartbeats 40000000 in
theorem rmKeyInit0 (l : Launch) (Z : State) (a0 : Array Value) (hw : ∀ d ∈ tables_1, d.before a0 Z = true) (ws : List Jvm.Cond) (a1 : Nat) (ar : Nat) (kk : ClassId) (h0 : Heap) (n0 : Nat) (Z0 : n0 ≤ h0.size) (P1 : Exa Z h0 a1 "com/example/planwright/planwright/plan/Key") (P2 : Fld Z h0 a1 "com/example/planwright/planwright/plan/Key" "values" "[Ljava/lang/Object;" .null) (P3 : Fld Z h0 a1 "com/example/planwright/planwright/plan/Key" "hash" "I" (.int (0 : Int32))) (P4 : Arv Z h0 ar kk (.object "java/lang/Object") (0 : Int32) [] .null) (OLD : Old Z n0 h0) (ga : n0 ≤ a1) (na : ar ≠ a1) :
    MetFree l (⟨"com/example/planwright/planwright/plan/Key", "<init>", "([Ljava/lang/Object;)V"⟩ : MethodName) (head1 (Jvm.Cond.code (⟨"com/example/planwright/planwright/plan/Key", "<init>", "([Ljava/lang/Object;)V"⟩ : MethodName) prog_66_method_1_code 2 none :: ws) ({ frames := 1, cells := 0, slots := 0, locals := 18 } : Room)) (fun a U => a = #[(.ref a1), (.ref ar)] ∧ Z.Warmed39 U.vm ∧ U.heap = h0) (fun _ _ _ _ _ => True) (fun _ U o U' => ∃ v L, o = .returned v ∧ Q_rmKeyInit0 Z a1 ar kk h0 n0 v U'.heap L ∧ FrameEnd U o U' L ({ frames := 1, cells := 0, slots := 0, locals := 18 } : Room).cells ({ frames := 1, cells := 0, slots := 0, locals := 18 } : Room).slots) := by
  refine MetFree.of_bodySF (plainFor_of_name pn_com_example_planwright_planwright_plan_Key) hisR ?_
  intro p e s m args below meth c s₁ Bd hml0 hP hK
  obtain ⟨rfl, hZ, hh⟩ := hP
  have hx := Bd.exec
  have hby := Bd.bytes
  have hml : c.maxLocals = 2 := hml0
  have hown : s.vm.findClass "com/example/planwright/planwright/plan/Key" = some m.cls := findClass_of_methodNamed Bd.named
  have hnm := (name_of_methodNamed Bd.named Bd.method).1
  have X0 : Stand p l e ({ frames := 1, cells := 0, slots := 0, locals := 18 } : Room) s m #[(.ref a1), (.ref ar)] below meth c s₁ [] 0 0 := Stand.of_body Bd
  have e0 : s₁.heap = h0 := by rw [← hh, Bd.state]; rfl
  have N0 := Fr.nil n0
  have pre0 : ∀ t, Steps p.tables e below (s₁.setTop (mkF m 0 #[.val (.ref a1), .val (.ref ar)] [])) t → Steps p.tables e below (s₁.setTop (entryFrame m #[(.ref a1), (.ref ar)] 2)) t := fun t k => castTop (ef_rmKeyInit0 m a1 ar) k
  have oz := OLD.1
  have lt_a1 : a1 < h0.size := P1.lt
  have lt_ar : ar < h0.size := P4.lt
  refine own_go (B := s₁.setTop (mkF m 0 #[.val (.ref a1), .val (.ref ar)] [])) pre0 ?_
  show ∃ t o, Steps p.tables e below (s₁.setTop (mkF m 0 #[.val (.ref a1), .val (.ref ar)] [])) t ∧ _
  refine own_go (fun _ => XS.aloadN X0.here hx rfl (hb hby d4_0) rfl rfl) ?_
  show ∃ t o, Steps p.tables e below (s₁.setTop (mkF m 1 #[.val (.ref a1), .val (.ref ar)] [(.ref a1)])) t ∧ _
  obtain ⟨T5, X5, e5, st5⟩ := initO X0 hx hZ hown (hw _ (List.mem_of_getElem? (i := 26) rfl)) (hw _ (List.mem_of_getElem? (i := 27) rfl)) (hw _ (List.mem_of_getElem? (i := 28) rfl)) e0 (g := (mkF m 1 #[.val (.ref a1), .val (.ref ar)] [(.ref a1)])) rfl (by rw [hml]; rfl) rfl (hb hby d4_1) (by decide) (W := 0) (by show 2 * 0 + _ ≤ _; exact Nat.le_of_eq rfl) (by decide)
  refine own_go st5 ?_
  show ∃ t o, Steps p.tables e below (T5.setTop (mkF m 4 #[.val (.ref a1), .val (.ref ar)] [])) t ∧ _
  refine own_go (fun _ => XS.aloadN X5.here hx rfl (hb hby d4_4) rfl rfl) ?_
  show ∃ t o, Steps p.tables e below (T5.setTop (mkF m 5 #[.val (.ref a1), .val (.ref ar)] [(.ref a1)])) t ∧ _
  refine own_go (fun _ => XS.aloadN X5.here hx rfl (hb hby d4_5) rfl rfl) ?_
  show ∃ t o, Steps p.tables e below (T5.setTop (mkF m 6 #[.val (.ref a1), .val (.ref ar)] [(.ref ar), (.ref a1)])) t ∧ _
  obtain ⟨T6, h6, X6, e6, W6, st6⟩ := putF X5 hx hZ hown (host := "") (Or.inl (hw _ (List.mem_of_getElem? (i := 29) rfl))) Via.refl e5 P2 P1 (Or.inr ⟨(hw _ (List.mem_of_getElem? (i := 30) rfl)), rfl, hnm⟩) (hw _ (List.mem_of_getElem? (i := 22) rfl)) (ty := (.array (.object "java/lang/Object"))) (by decide) rfl rfl (g := (mkF m 6 #[.val (.ref a1), .val (.ref ar)] [(.ref ar), (.ref a1)])) rfl rfl (hb hby d4_6)
  refine own_go st6 ?_
  have le_6 : h0.size ≤ h6.size := Nat.le_of_eq W6.size.symm
  have K6 : Keep h0 h6 [a1] := Keep.wr (Keep.refl h0 [a1]) W6 (Or.inl (List.mem_of_getElem? (i := 0) rfl))
  have N6 := Fr.snoc X6 N0 ga
  have Fw6 := Fld.same W6 P2
  show ∃ t o, Steps p.tables e below (T6.setTop (mkF m 9 #[.val (.ref a1), .val (.ref ar)] [])) t ∧ _
  refine own_go (fun _ => XS.aloadN X6.here hx rfl (hb hby d4_9) rfl rfl) ?_
  show ∃ t o, Steps p.tables e below (T6.setTop (mkF m 10 #[.val (.ref a1), .val (.ref ar)] [(.ref a1)])) t ∧ _
  refine own_go (fun _ => XS.aloadN X6.here hx rfl (hb hby d4_10) rfl rfl) ?_
  show ∃ t o, Steps p.tables e below (T6.setTop (mkF m 11 #[.val (.ref a1), .val (.ref ar)] [(.ref ar), (.ref a1)])) t ∧ _
  have F7 : Arv Z h6 ar kk (.object "java/lang/Object") (0 : Int32) [] .null := (Arv.other P4 W6 na)
  have F8 : Old Z n0 h6 := (Old.wr OLD W6 ga)
  have zl9 : n0 ≤ h6.size := by omega
  obtain ⟨_, _, ⟨T10, L10, k10, n10⟩, -, X10, ⟨Lc10, hQ10, l10, y10, z10⟩, st10⟩ := Jvm.LawKit.callS X6 hx (y := (⟨"java/util/Arrays", "hashCode", "([Ljava/lang/Object;)I"⟩ : MethodName)) hown (mvT hZ (hw _ (List.mem_of_getElem? (i := 31) rfl))) (mvT hZ (hw _ (List.mem_of_getElem? (i := 32) rfl))) (mvT hZ (hw _ (List.mem_of_getElem? (i := 33) rfl))) (mvT hZ (hw _ (List.mem_of_getElem? (i := 34) rfl))) (by decide) (backOf (W := 1) (rmHash0 l Z a0 hw [] ar kk h6 n0 zl9 F7 F8) hZ (hw _ (List.mem_of_getElem? (i := 34) rfl)) (hw _ (List.mem_of_getElem? (i := 33) rfl)) (by decide) (by decide)) (g := (mkF m 11 #[.val (.ref a1), .val (.ref ar)] [(.ref ar), (.ref a1)])) rfl (by rw [hml]; rfl) (argsL := [(.ref ar)]) (rest := [(.ref a1)]) (lenOf pd__28_5bLjava_2flang_2fObject_3b_29I rfl) rfl (by show 2 * 0 + _ ≤ _; exact Nat.le_of_eq rfl) (hb hby d4_11) (fun _ _ => ⟨rfl, e6, (by decide : 0 + 0 ≤ _), (by decide : 0 + 0 ≤ _)⟩)
  dsimp only [Pt.U, Pt.locs, Pt.cells, Pt.slots] at X10 l10 y10 z10 st10 hQ10
  subst l10 y10 z10
  obtain ⟨rh_10, rfl, Nq10, e10⟩ := hQ10
  have N10 := Fr.app N6 Nq10
  refine own_go st10 ?_
  show ∃ t o, Steps p.tables e below (T10.setTop (mkF m 14 #[.val (.ref a1), .val (.ref ar)] [(.int rh_10), (.ref a1)])) t ∧ _
  have F11 : Exa Z h6 a1 "com/example/planwright/planwright/plan/Key" := (Exa.wr W6 P1)
  have F12 : Fld Z h6 a1 "com/example/planwright/planwright/plan/Key" "hash" "I" (.int (0 : Int32)) := (Fld.other W6 P3 (Or.inr (slot_ne (a0 := a0) (Or.inr (hw _ (List.mem_of_getElem? (i := 36) rfl))) (Or.inr (hw _ (List.mem_of_getElem? (i := 30) rfl))) (by decide) (t := .int) (t' := (.array (.object "java/lang/Object"))) (by decide) (by decide))))
  obtain ⟨T13, h13, X13, e13, W13, st13⟩ := putF X10 hx hZ hown (host := "") (Or.inl (hw _ (List.mem_of_getElem? (i := 35) rfl))) Via.refl e10 F12 F11 (Or.inr ⟨(hw _ (List.mem_of_getElem? (i := 36) rfl)), rfl, hnm⟩) (hw _ (List.mem_of_getElem? (i := 22) rfl)) (ty := .int) (by decide) rfl rfl (g := (mkF m 14 #[.val (.ref a1), .val (.ref ar)] [(.int rh_10), (.ref a1)])) rfl rfl (hb hby d4_14)
  refine own_go st13 ?_
  have le_13 : h6.size ≤ h13.size := Nat.le_of_eq W13.size.symm
  have K13 : Keep h0 h13 [a1] := Keep.wr K6 W13 (Or.inl (List.mem_of_getElem? (i := 0) rfl))
  have N13 := Fr.snoc X13 N10 ga
  have Fw13 := Fld.same W13 F12
  show ∃ t o, Steps p.tables e below (T13.setTop (mkF m 17 #[.val (.ref a1), .val (.ref ar)] [])) t ∧ _
  have F14 : Exa Z h13 a1 "com/example/planwright/planwright/plan/Key" := (Exa.wr W13 F11)
  have F15 : Fld Z h13 a1 "com/example/planwright/planwright/plan/Key" "values" "[Ljava/lang/Object;" (.ref ar) := (Fld.other W13 Fw6 (Or.inr (slot_ne (a0 := a0) (Or.inr (hw _ (List.mem_of_getElem? (i := 30) rfl))) (Or.inr (hw _ (List.mem_of_getElem? (i := 36) rfl))) (by decide) (t := (.array (.object "java/lang/Object"))) (t' := .int) (by decide) (by decide))))
  obtain ⟨fs, hr, hrun, hended, hW, hsame⟩ := X13.leave (v := none) (fun _ => rfl)
  refine ⟨_, _, ?_, hrun, hended, _, _, rfl, ?_, ⟨_, rfl⟩, hW, hsame.mono (by decide) (by decide)⟩
  · exact X13.returnOut hx Bd.returns (hb hby d4_17) hr
  · show Q_rmKeyInit0 Z a1 ar kk h0 n0 _ T13.heap _
    rw [e13]
    exact ⟨rfl, N13, K13, F14, F15⟩
theorem ef_rmOf0 (m : MethodId) (x0 : Nat) : entryFrame m #[(.ref x0)] 1 = mkF m 0 #[.val (.ref x0)] [] := by first | (simp [entryFrame, mkF, argsToLocals, Value.category]; done) | rfl
theorem d3_0 : decode prog_66_method_2_code 0 = .ok (.aload_n 0, 1) := by decide +kernel
theorem d3_1 : decode prog_66_method_2_code 1 = .ok (.arraylength, 1) := by decide +kernel
theorem d3_2 : decode prog_66_method_2_code 2 = .ok (.iconst 1, 1) := by decide +kernel
theorem d3_3 : decode prog_66_method_2_code 3 = .ok (.if_icmp .ne 9, 3) := by decide +kernel
theorem d3_12 : decode prog_66_method_2_code 12 = .ok (.new 8, 3) := by decide +kernel
theorem d3_15 : decode prog_66_method_2_code 15 = .ok (.dup, 1) := by decide +kernel
theorem d3_16 : decode prog_66_method_2_code 16 = .ok (.aload_n 0, 1) := by decide +kernel
theorem d3_17 : decode prog_66_method_2_code 17 = .ok (.invokespecial 23, 3) := by decide +kernel
theorem pd__28_5bLjava_2flang_2fObject_3b_29V : parseMethodDescriptor "([Ljava/lang/Object;)V" = some ⟨[(.array (.object "java/lang/Object"))], none⟩ := by decide +kernel
theorem d3_20 : decode prog_66_method_2_code 20 = .ok (.areturn, 1) := by decide +kernel
def Q_rmOf0 (Z : State) (ar : Nat) (kk : ClassId) (h0 : Heap) (n0 : Nat) (v : Option Value) (h : Heap) (L : List Loc) : Prop := ∃ (b : Nat), v = some (.ref b) ∧ Fr n0 L ∧ Keep h0 h [] ∧ Exa Z h b "com/example/planwright/planwright/plan/Key" ∧ Fld Z h b "com/example/planwright/planwright/plan/Key" "values" "[Ljava/lang/Object;" (.ref ar) ∧ (h0.size ≤ b)
set_option maxRecDepth 65536 in
set_option maxHeartbeats 40000000 in
theorem rmOf0 (l : Launch) (Z : State) (a0 : Array Value) (hw : ∀ d ∈ tables_1, d.before a0 Z = true) (ws : List Jvm.Cond) (ar : Nat) (kk : ClassId) (h0 : Heap) (n0 : Nat) (Z0 : n0 ≤ h0.size) (P1 : Arv Z h0 ar kk (.object "java/lang/Object") (0 : Int32) [] .null) (OLD : Old Z n0 h0) :
    MetFree l (⟨"com/example/planwright/planwright/plan/Key", "of", "([Ljava/lang/Object;)Ljava/lang/Object;"⟩ : MethodName) (head1 (Jvm.Cond.code (⟨"com/example/planwright/planwright/plan/Key", "of", "([Ljava/lang/Object;)Ljava/lang/Object;"⟩ : MethodName) prog_66_method_2_code 1 (some (.object "java/lang/Object")) :: ws) ({ frames := 2, cells := 1, slots := 2, locals := 32 } : Room)) (fun a U => a = #[(.ref ar)] ∧ Z.Warmed39 U.vm ∧ U.heap = h0) (fun _ _ _ _ _ => True) (fun _ U o U' => ∃ v L, o = .returned v ∧ Q_rmOf0 Z ar kk h0 n0 v U'.heap L ∧ FrameEnd U o U' L ({ frames := 2, cells := 1, slots := 2, locals := 32 } : Room).cells ({ frames := 2, cells := 1, slots := 2, locals := 32 } : Room).slots) := by
  refine MetFree.of_bodySF (plainFor_of_name pn_com_example_planwright_planwright_plan_Key) hisR ?_
  intro p e s m args below meth c s₁ Bd hml0 hP hK
  obtain ⟨rfl, hZ, hh⟩ := hP
  have hx := Bd.exec
  have hby := Bd.bytes
  have hml : c.maxLocals = 1 := hml0
  have hown : s.vm.findClass "com/example/planwright/planwright/plan/Key" = some m.cls := findClass_of_methodNamed Bd.named
  have hnm := (name_of_methodNamed Bd.named Bd.method).1
  have X0 : Stand p l e ({ frames := 2, cells := 1, slots := 2, locals := 32 } : Room) s m #[(.ref ar)] below meth c s₁ [] 0 0 := Stand.of_body Bd
  have e0 : s₁.heap = h0 := by rw [← hh, Bd.state]; rfl
  have N0 := Fr.nil n0
  have pre0 : ∀ t, Steps p.tables e below (s₁.setTop (mkF m 0 #[.val (.ref ar)] [])) t → Steps p.tables e below (s₁.setTop (entryFrame m #[(.ref ar)] 1)) t := fun t k => castTop (ef_rmOf0 m ar) k
  have oz := OLD.1
  have lt_ar : ar < h0.size := P1.lt
  refine own_go (B := s₁.setTop (mkF m 0 #[.val (.ref ar)] [])) pre0 ?_
  show ∃ t o, Steps p.tables e below (s₁.setTop (mkF m 0 #[.val (.ref ar)] [])) t ∧ _
  refine own_go (fun _ => XS.aloadN X0.here hx rfl (hb hby d3_0) rfl rfl) ?_
  show ∃ t o, Steps p.tables e below (s₁.setTop (mkF m 1 #[.val (.ref ar)] [(.ref ar)])) t ∧ _
  obtain ⟨cl2, Ar2, q2, S2, N2, H2, G2⟩ := id P1
  have ln2 : cl2.slots.size.toInt32 = (0 : Int32) := len_of S2 N2
  have al2 := X0.arraylength hx (by rw [e0]; exact Ar2.1) (State.isArrayOf_alike hZ.alike Ar2.2.1) (g := (mkF m 1 #[.val (.ref ar)] [(.ref ar)])) rfl rfl (hb hby d3_1)
  rw [ln2] at al2
  refine own_go al2 ?_
  show ∃ t o, Steps p.tables e below (s₁.setTop (mkF m 2 #[.val (.ref ar)] [(.int (0 : Int32))])) t ∧ _
  refine own_go (fun _ => XS.iconst X0.here hx rfl (hb hby d3_2)) ?_
  show ∃ t o, Steps p.tables e below (s₁.setTop (mkF m 3 #[.val (.ref ar)] [(.int (1 : Int32)), (.int (0 : Int32))])) t ∧ _
  refine own_go (fun _ => XS.icmpYes X0.here hx rfl (pc0 := 3) (pc' := 12) rfl (hb hby d3_3) rfl (feq (by decide : ¬ ((0 : Int32) = (1 : Int32)))).2 (by decide) (by decide)) ?_
  show ∃ t o, Steps p.tables e below (s₁.setTop (mkF m 12 #[.val (.ref ar)] [])) t ∧ _
  obtain ⟨T3, h3, X3, e3, E3, A3, D3, -, st3⟩ := newO X0 hx hZ hown (hw _ (List.mem_of_getElem? (i := 21) rfl)) (hw _ (List.mem_of_getElem? (i := 22) rfl)) (hw _ (List.mem_of_getElem? (i := 19) rfl)) e0 (g := (mkF m 12 #[.val (.ref ar)] [])) rfl (hb hby d3_12) (by decide) (by decide)
  obtain ⟨b3, g3⟩ : ∃ z, z = h0.size := ⟨_, rfl⟩
  rw [← g3] at A3 D3 st3
  refine own_go st3 ?_
  have le_3 : h0.size ≤ h3.size := E3.1
  have lt_b3 : b3 < h3.size := A3.lt
  have F_values_b3 : Fld Z h3 b3 "com/example/planwright/planwright/plan/Key" "values" "[Ljava/lang/Object;" .null := D3 (Or.inr (hw _ (List.mem_of_getElem? (i := 30) rfl))) (ty := (.array (.object "java/lang/Object"))) (by decide)
  have F_hash_b3 : Fld Z h3 b3 "com/example/planwright/planwright/plan/Key" "hash" "I" (.int (0 : Int32)) := D3 (Or.inr (hw _ (List.mem_of_getElem? (i := 36) rfl))) (ty := .int) (by decide)
  have K3 : Keep h0 h3 [] := Keep.ext (Keep.refl h0 []) E3
  show ∃ t o, Steps p.tables e below (T3.setTop (mkF m 15 #[.val (.ref ar)] [(.ref b3)])) t ∧ _
  refine own_go (fun _ => XS.dup X3.here hx rfl (hb hby d3_15) rfl rfl) ?_
  show ∃ t o, Steps p.tables e below (T3.setTop (mkF m 16 #[.val (.ref ar)] [(.ref b3), (.ref b3)])) t ∧ _
  refine own_go (fun _ => XS.aloadN X3.here hx rfl (hb hby d3_16) rfl rfl) ?_
  show ∃ t o, Steps p.tables e below (T3.setTop (mkF m 17 #[.val (.ref ar)] [(.ref ar), (.ref b3), (.ref b3)])) t ∧ _
  have F4 : Arv Z h3 ar kk (.object "java/lang/Object") (0 : Int32) [] .null := (P1.ext E3)
  have F5 : Old Z n0 h3 := (OLD.ext E3)
  have ge6 : n0 ≤ b3 := by omega
  have ne7 : ar ≠ b3 := own_ne (by omega)
  have zl8 : n0 ≤ h3.size := by omega
  obtain ⟨_, _, ⟨T9, L9, k9, n9⟩, -, X9, ⟨Lc9, hQ9, l9, y9, z9⟩, st9⟩ := X3.specialBack hx (y := (⟨"com/example/planwright/planwright/plan/Key", "<init>", "([Ljava/lang/Object;)V"⟩ : MethodName)) rfl hown (mvT hZ (hw _ (List.mem_of_getElem? (i := 23) rfl))) (mvT hZ (hw _ (List.mem_of_getElem? (i := 24) rfl))) (mvT hZ (hw _ (List.mem_of_getElem? (i := 25) rfl))) (by decide) (backOf (W := 1) (rmKeyInit0 l Z a0 hw [] b3 ar kk h3 n0 zl8 A3 F_values_b3 F_hash_b3 F4 F5 ge6 ne7) hZ (hw _ (List.mem_of_getElem? (i := 25) rfl)) (hw _ (List.mem_of_getElem? (i := 19) rfl)) (by decide) (by decide)) (g := (mkF m 17 #[.val (.ref ar)] [(.ref ar), (.ref b3), (.ref b3)])) rfl (by rw [hml]; rfl) (Steps.refl _) (a := b3) (argsL := [(.ref ar)]) (rest := [(.ref b3)]) (lenOf pd__28_5bLjava_2flang_2fObject_3b_29V rfl) rfl (by show 2 * 0 + _ ≤ _; exact Nat.le_of_eq rfl) (hb hby d3_17) (fun _ _ => ⟨rfl, e3, (by decide : 1 + 0 ≤ _), (by decide : 2 + 0 ≤ _)⟩)
  dsimp only [Pt.U, Pt.locs, Pt.cells, Pt.slots] at X9 l9 y9 z9 st9 hQ9
  subst l9 y9 z9
  obtain ⟨rfl, Nq9, Kp9, G9_0, G9_1⟩ := hQ9
  have N9 := Fr.app N0 Nq9
  refine own_goT st9 ?_
  have le_9 : h3.size ≤ T9.heap.size := Kp9.1
  have sz10 : h0.size ≤ b3 := by omega
  have K9 : Keep h0 T9.heap [] := Keep.trans K3 Kp9 (allS (Or.inr sz10) all0)
  show ∃ t o, Steps p.tables e below (T9.setTop (mkF m 20 #[.val (.ref ar)] [(.ref b3)])) t ∧ _
  obtain ⟨fs, hr, hrun, hended, hW, hsame⟩ := X9.leave (v := some (.ref b3)) (fun h => by rw [Bd.returns] at h; cases h)
  refine ⟨_, _, ?_, hrun, hended, _, _, rfl, ?_, ⟨_, rfl⟩, hW, hsame.mono (by decide) (by decide)⟩
  · jvm_step X9.here [X9.here.top, hx, (hb hby d3_20), X9.method', Bd.returns, Value.isRef, FieldType.isReference]
    first | (intro acts; rw [hr _ acts rfl rfl rfl]) | rw [hr _ _ rfl rfl rfl]
    exact Steps.refl _
  · show Q_rmOf0 Z ar kk h0 n0 _ T9.heap _
    exact ⟨b3, rfl, N9, K9, G9_0, G9_1, (by omega)⟩
theorem ef_rmVals0 (m : MethodId) (x0 : Nat) (x1 : Int32) : entryFrame m #[(.ref x0), (.int x1)] 2 = mkF m 0 #[.val (.ref x0), .val (.int x1)] [] := by first | (simp [entryFrame, mkF, argsToLocals, Value.category]; done) | rfl
theorem d7_0 : decode prog_66_method_3_code 0 = .ok (.iload_n 1, 1) := by decide +kernel
theorem d7_1 : decode prog_66_method_3_code 1 = .ok (.iconst 1, 1) := by decide +kernel
theorem d7_2 : decode prog_66_method_3_code 2 = .ok (.if_icmp .ne 14, 3) := by decide +kernel
theorem d7_16 : decode prog_66_method_3_code 16 = .ok (.aload_n 0, 1) := by decide +kernel
theorem d7_17 : decode prog_66_method_3_code 17 = .ok (.checkcast 8, 3) := by decide +kernel
theorem d7_20 : decode prog_66_method_3_code 20 = .ok (.getfield 7, 3) := by decide +kernel
theorem d7_23 : decode prog_66_method_3_code 23 = .ok (.invokevirtual 26, 3) := by decide +kernel
theorem d7_26 : decode prog_66_method_3_code 26 = .ok (.checkcast 27, 3) := by decide +kernel
theorem d7_29 : decode prog_66_method_3_code 29 = .ok (.areturn, 1) := by decide +kernel
def Q_rmVals0 (Z : State) (ko : Nat) (ar : Nat) (kk : ClassId) (h0 : Heap) (n0 : Nat) (v : Option Value) (h : Heap) (L : List Loc) : Prop := ∃ (b : Nat), v = some (.ref b) ∧ Fr n0 L ∧ Keep h0 h [] ∧ Arv Z h b kk (.object "java/lang/Object") (0 : Int32) [] .null ∧ (h0.size ≤ b)
set_option maxRecDepth 65536 in
set_option maxHeartbeats 40000000 in
theorem rmVals0 (l : Launch) (Z : State) (a0 : Array Value) (hw : ∀ d ∈ tables_1, d.before a0 Z = true) (ws : List Jvm.Cond) (ko : Nat) (ar : Nat) (kk : ClassId) (h0 : Heap) (n0 : Nat) (Z0 : n0 ≤ h0.size) (P1 : Exa Z h0 ko "com/example/planwright/planwright/plan/Key") (P2 : Fld Z h0 ko "com/example/planwright/planwright/plan/Key" "values" "[Ljava/lang/Object;" (.ref ar)) (P3 : Arv Z h0 ar kk (.object "java/lang/Object") (0 : Int32) [] .null) (P4 : Exa Z h0 ar "[Ljava/lang/Object;") (OLD : Old Z n0 h0) :
    MetFree l (⟨"com/example/planwright/planwright/plan/Key", "values", "(Ljava/lang/Object;I)[Ljava/lang/Object;"⟩ : MethodName) (head1 (Jvm.Cond.code (⟨"com/example/planwright/planwright/plan/Key", "values", "(Ljava/lang/Object;I)[Ljava/lang/Object;"⟩ : MethodName) prog_66_method_3_code 2 (some (.array (.object "java/lang/Object"))) :: ws) ({ frames := 1, cells := 1, slots := 0, locals := 14 } : Room)) (fun a U => a = #[(.ref ko), (.int (0 : Int32))] ∧ Z.Warmed39 U.vm ∧ U.heap = h0) (fun _ _ _ _ _ => True) (fun _ U o U' => ∃ v L, o = .returned v ∧ Q_rmVals0 Z ko ar kk h0 n0 v U'.heap L ∧ FrameEnd U o U' L ({ frames := 1, cells := 1, slots := 0, locals := 14 } : Room).cells ({ frames := 1, cells := 1, slots := 0, locals := 14 } : Room).slots) := by
  refine MetFree.of_bodySF (plainFor_of_name pn_com_example_planwright_planwright_plan_Key) hisR ?_
  intro p e s m args below meth c s₁ Bd hml0 hP hK
  obtain ⟨rfl, hZ, hh⟩ := hP
  have hx := Bd.exec
  have hby := Bd.bytes
  have hml : c.maxLocals = 2 := hml0
  have hown : s.vm.findClass "com/example/planwright/planwright/plan/Key" = some m.cls := findClass_of_methodNamed Bd.named
  have hnm := (name_of_methodNamed Bd.named Bd.method).1
  have X0 : Stand p l e ({ frames := 1, cells := 1, slots := 0, locals := 14 } : Room) s m #[(.ref ko), (.int (0 : Int32))] below meth c s₁ [] 0 0 := Stand.of_body Bd
  have e0 : s₁.heap = h0 := by rw [← hh, Bd.state]; rfl
  have N0 := Fr.nil n0
  have pre0 : ∀ t, Steps p.tables e below (s₁.setTop (mkF m 0 #[.val (.ref ko), .val (.int (0 : Int32))] [])) t → Steps p.tables e below (s₁.setTop (entryFrame m #[(.ref ko), (.int (0 : Int32))] 2)) t := fun t k => castTop (ef_rmVals0 m ko (0 : Int32)) k
  have oz := OLD.1
  have lt_ar : ar < h0.size := P3.lt
  have lt_ko : ko < h0.size := P1.lt
  refine own_go (B := s₁.setTop (mkF m 0 #[.val (.ref ko), .val (.int (0 : Int32))] [])) pre0 ?_
  show ∃ t o, Steps p.tables e below (s₁.setTop (mkF m 0 #[.val (.ref ko), .val (.int (0 : Int32))] [])) t ∧ _
  refine own_go (fun _ => XS.iloadN X0.here hx rfl (hb hby d7_0) rfl) ?_
  show ∃ t o, Steps p.tables e below (s₁.setTop (mkF m 1 #[.val (.ref ko), .val (.int (0 : Int32))] [(.int (0 : Int32))])) t ∧ _
  refine own_go (fun _ => XS.iconst X0.here hx rfl (hb hby d7_1)) ?_
  show ∃ t o, Steps p.tables e below (s₁.setTop (mkF m 2 #[.val (.ref ko), .val (.int (0 : Int32))] [(.int (1 : Int32)), (.int (0 : Int32))])) t ∧ _
  refine own_go (fun _ => XS.icmpYes X0.here hx rfl (pc0 := 2) (pc' := 16) rfl (hb hby d7_2) rfl (feq (by decide : ¬ ((0 : Int32) = (1 : Int32)))).2 (by decide) (by decide)) ?_
  show ∃ t o, Steps p.tables e below (s₁.setTop (mkF m 16 #[.val (.ref ko), .val (.int (0 : Int32))] [])) t ∧ _
  refine own_go (fun _ => XS.aloadN X0.here hx rfl (hb hby d7_16) rfl rfl) ?_
  show ∃ t o, Steps p.tables e below (s₁.setTop (mkF m 17 #[.val (.ref ko), .val (.int (0 : Int32))] [(.ref ko)])) t ∧ _
  obtain ⟨T5, X5, e5, st5⟩ := castY X0 hx hZ hown (hw _ (List.mem_of_getElem? (i := 21) rfl)) e0 (Ins.self P1) (g := (mkF m 17 #[.val (.ref ko), .val (.int (0 : Int32))] [(.ref ko)])) rfl rfl (hb hby d7_17)
  refine own_go st5 ?_
  show ∃ t o, Steps p.tables e below (T5.setTop (mkF m 20 #[.val (.ref ko), .val (.int (0 : Int32))] [(.ref ko)])) t ∧ _
  obtain ⟨T6, X6, e6, st6⟩ := getF X5 hx hZ hown (host := "") (Or.inl (hw _ (List.mem_of_getElem? (i := 29) rfl))) Via.refl e5 P2 (g := (mkF m 20 #[.val (.ref ko), .val (.int (0 : Int32))] [(.ref ko)])) rfl rfl (hb hby d7_20)
  refine own_go st6 ?_
  show ∃ t o, Steps p.tables e below (T6.setTop (mkF m 23 #[.val (.ref ko), .val (.int (0 : Int32))] [(.ref ar)])) t ∧ _
  obtain ⟨T7, h7, X7, e7, E7, A7, Q7, st7⟩ := cloneH X6 hx hZ hown (hw _ (List.mem_of_getElem? (i := 41) rfl)) (hw _ (List.mem_of_getElem? (i := 42) rfl)) (hw _ (List.mem_of_getElem? (i := 46) rfl)) (hw _ (List.mem_of_getElem? (i := 44) rfl)) (hw _ (List.mem_of_getElem? (i := 45) rfl)) (hw _ (List.mem_of_getElem? (i := 47) rfl)) e6 (Arv.arh P3) P4 (g := (mkF m 23 #[.val (.ref ko), .val (.int (0 : Int32))] [(.ref ar)])) rfl (by rw [hml]; rfl) rfl (hb hby d7_23) (by decide) (W := 0) (cap := 0) (by show 2 * 0 + _ ≤ _; exact Nat.le_of_eq rfl) (by decide) (by decide) (by decide) (by decide)
  obtain ⟨b7, g7⟩ : ∃ z, z = h0.size := ⟨_, rfl⟩
  rw [← g7] at A7 Q7 st7
  refine own_go st7 ?_
  have le_7 : h0.size ≤ h7.size := E7.1
  have V_b7 : Arv Z h7 b7 kk (.object "java/lang/Object") (0 : Int32) [] .null := A7
  have lt_b7 : b7 < h7.size := V_b7.lt
  have K7 : Keep h0 h7 [] := Keep.ext (Keep.refl h0 []) E7
  show ∃ t o, Steps p.tables e below (T7.setTop (mkF m 26 #[.val (.ref ko), .val (.int (0 : Int32))] [(.ref b7)])) t ∧ _
  obtain ⟨T8, X8, e8, st8⟩ := castY X7 hx hZ hown (hw _ (List.mem_of_getElem? (i := 48) rfl)) e7 (Ins.self Q7) (g := (mkF m 26 #[.val (.ref ko), .val (.int (0 : Int32))] [(.ref b7)])) rfl rfl (hb hby d7_26)
  refine own_go st8 ?_
  show ∃ t o, Steps p.tables e below (T8.setTop (mkF m 29 #[.val (.ref ko), .val (.int (0 : Int32))] [(.ref b7)])) t ∧ _
  obtain ⟨fs, hr, hrun, hended, hW, hsame⟩ := X8.leave (v := some (.ref b7)) (fun h => by rw [Bd.returns] at h; cases h)
  refine ⟨_, _, ?_, hrun, hended, _, _, rfl, ?_, ⟨_, rfl⟩, hW, hsame.mono (by decide) (by decide)⟩
  · jvm_step X8.here [X8.here.top, hx, (hb hby d7_29), X8.method', Bd.returns, Value.isRef, FieldType.isReference]
    first | (intro acts; rw [hr _ acts rfl rfl rfl]) | rw [hr _ _ rfl rfl rfl]
    exact Steps.refl _
  · show Q_rmVals0 Z ko ar kk h0 n0 _ T8.heap _
    rw [e8]
    exact ⟨b7, rfl, N0, K7, V_b7, (by omega)⟩
theorem ef_rmHash2 (m : MethodId) (x0 : Nat) : entryFrame m #[(.ref x0)] 6 = mkF m 0 #[.val (.ref x0), .unset, .unset, .unset, .unset, .unset] [] := by first | (simp [entryFrame, mkF, argsToLocals, Value.category]; done) | rfl
theorem d6_22 : decode jdk_65_method_157_code 22 = .ok (.aload_n 2, 1) := by decide +kernel
theorem d6_23 : decode jdk_65_method_157_code 23 = .ok (.iload 4, 2) := by decide +kernel
theorem d6_25 : decode jdk_65_method_157_code 25 = .ok (.aaload, 1) := by decide +kernel
theorem d6_26 : decode jdk_65_method_157_code 26 = .ok (.astore 5, 2) := by decide +kernel
theorem d6_28 : decode jdk_65_method_157_code 28 = .ok (.bipush 31, 2) := by decide +kernel
theorem d6_30 : decode jdk_65_method_157_code 30 = .ok (.iload_n 1, 1) := by decide +kernel
theorem d6_31 : decode jdk_65_method_157_code 31 = .ok (.imul, 1) := by decide +kernel
theorem d6_32 : decode jdk_65_method_157_code 32 = .ok (.aload 5, 2) := by decide +kernel
theorem d6_34 : decode jdk_65_method_157_code 34 = .ok (.ifnonnull 7, 3) := by decide +kernel
theorem d6_41 : decode jdk_65_method_157_code 41 = .ok (.aload 5, 2) := by decide +kernel
theorem d6_43 : decode jdk_65_method_157_code 43 = .ok (.invokevirtual 383, 3) := by decide +kernel
theorem pd__28_29I : parseMethodDescriptor "()I" = some ⟨[], some .int⟩ := by decide +kernel
theorem d6_46 : decode jdk_65_method_157_code 46 = .ok (.iadd, 1) := by decide +kernel
theorem d6_47 : decode jdk_65_method_157_code 47 = .ok (.istore_n 1, 1) := by decide +kernel
theorem d6_48 : decode jdk_65_method_157_code 48 = .ok (.iinc 4 1, 3) := by decide +kernel
theorem d6_51 : decode jdk_65_method_157_code 51 = .ok (.goto (-35), 3) := by decide +kernel
def Q_rmHash2 (Z : State) (ar : Nat) (kk : ClassId) (x0 : Nat) (r0 : Int32) (x1 : Nat) (r1 : Int32) (h0 : Heap) (n0 : Nat) (v : Option Value) (h : Heap) (L : List Loc) : Prop := ∃ (rh : Int32), v = some (.int rh) ∧ Fr n0 L ∧ h = h0
set_option maxRecDepth 65536 in
set_option maxHeartbeats 40000000 in
theorem rmHash2 (l : Launch) (Z : State) (a0 : Array Value) (hw : ∀ d ∈ tables_1, d.before a0 Z = true) (ws : List Jvm.Cond) (ar : Nat) (kk : ClassId) (x0 : Nat) (r0 : Int32) (x1 : Nat) (r1 : Int32) (h0 : Heap) (n0 : Nat) (Z0 : n0 ≤ h0.size) (P1 : Arv Z h0 ar kk (.object "java/lang/Object") (2 : Int32) [(.ref x0), (.ref x1)] .null) (P2 : Exa Z h0 x0 "java/lang/Integer") (P3 : Fld Z h0 x0 "java/lang/Integer" "value" "I" (.int r0)) (P4 : Exa Z h0 x1 "java/lang/Integer") (P5 : Fld Z h0 x1 "java/lang/Integer" "value" "I" (.int r1)) (OLD : Old Z n0 h0) :
    MetFree l (⟨"java/util/Arrays", "hashCode", "([Ljava/lang/Object;)I"⟩ : MethodName) (head1 (Jvm.Cond.code (⟨"java/util/Arrays", "hashCode", "([Ljava/lang/Object;)I"⟩ : MethodName) jdk_65_method_157_code 6 (some .int) :: ws) ({ frames := 2, cells := 0, slots := 0, locals := 25 } : Room)) (fun a U => a = #[(.ref ar)] ∧ Z.Warmed39 U.vm ∧ U.heap = h0) (fun _ _ _ _ _ => True) (fun _ U o U' => ∃ v L, o = .returned v ∧ Q_rmHash2 Z ar kk x0 r0 x1 r1 h0 n0 v U'.heap L ∧ FrameEnd U o U' L ({ frames := 2, cells := 0, slots := 0, locals := 25 } : Room).cells ({ frames := 2, cells := 0, slots := 0, locals := 25 } : Room).slots) := by
  refine MetFree.of_bodySF (plainFor_of_name pn_java_util_Arrays) hisR ?_
  intro p e s m args below meth c s₁ Bd hml0 hP hK
  obtain ⟨rfl, hZ, hh⟩ := hP
  have hx := Bd.exec
  have hby := Bd.bytes
  have hml : c.maxLocals = 6 := hml0
  have hown : s.vm.findClass "java/util/Arrays" = some m.cls := findClass_of_methodNamed Bd.named
  have hnm := (name_of_methodNamed Bd.named Bd.method).1
  have X0 : Stand p l e ({ frames := 2, cells := 0, slots := 0, locals := 25 } : Room) s m #[(.ref ar)] below meth c s₁ [] 0 0 := Stand.of_body Bd
  have e0 : s₁.heap = h0 := by rw [← hh, Bd.state]; rfl
  have N0 := Fr.nil n0
  have pre0 : ∀ t, Steps p.tables e below (s₁.setTop (mkF m 0 #[.val (.ref ar), .unset, .unset, .unset, .unset, .unset] [])) t → Steps p.tables e below (s₁.setTop (entryFrame m #[(.ref ar)] 6)) t := fun t k => castTop (ef_rmHash2 m ar) k
  have oz := OLD.1
  have lt_ar : ar < h0.size := P1.lt
  have lt_x0 : x0 < h0.size := P2.lt
  have lt_x1 : x1 < h0.size := P4.lt
  refine own_go (B := s₁.setTop (mkF m 0 #[.val (.ref ar), .unset, .unset, .unset, .unset, .unset] [])) pre0 ?_
  show ∃ t o, Steps p.tables e below (s₁.setTop (mkF m 0 #[.val (.ref ar), .unset, .unset, .unset, .unset, .unset] [])) t ∧ _
  refine own_go (fun _ => XS.aloadN X0.here hx rfl (hb hby d6_0) rfl rfl) ?_
  show ∃ t o, Steps p.tables e below (s₁.setTop (mkF m 1 #[.val (.ref ar), .unset, .unset, .unset, .unset, .unset] [(.ref ar)])) t ∧ _
  refine own_go (fun _ => XS.ifnonnullYes X0.here hx rfl (pc0 := 1) (pc' := 6) rfl (hb hby d6_1) rfl (by decide) (by decide)) ?_
  show ∃ t o, Steps p.tables e below (s₁.setTop (mkF m 6 #[.val (.ref ar), .unset, .unset, .unset, .unset, .unset] [])) t ∧ _
  refine own_go (fun _ => XS.iconst X0.here hx rfl (hb hby d6_6)) ?_
  show ∃ t o, Steps p.tables e below (s₁.setTop (mkF m 7 #[.val (.ref ar), .unset, .unset, .unset, .unset, .unset] [(.int (1 : Int32))])) t ∧ _
  refine own_go (fun _ => XS.istoreN X0.here hx rfl (hb hby d6_7) rfl (l' := #[.val (.ref ar), .val (.int (1 : Int32)), .unset, .unset, .unset, .unset]) rfl) ?_
  show ∃ t o, Steps p.tables e below (s₁.setTop (mkF m 8 #[.val (.ref ar), .val (.int (1 : Int32)), .unset, .unset, .unset, .unset] [])) t ∧ _
  refine own_go (fun _ => XS.aloadN X0.here hx rfl (hb hby d6_8) rfl rfl) ?_
  show ∃ t o, Steps p.tables e below (s₁.setTop (mkF m 9 #[.val (.ref ar), .val (.int (1 : Int32)), .unset, .unset, .unset, .unset] [(.ref ar)])) t ∧ _
  refine own_go (fun _ => XS.astoreN X0.here hx rfl (hb hby d6_9) rfl rfl (l' := #[.val (.ref ar), .val (.int (1 : Int32)), .val (.ref ar), .unset, .unset, .unset]) rfl) ?_
  show ∃ t o, Steps p.tables e below (s₁.setTop (mkF m 10 #[.val (.ref ar), .val (.int (1 : Int32)), .val (.ref ar), .unset, .unset, .unset] [])) t ∧ _
  refine own_go (fun _ => XS.aloadN X0.here hx rfl (hb hby d6_10) rfl rfl) ?_
  show ∃ t o, Steps p.tables e below (s₁.setTop (mkF m 11 #[.val (.ref ar), .val (.int (1 : Int32)), .val (.ref ar), .unset, .unset, .unset] [(.ref ar)])) t ∧ _
  obtain ⟨cl6, Ar6, q6, S6, N6, H6, G6⟩ := id P1
  have ln6 : cl6.slots.size.toInt32 = (2 : Int32) := len_of S6 N6
  have al6 := X0.arraylength hx (by rw [e0]; exact Ar6.1) (State.isArrayOf_alike hZ.alike Ar6.2.1) (g := (mkF m 11 #[.val (.ref ar), .val (.int (1 : Int32)), .val (.ref ar), .unset, .unset, .unset] [(.ref ar)])) rfl rfl (hb hby d6_11)
  rw [ln6] at al6
  refine own_go al6 ?_
  show ∃ t o, Steps p.tables e below (s₁.setTop (mkF m 12 #[.val (.ref ar), .val (.int (1 : Int32)), .val (.ref ar), .unset, .unset, .unset] [(.int (2 : Int32))])) t ∧ _
  refine own_go (fun _ => XS.istoreN X0.here hx rfl (hb hby d6_12) rfl (l' := #[.val (.ref ar), .val (.int (1 : Int32)), .val (.ref ar), .val (.int (2 : Int32)), .unset, .unset]) rfl) ?_
  show ∃ t o, Steps p.tables e below (s₁.setTop (mkF m 13 #[.val (.ref ar), .val (.int (1 : Int32)), .val (.ref ar), .val (.int (2 : Int32)), .unset, .unset] [])) t ∧ _
  refine own_go (fun _ => XS.iconst X0.here hx rfl (hb hby d6_13)) ?_
  show ∃ t o, Steps p.tables e below (s₁.setTop (mkF m 14 #[.val (.ref ar), .val (.int (1 : Int32)), .val (.ref ar), .val (.int (2 : Int32)), .unset, .unset] [(.int (0 : Int32))])) t ∧ _
  refine own_go (fun _ => XS.istore X0.here hx rfl (hb hby d6_14) rfl (l' := #[.val (.ref ar), .val (.int (1 : Int32)), .val (.ref ar), .val (.int (2 : Int32)), .val (.int (0 : Int32)), .unset]) rfl) ?_
  show ∃ t o, Steps p.tables e below (s₁.setTop (mkF m 16 #[.val (.ref ar), .val (.int (1 : Int32)), .val (.ref ar), .val (.int (2 : Int32)), .val (.int (0 : Int32)), .unset] [])) t ∧ _
  refine own_go (fun _ => XS.iload X0.here hx rfl (hb hby d6_16) rfl) ?_
  show ∃ t o, Steps p.tables e below (s₁.setTop (mkF m 18 #[.val (.ref ar), .val (.int (1 : Int32)), .val (.ref ar), .val (.int (2 : Int32)), .val (.int (0 : Int32)), .unset] [(.int (0 : Int32))])) t ∧ _
  refine own_go (fun _ => XS.iloadN X0.here hx rfl (hb hby d6_18) rfl) ?_
  show ∃ t o, Steps p.tables e below (s₁.setTop (mkF m 19 #[.val (.ref ar), .val (.int (1 : Int32)), .val (.ref ar), .val (.int (2 : Int32)), .val (.int (0 : Int32)), .unset] [(.int (2 : Int32)), (.int (0 : Int32))])) t ∧ _
  refine own_go (fun _ => XS.icmpNo X0.here hx rfl (hb hby d6_19) rfl (tlt (by decide : (0 : Int32) < (2 : Int32))).2.1) ?_
  show ∃ t o, Steps p.tables e below (s₁.setTop (mkF m 22 #[.val (.ref ar), .val (.int (1 : Int32)), .val (.ref ar), .val (.int (2 : Int32)), .val (.int (0 : Int32)), .unset] [])) t ∧ _
  refine own_go (fun _ => XS.aloadN X0.here hx rfl (hb hby d6_22) rfl rfl) ?_
  show ∃ t o, Steps p.tables e below (s₁.setTop (mkF m 23 #[.val (.ref ar), .val (.int (1 : Int32)), .val (.ref ar), .val (.int (2 : Int32)), .val (.int (0 : Int32)), .unset] [(.ref ar)])) t ∧ _
  refine own_go (fun _ => XS.iload X0.here hx rfl (hb hby d6_23) rfl) ?_
  show ∃ t o, Steps p.tables e below (s₁.setTop (mkF m 25 #[.val (.ref ar), .val (.int (1 : Int32)), .val (.ref ar), .val (.int (2 : Int32)), .val (.int (0 : Int32)), .unset] [(.int (0 : Int32)), (.ref ar)])) t ∧ _
  obtain ⟨cl7, Ar7, q7, S7, N7, H7, G7⟩ := id P1
  have hin7 : ¬ ((0 : Int32) < 0 ∨ cl7.slots.size ≤ ((0 : Int32)).toNatClampNeg) := inb_of S7 ⟨by decide, by decide⟩
  have hat7 : cl7.slots[((0 : Int32)).toNatClampNeg]? = some (.ref x0) := Has.at H7 hin7 rfl
  refine own_go (fun _ => X0.aaload hx (j := (0 : Int32)) (v := (.ref x0)) (by rw [e0]; exact Ar7.1) (State.isArrayOf_alike hZ.alike Ar7.2.1) rfl Ar7.2.2 hin7 hat7 (g := (mkF m 25 #[.val (.ref ar), .val (.int (1 : Int32)), .val (.ref ar), .val (.int (2 : Int32)), .val (.int (0 : Int32)), .unset] [(.int (0 : Int32)), (.ref ar)])) rfl rfl (hb hby d6_25) _) ?_
  show ∃ t o, Steps p.tables e below (s₁.setTop (mkF m 26 #[.val (.ref ar), .val (.int (1 : Int32)), .val (.ref ar), .val (.int (2 : Int32)), .val (.int (0 : Int32)), .unset] [(.ref x0)])) t ∧ _
  refine own_go (fun _ => XS.astore X0.here hx rfl (hb hby d6_26) rfl rfl (l' := #[.val (.ref ar), .val (.int (1 : Int32)), .val (.ref ar), .val (.int (2 : Int32)), .val (.int (0 : Int32)), .val (.ref x0)]) rfl) ?_
  show ∃ t o, Steps p.tables e below (s₁.setTop (mkF m 28 #[.val (.ref ar), .val (.int (1 : Int32)), .val (.ref ar), .val (.int (2 : Int32)), .val (.int (0 : Int32)), .val (.ref x0)] [])) t ∧ _
  refine own_go (fun _ => XS.bipush X0.here hx rfl (hb hby d6_28)) ?_
  show ∃ t o, Steps p.tables e below (s₁.setTop (mkF m 30 #[.val (.ref ar), .val (.int (1 : Int32)), .val (.ref ar), .val (.int (2 : Int32)), .val (.int (0 : Int32)), .val (.ref x0)] [(.int (31 : Int32))])) t ∧ _
  refine own_go (fun _ => XS.iloadN X0.here hx rfl (hb hby d6_30) rfl) ?_
  show ∃ t o, Steps p.tables e below (s₁.setTop (mkF m 31 #[.val (.ref ar), .val (.int (1 : Int32)), .val (.ref ar), .val (.int (2 : Int32)), .val (.int (0 : Int32)), .val (.ref x0)] [(.int (1 : Int32)), (.int (31 : Int32))])) t ∧ _
  refine own_go (fun _ => XS.imul X0.here hx rfl (hb hby d6_31) rfl) ?_
  show ∃ t o, Steps p.tables e below (s₁.setTop (mkF m 32 #[.val (.ref ar), .val (.int (1 : Int32)), .val (.ref ar), .val (.int (2 : Int32)), .val (.int (0 : Int32)), .val (.ref x0)] [(.int (31 : Int32))])) t ∧ _
  refine own_go (fun _ => XS.aload X0.here hx rfl (hb hby d6_32) rfl rfl) ?_
  show ∃ t o, Steps p.tables e below (s₁.setTop (mkF m 34 #[.val (.ref ar), .val (.int (1 : Int32)), .val (.ref ar), .val (.int (2 : Int32)), .val (.int (0 : Int32)), .val (.ref x0)] [(.ref x0), (.int (31 : Int32))])) t ∧ _
  refine own_go (fun _ => XS.ifnonnullYes X0.here hx rfl (pc0 := 34) (pc' := 41) rfl (hb hby d6_34) rfl (by decide) (by decide)) ?_
  show ∃ t o, Steps p.tables e below (s₁.setTop (mkF m 41 #[.val (.ref ar), .val (.int (1 : Int32)), .val (.ref ar), .val (.int (2 : Int32)), .val (.int (0 : Int32)), .val (.ref x0)] [(.int (31 : Int32))])) t ∧ _
  refine own_go (fun _ => XS.aload X0.here hx rfl (hb hby d6_41) rfl rfl) ?_
  show ∃ t o, Steps p.tables e below (s₁.setTop (mkF m 43 #[.val (.ref ar), .val (.int (1 : Int32)), .val (.ref ar), .val (.int (2 : Int32)), .val (.int (0 : Int32)), .val (.ref x0)] [(.ref x0), (.int (31 : Int32))])) t ∧ _
  obtain ⟨cq8, kq8, q8a, q8b, q8c⟩ := isOf hZ e0 P2
  obtain ⟨_, _, ⟨T8, L8, k8, n8⟩, -, X8, ⟨Lc8, hQ8, l8, y8, z8⟩, st8⟩ := X0.virtualBack hx (y := (⟨"java/lang/Object", "hashCode", "()I"⟩ : MethodName)) (z := (⟨"java/lang/Integer", "hashCode", "()I"⟩ : MethodName)) hown (mvT hZ (hw _ (List.mem_of_getElem? (i := 77) rfl))) (mvT hZ (hw _ (List.mem_of_getElem? (i := 78) rfl))) (own_nfo (args := #[]) (mvT hZ (hw _ (List.mem_of_getElem? (i := 45) rfl))) rfl) (mvT hZ (hw _ (List.mem_of_getElem? (i := 80) rfl))) (mvT hZ (hw _ (List.mem_of_getElem? (i := 81) rfl))) (by decide) (backOf (W := 1) (rmIHC l Z a0 hw [] x0 r0 h0 n0 Z0 P3 OLD) hZ (hw _ (List.mem_of_getElem? (i := 82) rfl)) (hw _ (List.mem_of_getElem? (i := 2) rfl)) (by decide) (by decide)) q8a q8c (g := (mkF m 43 #[.val (.ref ar), .val (.int (1 : Int32)), .val (.ref ar), .val (.int (2 : Int32)), .val (.int (0 : Int32)), .val (.ref x0)] [(.ref x0), (.int (31 : Int32))])) rfl (by rw [hml]; rfl) (Steps.refl _) (argsL := []) (rest := [(.int (31 : Int32))]) (lenOf pd__28_29I rfl) rfl (by show 2 * 0 + _ ≤ _; exact Nat.le_of_eq rfl) (hb hby d6_43) (fun _ _ => ⟨rfl, e0, (by decide : 0 + 0 ≤ _), (by decide : 0 + 0 ≤ _)⟩)
  dsimp only [Pt.U, Pt.locs, Pt.cells, Pt.slots] at X8 l8 y8 z8 st8 hQ8
  subst l8 y8 z8
  obtain ⟨rfl, Nq8, e8⟩ := hQ8
  have N8 := Fr.app N0 Nq8
  refine own_goT st8 ?_
  show ∃ t o, Steps p.tables e below (T8.setTop (mkF m 46 #[.val (.ref ar), .val (.int (1 : Int32)), .val (.ref ar), .val (.int (2 : Int32)), .val (.int (0 : Int32)), .val (.ref x0)] [(.int r0), (.int (31 : Int32))])) t ∧ _
  refine own_go (fun _ => XS.iadd X8.here hx rfl (hb hby d6_46) rfl) ?_
  show ∃ t o, Steps p.tables e below (T8.setTop (mkF m 47 #[.val (.ref ar), .val (.int (1 : Int32)), .val (.ref ar), .val (.int (2 : Int32)), .val (.int (0 : Int32)), .val (.ref x0)] [(.int ((31 : Int32) + r0))])) t ∧ _
  refine own_go (fun _ => XS.istoreN X8.here hx rfl (hb hby d6_47) rfl (l' := #[.val (.ref ar), .val (.int ((31 : Int32) + r0)), .val (.ref ar), .val (.int (2 : Int32)), .val (.int (0 : Int32)), .val (.ref x0)]) rfl) ?_
  show ∃ t o, Steps p.tables e below (T8.setTop (mkF m 48 #[.val (.ref ar), .val (.int ((31 : Int32) + r0)), .val (.ref ar), .val (.int (2 : Int32)), .val (.int (0 : Int32)), .val (.ref x0)] [])) t ∧ _
  refine own_go (fun _ => XS.iinc X8.here hx rfl (hb hby d6_48) rfl (l' := #[.val (.ref ar), .val (.int ((31 : Int32) + r0)), .val (.ref ar), .val (.int (2 : Int32)), .val (.int (1 : Int32)), .val (.ref x0)]) rfl) ?_
  show ∃ t o, Steps p.tables e below (T8.setTop (mkF m 51 #[.val (.ref ar), .val (.int ((31 : Int32) + r0)), .val (.ref ar), .val (.int (2 : Int32)), .val (.int (1 : Int32)), .val (.ref x0)] [])) t ∧ _
  refine own_go (fun _ => XS.goto X8.here hx rfl (pc0 := 51) (pc' := 16) rfl (hb hby d6_51) (by decide) (by decide)) ?_
  show ∃ t o, Steps p.tables e below (T8.setTop (mkF m 16 #[.val (.ref ar), .val (.int ((31 : Int32) + r0)), .val (.ref ar), .val (.int (2 : Int32)), .val (.int (1 : Int32)), .val (.ref x0)] [])) t ∧ _
  refine own_go (fun _ => XS.iload X8.here hx rfl (hb hby d6_16) rfl) ?_
  show ∃ t o, Steps p.tables e below (T8.setTop (mkF m 18 #[.val (.ref ar), .val (.int ((31 : Int32) + r0)), .val (.ref ar), .val (.int (2 : Int32)), .val (.int (1 : Int32)), .val (.ref x0)] [(.int (1 : Int32))])) t ∧ _
  refine own_go (fun _ => XS.iloadN X8.here hx rfl (hb hby d6_18) rfl) ?_
  show ∃ t o, Steps p.tables e below (T8.setTop (mkF m 19 #[.val (.ref ar), .val (.int ((31 : Int32) + r0)), .val (.ref ar), .val (.int (2 : Int32)), .val (.int (1 : Int32)), .val (.ref x0)] [(.int (2 : Int32)), (.int (1 : Int32))])) t ∧ _
  refine own_go (fun _ => XS.icmpNo X8.here hx rfl (hb hby d6_19) rfl (tlt (by decide : (1 : Int32) < (2 : Int32))).2.1) ?_
  show ∃ t o, Steps p.tables e below (T8.setTop (mkF m 22 #[.val (.ref ar), .val (.int ((31 : Int32) + r0)), .val (.ref ar), .val (.int (2 : Int32)), .val (.int (1 : Int32)), .val (.ref x0)] [])) t ∧ _
  refine own_go (fun _ => XS.aloadN X8.here hx rfl (hb hby d6_22) rfl rfl) ?_
  show ∃ t o, Steps p.tables e below (T8.setTop (mkF m 23 #[.val (.ref ar), .val (.int ((31 : Int32) + r0)), .val (.ref ar), .val (.int (2 : Int32)), .val (.int (1 : Int32)), .val (.ref x0)] [(.ref ar)])) t ∧ _
  refine own_go (fun _ => XS.iload X8.here hx rfl (hb hby d6_23) rfl) ?_
  show ∃ t o, Steps p.tables e below (T8.setTop (mkF m 25 #[.val (.ref ar), .val (.int ((31 : Int32) + r0)), .val (.ref ar), .val (.int (2 : Int32)), .val (.int (1 : Int32)), .val (.ref x0)] [(.int (1 : Int32)), (.ref ar)])) t ∧ _
  obtain ⟨cl9, Ar9, q9, S9, N9, H9, G9⟩ := id P1
  have hin9 : ¬ ((1 : Int32) < 0 ∨ cl9.slots.size ≤ ((1 : Int32)).toNatClampNeg) := inb_of S9 ⟨by decide, by decide⟩
  have hat9 : cl9.slots[((1 : Int32)).toNatClampNeg]? = some (.ref x1) := Has.at H9 hin9 rfl
  refine own_go (fun _ => X8.aaload hx (j := (1 : Int32)) (v := (.ref x1)) (by rw [e8]; exact Ar9.1) (State.isArrayOf_alike hZ.alike Ar9.2.1) rfl Ar9.2.2 hin9 hat9 (g := (mkF m 25 #[.val (.ref ar), .val (.int ((31 : Int32) + r0)), .val (.ref ar), .val (.int (2 : Int32)), .val (.int (1 : Int32)), .val (.ref x0)] [(.int (1 : Int32)), (.ref ar)])) rfl rfl (hb hby d6_25) _) ?_
  show ∃ t o, Steps p.tables e below (T8.setTop (mkF m 26 #[.val (.ref ar), .val (.int ((31 : Int32) + r0)), .val (.ref ar), .val (.int (2 : Int32)), .val (.int (1 : Int32)), .val (.ref x0)] [(.ref x1)])) t ∧ _
  refine own_go (fun _ => XS.astore X8.here hx rfl (hb hby d6_26) rfl rfl (l' := #[.val (.ref ar), .val (.int ((31 : Int32) + r0)), .val (.ref ar), .val (.int (2 : Int32)), .val (.int (1 : Int32)), .val (.ref x1)]) rfl) ?_
  show ∃ t o, Steps p.tables e below (T8.setTop (mkF m 28 #[.val (.ref ar), .val (.int ((31 : Int32) + r0)), .val (.ref ar), .val (.int (2 : Int32)), .val (.int (1 : Int32)), .val (.ref x1)] [])) t ∧ _
  refine own_go (fun _ => XS.bipush X8.here hx rfl (hb hby d6_28)) ?_
  show ∃ t o, Steps p.tables e below (T8.setTop (mkF m 30 #[.val (.ref ar), .val (.int ((31 : Int32) + r0)), .val (.ref ar), .val (.int (2 : Int32)), .val (.int (1 : Int32)), .val (.ref x1)] [(.int (31 : Int32))])) t ∧ _
  refine own_go (fun _ => XS.iloadN X8.here hx rfl (hb hby d6_30) rfl) ?_
  show ∃ t o, Steps p.tables e below (T8.setTop (mkF m 31 #[.val (.ref ar), .val (.int ((31 : Int32) + r0)), .val (.ref ar), .val (.int (2 : Int32)), .val (.int (1 : Int32)), .val (.ref x1)] [(.int ((31 : Int32) + r0)), (.int (31 : Int32))])) t ∧ _
  refine own_go (fun _ => XS.imul X8.here hx rfl (hb hby d6_31) rfl) ?_
  show ∃ t o, Steps p.tables e below (T8.setTop (mkF m 32 #[.val (.ref ar), .val (.int ((31 : Int32) + r0)), .val (.ref ar), .val (.int (2 : Int32)), .val (.int (1 : Int32)), .val (.ref x1)] [(.int ((31 : Int32) * ((31 : Int32) + r0)))])) t ∧ _
  refine own_go (fun _ => XS.aload X8.here hx rfl (hb hby d6_32) rfl rfl) ?_
  show ∃ t o, Steps p.tables e below (T8.setTop (mkF m 34 #[.val (.ref ar), .val (.int ((31 : Int32) + r0)), .val (.ref ar), .val (.int (2 : Int32)), .val (.int (1 : Int32)), .val (.ref x1)] [(.ref x1), (.int ((31 : Int32) * ((31 : Int32) + r0)))])) t ∧ _
  refine own_go (fun _ => XS.ifnonnullYes X8.here hx rfl (pc0 := 34) (pc' := 41) rfl (hb hby d6_34) rfl (by decide) (by decide)) ?_
  show ∃ t o, Steps p.tables e below (T8.setTop (mkF m 41 #[.val (.ref ar), .val (.int ((31 : Int32) + r0)), .val (.ref ar), .val (.int (2 : Int32)), .val (.int (1 : Int32)), .val (.ref x1)] [(.int ((31 : Int32) * ((31 : Int32) + r0)))])) t ∧ _
  refine own_go (fun _ => XS.aload X8.here hx rfl (hb hby d6_41) rfl rfl) ?_
  show ∃ t o, Steps p.tables e below (T8.setTop (mkF m 43 #[.val (.ref ar), .val (.int ((31 : Int32) + r0)), .val (.ref ar), .val (.int (2 : Int32)), .val (.int (1 : Int32)), .val (.ref x1)] [(.ref x1), (.int ((31 : Int32) * ((31 : Int32) + r0)))])) t ∧ _
  obtain ⟨cq10, kq10, q10a, q10b, q10c⟩ := isOf hZ e8 P4
  obtain ⟨_, _, ⟨T10, L10, k10, n10⟩, -, X10, ⟨Lc10, hQ10, l10, y10, z10⟩, st10⟩ := X8.virtualBack hx (y := (⟨"java/lang/Object", "hashCode", "()I"⟩ : MethodName)) (z := (⟨"java/lang/Integer", "hashCode", "()I"⟩ : MethodName)) hown (mvT hZ (hw _ (List.mem_of_getElem? (i := 77) rfl))) (mvT hZ (hw _ (List.mem_of_getElem? (i := 78) rfl))) (own_nfo (args := #[]) (mvT hZ (hw _ (List.mem_of_getElem? (i := 45) rfl))) rfl) (mvT hZ (hw _ (List.mem_of_getElem? (i := 80) rfl))) (mvT hZ (hw _ (List.mem_of_getElem? (i := 81) rfl))) (by decide) (backOf (W := 1) (rmIHC l Z a0 hw [] x1 r1 h0 n0 Z0 P5 OLD) hZ (hw _ (List.mem_of_getElem? (i := 82) rfl)) (hw _ (List.mem_of_getElem? (i := 2) rfl)) (by decide) (by decide)) q10a q10c (g := (mkF m 43 #[.val (.ref ar), .val (.int ((31 : Int32) + r0)), .val (.ref ar), .val (.int (2 : Int32)), .val (.int (1 : Int32)), .val (.ref x1)] [(.ref x1), (.int ((31 : Int32) * ((31 : Int32) + r0)))])) rfl (by rw [hml]; rfl) (Steps.refl _) (argsL := []) (rest := [(.int ((31 : Int32) * ((31 : Int32) + r0)))]) (lenOf pd__28_29I rfl) rfl (by show 2 * 0 + _ ≤ _; exact Nat.le_of_eq rfl) (hb hby d6_43) (fun _ _ => ⟨rfl, e8, (by decide : 0 + 0 ≤ _), (by decide : 0 + 0 ≤ _)⟩)
  dsimp only [Pt.U, Pt.locs, Pt.cells, Pt.slots] at X10 l10 y10 z10 st10 hQ10
  subst l10 y10 z10
  obtain ⟨rfl, Nq10, e10⟩ := hQ10
  have N10 := Fr.app N8 Nq10
  refine own_goT st10 ?_
  show ∃ t o, Steps p.tables e below (T10.setTop (mkF m 46 #[.val (.ref ar), .val (.int ((31 : Int32) + r0)), .val (.ref ar), .val (.int (2 : Int32)), .val (.int (1 : Int32)), .val (.ref x1)] [(.int r1), (.int ((31 : Int32) * ((31 : Int32) + r0)))])) t ∧ _
  refine own_go (fun _ => XS.iadd X10.here hx rfl (hb hby d6_46) rfl) ?_
  show ∃ t o, Steps p.tables e below (T10.setTop (mkF m 47 #[.val (.ref ar), .val (.int ((31 : Int32) + r0)), .val (.ref ar), .val (.int (2 : Int32)), .val (.int (1 : Int32)), .val (.ref x1)] [(.int (((31 : Int32) * ((31 : Int32) + r0)) + r1))])) t ∧ _
  refine own_go (fun _ => XS.istoreN X10.here hx rfl (hb hby d6_47) rfl (l' := #[.val (.ref ar), .val (.int (((31 : Int32) * ((31 : Int32) + r0)) + r1)), .val (.ref ar), .val (.int (2 : Int32)), .val (.int (1 : Int32)), .val (.ref x1)]) rfl) ?_
  show ∃ t o, Steps p.tables e below (T10.setTop (mkF m 48 #[.val (.ref ar), .val (.int (((31 : Int32) * ((31 : Int32) + r0)) + r1)), .val (.ref ar), .val (.int (2 : Int32)), .val (.int (1 : Int32)), .val (.ref x1)] [])) t ∧ _
  refine own_go (fun _ => XS.iinc X10.here hx rfl (hb hby d6_48) rfl (l' := #[.val (.ref ar), .val (.int (((31 : Int32) * ((31 : Int32) + r0)) + r1)), .val (.ref ar), .val (.int (2 : Int32)), .val (.int (2 : Int32)), .val (.ref x1)]) rfl) ?_
  show ∃ t o, Steps p.tables e below (T10.setTop (mkF m 51 #[.val (.ref ar), .val (.int (((31 : Int32) * ((31 : Int32) + r0)) + r1)), .val (.ref ar), .val (.int (2 : Int32)), .val (.int (2 : Int32)), .val (.ref x1)] [])) t ∧ _
  refine own_go (fun _ => XS.goto X10.here hx rfl (pc0 := 51) (pc' := 16) rfl (hb hby d6_51) (by decide) (by decide)) ?_
  show ∃ t o, Steps p.tables e below (T10.setTop (mkF m 16 #[.val (.ref ar), .val (.int (((31 : Int32) * ((31 : Int32) + r0)) + r1)), .val (.ref ar), .val (.int (2 : Int32)), .val (.int (2 : Int32)), .val (.ref x1)] [])) t ∧ _
  refine own_go (fun _ => XS.iload X10.here hx rfl (hb hby d6_16) rfl) ?_
  show ∃ t o, Steps p.tables e below (T10.setTop (mkF m 18 #[.val (.ref ar), .val (.int (((31 : Int32) * ((31 : Int32) + r0)) + r1)), .val (.ref ar), .val (.int (2 : Int32)), .val (.int (2 : Int32)), .val (.ref x1)] [(.int (2 : Int32))])) t ∧ _
  refine own_go (fun _ => XS.iloadN X10.here hx rfl (hb hby d6_18) rfl) ?_
  show ∃ t o, Steps p.tables e below (T10.setTop (mkF m 19 #[.val (.ref ar), .val (.int (((31 : Int32) * ((31 : Int32) + r0)) + r1)), .val (.ref ar), .val (.int (2 : Int32)), .val (.int (2 : Int32)), .val (.ref x1)] [(.int (2 : Int32)), (.int (2 : Int32))])) t ∧ _
  refine own_go (fun _ => XS.icmpYes X10.here hx rfl (pc0 := 19) (pc' := 54) rfl (hb hby d6_19) rfl (flt (by decide : ¬ ((2 : Int32) < (2 : Int32)))).2.1 (by decide) (by decide)) ?_
  show ∃ t o, Steps p.tables e below (T10.setTop (mkF m 54 #[.val (.ref ar), .val (.int (((31 : Int32) * ((31 : Int32) + r0)) + r1)), .val (.ref ar), .val (.int (2 : Int32)), .val (.int (2 : Int32)), .val (.ref x1)] [])) t ∧ _
  refine own_go (fun _ => XS.iloadN X10.here hx rfl (hb hby d6_54) rfl) ?_
  show ∃ t o, Steps p.tables e below (T10.setTop (mkF m 55 #[.val (.ref ar), .val (.int (((31 : Int32) * ((31 : Int32) + r0)) + r1)), .val (.ref ar), .val (.int (2 : Int32)), .val (.int (2 : Int32)), .val (.ref x1)] [(.int (((31 : Int32) * ((31 : Int32) + r0)) + r1))])) t ∧ _
  obtain ⟨fs, hr, hrun, hended, hW, hsame⟩ := X10.leave (v := some (.int (((31 : Int32) * ((31 : Int32) + r0)) + r1))) (fun h => by rw [Bd.returns] at h; cases h)
  refine ⟨_, _, ?_, hrun, hended, _, _, rfl, ?_, ⟨_, rfl⟩, hW, hsame.mono (by decide) (by decide)⟩
  · exact retI X10 hx Bd.returns (hb hby d6_55) hr
  · show Q_rmHash2 Z ar kk x0 r0 x1 r1 h0 n0 _ T10.heap _
    rw [e10]
    exact ⟨(((31 : Int32) * ((31 : Int32) + r0)) + r1), rfl, N10, rfl⟩
theorem ef_rmKeyInit2 (m : MethodId) (x0 : Nat) (x1 : Nat) : entryFrame m #[(.ref x0), (.ref x1)] 2 = mkF m 0 #[.val (.ref x0), .val (.ref x1)] [] := by first | (simp [entryFrame, mkF, argsToLocals, Value.category]; done) | rfl
def Q_rmKeyInit2 (Z : State) (a1 : Nat) (ar : Nat) (kk : ClassId) (x0 : Nat) (r0 : Int32) (x1 : Nat) (r1 : Int32) (h0 : Heap) (n0 : Nat) (v : Option Value) (h : Heap) (L : List Loc) : Prop := v = none ∧ Fr n0 L ∧ Keep h0 h [a1] ∧ Exa Z h a1 "com/example/planwright/planwright/plan/Key" ∧ Fld Z h a1 "com/example/planwright/planwright/plan/Key" "values" "[Ljava/lang/Object;" (.ref ar)
set_option maxRecDepth 65536 in
set_option maxHeartbeats 40000000 in
theorem rmKeyInit2 (l : Launch) (Z : State) (a0 : Array Value) (hw : ∀ d ∈ tables_1, d.before a0 Z = true) (ws : List Jvm.Cond) (a1 : Nat) (ar : Nat) (kk : ClassId) (x0 : Nat) (r0 : Int32) (x1 : Nat) (r1 : Int32) (h0 : Heap) (n0 : Nat) (Z0 : n0 ≤ h0.size) (P1 : Exa Z h0 a1 "com/example/planwright/planwright/plan/Key") (P2 : Fld Z h0 a1 "com/example/planwright/planwright/plan/Key" "values" "[Ljava/lang/Object;" .null) (P3 : Fld Z h0 a1 "com/example/planwright/planwright/plan/Key" "hash" "I" (.int (0 : Int32))) (P4 : Arv Z h0 ar kk (.object "java/lang/Object") (2 : Int32) [(.ref x0), (.ref x1)] .null) (P5 : Exa Z h0 x0 "java/lang/Integer") (P6 : Fld Z h0 x0 "java/lang/Integer" "value" "I" (.int r0)) (P7 : Exa Z h0 x1 "java/lang/Integer") (P8 : Fld Z h0 x1 "java/lang/Integer" "value" "I" (.int r1)) (OLD : Old Z n0 h0) (ga : n0 ≤ a1) (na : ar ≠ a1) (nx0 : x0 ≠ a1) (nx1 : x1 ≠ a1) :
    MetFree l (⟨"com/example/planwright/planwright/plan/Key", "<init>", "([Ljava/lang/Object;)V"⟩ : MethodName) (head1 (Jvm.Cond.code (⟨"com/example/planwright/planwright/plan/Key", "<init>", "([Ljava/lang/Object;)V"⟩ : MethodName) prog_66_method_1_code 2 none :: ws) ({ frames := 3, cells := 0, slots := 0, locals := 43 } : Room)) (fun a U => a = #[(.ref a1), (.ref ar)] ∧ Z.Warmed39 U.vm ∧ U.heap = h0) (fun _ _ _ _ _ => True) (fun _ U o U' => ∃ v L, o = .returned v ∧ Q_rmKeyInit2 Z a1 ar kk x0 r0 x1 r1 h0 n0 v U'.heap L ∧ FrameEnd U o U' L ({ frames := 3, cells := 0, slots := 0, locals := 43 } : Room).cells ({ frames := 3, cells := 0, slots := 0, locals := 43 } : Room).slots) := by
  refine MetFree.of_bodySF (plainFor_of_name pn_com_example_planwright_planwright_plan_Key) hisR ?_
  intro p e s m args below meth c s₁ Bd hml0 hP hK
  obtain ⟨rfl, hZ, hh⟩ := hP
  have hx := Bd.exec
  have hby := Bd.bytes
  have hml : c.maxLocals = 2 := hml0
  have hown : s.vm.findClass "com/example/planwright/planwright/plan/Key" = some m.cls := findClass_of_methodNamed Bd.named
  have hnm := (name_of_methodNamed Bd.named Bd.method).1
  have X0 : Stand p l e ({ frames := 3, cells := 0, slots := 0, locals := 43 } : Room) s m #[(.ref a1), (.ref ar)] below meth c s₁ [] 0 0 := Stand.of_body Bd
  have e0 : s₁.heap = h0 := by rw [← hh, Bd.state]; rfl
  have N0 := Fr.nil n0
  have pre0 : ∀ t, Steps p.tables e below (s₁.setTop (mkF m 0 #[.val (.ref a1), .val (.ref ar)] [])) t → Steps p.tables e below (s₁.setTop (entryFrame m #[(.ref a1), (.ref ar)] 2)) t := fun t k => castTop (ef_rmKeyInit2 m a1 ar) k
  have oz := OLD.1
  have lt_a1 : a1 < h0.size := P1.lt
  have lt_ar : ar < h0.size := P4.lt
  have lt_x0 : x0 < h0.size := P5.lt
  have lt_x1 : x1 < h0.size := P7.lt
  refine own_go (B := s₁.setTop (mkF m 0 #[.val (.ref a1), .val (.ref ar)] [])) pre0 ?_
  show ∃ t o, Steps p.tables e below (s₁.setTop (mkF m 0 #[.val (.ref a1), .val (.ref ar)] [])) t ∧ _
  refine own_go (fun _ => XS.aloadN X0.here hx rfl (hb hby d4_0) rfl rfl) ?_
  show ∃ t o, Steps p.tables e below (s₁.setTop (mkF m 1 #[.val (.ref a1), .val (.ref ar)] [(.ref a1)])) t ∧ _
  obtain ⟨T9, X9, e9, st9⟩ := initO X0 hx hZ hown (hw _ (List.mem_of_getElem? (i := 26) rfl)) (hw _ (List.mem_of_getElem? (i := 27) rfl)) (hw _ (List.mem_of_getElem? (i := 28) rfl)) e0 (g := (mkF m 1 #[.val (.ref a1), .val (.ref ar)] [(.ref a1)])) rfl (by rw [hml]; rfl) rfl (hb hby d4_1) (by decide) (W := 0) (by show 2 * 0 + _ ≤ _; exact Nat.le_of_eq rfl) (by decide)
  refine own_go st9 ?_
  show ∃ t o, Steps p.tables e below (T9.setTop (mkF m 4 #[.val (.ref a1), .val (.ref ar)] [])) t ∧ _
  refine own_go (fun _ => XS.aloadN X9.here hx rfl (hb hby d4_4) rfl rfl) ?_
  show ∃ t o, Steps p.tables e below (T9.setTop (mkF m 5 #[.val (.ref a1), .val (.ref ar)] [(.ref a1)])) t ∧ _
  refine own_go (fun _ => XS.aloadN X9.here hx rfl (hb hby d4_5) rfl rfl) ?_
  show ∃ t o, Steps p.tables e below (T9.setTop (mkF m 6 #[.val (.ref a1), .val (.ref ar)] [(.ref ar), (.ref a1)])) t ∧ _
  obtain ⟨T10, h10, X10, e10, W10, st10⟩ := putF X9 hx hZ hown (host := "") (Or.inl (hw _ (List.mem_of_getElem? (i := 29) rfl))) Via.refl e9 P2 P1 (Or.inr ⟨(hw _ (List.mem_of_getElem? (i := 30) rfl)), rfl, hnm⟩) (hw _ (List.mem_of_getElem? (i := 22) rfl)) (ty := (.array (.object "java/lang/Object"))) (by decide) rfl rfl (g := (mkF m 6 #[.val (.ref a1), .val (.ref ar)] [(.ref ar), (.ref a1)])) rfl rfl (hb hby d4_6)
  refine own_go st10 ?_
  have le_10 : h0.size ≤ h10.size := Nat.le_of_eq W10.size.symm
  have K10 : Keep h0 h10 [a1] := Keep.wr (Keep.refl h0 [a1]) W10 (Or.inl (List.mem_of_getElem? (i := 0) rfl))
  have N10 := Fr.snoc X10 N0 ga
  have Fw10 := Fld.same W10 P2
  show ∃ t o, Steps p.tables e below (T10.setTop (mkF m 9 #[.val (.ref a1), .val (.ref ar)] [])) t ∧ _
  refine own_go (fun _ => XS.aloadN X10.here hx rfl (hb hby d4_9) rfl rfl) ?_
  show ∃ t o, Steps p.tables e below (T10.setTop (mkF m 10 #[.val (.ref a1), .val (.ref ar)] [(.ref a1)])) t ∧ _
  refine own_go (fun _ => XS.aloadN X10.here hx rfl (hb hby d4_10) rfl rfl) ?_
  show ∃ t o, Steps p.tables e below (T10.setTop (mkF m 11 #[.val (.ref a1), .val (.ref ar)] [(.ref ar), (.ref a1)])) t ∧ _
  have F11 : Arv Z h10 ar kk (.object "java/lang/Object") (2 : Int32) [(.ref x0), (.ref x1)] .null := (Arv.other P4 W10 na)
  have F12 : Exa Z h10 x0 "java/lang/Integer" := (Exa.wr W10 P5)
  have F13 : Fld Z h10 x0 "java/lang/Integer" "value" "I" (.int r0) := (Fld.other W10 P6 (Or.inl nx0))
  have F14 : Exa Z h10 x1 "java/lang/Integer" := (Exa.wr W10 P7)
  have F15 : Fld Z h10 x1 "java/lang/Integer" "value" "I" (.int r1) := (Fld.other W10 P8 (Or.inl nx1))
  have F16 : Old Z n0 h10 := (Old.wr OLD W10 ga)
  have zl17 : n0 ≤ h10.size := by omega
  obtain ⟨_, _, ⟨T18, L18, k18, n18⟩, -, X18, ⟨Lc18, hQ18, l18, y18, z18⟩, st18⟩ := Jvm.LawKit.callS X10 hx (y := (⟨"java/util/Arrays", "hashCode", "([Ljava/lang/Object;)I"⟩ : MethodName)) hown (mvT hZ (hw _ (List.mem_of_getElem? (i := 31) rfl))) (mvT hZ (hw _ (List.mem_of_getElem? (i := 32) rfl))) (mvT hZ (hw _ (List.mem_of_getElem? (i := 33) rfl))) (mvT hZ (hw _ (List.mem_of_getElem? (i := 34) rfl))) (by decide) (backOf (W := 1) (rmHash2 l Z a0 hw [] ar kk x0 r0 x1 r1 h10 n0 zl17 F11 F12 F13 F14 F15 F16) hZ (hw _ (List.mem_of_getElem? (i := 34) rfl)) (hw _ (List.mem_of_getElem? (i := 33) rfl)) (by decide) (by decide)) (g := (mkF m 11 #[.val (.ref a1), .val (.ref ar)] [(.ref ar), (.ref a1)])) rfl (by rw [hml]; rfl) (argsL := [(.ref ar)]) (rest := [(.ref a1)]) (lenOf pd__28_5bLjava_2flang_2fObject_3b_29I rfl) rfl (by show 2 * 0 + _ ≤ _; exact Nat.le_of_eq rfl) (hb hby d4_11) (fun _ _ => ⟨rfl, e10, (by decide : 0 + 0 ≤ _), (by decide : 0 + 0 ≤ _)⟩)
  dsimp only [Pt.U, Pt.locs, Pt.cells, Pt.slots] at X18 l18 y18 z18 st18 hQ18
  subst l18 y18 z18
  obtain ⟨rh_18, rfl, Nq18, e18⟩ := hQ18
  have N18 := Fr.app N10 Nq18
  refine own_go st18 ?_
  show ∃ t o, Steps p.tables e below (T18.setTop (mkF m 14 #[.val (.ref a1), .val (.ref ar)] [(.int rh_18), (.ref a1)])) t ∧ _
  have F19 : Exa Z h10 a1 "com/example/planwright/planwright/plan/Key" := (Exa.wr W10 P1)
  have F20 : Fld Z h10 a1 "com/example/planwright/planwright/plan/Key" "hash" "I" (.int (0 : Int32)) := (Fld.other W10 P3 (Or.inr (slot_ne (a0 := a0) (Or.inr (hw _ (List.mem_of_getElem? (i := 36) rfl))) (Or.inr (hw _ (List.mem_of_getElem? (i := 30) rfl))) (by decide) (t := .int) (t' := (.array (.object "java/lang/Object"))) (by decide) (by decide))))
  obtain ⟨T21, h21, X21, e21, W21, st21⟩ := putF X18 hx hZ hown (host := "") (Or.inl (hw _ (List.mem_of_getElem? (i := 35) rfl))) Via.refl e18 F20 F19 (Or.inr ⟨(hw _ (List.mem_of_getElem? (i := 36) rfl)), rfl, hnm⟩) (hw _ (List.mem_of_getElem? (i := 22) rfl)) (ty := .int) (by decide) rfl rfl (g := (mkF m 14 #[.val (.ref a1), .val (.ref ar)] [(.int rh_18), (.ref a1)])) rfl rfl (hb hby d4_14)
  refine own_go st21 ?_
  have le_21 : h10.size ≤ h21.size := Nat.le_of_eq W21.size.symm
  have K21 : Keep h0 h21 [a1] := Keep.wr K10 W21 (Or.inl (List.mem_of_getElem? (i := 0) rfl))
  have N21 := Fr.snoc X21 N18 ga
  have Fw21 := Fld.same W21 F20
  show ∃ t o, Steps p.tables e below (T21.setTop (mkF m 17 #[.val (.ref a1), .val (.ref ar)] [])) t ∧ _
  have F22 : Exa Z h21 a1 "com/example/planwright/planwright/plan/Key" := (Exa.wr W21 F19)
  have F23 : Fld Z h21 a1 "com/example/planwright/planwright/plan/Key" "values" "[Ljava/lang/Object;" (.ref ar) := (Fld.other W21 Fw10 (Or.inr (slot_ne (a0 := a0) (Or.inr (hw _ (List.mem_of_getElem? (i := 30) rfl))) (Or.inr (hw _ (List.mem_of_getElem? (i := 36) rfl))) (by decide) (t := (.array (.object "java/lang/Object"))) (t' := .int) (by decide) (by decide))))
  obtain ⟨fs, hr, hrun, hended, hW, hsame⟩ := X21.leave (v := none) (fun _ => rfl)
  refine ⟨_, _, ?_, hrun, hended, _, _, rfl, ?_, ⟨_, rfl⟩, hW, hsame.mono (by decide) (by decide)⟩
  · exact X21.returnOut hx Bd.returns (hb hby d4_17) hr
  · show Q_rmKeyInit2 Z a1 ar kk x0 r0 x1 r1 h0 n0 _ T21.heap _
    rw [e21]
    exact ⟨rfl, N21, K21, F22, F23⟩
theorem ef_rmOf2 (m : MethodId) (x0 : Nat) : entryFrame m #[(.ref x0)] 1 = mkF m 0 #[.val (.ref x0)] [] := by first | (simp [entryFrame, mkF, argsToLocals, Value.category]; done) | rfl
def Q_rmOf2 (Z : State) (ar : Nat) (kk : ClassId) (x0 : Nat) (r0 : Int32) (x1 : Nat) (r1 : Int32) (h0 : Heap) (n0 : Nat) (v : Option Value) (h : Heap) (L : List Loc) : Prop := ∃ (b : Nat), v = some (.ref b) ∧ Fr n0 L ∧ Keep h0 h [] ∧ Exa Z h b "com/example/planwright/planwright/plan/Key" ∧ Fld Z h b "com/example/planwright/planwright/plan/Key" "values" "[Ljava/lang/Object;" (.ref ar) ∧ (h0.size ≤ b)
set_option maxRecDepth 65536 in
set_option maxHeartbeats 40000000 in
theorem rmOf2 (l : Launch) (Z : State) (a0 : Array Value) (hw : ∀ d ∈ tables_1, d.before a0 Z = true) (ws : List Jvm.Cond) (ar : Nat) (kk : ClassId) (x0 : Nat) (r0 : Int32) (x1 : Nat) (r1 : Int32) (h0 : Heap) (n0 : Nat) (Z0 : n0 ≤ h0.size) (P1 : Arv Z h0 ar kk (.object "java/lang/Object") (2 : Int32) [(.ref x0), (.ref x1)] .null) (P2 : Exa Z h0 x0 "java/lang/Integer") (P3 : Fld Z h0 x0 "java/lang/Integer" "value" "I" (.int r0)) (P4 : Exa Z h0 x1 "java/lang/Integer") (P5 : Fld Z h0 x1 "java/lang/Integer" "value" "I" (.int r1)) (OLD : Old Z n0 h0) :
    MetFree l (⟨"com/example/planwright/planwright/plan/Key", "of", "([Ljava/lang/Object;)Ljava/lang/Object;"⟩ : MethodName) (head1 (Jvm.Cond.code (⟨"com/example/planwright/planwright/plan/Key", "of", "([Ljava/lang/Object;)Ljava/lang/Object;"⟩ : MethodName) prog_66_method_2_code 1 (some (.object "java/lang/Object")) :: ws) ({ frames := 4, cells := 1, slots := 2, locals := 57 } : Room)) (fun a U => a = #[(.ref ar)] ∧ Z.Warmed39 U.vm ∧ U.heap = h0) (fun _ _ _ _ _ => True) (fun _ U o U' => ∃ v L, o = .returned v ∧ Q_rmOf2 Z ar kk x0 r0 x1 r1 h0 n0 v U'.heap L ∧ FrameEnd U o U' L ({ frames := 4, cells := 1, slots := 2, locals := 57 } : Room).cells ({ frames := 4, cells := 1, slots := 2, locals := 57 } : Room).slots) := by
  refine MetFree.of_bodySF (plainFor_of_name pn_com_example_planwright_planwright_plan_Key) hisR ?_
  intro p e s m args below meth c s₁ Bd hml0 hP hK
  obtain ⟨rfl, hZ, hh⟩ := hP
  have hx := Bd.exec
  have hby := Bd.bytes
  have hml : c.maxLocals = 1 := hml0
  have hown : s.vm.findClass "com/example/planwright/planwright/plan/Key" = some m.cls := findClass_of_methodNamed Bd.named
  have hnm := (name_of_methodNamed Bd.named Bd.method).1
  have X0 : Stand p l e ({ frames := 4, cells := 1, slots := 2, locals := 57 } : Room) s m #[(.ref ar)] below meth c s₁ [] 0 0 := Stand.of_body Bd
  have e0 : s₁.heap = h0 := by rw [← hh, Bd.state]; rfl
  have N0 := Fr.nil n0
  have pre0 : ∀ t, Steps p.tables e below (s₁.setTop (mkF m 0 #[.val (.ref ar)] [])) t → Steps p.tables e below (s₁.setTop (entryFrame m #[(.ref ar)] 1)) t := fun t k => castTop (ef_rmOf2 m ar) k
  have oz := OLD.1
  have lt_ar : ar < h0.size := P1.lt
  have lt_x0 : x0 < h0.size := P2.lt
  have lt_x1 : x1 < h0.size := P4.lt
  refine own_go (B := s₁.setTop (mkF m 0 #[.val (.ref ar)] [])) pre0 ?_
  show ∃ t o, Steps p.tables e below (s₁.setTop (mkF m 0 #[.val (.ref ar)] [])) t ∧ _
  refine own_go (fun _ => XS.aloadN X0.here hx rfl (hb hby d3_0) rfl rfl) ?_
  show ∃ t o, Steps p.tables e below (s₁.setTop (mkF m 1 #[.val (.ref ar)] [(.ref ar)])) t ∧ _
  obtain ⟨cl6, Ar6, q6, S6, N6, H6, G6⟩ := id P1
  have ln6 : cl6.slots.size.toInt32 = (2 : Int32) := len_of S6 N6
  have al6 := X0.arraylength hx (by rw [e0]; exact Ar6.1) (State.isArrayOf_alike hZ.alike Ar6.2.1) (g := (mkF m 1 #[.val (.ref ar)] [(.ref ar)])) rfl rfl (hb hby d3_1)
  rw [ln6] at al6
  refine own_go al6 ?_
  show ∃ t o, Steps p.tables e below (s₁.setTop (mkF m 2 #[.val (.ref ar)] [(.int (2 : Int32))])) t ∧ _
  refine own_go (fun _ => XS.iconst X0.here hx rfl (hb hby d3_2)) ?_
  show ∃ t o, Steps p.tables e below (s₁.setTop (mkF m 3 #[.val (.ref ar)] [(.int (1 : Int32)), (.int (2 : Int32))])) t ∧ _
  refine own_go (fun _ => XS.icmpYes X0.here hx rfl (pc0 := 3) (pc' := 12) rfl (hb hby d3_3) rfl (feq (by decide : ¬ ((2 : Int32) = (1 : Int32)))).2 (by decide) (by decide)) ?_
  show ∃ t o, Steps p.tables e below (s₁.setTop (mkF m 12 #[.val (.ref ar)] [])) t ∧ _
  obtain ⟨T7, h7, X7, e7, E7, A7, D7, -, st7⟩ := newO X0 hx hZ hown (hw _ (List.mem_of_getElem? (i := 21) rfl)) (hw _ (List.mem_of_getElem? (i := 22) rfl)) (hw _ (List.mem_of_getElem? (i := 19) rfl)) e0 (g := (mkF m 12 #[.val (.ref ar)] [])) rfl (hb hby d3_12) (by decide) (by decide)
  obtain ⟨b7, g7⟩ : ∃ z, z = h0.size := ⟨_, rfl⟩
  rw [← g7] at A7 D7 st7
  refine own_go st7 ?_
  have le_7 : h0.size ≤ h7.size := E7.1
  have lt_b7 : b7 < h7.size := A7.lt
  have F_values_b7 : Fld Z h7 b7 "com/example/planwright/planwright/plan/Key" "values" "[Ljava/lang/Object;" .null := D7 (Or.inr (hw _ (List.mem_of_getElem? (i := 30) rfl))) (ty := (.array (.object "java/lang/Object"))) (by decide)
  have F_hash_b7 : Fld Z h7 b7 "com/example/planwright/planwright/plan/Key" "hash" "I" (.int (0 : Int32)) := D7 (Or.inr (hw _ (List.mem_of_getElem? (i := 36) rfl))) (ty := .int) (by decide)
  have K7 : Keep h0 h7 [] := Keep.ext (Keep.refl h0 []) E7
  show ∃ t o, Steps p.tables e below (T7.setTop (mkF m 15 #[.val (.ref ar)] [(.ref b7)])) t ∧ _
  refine own_go (fun _ => XS.dup X7.here hx rfl (hb hby d3_15) rfl rfl) ?_
  show ∃ t o, Steps p.tables e below (T7.setTop (mkF m 16 #[.val (.ref ar)] [(.ref b7), (.ref b7)])) t ∧ _
  refine own_go (fun _ => XS.aloadN X7.here hx rfl (hb hby d3_16) rfl rfl) ?_
  show ∃ t o, Steps p.tables e below (T7.setTop (mkF m 17 #[.val (.ref ar)] [(.ref ar), (.ref b7), (.ref b7)])) t ∧ _
  have F8 : Arv Z h7 ar kk (.object "java/lang/Object") (2 : Int32) [(.ref x0), (.ref x1)] .null := (P1.ext E7)
  have F9 : Exa Z h7 x0 "java/lang/Integer" := (Exa.ext E7 P2)
  have F10 : Fld Z h7 x0 "java/lang/Integer" "value" "I" (.int r0) := (Fld.ext E7 P3)
  have F11 : Exa Z h7 x1 "java/lang/Integer" := (Exa.ext E7 P4)
  have F12 : Fld Z h7 x1 "java/lang/Integer" "value" "I" (.int r1) := (Fld.ext E7 P5)
  have F13 : Old Z n0 h7 := (OLD.ext E7)
  have ge14 : n0 ≤ b7 := by omega
  have ne15 : ar ≠ b7 := own_ne (by omega)
  have ne16 : x0 ≠ b7 := own_ne (by omega)
  have ne17 : x1 ≠ b7 := own_ne (by omega)
  have zl18 : n0 ≤ h7.size := by omega
  obtain ⟨_, _, ⟨T19, L19, k19, n19⟩, -, X19, ⟨Lc19, hQ19, l19, y19, z19⟩, st19⟩ := X7.specialBack hx (y := (⟨"com/example/planwright/planwright/plan/Key", "<init>", "([Ljava/lang/Object;)V"⟩ : MethodName)) rfl hown (mvT hZ (hw _ (List.mem_of_getElem? (i := 23) rfl))) (mvT hZ (hw _ (List.mem_of_getElem? (i := 24) rfl))) (mvT hZ (hw _ (List.mem_of_getElem? (i := 25) rfl))) (by decide) (backOf (W := 1) (rmKeyInit2 l Z a0 hw [] b7 ar kk x0 r0 x1 r1 h7 n0 zl18 A7 F_values_b7 F_hash_b7 F8 F9 F10 F11 F12 F13 ge14 ne15 ne16 ne17) hZ (hw _ (List.mem_of_getElem? (i := 25) rfl)) (hw _ (List.mem_of_getElem? (i := 19) rfl)) (by decide) (by decide)) (g := (mkF m 17 #[.val (.ref ar)] [(.ref ar), (.ref b7), (.ref b7)])) rfl (by rw [hml]; rfl) (Steps.refl _) (a := b7) (argsL := [(.ref ar)]) (rest := [(.ref b7)]) (lenOf pd__28_5bLjava_2flang_2fObject_3b_29V rfl) rfl (by show 2 * 0 + _ ≤ _; exact Nat.le_of_eq rfl) (hb hby d3_17) (fun _ _ => ⟨rfl, e7, (by decide : 1 + 0 ≤ _), (by decide : 2 + 0 ≤ _)⟩)
  dsimp only [Pt.U, Pt.locs, Pt.cells, Pt.slots] at X19 l19 y19 z19 st19 hQ19
  subst l19 y19 z19
  obtain ⟨rfl, Nq19, Kp19, G19_0, G19_1⟩ := hQ19
  have N19 := Fr.app N0 Nq19
  refine own_goT st19 ?_
  have le_19 : h7.size ≤ T19.heap.size := Kp19.1
  have sz20 : h0.size ≤ b7 := by omega
  have K19 : Keep h0 T19.heap [] := Keep.trans K7 Kp19 (allS (Or.inr sz20) all0)
  show ∃ t o, Steps p.tables e below (T19.setTop (mkF m 20 #[.val (.ref ar)] [(.ref b7)])) t ∧ _
  obtain ⟨fs, hr, hrun, hended, hW, hsame⟩ := X19.leave (v := some (.ref b7)) (fun h => by rw [Bd.returns] at h; cases h)
  refine ⟨_, _, ?_, hrun, hended, _, _, rfl, ?_, ⟨_, rfl⟩, hW, hsame.mono (by decide) (by decide)⟩
  · jvm_step X19.here [X19.here.top, hx, (hb hby d3_20), X19.method', Bd.returns, Value.isRef, FieldType.isReference]
    first | (intro acts; rw [hr _ acts rfl rfl rfl]) | rw [hr _ _ rfl rfl rfl]
    exact Steps.refl _
  · show Q_rmOf2 Z ar kk x0 r0 x1 r1 h0 n0 _ T19.heap _
    exact ⟨b7, rfl, N19, K19, G19_0, G19_1, (by omega)⟩
theorem ef_rmVals2 (m : MethodId) (x0 : Nat) (x1 : Int32) : entryFrame m #[(.ref x0), (.int x1)] 2 = mkF m 0 #[.val (.ref x0), .val (.int x1)] [] := by first | (simp [entryFrame, mkF, argsToLocals, Value.category]; done) | rfl
def Q_rmVals2 (Z : State) (ko : Nat) (ar : Nat) (kk : ClassId) (x0 : Nat) (x1 : Nat) (h0 : Heap) (n0 : Nat) (v : Option Value) (h : Heap) (L : List Loc) : Prop := ∃ (b : Nat), v = some (.ref b) ∧ Fr n0 L ∧ Keep h0 h [] ∧ Arv Z h b kk (.object "java/lang/Object") (2 : Int32) [(.ref x0), (.ref x1)] .null ∧ (h0.size ≤ b)
set_option maxRecDepth 65536 in
set_option maxHeartbeats 40000000 in
theorem rmVals2 (l : Launch) (Z : State) (a0 : Array Value) (hw : ∀ d ∈ tables_1, d.before a0 Z = true) (ws : List Jvm.Cond) (ko : Nat) (ar : Nat) (kk : ClassId) (x0 : Nat) (x1 : Nat) (h0 : Heap) (n0 : Nat) (Z0 : n0 ≤ h0.size) (P1 : Exa Z h0 ko "com/example/planwright/planwright/plan/Key") (P2 : Fld Z h0 ko "com/example/planwright/planwright/plan/Key" "values" "[Ljava/lang/Object;" (.ref ar)) (P3 : Arv Z h0 ar kk (.object "java/lang/Object") (2 : Int32) [(.ref x0), (.ref x1)] .null) (P4 : Exa Z h0 ar "[Ljava/lang/Object;") (OLD : Old Z n0 h0) :
    MetFree l (⟨"com/example/planwright/planwright/plan/Key", "values", "(Ljava/lang/Object;I)[Ljava/lang/Object;"⟩ : MethodName) (head1 (Jvm.Cond.code (⟨"com/example/planwright/planwright/plan/Key", "values", "(Ljava/lang/Object;I)[Ljava/lang/Object;"⟩ : MethodName) prog_66_method_3_code 2 (some (.array (.object "java/lang/Object"))) :: ws) ({ frames := 1, cells := 1, slots := 2, locals := 14 } : Room)) (fun a U => a = #[(.ref ko), (.int (2 : Int32))] ∧ Z.Warmed39 U.vm ∧ U.heap = h0) (fun _ _ _ _ _ => True) (fun _ U o U' => ∃ v L, o = .returned v ∧ Q_rmVals2 Z ko ar kk x0 x1 h0 n0 v U'.heap L ∧ FrameEnd U o U' L ({ frames := 1, cells := 1, slots := 2, locals := 14 } : Room).cells ({ frames := 1, cells := 1, slots := 2, locals := 14 } : Room).slots) := by
  refine MetFree.of_bodySF (plainFor_of_name pn_com_example_planwright_planwright_plan_Key) hisR ?_
  intro p e s m args below meth c s₁ Bd hml0 hP hK
  obtain ⟨rfl, hZ, hh⟩ := hP
  have hx := Bd.exec
  have hby := Bd.bytes
  have hml : c.maxLocals = 2 := hml0
  have hown : s.vm.findClass "com/example/planwright/planwright/plan/Key" = some m.cls := findClass_of_methodNamed Bd.named
  have hnm := (name_of_methodNamed Bd.named Bd.method).1
  have X0 : Stand p l e ({ frames := 1, cells := 1, slots := 2, locals := 14 } : Room) s m #[(.ref ko), (.int (2 : Int32))] below meth c s₁ [] 0 0 := Stand.of_body Bd
  have e0 : s₁.heap = h0 := by rw [← hh, Bd.state]; rfl
  have N0 := Fr.nil n0
  have pre0 : ∀ t, Steps p.tables e below (s₁.setTop (mkF m 0 #[.val (.ref ko), .val (.int (2 : Int32))] [])) t → Steps p.tables e below (s₁.setTop (entryFrame m #[(.ref ko), (.int (2 : Int32))] 2)) t := fun t k => castTop (ef_rmVals2 m ko (2 : Int32)) k
  have oz := OLD.1
  have lt_ar : ar < h0.size := P3.lt
  have lt_ko : ko < h0.size := P1.lt
  refine own_go (B := s₁.setTop (mkF m 0 #[.val (.ref ko), .val (.int (2 : Int32))] [])) pre0 ?_
  show ∃ t o, Steps p.tables e below (s₁.setTop (mkF m 0 #[.val (.ref ko), .val (.int (2 : Int32))] [])) t ∧ _
  refine own_go (fun _ => XS.iloadN X0.here hx rfl (hb hby d7_0) rfl) ?_
  show ∃ t o, Steps p.tables e below (s₁.setTop (mkF m 1 #[.val (.ref ko), .val (.int (2 : Int32))] [(.int (2 : Int32))])) t ∧ _
  refine own_go (fun _ => XS.iconst X0.here hx rfl (hb hby d7_1)) ?_
  show ∃ t o, Steps p.tables e below (s₁.setTop (mkF m 2 #[.val (.ref ko), .val (.int (2 : Int32))] [(.int (1 : Int32)), (.int (2 : Int32))])) t ∧ _
  refine own_go (fun _ => XS.icmpYes X0.here hx rfl (pc0 := 2) (pc' := 16) rfl (hb hby d7_2) rfl (feq (by decide : ¬ ((2 : Int32) = (1 : Int32)))).2 (by decide) (by decide)) ?_
  show ∃ t o, Steps p.tables e below (s₁.setTop (mkF m 16 #[.val (.ref ko), .val (.int (2 : Int32))] [])) t ∧ _
  refine own_go (fun _ => XS.aloadN X0.here hx rfl (hb hby d7_16) rfl rfl) ?_
  show ∃ t o, Steps p.tables e below (s₁.setTop (mkF m 17 #[.val (.ref ko), .val (.int (2 : Int32))] [(.ref ko)])) t ∧ _
  obtain ⟨T5, X5, e5, st5⟩ := castY X0 hx hZ hown (hw _ (List.mem_of_getElem? (i := 21) rfl)) e0 (Ins.self P1) (g := (mkF m 17 #[.val (.ref ko), .val (.int (2 : Int32))] [(.ref ko)])) rfl rfl (hb hby d7_17)
  refine own_go st5 ?_
  show ∃ t o, Steps p.tables e below (T5.setTop (mkF m 20 #[.val (.ref ko), .val (.int (2 : Int32))] [(.ref ko)])) t ∧ _
  obtain ⟨T6, X6, e6, st6⟩ := getF X5 hx hZ hown (host := "") (Or.inl (hw _ (List.mem_of_getElem? (i := 29) rfl))) Via.refl e5 P2 (g := (mkF m 20 #[.val (.ref ko), .val (.int (2 : Int32))] [(.ref ko)])) rfl rfl (hb hby d7_20)
  refine own_go st6 ?_
  show ∃ t o, Steps p.tables e below (T6.setTop (mkF m 23 #[.val (.ref ko), .val (.int (2 : Int32))] [(.ref ar)])) t ∧ _
  obtain ⟨T7, h7, X7, e7, E7, A7, Q7, st7⟩ := cloneH X6 hx hZ hown (hw _ (List.mem_of_getElem? (i := 41) rfl)) (hw _ (List.mem_of_getElem? (i := 42) rfl)) (hw _ (List.mem_of_getElem? (i := 46) rfl)) (hw _ (List.mem_of_getElem? (i := 44) rfl)) (hw _ (List.mem_of_getElem? (i := 45) rfl)) (hw _ (List.mem_of_getElem? (i := 47) rfl)) e6 (Arv.arh P3) P4 (g := (mkF m 23 #[.val (.ref ko), .val (.int (2 : Int32))] [(.ref ar)])) rfl (by rw [hml]; rfl) rfl (hb hby d7_23) (by decide) (W := 0) (cap := 2) (by show 2 * 0 + _ ≤ _; exact Nat.le_of_eq rfl) (by decide) (by decide) (by decide) (by decide)
  obtain ⟨b7, g7⟩ : ∃ z, z = h0.size := ⟨_, rfl⟩
  rw [← g7] at A7 Q7 st7
  refine own_go st7 ?_
  have le_7 : h0.size ≤ h7.size := E7.1
  have V_b7 : Arv Z h7 b7 kk (.object "java/lang/Object") (2 : Int32) [(.ref x0), (.ref x1)] .null := A7
  have lt_b7 : b7 < h7.size := V_b7.lt
  have K7 : Keep h0 h7 [] := Keep.ext (Keep.refl h0 []) E7
  show ∃ t o, Steps p.tables e below (T7.setTop (mkF m 26 #[.val (.ref ko), .val (.int (2 : Int32))] [(.ref b7)])) t ∧ _
  obtain ⟨T8, X8, e8, st8⟩ := castY X7 hx hZ hown (hw _ (List.mem_of_getElem? (i := 48) rfl)) e7 (Ins.self Q7) (g := (mkF m 26 #[.val (.ref ko), .val (.int (2 : Int32))] [(.ref b7)])) rfl rfl (hb hby d7_26)
  refine own_go st8 ?_
  show ∃ t o, Steps p.tables e below (T8.setTop (mkF m 29 #[.val (.ref ko), .val (.int (2 : Int32))] [(.ref b7)])) t ∧ _
  obtain ⟨fs, hr, hrun, hended, hW, hsame⟩ := X8.leave (v := some (.ref b7)) (fun h => by rw [Bd.returns] at h; cases h)
  refine ⟨_, _, ?_, hrun, hended, _, _, rfl, ?_, ⟨_, rfl⟩, hW, hsame.mono (by decide) (by decide)⟩
  · jvm_step X8.here [X8.here.top, hx, (hb hby d7_29), X8.method', Bd.returns, Value.isRef, FieldType.isReference]
    first | (intro acts; rw [hr _ acts rfl rfl rfl]) | rw [hr _ _ rfl rfl rfl]
    exact Steps.refl _
  · show Q_rmVals2 Z ko ar kk x0 x1 h0 n0 _ T8.heap _
    rw [e8]
    exact ⟨b7, rfl, N0, K7, V_b7, (by omega)⟩
theorem ef_rmHash2n (m : MethodId) (x0 : Nat) : entryFrame m #[(.ref x0)] 6 = mkF m 0 #[.val (.ref x0), .unset, .unset, .unset, .unset, .unset] [] := by first | (simp [entryFrame, mkF, argsToLocals, Value.category]; done) | rfl
theorem d6_37 : decode jdk_65_method_157_code 37 = .ok (.iconst 0, 1) := by decide +kernel
theorem d6_38 : decode jdk_65_method_157_code 38 = .ok (.goto 8, 3) := by decide +kernel
def Q_rmHash2n (Z : State) (ar : Nat) (kk : ClassId) (x0 : Nat) (r0 : Int32) (h0 : Heap) (n0 : Nat) (v : Option Value) (h : Heap) (L : List Loc) : Prop := ∃ (rh : Int32), v = some (.int rh) ∧ Fr n0 L ∧ h = h0
set_option maxRecDepth 65536 in
set_option maxHeartbeats 40000000 in
theorem rmHash2n (l : Launch) (Z : State) (a0 : Array Value) (hw : ∀ d ∈ tables_1, d.before a0 Z = true) (ws : List Jvm.Cond) (ar : Nat) (kk : ClassId) (x0 : Nat) (r0 : Int32) (h0 : Heap) (n0 : Nat) (Z0 : n0 ≤ h0.size) (P1 : Arv Z h0 ar kk (.object "java/lang/Object") (2 : Int32) [(.ref x0), .null] .null) (P2 : Exa Z h0 x0 "java/lang/Integer") (P3 : Fld Z h0 x0 "java/lang/Integer" "value" "I" (.int r0)) (OLD : Old Z n0 h0) :
    MetFree l (⟨"java/util/Arrays", "hashCode", "([Ljava/lang/Object;)I"⟩ : MethodName) (head1 (Jvm.Cond.code (⟨"java/util/Arrays", "hashCode", "([Ljava/lang/Object;)I"⟩ : MethodName) jdk_65_method_157_code 6 (some .int) :: ws) ({ frames := 2, cells := 0, slots := 0, locals := 25 } : Room)) (fun a U => a = #[(.ref ar)] ∧ Z.Warmed39 U.vm ∧ U.heap = h0) (fun _ _ _ _ _ => True) (fun _ U o U' => ∃ v L, o = .returned v ∧ Q_rmHash2n Z ar kk x0 r0 h0 n0 v U'.heap L ∧ FrameEnd U o U' L ({ frames := 2, cells := 0, slots := 0, locals := 25 } : Room).cells ({ frames := 2, cells := 0, slots := 0, locals := 25 } : Room).slots) := by
  refine MetFree.of_bodySF (plainFor_of_name pn_java_util_Arrays) hisR ?_
  intro p e s m args below meth c s₁ Bd hml0 hP hK
  obtain ⟨rfl, hZ, hh⟩ := hP
  have hx := Bd.exec
  have hby := Bd.bytes
  have hml : c.maxLocals = 6 := hml0
  have hown : s.vm.findClass "java/util/Arrays" = some m.cls := findClass_of_methodNamed Bd.named
  have hnm := (name_of_methodNamed Bd.named Bd.method).1
  have X0 : Stand p l e ({ frames := 2, cells := 0, slots := 0, locals := 25 } : Room) s m #[(.ref ar)] below meth c s₁ [] 0 0 := Stand.of_body Bd
  have e0 : s₁.heap = h0 := by rw [← hh, Bd.state]; rfl
  have N0 := Fr.nil n0
  have pre0 : ∀ t, Steps p.tables e below (s₁.setTop (mkF m 0 #[.val (.ref ar), .unset, .unset, .unset, .unset, .unset] [])) t → Steps p.tables e below (s₁.setTop (entryFrame m #[(.ref ar)] 6)) t := fun t k => castTop (ef_rmHash2n m ar) k
  have oz := OLD.1
  have lt_ar : ar < h0.size := P1.lt
  have lt_x0 : x0 < h0.size := P2.lt
  refine own_go (B := s₁.setTop (mkF m 0 #[.val (.ref ar), .unset, .unset, .unset, .unset, .unset] [])) pre0 ?_
  show ∃ t o, Steps p.tables e below (s₁.setTop (mkF m 0 #[.val (.ref ar), .unset, .unset, .unset, .unset, .unset] [])) t ∧ _
  refine own_go (fun _ => XS.aloadN X0.here hx rfl (hb hby d6_0) rfl rfl) ?_
  show ∃ t o, Steps p.tables e below (s₁.setTop (mkF m 1 #[.val (.ref ar), .unset, .unset, .unset, .unset, .unset] [(.ref ar)])) t ∧ _
  refine own_go (fun _ => XS.ifnonnullYes X0.here hx rfl (pc0 := 1) (pc' := 6) rfl (hb hby d6_1) rfl (by decide) (by decide)) ?_
  show ∃ t o, Steps p.tables e below (s₁.setTop (mkF m 6 #[.val (.ref ar), .unset, .unset, .unset, .unset, .unset] [])) t ∧ _
  refine own_go (fun _ => XS.iconst X0.here hx rfl (hb hby d6_6)) ?_
  show ∃ t o, Steps p.tables e below (s₁.setTop (mkF m 7 #[.val (.ref ar), .unset, .unset, .unset, .unset, .unset] [(.int (1 : Int32))])) t ∧ _
  refine own_go (fun _ => XS.istoreN X0.here hx rfl (hb hby d6_7) rfl (l' := #[.val (.ref ar), .val (.int (1 : Int32)), .unset, .unset, .unset, .unset]) rfl) ?_
  show ∃ t o, Steps p.tables e below (s₁.setTop (mkF m 8 #[.val (.ref ar), .val (.int (1 : Int32)), .unset, .unset, .unset, .unset] [])) t ∧ _
  refine own_go (fun _ => XS.aloadN X0.here hx rfl (hb hby d6_8) rfl rfl) ?_
  show ∃ t o, Steps p.tables e below (s₁.setTop (mkF m 9 #[.val (.ref ar), .val (.int (1 : Int32)), .unset, .unset, .unset, .unset] [(.ref ar)])) t ∧ _
  refine own_go (fun _ => XS.astoreN X0.here hx rfl (hb hby d6_9) rfl rfl (l' := #[.val (.ref ar), .val (.int (1 : Int32)), .val (.ref ar), .unset, .unset, .unset]) rfl) ?_
  show ∃ t o, Steps p.tables e below (s₁.setTop (mkF m 10 #[.val (.ref ar), .val (.int (1 : Int32)), .val (.ref ar), .unset, .unset, .unset] [])) t ∧ _
  refine own_go (fun _ => XS.aloadN X0.here hx rfl (hb hby d6_10) rfl rfl) ?_
  show ∃ t o, Steps p.tables e below (s₁.setTop (mkF m 11 #[.val (.ref ar), .val (.int (1 : Int32)), .val (.ref ar), .unset, .unset, .unset] [(.ref ar)])) t ∧ _
  obtain ⟨cl4, Ar4, q4, S4, N4, H4, G4⟩ := id P1
  have ln4 : cl4.slots.size.toInt32 = (2 : Int32) := len_of S4 N4
  have al4 := X0.arraylength hx (by rw [e0]; exact Ar4.1) (State.isArrayOf_alike hZ.alike Ar4.2.1) (g := (mkF m 11 #[.val (.ref ar), .val (.int (1 : Int32)), .val (.ref ar), .unset, .unset, .unset] [(.ref ar)])) rfl rfl (hb hby d6_11)
  rw [ln4] at al4
  refine own_go al4 ?_
  show ∃ t o, Steps p.tables e below (s₁.setTop (mkF m 12 #[.val (.ref ar), .val (.int (1 : Int32)), .val (.ref ar), .unset, .unset, .unset] [(.int (2 : Int32))])) t ∧ _
  refine own_go (fun _ => XS.istoreN X0.here hx rfl (hb hby d6_12) rfl (l' := #[.val (.ref ar), .val (.int (1 : Int32)), .val (.ref ar), .val (.int (2 : Int32)), .unset, .unset]) rfl) ?_
  show ∃ t o, Steps p.tables e below (s₁.setTop (mkF m 13 #[.val (.ref ar), .val (.int (1 : Int32)), .val (.ref ar), .val (.int (2 : Int32)), .unset, .unset] [])) t ∧ _
  refine own_go (fun _ => XS.iconst X0.here hx rfl (hb hby d6_13)) ?_
  show ∃ t o, Steps p.tables e below (s₁.setTop (mkF m 14 #[.val (.ref ar), .val (.int (1 : Int32)), .val (.ref ar), .val (.int (2 : Int32)), .unset, .unset] [(.int (0 : Int32))])) t ∧ _
  refine own_go (fun _ => XS.istore X0.here hx rfl (hb hby d6_14) rfl (l' := #[.val (.ref ar), .val (.int (1 : Int32)), .val (.ref ar), .val (.int (2 : Int32)), .val (.int (0 : Int32)), .unset]) rfl) ?_
  show ∃ t o, Steps p.tables e below (s₁.setTop (mkF m 16 #[.val (.ref ar), .val (.int (1 : Int32)), .val (.ref ar), .val (.int (2 : Int32)), .val (.int (0 : Int32)), .unset] [])) t ∧ _
  refine own_go (fun _ => XS.iload X0.here hx rfl (hb hby d6_16) rfl) ?_
  show ∃ t o, Steps p.tables e below (s₁.setTop (mkF m 18 #[.val (.ref ar), .val (.int (1 : Int32)), .val (.ref ar), .val (.int (2 : Int32)), .val (.int (0 : Int32)), .unset] [(.int (0 : Int32))])) t ∧ _
  refine own_go (fun _ => XS.iloadN X0.here hx rfl (hb hby d6_18) rfl) ?_
  show ∃ t o, Steps p.tables e below (s₁.setTop (mkF m 19 #[.val (.ref ar), .val (.int (1 : Int32)), .val (.ref ar), .val (.int (2 : Int32)), .val (.int (0 : Int32)), .unset] [(.int (2 : Int32)), (.int (0 : Int32))])) t ∧ _
  refine own_go (fun _ => XS.icmpNo X0.here hx rfl (hb hby d6_19) rfl (tlt (by decide : (0 : Int32) < (2 : Int32))).2.1) ?_
  show ∃ t o, Steps p.tables e below (s₁.setTop (mkF m 22 #[.val (.ref ar), .val (.int (1 : Int32)), .val (.ref ar), .val (.int (2 : Int32)), .val (.int (0 : Int32)), .unset] [])) t ∧ _
  refine own_go (fun _ => XS.aloadN X0.here hx rfl (hb hby d6_22) rfl rfl) ?_
  show ∃ t o, Steps p.tables e below (s₁.setTop (mkF m 23 #[.val (.ref ar), .val (.int (1 : Int32)), .val (.ref ar), .val (.int (2 : Int32)), .val (.int (0 : Int32)), .unset] [(.ref ar)])) t ∧ _
  refine own_go (fun _ => XS.iload X0.here hx rfl (hb hby d6_23) rfl) ?_
  show ∃ t o, Steps p.tables e below (s₁.setTop (mkF m 25 #[.val (.ref ar), .val (.int (1 : Int32)), .val (.ref ar), .val (.int (2 : Int32)), .val (.int (0 : Int32)), .unset] [(.int (0 : Int32)), (.ref ar)])) t ∧ _
  obtain ⟨cl5, Ar5, q5, S5, N5, H5, G5⟩ := id P1
  have hin5 : ¬ ((0 : Int32) < 0 ∨ cl5.slots.size ≤ ((0 : Int32)).toNatClampNeg) := inb_of S5 ⟨by decide, by decide⟩
  have hat5 : cl5.slots[((0 : Int32)).toNatClampNeg]? = some (.ref x0) := Has.at H5 hin5 rfl
  refine own_go (fun _ => X0.aaload hx (j := (0 : Int32)) (v := (.ref x0)) (by rw [e0]; exact Ar5.1) (State.isArrayOf_alike hZ.alike Ar5.2.1) rfl Ar5.2.2 hin5 hat5 (g := (mkF m 25 #[.val (.ref ar), .val (.int (1 : Int32)), .val (.ref ar), .val (.int (2 : Int32)), .val (.int (0 : Int32)), .unset] [(.int (0 : Int32)), (.ref ar)])) rfl rfl (hb hby d6_25) _) ?_
  show ∃ t o, Steps p.tables e below (s₁.setTop (mkF m 26 #[.val (.ref ar), .val (.int (1 : Int32)), .val (.ref ar), .val (.int (2 : Int32)), .val (.int (0 : Int32)), .unset] [(.ref x0)])) t ∧ _
  refine own_go (fun _ => XS.astore X0.here hx rfl (hb hby d6_26) rfl rfl (l' := #[.val (.ref ar), .val (.int (1 : Int32)), .val (.ref ar), .val (.int (2 : Int32)), .val (.int (0 : Int32)), .val (.ref x0)]) rfl) ?_
  show ∃ t o, Steps p.tables e below (s₁.setTop (mkF m 28 #[.val (.ref ar), .val (.int (1 : Int32)), .val (.ref ar), .val (.int (2 : Int32)), .val (.int (0 : Int32)), .val (.ref x0)] [])) t ∧ _
  refine own_go (fun _ => XS.bipush X0.here hx rfl (hb hby d6_28)) ?_
  show ∃ t o, Steps p.tables e below (s₁.setTop (mkF m 30 #[.val (.ref ar), .val (.int (1 : Int32)), .val (.ref ar), .val (.int (2 : Int32)), .val (.int (0 : Int32)), .val (.ref x0)] [(.int (31 : Int32))])) t ∧ _
  refine own_go (fun _ => XS.iloadN X0.here hx rfl (hb hby d6_30) rfl) ?_
  show ∃ t o, Steps p.tables e below (s₁.setTop (mkF m 31 #[.val (.ref ar), .val (.int (1 : Int32)), .val (.ref ar), .val (.int (2 : Int32)), .val (.int (0 : Int32)), .val (.ref x0)] [(.int (1 : Int32)), (.int (31 : Int32))])) t ∧ _
  refine own_go (fun _ => XS.imul X0.here hx rfl (hb hby d6_31) rfl) ?_
  show ∃ t o, Steps p.tables e below (s₁.setTop (mkF m 32 #[.val (.ref ar), .val (.int (1 : Int32)), .val (.ref ar), .val (.int (2 : Int32)), .val (.int (0 : Int32)), .val (.ref x0)] [(.int (31 : Int32))])) t ∧ _
  refine own_go (fun _ => XS.aload X0.here hx rfl (hb hby d6_32) rfl rfl) ?_
  show ∃ t o, Steps p.tables e below (s₁.setTop (mkF m 34 #[.val (.ref ar), .val (.int (1 : Int32)), .val (.ref ar), .val (.int (2 : Int32)), .val (.int (0 : Int32)), .val (.ref x0)] [(.ref x0), (.int (31 : Int32))])) t ∧ _
  refine own_go (fun _ => XS.ifnonnullYes X0.here hx rfl (pc0 := 34) (pc' := 41) rfl (hb hby d6_34) rfl (by decide) (by decide)) ?_
  show ∃ t o, Steps p.tables e below (s₁.setTop (mkF m 41 #[.val (.ref ar), .val (.int (1 : Int32)), .val (.ref ar), .val (.int (2 : Int32)), .val (.int (0 : Int32)), .val (.ref x0)] [(.int (31 : Int32))])) t ∧ _
  refine own_go (fun _ => XS.aload X0.here hx rfl (hb hby d6_41) rfl rfl) ?_
  show ∃ t o, Steps p.tables e below (s₁.setTop (mkF m 43 #[.val (.ref ar), .val (.int (1 : Int32)), .val (.ref ar), .val (.int (2 : Int32)), .val (.int (0 : Int32)), .val (.ref x0)] [(.ref x0), (.int (31 : Int32))])) t ∧ _
  obtain ⟨cq6, kq6, q6a, q6b, q6c⟩ := isOf hZ e0 P2
  obtain ⟨_, _, ⟨T6, L6, k6, n6⟩, -, X6, ⟨Lc6, hQ6, l6, y6, z6⟩, st6⟩ := X0.virtualBack hx (y := (⟨"java/lang/Object", "hashCode", "()I"⟩ : MethodName)) (z := (⟨"java/lang/Integer", "hashCode", "()I"⟩ : MethodName)) hown (mvT hZ (hw _ (List.mem_of_getElem? (i := 77) rfl))) (mvT hZ (hw _ (List.mem_of_getElem? (i := 78) rfl))) (own_nfo (args := #[]) (mvT hZ (hw _ (List.mem_of_getElem? (i := 45) rfl))) rfl) (mvT hZ (hw _ (List.mem_of_getElem? (i := 80) rfl))) (mvT hZ (hw _ (List.mem_of_getElem? (i := 81) rfl))) (by decide) (backOf (W := 1) (rmIHC l Z a0 hw [] x0 r0 h0 n0 Z0 P3 OLD) hZ (hw _ (List.mem_of_getElem? (i := 82) rfl)) (hw _ (List.mem_of_getElem? (i := 2) rfl)) (by decide) (by decide)) q6a q6c (g := (mkF m 43 #[.val (.ref ar), .val (.int (1 : Int32)), .val (.ref ar), .val (.int (2 : Int32)), .val (.int (0 : Int32)), .val (.ref x0)] [(.ref x0), (.int (31 : Int32))])) rfl (by rw [hml]; rfl) (Steps.refl _) (argsL := []) (rest := [(.int (31 : Int32))]) (lenOf pd__28_29I rfl) rfl (by show 2 * 0 + _ ≤ _; exact Nat.le_of_eq rfl) (hb hby d6_43) (fun _ _ => ⟨rfl, e0, (by decide : 0 + 0 ≤ _), (by decide : 0 + 0 ≤ _)⟩)
  dsimp only [Pt.U, Pt.locs, Pt.cells, Pt.slots] at X6 l6 y6 z6 st6 hQ6
  subst l6 y6 z6
  obtain ⟨rfl, Nq6, e6⟩ := hQ6
  have N6 := Fr.app N0 Nq6
  refine own_goT st6 ?_
  show ∃ t o, Steps p.tables e below (T6.setTop (mkF m 46 #[.val (.ref ar), .val (.int (1 : Int32)), .val (.ref ar), .val (.int (2 : Int32)), .val (.int (0 : Int32)), .val (.ref x0)] [(.int r0), (.int (31 : Int32))])) t ∧ _
  refine own_go (fun _ => XS.iadd X6.here hx rfl (hb hby d6_46) rfl) ?_
  show ∃ t o, Steps p.tables e below (T6.setTop (mkF m 47 #[.val (.ref ar), .val (.int (1 : Int32)), .val (.ref ar), .val (.int (2 : Int32)), .val (.int (0 : Int32)), .val (.ref x0)] [(.int ((31 : Int32) + r0))])) t ∧ _
  refine own_go (fun _ => XS.istoreN X6.here hx rfl (hb hby d6_47) rfl (l' := #[.val (.ref ar), .val (.int ((31 : Int32) + r0)), .val (.ref ar), .val (.int (2 : Int32)), .val (.int (0 : Int32)), .val (.ref x0)]) rfl) ?_
  show ∃ t o, Steps p.tables e below (T6.setTop (mkF m 48 #[.val (.ref ar), .val (.int ((31 : Int32) + r0)), .val (.ref ar), .val (.int (2 : Int32)), .val (.int (0 : Int32)), .val (.ref x0)] [])) t ∧ _
  refine own_go (fun _ => XS.iinc X6.here hx rfl (hb hby d6_48) rfl (l' := #[.val (.ref ar), .val (.int ((31 : Int32) + r0)), .val (.ref ar), .val (.int (2 : Int32)), .val (.int (1 : Int32)), .val (.ref x0)]) rfl) ?_
  show ∃ t o, Steps p.tables e below (T6.setTop (mkF m 51 #[.val (.ref ar), .val (.int ((31 : Int32) + r0)), .val (.ref ar), .val (.int (2 : Int32)), .val (.int (1 : Int32)), .val (.ref x0)] [])) t ∧ _
  refine own_go (fun _ => XS.goto X6.here hx rfl (pc0 := 51) (pc' := 16) rfl (hb hby d6_51) (by decide) (by decide)) ?_
  show ∃ t o, Steps p.tables e below (T6.setTop (mkF m 16 #[.val (.ref ar), .val (.int ((31 : Int32) + r0)), .val (.ref ar), .val (.int (2 : Int32)), .val (.int (1 : Int32)), .val (.ref x0)] [])) t ∧ _
  refine own_go (fun _ => XS.iload X6.here hx rfl (hb hby d6_16) rfl) ?_
  show ∃ t o, Steps p.tables e below (T6.setTop (mkF m 18 #[.val (.ref ar), .val (.int ((31 : Int32) + r0)), .val (.ref ar), .val (.int (2 : Int32)), .val (.int (1 : Int32)), .val (.ref x0)] [(.int (1 : Int32))])) t ∧ _
  refine own_go (fun _ => XS.iloadN X6.here hx rfl (hb hby d6_18) rfl) ?_
  show ∃ t o, Steps p.tables e below (T6.setTop (mkF m 19 #[.val (.ref ar), .val (.int ((31 : Int32) + r0)), .val (.ref ar), .val (.int (2 : Int32)), .val (.int (1 : Int32)), .val (.ref x0)] [(.int (2 : Int32)), (.int (1 : Int32))])) t ∧ _
  refine own_go (fun _ => XS.icmpNo X6.here hx rfl (hb hby d6_19) rfl (tlt (by decide : (1 : Int32) < (2 : Int32))).2.1) ?_
  show ∃ t o, Steps p.tables e below (T6.setTop (mkF m 22 #[.val (.ref ar), .val (.int ((31 : Int32) + r0)), .val (.ref ar), .val (.int (2 : Int32)), .val (.int (1 : Int32)), .val (.ref x0)] [])) t ∧ _
  refine own_go (fun _ => XS.aloadN X6.here hx rfl (hb hby d6_22) rfl rfl) ?_
  show ∃ t o, Steps p.tables e below (T6.setTop (mkF m 23 #[.val (.ref ar), .val (.int ((31 : Int32) + r0)), .val (.ref ar), .val (.int (2 : Int32)), .val (.int (1 : Int32)), .val (.ref x0)] [(.ref ar)])) t ∧ _
  refine own_go (fun _ => XS.iload X6.here hx rfl (hb hby d6_23) rfl) ?_
  show ∃ t o, Steps p.tables e below (T6.setTop (mkF m 25 #[.val (.ref ar), .val (.int ((31 : Int32) + r0)), .val (.ref ar), .val (.int (2 : Int32)), .val (.int (1 : Int32)), .val (.ref x0)] [(.int (1 : Int32)), (.ref ar)])) t ∧ _
  obtain ⟨cl7, Ar7, q7, S7, N7, H7, G7⟩ := id P1
  have hin7 : ¬ ((1 : Int32) < 0 ∨ cl7.slots.size ≤ ((1 : Int32)).toNatClampNeg) := inb_of S7 ⟨by decide, by decide⟩
  have hat7 : cl7.slots[((1 : Int32)).toNatClampNeg]? = some .null := Has.at H7 hin7 rfl
  refine own_go (fun _ => X6.aaload hx (j := (1 : Int32)) (v := .null) (by rw [e6]; exact Ar7.1) (State.isArrayOf_alike hZ.alike Ar7.2.1) rfl Ar7.2.2 hin7 hat7 (g := (mkF m 25 #[.val (.ref ar), .val (.int ((31 : Int32) + r0)), .val (.ref ar), .val (.int (2 : Int32)), .val (.int (1 : Int32)), .val (.ref x0)] [(.int (1 : Int32)), (.ref ar)])) rfl rfl (hb hby d6_25) _) ?_
  show ∃ t o, Steps p.tables e below (T6.setTop (mkF m 26 #[.val (.ref ar), .val (.int ((31 : Int32) + r0)), .val (.ref ar), .val (.int (2 : Int32)), .val (.int (1 : Int32)), .val (.ref x0)] [.null])) t ∧ _
  refine own_go (fun _ => XS.astore X6.here hx rfl (hb hby d6_26) rfl rfl (l' := #[.val (.ref ar), .val (.int ((31 : Int32) + r0)), .val (.ref ar), .val (.int (2 : Int32)), .val (.int (1 : Int32)), .val .null]) rfl) ?_
  show ∃ t o, Steps p.tables e below (T6.setTop (mkF m 28 #[.val (.ref ar), .val (.int ((31 : Int32) + r0)), .val (.ref ar), .val (.int (2 : Int32)), .val (.int (1 : Int32)), .val .null] [])) t ∧ _
  refine own_go (fun _ => XS.bipush X6.here hx rfl (hb hby d6_28)) ?_
  show ∃ t o, Steps p.tables e below (T6.setTop (mkF m 30 #[.val (.ref ar), .val (.int ((31 : Int32) + r0)), .val (.ref ar), .val (.int (2 : Int32)), .val (.int (1 : Int32)), .val .null] [(.int (31 : Int32))])) t ∧ _
  refine own_go (fun _ => XS.iloadN X6.here hx rfl (hb hby d6_30) rfl) ?_
  show ∃ t o, Steps p.tables e below (T6.setTop (mkF m 31 #[.val (.ref ar), .val (.int ((31 : Int32) + r0)), .val (.ref ar), .val (.int (2 : Int32)), .val (.int (1 : Int32)), .val .null] [(.int ((31 : Int32) + r0)), (.int (31 : Int32))])) t ∧ _
  refine own_go (fun _ => XS.imul X6.here hx rfl (hb hby d6_31) rfl) ?_
  show ∃ t o, Steps p.tables e below (T6.setTop (mkF m 32 #[.val (.ref ar), .val (.int ((31 : Int32) + r0)), .val (.ref ar), .val (.int (2 : Int32)), .val (.int (1 : Int32)), .val .null] [(.int ((31 : Int32) * ((31 : Int32) + r0)))])) t ∧ _
  refine own_go (fun _ => XS.aload X6.here hx rfl (hb hby d6_32) rfl rfl) ?_
  show ∃ t o, Steps p.tables e below (T6.setTop (mkF m 34 #[.val (.ref ar), .val (.int ((31 : Int32) + r0)), .val (.ref ar), .val (.int (2 : Int32)), .val (.int (1 : Int32)), .val .null] [.null, (.int ((31 : Int32) * ((31 : Int32) + r0)))])) t ∧ _
  refine own_go (fun _ => XS.ifnonnullNo X6.here hx rfl (hb hby d6_34) rfl) ?_
  show ∃ t o, Steps p.tables e below (T6.setTop (mkF m 37 #[.val (.ref ar), .val (.int ((31 : Int32) + r0)), .val (.ref ar), .val (.int (2 : Int32)), .val (.int (1 : Int32)), .val .null] [(.int ((31 : Int32) * ((31 : Int32) + r0)))])) t ∧ _
  refine own_go (fun _ => XS.iconst X6.here hx rfl (hb hby d6_37)) ?_
  show ∃ t o, Steps p.tables e below (T6.setTop (mkF m 38 #[.val (.ref ar), .val (.int ((31 : Int32) + r0)), .val (.ref ar), .val (.int (2 : Int32)), .val (.int (1 : Int32)), .val .null] [(.int (0 : Int32)), (.int ((31 : Int32) * ((31 : Int32) + r0)))])) t ∧ _
  refine own_go (fun _ => XS.goto X6.here hx rfl (pc0 := 38) (pc' := 46) rfl (hb hby d6_38) (by decide) (by decide)) ?_
  show ∃ t o, Steps p.tables e below (T6.setTop (mkF m 46 #[.val (.ref ar), .val (.int ((31 : Int32) + r0)), .val (.ref ar), .val (.int (2 : Int32)), .val (.int (1 : Int32)), .val .null] [(.int (0 : Int32)), (.int ((31 : Int32) * ((31 : Int32) + r0)))])) t ∧ _
  refine own_go (fun _ => XS.iadd X6.here hx rfl (hb hby d6_46) rfl) ?_
  show ∃ t o, Steps p.tables e below (T6.setTop (mkF m 47 #[.val (.ref ar), .val (.int ((31 : Int32) + r0)), .val (.ref ar), .val (.int (2 : Int32)), .val (.int (1 : Int32)), .val .null] [(.int (((31 : Int32) * ((31 : Int32) + r0)) + (0 : Int32)))])) t ∧ _
  refine own_go (fun _ => XS.istoreN X6.here hx rfl (hb hby d6_47) rfl (l' := #[.val (.ref ar), .val (.int (((31 : Int32) * ((31 : Int32) + r0)) + (0 : Int32))), .val (.ref ar), .val (.int (2 : Int32)), .val (.int (1 : Int32)), .val .null]) rfl) ?_
  show ∃ t o, Steps p.tables e below (T6.setTop (mkF m 48 #[.val (.ref ar), .val (.int (((31 : Int32) * ((31 : Int32) + r0)) + (0 : Int32))), .val (.ref ar), .val (.int (2 : Int32)), .val (.int (1 : Int32)), .val .null] [])) t ∧ _
  refine own_go (fun _ => XS.iinc X6.here hx rfl (hb hby d6_48) rfl (l' := #[.val (.ref ar), .val (.int (((31 : Int32) * ((31 : Int32) + r0)) + (0 : Int32))), .val (.ref ar), .val (.int (2 : Int32)), .val (.int (2 : Int32)), .val .null]) rfl) ?_
  show ∃ t o, Steps p.tables e below (T6.setTop (mkF m 51 #[.val (.ref ar), .val (.int (((31 : Int32) * ((31 : Int32) + r0)) + (0 : Int32))), .val (.ref ar), .val (.int (2 : Int32)), .val (.int (2 : Int32)), .val .null] [])) t ∧ _
  refine own_go (fun _ => XS.goto X6.here hx rfl (pc0 := 51) (pc' := 16) rfl (hb hby d6_51) (by decide) (by decide)) ?_
  show ∃ t o, Steps p.tables e below (T6.setTop (mkF m 16 #[.val (.ref ar), .val (.int (((31 : Int32) * ((31 : Int32) + r0)) + (0 : Int32))), .val (.ref ar), .val (.int (2 : Int32)), .val (.int (2 : Int32)), .val .null] [])) t ∧ _
  refine own_go (fun _ => XS.iload X6.here hx rfl (hb hby d6_16) rfl) ?_
  show ∃ t o, Steps p.tables e below (T6.setTop (mkF m 18 #[.val (.ref ar), .val (.int (((31 : Int32) * ((31 : Int32) + r0)) + (0 : Int32))), .val (.ref ar), .val (.int (2 : Int32)), .val (.int (2 : Int32)), .val .null] [(.int (2 : Int32))])) t ∧ _
  refine own_go (fun _ => XS.iloadN X6.here hx rfl (hb hby d6_18) rfl) ?_
  show ∃ t o, Steps p.tables e below (T6.setTop (mkF m 19 #[.val (.ref ar), .val (.int (((31 : Int32) * ((31 : Int32) + r0)) + (0 : Int32))), .val (.ref ar), .val (.int (2 : Int32)), .val (.int (2 : Int32)), .val .null] [(.int (2 : Int32)), (.int (2 : Int32))])) t ∧ _
  refine own_go (fun _ => XS.icmpYes X6.here hx rfl (pc0 := 19) (pc' := 54) rfl (hb hby d6_19) rfl (flt (by decide : ¬ ((2 : Int32) < (2 : Int32)))).2.1 (by decide) (by decide)) ?_
  show ∃ t o, Steps p.tables e below (T6.setTop (mkF m 54 #[.val (.ref ar), .val (.int (((31 : Int32) * ((31 : Int32) + r0)) + (0 : Int32))), .val (.ref ar), .val (.int (2 : Int32)), .val (.int (2 : Int32)), .val .null] [])) t ∧ _
  refine own_go (fun _ => XS.iloadN X6.here hx rfl (hb hby d6_54) rfl) ?_
  show ∃ t o, Steps p.tables e below (T6.setTop (mkF m 55 #[.val (.ref ar), .val (.int (((31 : Int32) * ((31 : Int32) + r0)) + (0 : Int32))), .val (.ref ar), .val (.int (2 : Int32)), .val (.int (2 : Int32)), .val .null] [(.int (((31 : Int32) * ((31 : Int32) + r0)) + (0 : Int32)))])) t ∧ _
  obtain ⟨fs, hr, hrun, hended, hW, hsame⟩ := X6.leave (v := some (.int (((31 : Int32) * ((31 : Int32) + r0)) + (0 : Int32)))) (fun h => by rw [Bd.returns] at h; cases h)
  refine ⟨_, _, ?_, hrun, hended, _, _, rfl, ?_, ⟨_, rfl⟩, hW, hsame.mono (by decide) (by decide)⟩
  · exact retI X6 hx Bd.returns (hb hby d6_55) hr
  · show Q_rmHash2n Z ar kk x0 r0 h0 n0 _ T6.heap _
    rw [e6]
    exact ⟨(((31 : Int32) * ((31 : Int32) + r0)) + (0 : Int32)), rfl, N6, rfl⟩
theorem ef_rmKeyInit2n (m : MethodId) (x0 : Nat) (x1 : Nat) : entryFrame m #[(.ref x0), (.ref x1)] 2 = mkF m 0 #[.val (.ref x0), .val (.ref x1)] [] := by first | (simp [entryFrame, mkF, argsToLocals, Value.category]; done) | rfl
def Q_rmKeyInit2n (Z : State) (a1 : Nat) (ar : Nat) (kk : ClassId) (x0 : Nat) (r0 : Int32) (h0 : Heap) (n0 : Nat) (v : Option Value) (h : Heap) (L : List Loc) : Prop := v = none ∧ Fr n0 L ∧ Keep h0 h [a1] ∧ Exa Z h a1 "com/example/planwright/planwright/plan/Key" ∧ Fld Z h a1 "com/example/planwright/planwright/plan/Key" "values" "[Ljava/lang/Object;" (.ref ar)
set_option maxRecDepth 65536 in
set_option maxHeartbeats 40000000 in
theorem rmKeyInit2n (l : Launch) (Z : State) (a0 : Array Value) (hw : ∀ d ∈ tables_1, d.before a0 Z = true) (ws : List Jvm.Cond) (a1 : Nat) (ar : Nat) (kk : ClassId) (x0 : Nat) (r0 : Int32) (h0 : Heap) (n0 : Nat) (Z0 : n0 ≤ h0.size) (P1 : Exa Z h0 a1 "com/example/planwright/planwright/plan/Key") (P2 : Fld Z h0 a1 "com/example/planwright/planwright/plan/Key" "values" "[Ljava/lang/Object;" .null) (P3 : Fld Z h0 a1 "com/example/planwright/planwright/plan/Key" "hash" "I" (.int (0 : Int32))) (P4 : Arv Z h0 ar kk (.object "java/lang/Object") (2 : Int32) [(.ref x0), .null] .null) (P5 : Exa Z h0 x0 "java/lang/Integer") (P6 : Fld Z h0 x0 "java/lang/Integer" "value" "I" (.int r0)) (OLD : Old Z n0 h0) (ga : n0 ≤ a1) (na : ar ≠ a1) (nx0 : x0 ≠ a1) :
    MetFree l (⟨"com/example/planwright/planwright/plan/Key", "<init>", "([Ljava/lang/Object;)V"⟩ : MethodName) (head1 (Jvm.Cond.code (⟨"com/example/planwright/planwright/plan/Key", "<init>", "([Ljava/lang/Object;)V"⟩ : MethodName) prog_66_method_1_code 2 none :: ws) ({ frames := 3, cells := 0, slots := 0, locals := 43 } : Room)) (fun a U => a = #[(.ref a1), (.ref ar)] ∧ Z.Warmed39 U.vm ∧ U.heap = h0) (fun _ _ _ _ _ => True) (fun _ U o U' => ∃ v L, o = .returned v ∧ Q_rmKeyInit2n Z a1 ar kk x0 r0 h0 n0 v U'.heap L ∧ FrameEnd U o U' L ({ frames := 3, cells := 0, slots := 0, locals := 43 } : Room).cells ({ frames := 3, cells := 0, slots := 0, locals := 43 } : Room).slots) := by
  refine MetFree.of_bodySF (plainFor_of_name pn_com_example_planwright_planwright_plan_Key) hisR ?_
  intro p e s m args below meth c s₁ Bd hml0 hP hK
  obtain ⟨rfl, hZ, hh⟩ := hP
  have hx := Bd.exec
  have hby := Bd.bytes
  have hml : c.maxLocals = 2 := hml0
  have hown : s.vm.findClass "com/example/planwright/planwright/plan/Key" = some m.cls := findClass_of_methodNamed Bd.named
  have hnm := (name_of_methodNamed Bd.named Bd.method).1
  have X0 : Stand p l e ({ frames := 3, cells := 0, slots := 0, locals := 43 } : Room) s m #[(.ref a1), (.ref ar)] below meth c s₁ [] 0 0 := Stand.of_body Bd
  have e0 : s₁.heap = h0 := by rw [← hh, Bd.state]; rfl
  have N0 := Fr.nil n0
  have pre0 : ∀ t, Steps p.tables e below (s₁.setTop (mkF m 0 #[.val (.ref a1), .val (.ref ar)] [])) t → Steps p.tables e below (s₁.setTop (entryFrame m #[(.ref a1), (.ref ar)] 2)) t := fun t k => castTop (ef_rmKeyInit2n m a1 ar) k
  have oz := OLD.1
  have lt_a1 : a1 < h0.size := P1.lt
  have lt_ar : ar < h0.size := P4.lt
  have lt_x0 : x0 < h0.size := P5.lt
  refine own_go (B := s₁.setTop (mkF m 0 #[.val (.ref a1), .val (.ref ar)] [])) pre0 ?_
  show ∃ t o, Steps p.tables e below (s₁.setTop (mkF m 0 #[.val (.ref a1), .val (.ref ar)] [])) t ∧ _
  refine own_go (fun _ => XS.aloadN X0.here hx rfl (hb hby d4_0) rfl rfl) ?_
  show ∃ t o, Steps p.tables e below (s₁.setTop (mkF m 1 #[.val (.ref a1), .val (.ref ar)] [(.ref a1)])) t ∧ _
  obtain ⟨T7, X7, e7, st7⟩ := initO X0 hx hZ hown (hw _ (List.mem_of_getElem? (i := 26) rfl)) (hw _ (List.mem_of_getElem? (i := 27) rfl)) (hw _ (List.mem_of_getElem? (i := 28) rfl)) e0 (g := (mkF m 1 #[.val (.ref a1), .val (.ref ar)] [(.ref a1)])) rfl (by rw [hml]; rfl) rfl (hb hby d4_1) (by decide) (W := 0) (by show 2 * 0 + _ ≤ _; exact Nat.le_of_eq rfl) (by decide)
  refine own_go st7 ?_
  show ∃ t o, Steps p.tables e below (T7.setTop (mkF m 4 #[.val (.ref a1), .val (.ref ar)] [])) t ∧ _
  refine own_go (fun _ => XS.aloadN X7.here hx rfl (hb hby d4_4) rfl rfl) ?_
  show ∃ t o, Steps p.tables e below (T7.setTop (mkF m 5 #[.val (.ref a1), .val (.ref ar)] [(.ref a1)])) t ∧ _
  refine own_go (fun _ => XS.aloadN X7.here hx rfl (hb hby d4_5) rfl rfl) ?_
  show ∃ t o, Steps p.tables e below (T7.setTop (mkF m 6 #[.val (.ref a1), .val (.ref ar)] [(.ref ar), (.ref a1)])) t ∧ _
  obtain ⟨T8, h8, X8, e8, W8, st8⟩ := putF X7 hx hZ hown (host := "") (Or.inl (hw _ (List.mem_of_getElem? (i := 29) rfl))) Via.refl e7 P2 P1 (Or.inr ⟨(hw _ (List.mem_of_getElem? (i := 30) rfl)), rfl, hnm⟩) (hw _ (List.mem_of_getElem? (i := 22) rfl)) (ty := (.array (.object "java/lang/Object"))) (by decide) rfl rfl (g := (mkF m 6 #[.val (.ref a1), .val (.ref ar)] [(.ref ar), (.ref a1)])) rfl rfl (hb hby d4_6)
  refine own_go st8 ?_
  have le_8 : h0.size ≤ h8.size := Nat.le_of_eq W8.size.symm
  have K8 : Keep h0 h8 [a1] := Keep.wr (Keep.refl h0 [a1]) W8 (Or.inl (List.mem_of_getElem? (i := 0) rfl))
  have N8 := Fr.snoc X8 N0 ga
  have Fw8 := Fld.same W8 P2
  show ∃ t o, Steps p.tables e below (T8.setTop (mkF m 9 #[.val (.ref a1), .val (.ref ar)] [])) t ∧ _
  refine own_go (fun _ => XS.aloadN X8.here hx rfl (hb hby d4_9) rfl rfl) ?_
  show ∃ t o, Steps p.tables e below (T8.setTop (mkF m 10 #[.val (.ref a1), .val (.ref ar)] [(.ref a1)])) t ∧ _
  refine own_go (fun _ => XS.aloadN X8.here hx rfl (hb hby d4_10) rfl rfl) ?_
  show ∃ t o, Steps p.tables e below (T8.setTop (mkF m 11 #[.val (.ref a1), .val (.ref ar)] [(.ref ar), (.ref a1)])) t ∧ _
  have F9 : Arv Z h8 ar kk (.object "java/lang/Object") (2 : Int32) [(.ref x0), .null] .null := (Arv.other P4 W8 na)
  have F10 : Exa Z h8 x0 "java/lang/Integer" := (Exa.wr W8 P5)
  have F11 : Fld Z h8 x0 "java/lang/Integer" "value" "I" (.int r0) := (Fld.other W8 P6 (Or.inl nx0))
  have F12 : Old Z n0 h8 := (Old.wr OLD W8 ga)
  have zl13 : n0 ≤ h8.size := by omega
  obtain ⟨_, _, ⟨T14, L14, k14, n14⟩, -, X14, ⟨Lc14, hQ14, l14, y14, z14⟩, st14⟩ := Jvm.LawKit.callS X8 hx (y := (⟨"java/util/Arrays", "hashCode", "([Ljava/lang/Object;)I"⟩ : MethodName)) hown (mvT hZ (hw _ (List.mem_of_getElem? (i := 31) rfl))) (mvT hZ (hw _ (List.mem_of_getElem? (i := 32) rfl))) (mvT hZ (hw _ (List.mem_of_getElem? (i := 33) rfl))) (mvT hZ (hw _ (List.mem_of_getElem? (i := 34) rfl))) (by decide) (backOf (W := 1) (rmHash2n l Z a0 hw [] ar kk x0 r0 h8 n0 zl13 F9 F10 F11 F12) hZ (hw _ (List.mem_of_getElem? (i := 34) rfl)) (hw _ (List.mem_of_getElem? (i := 33) rfl)) (by decide) (by decide)) (g := (mkF m 11 #[.val (.ref a1), .val (.ref ar)] [(.ref ar), (.ref a1)])) rfl (by rw [hml]; rfl) (argsL := [(.ref ar)]) (rest := [(.ref a1)]) (lenOf pd__28_5bLjava_2flang_2fObject_3b_29I rfl) rfl (by show 2 * 0 + _ ≤ _; exact Nat.le_of_eq rfl) (hb hby d4_11) (fun _ _ => ⟨rfl, e8, (by decide : 0 + 0 ≤ _), (by decide : 0 + 0 ≤ _)⟩)
  dsimp only [Pt.U, Pt.locs, Pt.cells, Pt.slots] at X14 l14 y14 z14 st14 hQ14
  subst l14 y14 z14
  obtain ⟨rh_14, rfl, Nq14, e14⟩ := hQ14
  have N14 := Fr.app N8 Nq14
  refine own_go st14 ?_
  show ∃ t o, Steps p.tables e below (T14.setTop (mkF m 14 #[.val (.ref a1), .val (.ref ar)] [(.int rh_14), (.ref a1)])) t ∧ _
  have F15 : Exa Z h8 a1 "com/example/planwright/planwright/plan/Key" := (Exa.wr W8 P1)
  have F16 : Fld Z h8 a1 "com/example/planwright/planwright/plan/Key" "hash" "I" (.int (0 : Int32)) := (Fld.other W8 P3 (Or.inr (slot_ne (a0 := a0) (Or.inr (hw _ (List.mem_of_getElem? (i := 36) rfl))) (Or.inr (hw _ (List.mem_of_getElem? (i := 30) rfl))) (by decide) (t := .int) (t' := (.array (.object "java/lang/Object"))) (by decide) (by decide))))
  obtain ⟨T17, h17, X17, e17, W17, st17⟩ := putF X14 hx hZ hown (host := "") (Or.inl (hw _ (List.mem_of_getElem? (i := 35) rfl))) Via.refl e14 F16 F15 (Or.inr ⟨(hw _ (List.mem_of_getElem? (i := 36) rfl)), rfl, hnm⟩) (hw _ (List.mem_of_getElem? (i := 22) rfl)) (ty := .int) (by decide) rfl rfl (g := (mkF m 14 #[.val (.ref a1), .val (.ref ar)] [(.int rh_14), (.ref a1)])) rfl rfl (hb hby d4_14)
  refine own_go st17 ?_
  have le_17 : h8.size ≤ h17.size := Nat.le_of_eq W17.size.symm
  have K17 : Keep h0 h17 [a1] := Keep.wr K8 W17 (Or.inl (List.mem_of_getElem? (i := 0) rfl))
  have N17 := Fr.snoc X17 N14 ga
  have Fw17 := Fld.same W17 F16
  show ∃ t o, Steps p.tables e below (T17.setTop (mkF m 17 #[.val (.ref a1), .val (.ref ar)] [])) t ∧ _
  have F18 : Exa Z h17 a1 "com/example/planwright/planwright/plan/Key" := (Exa.wr W17 F15)
  have F19 : Fld Z h17 a1 "com/example/planwright/planwright/plan/Key" "values" "[Ljava/lang/Object;" (.ref ar) := (Fld.other W17 Fw8 (Or.inr (slot_ne (a0 := a0) (Or.inr (hw _ (List.mem_of_getElem? (i := 30) rfl))) (Or.inr (hw _ (List.mem_of_getElem? (i := 36) rfl))) (by decide) (t := (.array (.object "java/lang/Object"))) (t' := .int) (by decide) (by decide))))
  obtain ⟨fs, hr, hrun, hended, hW, hsame⟩ := X17.leave (v := none) (fun _ => rfl)
  refine ⟨_, _, ?_, hrun, hended, _, _, rfl, ?_, ⟨_, rfl⟩, hW, hsame.mono (by decide) (by decide)⟩
  · exact X17.returnOut hx Bd.returns (hb hby d4_17) hr
  · show Q_rmKeyInit2n Z a1 ar kk x0 r0 h0 n0 _ T17.heap _
    rw [e17]
    exact ⟨rfl, N17, K17, F18, F19⟩
theorem ef_rmOf2n (m : MethodId) (x0 : Nat) : entryFrame m #[(.ref x0)] 1 = mkF m 0 #[.val (.ref x0)] [] := by first | (simp [entryFrame, mkF, argsToLocals, Value.category]; done) | rfl
def Q_rmOf2n (Z : State) (ar : Nat) (kk : ClassId) (x0 : Nat) (r0 : Int32) (h0 : Heap) (n0 : Nat) (v : Option Value) (h : Heap) (L : List Loc) : Prop := ∃ (b : Nat), v = some (.ref b) ∧ Fr n0 L ∧ Keep h0 h [] ∧ Exa Z h b "com/example/planwright/planwright/plan/Key" ∧ Fld Z h b "com/example/planwright/planwright/plan/Key" "values" "[Ljava/lang/Object;" (.ref ar) ∧ (h0.size ≤ b)
set_option maxRecDepth 65536 in
set_option maxHeartbeats 40000000 in
theorem rmOf2n (l : Launch) (Z : State) (a0 : Array Value) (hw : ∀ d ∈ tables_1, d.before a0 Z = true) (ws : List Jvm.Cond) (ar : Nat) (kk : ClassId) (x0 : Nat) (r0 : Int32) (h0 : Heap) (n0 : Nat) (Z0 : n0 ≤ h0.size) (P1 : Arv Z h0 ar kk (.object "java/lang/Object") (2 : Int32) [(.ref x0), .null] .null) (P2 : Exa Z h0 x0 "java/lang/Integer") (P3 : Fld Z h0 x0 "java/lang/Integer" "value" "I" (.int r0)) (OLD : Old Z n0 h0) :
    MetFree l (⟨"com/example/planwright/planwright/plan/Key", "of", "([Ljava/lang/Object;)Ljava/lang/Object;"⟩ : MethodName) (head1 (Jvm.Cond.code (⟨"com/example/planwright/planwright/plan/Key", "of", "([Ljava/lang/Object;)Ljava/lang/Object;"⟩ : MethodName) prog_66_method_2_code 1 (some (.object "java/lang/Object")) :: ws) ({ frames := 4, cells := 1, slots := 2, locals := 57 } : Room)) (fun a U => a = #[(.ref ar)] ∧ Z.Warmed39 U.vm ∧ U.heap = h0) (fun _ _ _ _ _ => True) (fun _ U o U' => ∃ v L, o = .returned v ∧ Q_rmOf2n Z ar kk x0 r0 h0 n0 v U'.heap L ∧ FrameEnd U o U' L ({ frames := 4, cells := 1, slots := 2, locals := 57 } : Room).cells ({ frames := 4, cells := 1, slots := 2, locals := 57 } : Room).slots) := by
  refine MetFree.of_bodySF (plainFor_of_name pn_com_example_planwright_planwright_plan_Key) hisR ?_
  intro p e s m args below meth c s₁ Bd hml0 hP hK
  obtain ⟨rfl, hZ, hh⟩ := hP
  have hx := Bd.exec
  have hby := Bd.bytes
  have hml : c.maxLocals = 1 := hml0
  have hown : s.vm.findClass "com/example/planwright/planwright/plan/Key" = some m.cls := findClass_of_methodNamed Bd.named
  have hnm := (name_of_methodNamed Bd.named Bd.method).1
  have X0 : Stand p l e ({ frames := 4, cells := 1, slots := 2, locals := 57 } : Room) s m #[(.ref ar)] below meth c s₁ [] 0 0 := Stand.of_body Bd
  have e0 : s₁.heap = h0 := by rw [← hh, Bd.state]; rfl
  have N0 := Fr.nil n0
  have pre0 : ∀ t, Steps p.tables e below (s₁.setTop (mkF m 0 #[.val (.ref ar)] [])) t → Steps p.tables e below (s₁.setTop (entryFrame m #[(.ref ar)] 1)) t := fun t k => castTop (ef_rmOf2n m ar) k
  have oz := OLD.1
  have lt_ar : ar < h0.size := P1.lt
  have lt_x0 : x0 < h0.size := P2.lt
  refine own_go (B := s₁.setTop (mkF m 0 #[.val (.ref ar)] [])) pre0 ?_
  show ∃ t o, Steps p.tables e below (s₁.setTop (mkF m 0 #[.val (.ref ar)] [])) t ∧ _
  refine own_go (fun _ => XS.aloadN X0.here hx rfl (hb hby d3_0) rfl rfl) ?_
  show ∃ t o, Steps p.tables e below (s₁.setTop (mkF m 1 #[.val (.ref ar)] [(.ref ar)])) t ∧ _
  obtain ⟨cl4, Ar4, q4, S4, N4, H4, G4⟩ := id P1
  have ln4 : cl4.slots.size.toInt32 = (2 : Int32) := len_of S4 N4
  have al4 := X0.arraylength hx (by rw [e0]; exact Ar4.1) (State.isArrayOf_alike hZ.alike Ar4.2.1) (g := (mkF m 1 #[.val (.ref ar)] [(.ref ar)])) rfl rfl (hb hby d3_1)
  rw [ln4] at al4
  refine own_go al4 ?_
  show ∃ t o, Steps p.tables e below (s₁.setTop (mkF m 2 #[.val (.ref ar)] [(.int (2 : Int32))])) t ∧ _
  refine own_go (fun _ => XS.iconst X0.here hx rfl (hb hby d3_2)) ?_
  show ∃ t o, Steps p.tables e below (s₁.setTop (mkF m 3 #[.val (.ref ar)] [(.int (1 : Int32)), (.int (2 : Int32))])) t ∧ _
  refine own_go (fun _ => XS.icmpYes X0.here hx rfl (pc0 := 3) (pc' := 12) rfl (hb hby d3_3) rfl (feq (by decide : ¬ ((2 : Int32) = (1 : Int32)))).2 (by decide) (by decide)) ?_
  show ∃ t o, Steps p.tables e below (s₁.setTop (mkF m 12 #[.val (.ref ar)] [])) t ∧ _
  obtain ⟨T5, h5, X5, e5, E5, A5, D5, -, st5⟩ := newO X0 hx hZ hown (hw _ (List.mem_of_getElem? (i := 21) rfl)) (hw _ (List.mem_of_getElem? (i := 22) rfl)) (hw _ (List.mem_of_getElem? (i := 19) rfl)) e0 (g := (mkF m 12 #[.val (.ref ar)] [])) rfl (hb hby d3_12) (by decide) (by decide)
  obtain ⟨b5, g5⟩ : ∃ z, z = h0.size := ⟨_, rfl⟩
  rw [← g5] at A5 D5 st5
  refine own_go st5 ?_
  have le_5 : h0.size ≤ h5.size := E5.1
  have lt_b5 : b5 < h5.size := A5.lt
  have F_values_b5 : Fld Z h5 b5 "com/example/planwright/planwright/plan/Key" "values" "[Ljava/lang/Object;" .null := D5 (Or.inr (hw _ (List.mem_of_getElem? (i := 30) rfl))) (ty := (.array (.object "java/lang/Object"))) (by decide)
  have F_hash_b5 : Fld Z h5 b5 "com/example/planwright/planwright/plan/Key" "hash" "I" (.int (0 : Int32)) := D5 (Or.inr (hw _ (List.mem_of_getElem? (i := 36) rfl))) (ty := .int) (by decide)
  have K5 : Keep h0 h5 [] := Keep.ext (Keep.refl h0 []) E5
  show ∃ t o, Steps p.tables e below (T5.setTop (mkF m 15 #[.val (.ref ar)] [(.ref b5)])) t ∧ _
  refine own_go (fun _ => XS.dup X5.here hx rfl (hb hby d3_15) rfl rfl) ?_
  show ∃ t o, Steps p.tables e below (T5.setTop (mkF m 16 #[.val (.ref ar)] [(.ref b5), (.ref b5)])) t ∧ _
  refine own_go (fun _ => XS.aloadN X5.here hx rfl (hb hby d3_16) rfl rfl) ?_
  show ∃ t o, Steps p.tables e below (T5.setTop (mkF m 17 #[.val (.ref ar)] [(.ref ar), (.ref b5), (.ref b5)])) t ∧ _
  have F6 : Arv Z h5 ar kk (.object "java/lang/Object") (2 : Int32) [(.ref x0), .null] .null := (P1.ext E5)
  have F7 : Exa Z h5 x0 "java/lang/Integer" := (Exa.ext E5 P2)
  have F8 : Fld Z h5 x0 "java/lang/Integer" "value" "I" (.int r0) := (Fld.ext E5 P3)
  have F9 : Old Z n0 h5 := (OLD.ext E5)
  have ge10 : n0 ≤ b5 := by omega
  have ne11 : ar ≠ b5 := own_ne (by omega)
  have ne12 : x0 ≠ b5 := own_ne (by omega)
  have zl13 : n0 ≤ h5.size := by omega
  obtain ⟨_, _, ⟨T14, L14, k14, n14⟩, -, X14, ⟨Lc14, hQ14, l14, y14, z14⟩, st14⟩ := X5.specialBack hx (y := (⟨"com/example/planwright/planwright/plan/Key", "<init>", "([Ljava/lang/Object;)V"⟩ : MethodName)) rfl hown (mvT hZ (hw _ (List.mem_of_getElem? (i := 23) rfl))) (mvT hZ (hw _ (List.mem_of_getElem? (i := 24) rfl))) (mvT hZ (hw _ (List.mem_of_getElem? (i := 25) rfl))) (by decide) (backOf (W := 1) (rmKeyInit2n l Z a0 hw [] b5 ar kk x0 r0 h5 n0 zl13 A5 F_values_b5 F_hash_b5 F6 F7 F8 F9 ge10 ne11 ne12) hZ (hw _ (List.mem_of_getElem? (i := 25) rfl)) (hw _ (List.mem_of_getElem? (i := 19) rfl)) (by decide) (by decide)) (g := (mkF m 17 #[.val (.ref ar)] [(.ref ar), (.ref b5), (.ref b5)])) rfl (by rw [hml]; rfl) (Steps.refl _) (a := b5) (argsL := [(.ref ar)]) (rest := [(.ref b5)]) (lenOf pd__28_5bLjava_2flang_2fObject_3b_29V rfl) rfl (by show 2 * 0 + _ ≤ _; exact Nat.le_of_eq rfl) (hb hby d3_17) (fun _ _ => ⟨rfl, e5, (by decide : 1 + 0 ≤ _), (by decide : 2 + 0 ≤ _)⟩)
  dsimp only [Pt.U, Pt.locs, Pt.cells, Pt.slots] at X14 l14 y14 z14 st14 hQ14
  subst l14 y14 z14
  obtain ⟨rfl, Nq14, Kp14, G14_0, G14_1⟩ := hQ14
  have N14 := Fr.app N0 Nq14
  refine own_goT st14 ?_
  have le_14 : h5.size ≤ T14.heap.size := Kp14.1
  have sz15 : h0.size ≤ b5 := by omega
  have K14 : Keep h0 T14.heap [] := Keep.trans K5 Kp14 (allS (Or.inr sz15) all0)
  show ∃ t o, Steps p.tables e below (T14.setTop (mkF m 20 #[.val (.ref ar)] [(.ref b5)])) t ∧ _
  obtain ⟨fs, hr, hrun, hended, hW, hsame⟩ := X14.leave (v := some (.ref b5)) (fun h => by rw [Bd.returns] at h; cases h)
  refine ⟨_, _, ?_, hrun, hended, _, _, rfl, ?_, ⟨_, rfl⟩, hW, hsame.mono (by decide) (by decide)⟩
  · jvm_step X14.here [X14.here.top, hx, (hb hby d3_20), X14.method', Bd.returns, Value.isRef, FieldType.isReference]
    first | (intro acts; rw [hr _ acts rfl rfl rfl]) | rw [hr _ _ rfl rfl rfl]
    exact Steps.refl _
  · show Q_rmOf2n Z ar kk x0 r0 h0 n0 _ T14.heap _
    exact ⟨b5, rfl, N14, K14, G14_0, G14_1, (by omega)⟩
theorem ef_rmVals2n (m : MethodId) (x0 : Nat) (x1 : Int32) : entryFrame m #[(.ref x0), (.int x1)] 2 = mkF m 0 #[.val (.ref x0), .val (.int x1)] [] := by first | (simp [entryFrame, mkF, argsToLocals, Value.category]; done) | rfl
def Q_rmVals2n (Z : State) (ko : Nat) (ar : Nat) (kk : ClassId) (x0 : Nat) (h0 : Heap) (n0 : Nat) (v : Option Value) (h : Heap) (L : List Loc) : Prop := ∃ (b : Nat), v = some (.ref b) ∧ Fr n0 L ∧ Keep h0 h [] ∧ Arv Z h b kk (.object "java/lang/Object") (2 : Int32) [(.ref x0), .null] .null ∧ (h0.size ≤ b)
set_option maxRecDepth 65536 in
set_option maxHeartbeats 40000000 in
theorem rmVals2n (l : Launch) (Z : State) (a0 : Array Value) (hw : ∀ d ∈ tables_1, d.before a0 Z = true) (ws : List Jvm.Cond) (ko : Nat) (ar : Nat) (kk : ClassId) (x0 : Nat) (h0 : Heap) (n0 : Nat) (Z0 : n0 ≤ h0.size) (P1 : Exa Z h0 ko "com/example/planwright/planwright/plan/Key") (P2 : Fld Z h0 ko "com/example/planwright/planwright/plan/Key" "values" "[Ljava/lang/Object;" (.ref ar)) (P3 : Arv Z h0 ar kk (.object "java/lang/Object") (2 : Int32) [(.ref x0), .null] .null) (P4 : Exa Z h0 ar "[Ljava/lang/Object;") (OLD : Old Z n0 h0) :
    MetFree l (⟨"com/example/planwright/planwright/plan/Key", "values", "(Ljava/lang/Object;I)[Ljava/lang/Object;"⟩ : MethodName) (head1 (Jvm.Cond.code (⟨"com/example/planwright/planwright/plan/Key", "values", "(Ljava/lang/Object;I)[Ljava/lang/Object;"⟩ : MethodName) prog_66_method_3_code 2 (some (.array (.object "java/lang/Object"))) :: ws) ({ frames := 1, cells := 1, slots := 2, locals := 14 } : Room)) (fun a U => a = #[(.ref ko), (.int (2 : Int32))] ∧ Z.Warmed39 U.vm ∧ U.heap = h0) (fun _ _ _ _ _ => True) (fun _ U o U' => ∃ v L, o = .returned v ∧ Q_rmVals2n Z ko ar kk x0 h0 n0 v U'.heap L ∧ FrameEnd U o U' L ({ frames := 1, cells := 1, slots := 2, locals := 14 } : Room).cells ({ frames := 1, cells := 1, slots := 2, locals := 14 } : Room).slots) := by
  refine MetFree.of_bodySF (plainFor_of_name pn_com_example_planwright_planwright_plan_Key) hisR ?_
  intro p e s m args below meth c s₁ Bd hml0 hP hK
  obtain ⟨rfl, hZ, hh⟩ := hP
  have hx := Bd.exec
  have hby := Bd.bytes
  have hml : c.maxLocals = 2 := hml0
  have hown : s.vm.findClass "com/example/planwright/planwright/plan/Key" = some m.cls := findClass_of_methodNamed Bd.named
  have hnm := (name_of_methodNamed Bd.named Bd.method).1
  have X0 : Stand p l e ({ frames := 1, cells := 1, slots := 2, locals := 14 } : Room) s m #[(.ref ko), (.int (2 : Int32))] below meth c s₁ [] 0 0 := Stand.of_body Bd
  have e0 : s₁.heap = h0 := by rw [← hh, Bd.state]; rfl
  have N0 := Fr.nil n0
  have pre0 : ∀ t, Steps p.tables e below (s₁.setTop (mkF m 0 #[.val (.ref ko), .val (.int (2 : Int32))] [])) t → Steps p.tables e below (s₁.setTop (entryFrame m #[(.ref ko), (.int (2 : Int32))] 2)) t := fun t k => castTop (ef_rmVals2n m ko (2 : Int32)) k
  have oz := OLD.1
  have lt_ar : ar < h0.size := P3.lt
  have lt_ko : ko < h0.size := P1.lt
  refine own_go (B := s₁.setTop (mkF m 0 #[.val (.ref ko), .val (.int (2 : Int32))] [])) pre0 ?_
  show ∃ t o, Steps p.tables e below (s₁.setTop (mkF m 0 #[.val (.ref ko), .val (.int (2 : Int32))] [])) t ∧ _
  refine own_go (fun _ => XS.iloadN X0.here hx rfl (hb hby d7_0) rfl) ?_
  show ∃ t o, Steps p.tables e below (s₁.setTop (mkF m 1 #[.val (.ref ko), .val (.int (2 : Int32))] [(.int (2 : Int32))])) t ∧ _
  refine own_go (fun _ => XS.iconst X0.here hx rfl (hb hby d7_1)) ?_
  show ∃ t o, Steps p.tables e below (s₁.setTop (mkF m 2 #[.val (.ref ko), .val (.int (2 : Int32))] [(.int (1 : Int32)), (.int (2 : Int32))])) t ∧ _
  refine own_go (fun _ => XS.icmpYes X0.here hx rfl (pc0 := 2) (pc' := 16) rfl (hb hby d7_2) rfl (feq (by decide : ¬ ((2 : Int32) = (1 : Int32)))).2 (by decide) (by decide)) ?_
  show ∃ t o, Steps p.tables e below (s₁.setTop (mkF m 16 #[.val (.ref ko), .val (.int (2 : Int32))] [])) t ∧ _
  refine own_go (fun _ => XS.aloadN X0.here hx rfl (hb hby d7_16) rfl rfl) ?_
  show ∃ t o, Steps p.tables e below (s₁.setTop (mkF m 17 #[.val (.ref ko), .val (.int (2 : Int32))] [(.ref ko)])) t ∧ _
  obtain ⟨T5, X5, e5, st5⟩ := castY X0 hx hZ hown (hw _ (List.mem_of_getElem? (i := 21) rfl)) e0 (Ins.self P1) (g := (mkF m 17 #[.val (.ref ko), .val (.int (2 : Int32))] [(.ref ko)])) rfl rfl (hb hby d7_17)
  refine own_go st5 ?_
  show ∃ t o, Steps p.tables e below (T5.setTop (mkF m 20 #[.val (.ref ko), .val (.int (2 : Int32))] [(.ref ko)])) t ∧ _
  obtain ⟨T6, X6, e6, st6⟩ := getF X5 hx hZ hown (host := "") (Or.inl (hw _ (List.mem_of_getElem? (i := 29) rfl))) Via.refl e5 P2 (g := (mkF m 20 #[.val (.ref ko), .val (.int (2 : Int32))] [(.ref ko)])) rfl rfl (hb hby d7_20)
  refine own_go st6 ?_
  show ∃ t o, Steps p.tables e below (T6.setTop (mkF m 23 #[.val (.ref ko), .val (.int (2 : Int32))] [(.ref ar)])) t ∧ _
  obtain ⟨T7, h7, X7, e7, E7, A7, Q7, st7⟩ := cloneH X6 hx hZ hown (hw _ (List.mem_of_getElem? (i := 41) rfl)) (hw _ (List.mem_of_getElem? (i := 42) rfl)) (hw _ (List.mem_of_getElem? (i := 46) rfl)) (hw _ (List.mem_of_getElem? (i := 44) rfl)) (hw _ (List.mem_of_getElem? (i := 45) rfl)) (hw _ (List.mem_of_getElem? (i := 47) rfl)) e6 (Arv.arh P3) P4 (g := (mkF m 23 #[.val (.ref ko), .val (.int (2 : Int32))] [(.ref ar)])) rfl (by rw [hml]; rfl) rfl (hb hby d7_23) (by decide) (W := 0) (cap := 2) (by show 2 * 0 + _ ≤ _; exact Nat.le_of_eq rfl) (by decide) (by decide) (by decide) (by decide)
  obtain ⟨b7, g7⟩ : ∃ z, z = h0.size := ⟨_, rfl⟩
  rw [← g7] at A7 Q7 st7
  refine own_go st7 ?_
  have le_7 : h0.size ≤ h7.size := E7.1
  have V_b7 : Arv Z h7 b7 kk (.object "java/lang/Object") (2 : Int32) [(.ref x0), .null] .null := A7
  have lt_b7 : b7 < h7.size := V_b7.lt
  have K7 : Keep h0 h7 [] := Keep.ext (Keep.refl h0 []) E7
  show ∃ t o, Steps p.tables e below (T7.setTop (mkF m 26 #[.val (.ref ko), .val (.int (2 : Int32))] [(.ref b7)])) t ∧ _
  obtain ⟨T8, X8, e8, st8⟩ := castY X7 hx hZ hown (hw _ (List.mem_of_getElem? (i := 48) rfl)) e7 (Ins.self Q7) (g := (mkF m 26 #[.val (.ref ko), .val (.int (2 : Int32))] [(.ref b7)])) rfl rfl (hb hby d7_26)
  refine own_go st8 ?_
  show ∃ t o, Steps p.tables e below (T8.setTop (mkF m 29 #[.val (.ref ko), .val (.int (2 : Int32))] [(.ref b7)])) t ∧ _
  obtain ⟨fs, hr, hrun, hended, hW, hsame⟩ := X8.leave (v := some (.ref b7)) (fun h => by rw [Bd.returns] at h; cases h)
  refine ⟨_, _, ?_, hrun, hended, _, _, rfl, ?_, ⟨_, rfl⟩, hW, hsame.mono (by decide) (by decide)⟩
  · jvm_step X8.here [X8.here.top, hx, (hb hby d7_29), X8.method', Bd.returns, Value.isRef, FieldType.isReference]
    first | (intro acts; rw [hr _ acts rfl rfl rfl]) | rw [hr _ _ rfl rfl rfl]
    exact Steps.refl _
  · show Q_rmVals2n Z ko ar kk x0 h0 n0 _ T8.heap _
    rw [e8]
    exact ⟨b7, rfl, N0, K7, V_b7, (by omega)⟩
theorem ef_rmHash3 (m : MethodId) (x0 : Nat) : entryFrame m #[(.ref x0)] 6 = mkF m 0 #[.val (.ref x0), .unset, .unset, .unset, .unset, .unset] [] := by first | (simp [entryFrame, mkF, argsToLocals, Value.category]; done) | rfl
def Q_rmHash3 (Z : State) (ar : Nat) (kk : ClassId) (x0 : Nat) (r0 : Int32) (x1 : Nat) (r1 : Int32) (x2 : Nat) (r2 : Int64) (h0 : Heap) (n0 : Nat) (v : Option Value) (h : Heap) (L : List Loc) : Prop := ∃ (rh : Int32), v = some (.int rh) ∧ Fr n0 L ∧ h = h0
set_option maxRecDepth 65536 in
set_option maxHeartbeats 40000000 in
theorem rmHash3 (l : Launch) (Z : State) (a0 : Array Value) (hw : ∀ d ∈ tables_1, d.before a0 Z = true) (ws : List Jvm.Cond) (ar : Nat) (kk : ClassId) (x0 : Nat) (r0 : Int32) (x1 : Nat) (r1 : Int32) (x2 : Nat) (r2 : Int64) (h0 : Heap) (n0 : Nat) (Z0 : n0 ≤ h0.size) (P1 : Arv Z h0 ar kk (.object "java/lang/Object") (3 : Int32) [(.ref x0), (.ref x1), (.ref x2)] .null) (P2 : Exa Z h0 x0 "java/lang/Integer") (P3 : Fld Z h0 x0 "java/lang/Integer" "value" "I" (.int r0)) (P4 : Exa Z h0 x1 "java/lang/Integer") (P5 : Fld Z h0 x1 "java/lang/Integer" "value" "I" (.int r1)) (P6 : Exa Z h0 x2 "java/lang/Long") (P7 : Fld Z h0 x2 "java/lang/Long" "value" "J" (.long r2)) (OLD : Old Z n0 h0) :
    MetFree l (⟨"java/util/Arrays", "hashCode", "([Ljava/lang/Object;)I"⟩ : MethodName) (head1 (Jvm.Cond.code (⟨"java/util/Arrays", "hashCode", "([Ljava/lang/Object;)I"⟩ : MethodName) jdk_65_method_157_code 6 (some .int) :: ws) ({ frames := 2, cells := 0, slots := 0, locals := 26 } : Room)) (fun a U => a = #[(.ref ar)] ∧ Z.Warmed39 U.vm ∧ U.heap = h0) (fun _ _ _ _ _ => True) (fun _ U o U' => ∃ v L, o = .returned v ∧ Q_rmHash3 Z ar kk x0 r0 x1 r1 x2 r2 h0 n0 v U'.heap L ∧ FrameEnd U o U' L ({ frames := 2, cells := 0, slots := 0, locals := 26 } : Room).cells ({ frames := 2, cells := 0, slots := 0, locals := 26 } : Room).slots) := by
  refine MetFree.of_bodySF (plainFor_of_name pn_java_util_Arrays) hisR ?_
  intro p e s m args below meth c s₁ Bd hml0 hP hK
  obtain ⟨rfl, hZ, hh⟩ := hP
  have hx := Bd.exec
  have hby := Bd.bytes
  have hml : c.maxLocals = 6 := hml0
  have hown : s.vm.findClass "java/util/Arrays" = some m.cls := findClass_of_methodNamed Bd.named
  have hnm := (name_of_methodNamed Bd.named Bd.method).1
  have X0 : Stand p l e ({ frames := 2, cells := 0, slots := 0, locals := 26 } : Room) s m #[(.ref ar)] below meth c s₁ [] 0 0 := Stand.of_body Bd
  have e0 : s₁.heap = h0 := by rw [← hh, Bd.state]; rfl
  have N0 := Fr.nil n0
  have pre0 : ∀ t, Steps p.tables e below (s₁.setTop (mkF m 0 #[.val (.ref ar), .unset, .unset, .unset, .unset, .unset] [])) t → Steps p.tables e below (s₁.setTop (entryFrame m #[(.ref ar)] 6)) t := fun t k => castTop (ef_rmHash3 m ar) k
  have oz := OLD.1
  have lt_ar : ar < h0.size := P1.lt
  have lt_x0 : x0 < h0.size := P2.lt
  have lt_x1 : x1 < h0.size := P4.lt
  have lt_x2 : x2 < h0.size := P6.lt
  refine own_go (B := s₁.setTop (mkF m 0 #[.val (.ref ar), .unset, .unset, .unset, .unset, .unset] [])) pre0 ?_
  show ∃ t o, Steps p.tables e below (s₁.setTop (mkF m 0 #[.val (.ref ar), .unset, .unset, .unset, .unset, .unset] [])) t ∧ _
  refine own_go (fun _ => XS.aloadN X0.here hx rfl (hb hby d6_0) rfl rfl) ?_
  show ∃ t o, Steps p.tables e below (s₁.setTop (mkF m 1 #[.val (.ref ar), .unset, .unset, .unset, .unset, .unset] [(.ref ar)])) t ∧ _
  refine own_go (fun _ => XS.ifnonnullYes X0.here hx rfl (pc0 := 1) (pc' := 6) rfl (hb hby d6_1) rfl (by decide) (by decide)) ?_
  show ∃ t o, Steps p.tables e below (s₁.setTop (mkF m 6 #[.val (.ref ar), .unset, .unset, .unset, .unset, .unset] [])) t ∧ _
  refine own_go (fun _ => XS.iconst X0.here hx rfl (hb hby d6_6)) ?_
  show ∃ t o, Steps p.tables e below (s₁.setTop (mkF m 7 #[.val (.ref ar), .unset, .unset, .unset, .unset, .unset] [(.int (1 : Int32))])) t ∧ _
  refine own_go (fun _ => XS.istoreN X0.here hx rfl (hb hby d6_7) rfl (l' := #[.val (.ref ar), .val (.int (1 : Int32)), .unset, .unset, .unset, .unset]) rfl) ?_
  show ∃ t o, Steps p.tables e below (s₁.setTop (mkF m 8 #[.val (.ref ar), .val (.int (1 : Int32)), .unset, .unset, .unset, .unset] [])) t ∧ _
  refine own_go (fun _ => XS.aloadN X0.here hx rfl (hb hby d6_8) rfl rfl) ?_
  show ∃ t o, Steps p.tables e below (s₁.setTop (mkF m 9 #[.val (.ref ar), .val (.int (1 : Int32)), .unset, .unset, .unset, .unset] [(.ref ar)])) t ∧ _
  refine own_go (fun _ => XS.astoreN X0.here hx rfl (hb hby d6_9) rfl rfl (l' := #[.val (.ref ar), .val (.int (1 : Int32)), .val (.ref ar), .unset, .unset, .unset]) rfl) ?_
  show ∃ t o, Steps p.tables e below (s₁.setTop (mkF m 10 #[.val (.ref ar), .val (.int (1 : Int32)), .val (.ref ar), .unset, .unset, .unset] [])) t ∧ _
  refine own_go (fun _ => XS.aloadN X0.here hx rfl (hb hby d6_10) rfl rfl) ?_
  show ∃ t o, Steps p.tables e below (s₁.setTop (mkF m 11 #[.val (.ref ar), .val (.int (1 : Int32)), .val (.ref ar), .unset, .unset, .unset] [(.ref ar)])) t ∧ _
  obtain ⟨cl8, Ar8, q8, S8, N8, H8, G8⟩ := id P1
  have ln8 : cl8.slots.size.toInt32 = (3 : Int32) := len_of S8 N8
  have al8 := X0.arraylength hx (by rw [e0]; exact Ar8.1) (State.isArrayOf_alike hZ.alike Ar8.2.1) (g := (mkF m 11 #[.val (.ref ar), .val (.int (1 : Int32)), .val (.ref ar), .unset, .unset, .unset] [(.ref ar)])) rfl rfl (hb hby d6_11)
  rw [ln8] at al8
  refine own_go al8 ?_
  show ∃ t o, Steps p.tables e below (s₁.setTop (mkF m 12 #[.val (.ref ar), .val (.int (1 : Int32)), .val (.ref ar), .unset, .unset, .unset] [(.int (3 : Int32))])) t ∧ _
  refine own_go (fun _ => XS.istoreN X0.here hx rfl (hb hby d6_12) rfl (l' := #[.val (.ref ar), .val (.int (1 : Int32)), .val (.ref ar), .val (.int (3 : Int32)), .unset, .unset]) rfl) ?_
  show ∃ t o, Steps p.tables e below (s₁.setTop (mkF m 13 #[.val (.ref ar), .val (.int (1 : Int32)), .val (.ref ar), .val (.int (3 : Int32)), .unset, .unset] [])) t ∧ _
  refine own_go (fun _ => XS.iconst X0.here hx rfl (hb hby d6_13)) ?_
  show ∃ t o, Steps p.tables e below (s₁.setTop (mkF m 14 #[.val (.ref ar), .val (.int (1 : Int32)), .val (.ref ar), .val (.int (3 : Int32)), .unset, .unset] [(.int (0 : Int32))])) t ∧ _
  refine own_go (fun _ => XS.istore X0.here hx rfl (hb hby d6_14) rfl (l' := #[.val (.ref ar), .val (.int (1 : Int32)), .val (.ref ar), .val (.int (3 : Int32)), .val (.int (0 : Int32)), .unset]) rfl) ?_
  show ∃ t o, Steps p.tables e below (s₁.setTop (mkF m 16 #[.val (.ref ar), .val (.int (1 : Int32)), .val (.ref ar), .val (.int (3 : Int32)), .val (.int (0 : Int32)), .unset] [])) t ∧ _
  refine own_go (fun _ => XS.iload X0.here hx rfl (hb hby d6_16) rfl) ?_
  show ∃ t o, Steps p.tables e below (s₁.setTop (mkF m 18 #[.val (.ref ar), .val (.int (1 : Int32)), .val (.ref ar), .val (.int (3 : Int32)), .val (.int (0 : Int32)), .unset] [(.int (0 : Int32))])) t ∧ _
  refine own_go (fun _ => XS.iloadN X0.here hx rfl (hb hby d6_18) rfl) ?_
  show ∃ t o, Steps p.tables e below (s₁.setTop (mkF m 19 #[.val (.ref ar), .val (.int (1 : Int32)), .val (.ref ar), .val (.int (3 : Int32)), .val (.int (0 : Int32)), .unset] [(.int (3 : Int32)), (.int (0 : Int32))])) t ∧ _
  refine own_go (fun _ => XS.icmpNo X0.here hx rfl (hb hby d6_19) rfl (tlt (by decide : (0 : Int32) < (3 : Int32))).2.1) ?_
  show ∃ t o, Steps p.tables e below (s₁.setTop (mkF m 22 #[.val (.ref ar), .val (.int (1 : Int32)), .val (.ref ar), .val (.int (3 : Int32)), .val (.int (0 : Int32)), .unset] [])) t ∧ _
  refine own_go (fun _ => XS.aloadN X0.here hx rfl (hb hby d6_22) rfl rfl) ?_
  show ∃ t o, Steps p.tables e below (s₁.setTop (mkF m 23 #[.val (.ref ar), .val (.int (1 : Int32)), .val (.ref ar), .val (.int (3 : Int32)), .val (.int (0 : Int32)), .unset] [(.ref ar)])) t ∧ _
  refine own_go (fun _ => XS.iload X0.here hx rfl (hb hby d6_23) rfl) ?_
  show ∃ t o, Steps p.tables e below (s₁.setTop (mkF m 25 #[.val (.ref ar), .val (.int (1 : Int32)), .val (.ref ar), .val (.int (3 : Int32)), .val (.int (0 : Int32)), .unset] [(.int (0 : Int32)), (.ref ar)])) t ∧ _
  obtain ⟨cl9, Ar9, q9, S9, N9, H9, G9⟩ := id P1
  have hin9 : ¬ ((0 : Int32) < 0 ∨ cl9.slots.size ≤ ((0 : Int32)).toNatClampNeg) := inb_of S9 ⟨by decide, by decide⟩
  have hat9 : cl9.slots[((0 : Int32)).toNatClampNeg]? = some (.ref x0) := Has.at H9 hin9 rfl
  refine own_go (fun _ => X0.aaload hx (j := (0 : Int32)) (v := (.ref x0)) (by rw [e0]; exact Ar9.1) (State.isArrayOf_alike hZ.alike Ar9.2.1) rfl Ar9.2.2 hin9 hat9 (g := (mkF m 25 #[.val (.ref ar), .val (.int (1 : Int32)), .val (.ref ar), .val (.int (3 : Int32)), .val (.int (0 : Int32)), .unset] [(.int (0 : Int32)), (.ref ar)])) rfl rfl (hb hby d6_25) _) ?_
  show ∃ t o, Steps p.tables e below (s₁.setTop (mkF m 26 #[.val (.ref ar), .val (.int (1 : Int32)), .val (.ref ar), .val (.int (3 : Int32)), .val (.int (0 : Int32)), .unset] [(.ref x0)])) t ∧ _
  refine own_go (fun _ => XS.astore X0.here hx rfl (hb hby d6_26) rfl rfl (l' := #[.val (.ref ar), .val (.int (1 : Int32)), .val (.ref ar), .val (.int (3 : Int32)), .val (.int (0 : Int32)), .val (.ref x0)]) rfl) ?_
  show ∃ t o, Steps p.tables e below (s₁.setTop (mkF m 28 #[.val (.ref ar), .val (.int (1 : Int32)), .val (.ref ar), .val (.int (3 : Int32)), .val (.int (0 : Int32)), .val (.ref x0)] [])) t ∧ _
  refine own_go (fun _ => XS.bipush X0.here hx rfl (hb hby d6_28)) ?_
  show ∃ t o, Steps p.tables e below (s₁.setTop (mkF m 30 #[.val (.ref ar), .val (.int (1 : Int32)), .val (.ref ar), .val (.int (3 : Int32)), .val (.int (0 : Int32)), .val (.ref x0)] [(.int (31 : Int32))])) t ∧ _
  refine own_go (fun _ => XS.iloadN X0.here hx rfl (hb hby d6_30) rfl) ?_
  show ∃ t o, Steps p.tables e below (s₁.setTop (mkF m 31 #[.val (.ref ar), .val (.int (1 : Int32)), .val (.ref ar), .val (.int (3 : Int32)), .val (.int (0 : Int32)), .val (.ref x0)] [(.int (1 : Int32)), (.int (31 : Int32))])) t ∧ _
  refine own_go (fun _ => XS.imul X0.here hx rfl (hb hby d6_31) rfl) ?_
  show ∃ t o, Steps p.tables e below (s₁.setTop (mkF m 32 #[.val (.ref ar), .val (.int (1 : Int32)), .val (.ref ar), .val (.int (3 : Int32)), .val (.int (0 : Int32)), .val (.ref x0)] [(.int (31 : Int32))])) t ∧ _
  refine own_go (fun _ => XS.aload X0.here hx rfl (hb hby d6_32) rfl rfl) ?_
  show ∃ t o, Steps p.tables e below (s₁.setTop (mkF m 34 #[.val (.ref ar), .val (.int (1 : Int32)), .val (.ref ar), .val (.int (3 : Int32)), .val (.int (0 : Int32)), .val (.ref x0)] [(.ref x0), (.int (31 : Int32))])) t ∧ _
  refine own_go (fun _ => XS.ifnonnullYes X0.here hx rfl (pc0 := 34) (pc' := 41) rfl (hb hby d6_34) rfl (by decide) (by decide)) ?_
  show ∃ t o, Steps p.tables e below (s₁.setTop (mkF m 41 #[.val (.ref ar), .val (.int (1 : Int32)), .val (.ref ar), .val (.int (3 : Int32)), .val (.int (0 : Int32)), .val (.ref x0)] [(.int (31 : Int32))])) t ∧ _
  refine own_go (fun _ => XS.aload X0.here hx rfl (hb hby d6_41) rfl rfl) ?_
  show ∃ t o, Steps p.tables e below (s₁.setTop (mkF m 43 #[.val (.ref ar), .val (.int (1 : Int32)), .val (.ref ar), .val (.int (3 : Int32)), .val (.int (0 : Int32)), .val (.ref x0)] [(.ref x0), (.int (31 : Int32))])) t ∧ _
  obtain ⟨cq10, kq10, q10a, q10b, q10c⟩ := isOf hZ e0 P2
  obtain ⟨_, _, ⟨T10, L10, k10, n10⟩, -, X10, ⟨Lc10, hQ10, l10, y10, z10⟩, st10⟩ := X0.virtualBack hx (y := (⟨"java/lang/Object", "hashCode", "()I"⟩ : MethodName)) (z := (⟨"java/lang/Integer", "hashCode", "()I"⟩ : MethodName)) hown (mvT hZ (hw _ (List.mem_of_getElem? (i := 77) rfl))) (mvT hZ (hw _ (List.mem_of_getElem? (i := 78) rfl))) (own_nfo (args := #[]) (mvT hZ (hw _ (List.mem_of_getElem? (i := 45) rfl))) rfl) (mvT hZ (hw _ (List.mem_of_getElem? (i := 80) rfl))) (mvT hZ (hw _ (List.mem_of_getElem? (i := 81) rfl))) (by decide) (backOf (W := 1) (rmIHC l Z a0 hw [] x0 r0 h0 n0 Z0 P3 OLD) hZ (hw _ (List.mem_of_getElem? (i := 82) rfl)) (hw _ (List.mem_of_getElem? (i := 2) rfl)) (by decide) (by decide)) q10a q10c (g := (mkF m 43 #[.val (.ref ar), .val (.int (1 : Int32)), .val (.ref ar), .val (.int (3 : Int32)), .val (.int (0 : Int32)), .val (.ref x0)] [(.ref x0), (.int (31 : Int32))])) rfl (by rw [hml]; rfl) (Steps.refl _) (argsL := []) (rest := [(.int (31 : Int32))]) (lenOf pd__28_29I rfl) rfl (by show 2 * 0 + _ ≤ _; exact Nat.le_of_eq rfl) (hb hby d6_43) (fun _ _ => ⟨rfl, e0, (by decide : 0 + 0 ≤ _), (by decide : 0 + 0 ≤ _)⟩)
  dsimp only [Pt.U, Pt.locs, Pt.cells, Pt.slots] at X10 l10 y10 z10 st10 hQ10
  subst l10 y10 z10
  obtain ⟨rfl, Nq10, e10⟩ := hQ10
  have N10 := Fr.app N0 Nq10
  refine own_goT st10 ?_
  show ∃ t o, Steps p.tables e below (T10.setTop (mkF m 46 #[.val (.ref ar), .val (.int (1 : Int32)), .val (.ref ar), .val (.int (3 : Int32)), .val (.int (0 : Int32)), .val (.ref x0)] [(.int r0), (.int (31 : Int32))])) t ∧ _
  refine own_go (fun _ => XS.iadd X10.here hx rfl (hb hby d6_46) rfl) ?_
  show ∃ t o, Steps p.tables e below (T10.setTop (mkF m 47 #[.val (.ref ar), .val (.int (1 : Int32)), .val (.ref ar), .val (.int (3 : Int32)), .val (.int (0 : Int32)), .val (.ref x0)] [(.int ((31 : Int32) + r0))])) t ∧ _
  refine own_go (fun _ => XS.istoreN X10.here hx rfl (hb hby d6_47) rfl (l' := #[.val (.ref ar), .val (.int ((31 : Int32) + r0)), .val (.ref ar), .val (.int (3 : Int32)), .val (.int (0 : Int32)), .val (.ref x0)]) rfl) ?_
  show ∃ t o, Steps p.tables e below (T10.setTop (mkF m 48 #[.val (.ref ar), .val (.int ((31 : Int32) + r0)), .val (.ref ar), .val (.int (3 : Int32)), .val (.int (0 : Int32)), .val (.ref x0)] [])) t ∧ _
  refine own_go (fun _ => XS.iinc X10.here hx rfl (hb hby d6_48) rfl (l' := #[.val (.ref ar), .val (.int ((31 : Int32) + r0)), .val (.ref ar), .val (.int (3 : Int32)), .val (.int (1 : Int32)), .val (.ref x0)]) rfl) ?_
  show ∃ t o, Steps p.tables e below (T10.setTop (mkF m 51 #[.val (.ref ar), .val (.int ((31 : Int32) + r0)), .val (.ref ar), .val (.int (3 : Int32)), .val (.int (1 : Int32)), .val (.ref x0)] [])) t ∧ _
  refine own_go (fun _ => XS.goto X10.here hx rfl (pc0 := 51) (pc' := 16) rfl (hb hby d6_51) (by decide) (by decide)) ?_
  show ∃ t o, Steps p.tables e below (T10.setTop (mkF m 16 #[.val (.ref ar), .val (.int ((31 : Int32) + r0)), .val (.ref ar), .val (.int (3 : Int32)), .val (.int (1 : Int32)), .val (.ref x0)] [])) t ∧ _
  refine own_go (fun _ => XS.iload X10.here hx rfl (hb hby d6_16) rfl) ?_
  show ∃ t o, Steps p.tables e below (T10.setTop (mkF m 18 #[.val (.ref ar), .val (.int ((31 : Int32) + r0)), .val (.ref ar), .val (.int (3 : Int32)), .val (.int (1 : Int32)), .val (.ref x0)] [(.int (1 : Int32))])) t ∧ _
  refine own_go (fun _ => XS.iloadN X10.here hx rfl (hb hby d6_18) rfl) ?_
  show ∃ t o, Steps p.tables e below (T10.setTop (mkF m 19 #[.val (.ref ar), .val (.int ((31 : Int32) + r0)), .val (.ref ar), .val (.int (3 : Int32)), .val (.int (1 : Int32)), .val (.ref x0)] [(.int (3 : Int32)), (.int (1 : Int32))])) t ∧ _
  refine own_go (fun _ => XS.icmpNo X10.here hx rfl (hb hby d6_19) rfl (tlt (by decide : (1 : Int32) < (3 : Int32))).2.1) ?_
  show ∃ t o, Steps p.tables e below (T10.setTop (mkF m 22 #[.val (.ref ar), .val (.int ((31 : Int32) + r0)), .val (.ref ar), .val (.int (3 : Int32)), .val (.int (1 : Int32)), .val (.ref x0)] [])) t ∧ _
  refine own_go (fun _ => XS.aloadN X10.here hx rfl (hb hby d6_22) rfl rfl) ?_
  show ∃ t o, Steps p.tables e below (T10.setTop (mkF m 23 #[.val (.ref ar), .val (.int ((31 : Int32) + r0)), .val (.ref ar), .val (.int (3 : Int32)), .val (.int (1 : Int32)), .val (.ref x0)] [(.ref ar)])) t ∧ _
  refine own_go (fun _ => XS.iload X10.here hx rfl (hb hby d6_23) rfl) ?_
  show ∃ t o, Steps p.tables e below (T10.setTop (mkF m 25 #[.val (.ref ar), .val (.int ((31 : Int32) + r0)), .val (.ref ar), .val (.int (3 : Int32)), .val (.int (1 : Int32)), .val (.ref x0)] [(.int (1 : Int32)), (.ref ar)])) t ∧ _
  obtain ⟨cl11, Ar11, q11, S11, N11, H11, G11⟩ := id P1
  have hin11 : ¬ ((1 : Int32) < 0 ∨ cl11.slots.size ≤ ((1 : Int32)).toNatClampNeg) := inb_of S11 ⟨by decide, by decide⟩
  have hat11 : cl11.slots[((1 : Int32)).toNatClampNeg]? = some (.ref x1) := Has.at H11 hin11 rfl
  refine own_go (fun _ => X10.aaload hx (j := (1 : Int32)) (v := (.ref x1)) (by rw [e10]; exact Ar11.1) (State.isArrayOf_alike hZ.alike Ar11.2.1) rfl Ar11.2.2 hin11 hat11 (g := (mkF m 25 #[.val (.ref ar), .val (.int ((31 : Int32) + r0)), .val (.ref ar), .val (.int (3 : Int32)), .val (.int (1 : Int32)), .val (.ref x0)] [(.int (1 : Int32)), (.ref ar)])) rfl rfl (hb hby d6_25) _) ?_
  show ∃ t o, Steps p.tables e below (T10.setTop (mkF m 26 #[.val (.ref ar), .val (.int ((31 : Int32) + r0)), .val (.ref ar), .val (.int (3 : Int32)), .val (.int (1 : Int32)), .val (.ref x0)] [(.ref x1)])) t ∧ _
  refine own_go (fun _ => XS.astore X10.here hx rfl (hb hby d6_26) rfl rfl (l' := #[.val (.ref ar), .val (.int ((31 : Int32) + r0)), .val (.ref ar), .val (.int (3 : Int32)), .val (.int (1 : Int32)), .val (.ref x1)]) rfl) ?_
  show ∃ t o, Steps p.tables e below (T10.setTop (mkF m 28 #[.val (.ref ar), .val (.int ((31 : Int32) + r0)), .val (.ref ar), .val (.int (3 : Int32)), .val (.int (1 : Int32)), .val (.ref x1)] [])) t ∧ _
  refine own_go (fun _ => XS.bipush X10.here hx rfl (hb hby d6_28)) ?_
  show ∃ t o, Steps p.tables e below (T10.setTop (mkF m 30 #[.val (.ref ar), .val (.int ((31 : Int32) + r0)), .val (.ref ar), .val (.int (3 : Int32)), .val (.int (1 : Int32)), .val (.ref x1)] [(.int (31 : Int32))])) t ∧ _
  refine own_go (fun _ => XS.iloadN X10.here hx rfl (hb hby d6_30) rfl) ?_
  show ∃ t o, Steps p.tables e below (T10.setTop (mkF m 31 #[.val (.ref ar), .val (.int ((31 : Int32) + r0)), .val (.ref ar), .val (.int (3 : Int32)), .val (.int (1 : Int32)), .val (.ref x1)] [(.int ((31 : Int32) + r0)), (.int (31 : Int32))])) t ∧ _
  refine own_go (fun _ => XS.imul X10.here hx rfl (hb hby d6_31) rfl) ?_
  show ∃ t o, Steps p.tables e below (T10.setTop (mkF m 32 #[.val (.ref ar), .val (.int ((31 : Int32) + r0)), .val (.ref ar), .val (.int (3 : Int32)), .val (.int (1 : Int32)), .val (.ref x1)] [(.int ((31 : Int32) * ((31 : Int32) + r0)))])) t ∧ _
  refine own_go (fun _ => XS.aload X10.here hx rfl (hb hby d6_32) rfl rfl) ?_
  show ∃ t o, Steps p.tables e below (T10.setTop (mkF m 34 #[.val (.ref ar), .val (.int ((31 : Int32) + r0)), .val (.ref ar), .val (.int (3 : Int32)), .val (.int (1 : Int32)), .val (.ref x1)] [(.ref x1), (.int ((31 : Int32) * ((31 : Int32) + r0)))])) t ∧ _
  refine own_go (fun _ => XS.ifnonnullYes X10.here hx rfl (pc0 := 34) (pc' := 41) rfl (hb hby d6_34) rfl (by decide) (by decide)) ?_
  show ∃ t o, Steps p.tables e below (T10.setTop (mkF m 41 #[.val (.ref ar), .val (.int ((31 : Int32) + r0)), .val (.ref ar), .val (.int (3 : Int32)), .val (.int (1 : Int32)), .val (.ref x1)] [(.int ((31 : Int32) * ((31 : Int32) + r0)))])) t ∧ _
  refine own_go (fun _ => XS.aload X10.here hx rfl (hb hby d6_41) rfl rfl) ?_
  show ∃ t o, Steps p.tables e below (T10.setTop (mkF m 43 #[.val (.ref ar), .val (.int ((31 : Int32) + r0)), .val (.ref ar), .val (.int (3 : Int32)), .val (.int (1 : Int32)), .val (.ref x1)] [(.ref x1), (.int ((31 : Int32) * ((31 : Int32) + r0)))])) t ∧ _
  obtain ⟨cq12, kq12, q12a, q12b, q12c⟩ := isOf hZ e10 P4
  obtain ⟨_, _, ⟨T12, L12, k12, n12⟩, -, X12, ⟨Lc12, hQ12, l12, y12, z12⟩, st12⟩ := X10.virtualBack hx (y := (⟨"java/lang/Object", "hashCode", "()I"⟩ : MethodName)) (z := (⟨"java/lang/Integer", "hashCode", "()I"⟩ : MethodName)) hown (mvT hZ (hw _ (List.mem_of_getElem? (i := 77) rfl))) (mvT hZ (hw _ (List.mem_of_getElem? (i := 78) rfl))) (own_nfo (args := #[]) (mvT hZ (hw _ (List.mem_of_getElem? (i := 45) rfl))) rfl) (mvT hZ (hw _ (List.mem_of_getElem? (i := 80) rfl))) (mvT hZ (hw _ (List.mem_of_getElem? (i := 81) rfl))) (by decide) (backOf (W := 1) (rmIHC l Z a0 hw [] x1 r1 h0 n0 Z0 P5 OLD) hZ (hw _ (List.mem_of_getElem? (i := 82) rfl)) (hw _ (List.mem_of_getElem? (i := 2) rfl)) (by decide) (by decide)) q12a q12c (g := (mkF m 43 #[.val (.ref ar), .val (.int ((31 : Int32) + r0)), .val (.ref ar), .val (.int (3 : Int32)), .val (.int (1 : Int32)), .val (.ref x1)] [(.ref x1), (.int ((31 : Int32) * ((31 : Int32) + r0)))])) rfl (by rw [hml]; rfl) (Steps.refl _) (argsL := []) (rest := [(.int ((31 : Int32) * ((31 : Int32) + r0)))]) (lenOf pd__28_29I rfl) rfl (by show 2 * 0 + _ ≤ _; exact Nat.le_of_eq rfl) (hb hby d6_43) (fun _ _ => ⟨rfl, e10, (by decide : 0 + 0 ≤ _), (by decide : 0 + 0 ≤ _)⟩)
  dsimp only [Pt.U, Pt.locs, Pt.cells, Pt.slots] at X12 l12 y12 z12 st12 hQ12
  subst l12 y12 z12
  obtain ⟨rfl, Nq12, e12⟩ := hQ12
  have N12 := Fr.app N10 Nq12
  refine own_goT st12 ?_
  show ∃ t o, Steps p.tables e below (T12.setTop (mkF m 46 #[.val (.ref ar), .val (.int ((31 : Int32) + r0)), .val (.ref ar), .val (.int (3 : Int32)), .val (.int (1 : Int32)), .val (.ref x1)] [(.int r1), (.int ((31 : Int32) * ((31 : Int32) + r0)))])) t ∧ _
  refine own_go (fun _ => XS.iadd X12.here hx rfl (hb hby d6_46) rfl) ?_
  show ∃ t o, Steps p.tables e below (T12.setTop (mkF m 47 #[.val (.ref ar), .val (.int ((31 : Int32) + r0)), .val (.ref ar), .val (.int (3 : Int32)), .val (.int (1 : Int32)), .val (.ref x1)] [(.int (((31 : Int32) * ((31 : Int32) + r0)) + r1))])) t ∧ _
  refine own_go (fun _ => XS.istoreN X12.here hx rfl (hb hby d6_47) rfl (l' := #[.val (.ref ar), .val (.int (((31 : Int32) * ((31 : Int32) + r0)) + r1)), .val (.ref ar), .val (.int (3 : Int32)), .val (.int (1 : Int32)), .val (.ref x1)]) rfl) ?_
  show ∃ t o, Steps p.tables e below (T12.setTop (mkF m 48 #[.val (.ref ar), .val (.int (((31 : Int32) * ((31 : Int32) + r0)) + r1)), .val (.ref ar), .val (.int (3 : Int32)), .val (.int (1 : Int32)), .val (.ref x1)] [])) t ∧ _
  refine own_go (fun _ => XS.iinc X12.here hx rfl (hb hby d6_48) rfl (l' := #[.val (.ref ar), .val (.int (((31 : Int32) * ((31 : Int32) + r0)) + r1)), .val (.ref ar), .val (.int (3 : Int32)), .val (.int (2 : Int32)), .val (.ref x1)]) rfl) ?_
  show ∃ t o, Steps p.tables e below (T12.setTop (mkF m 51 #[.val (.ref ar), .val (.int (((31 : Int32) * ((31 : Int32) + r0)) + r1)), .val (.ref ar), .val (.int (3 : Int32)), .val (.int (2 : Int32)), .val (.ref x1)] [])) t ∧ _
  refine own_go (fun _ => XS.goto X12.here hx rfl (pc0 := 51) (pc' := 16) rfl (hb hby d6_51) (by decide) (by decide)) ?_
  show ∃ t o, Steps p.tables e below (T12.setTop (mkF m 16 #[.val (.ref ar), .val (.int (((31 : Int32) * ((31 : Int32) + r0)) + r1)), .val (.ref ar), .val (.int (3 : Int32)), .val (.int (2 : Int32)), .val (.ref x1)] [])) t ∧ _
  refine own_go (fun _ => XS.iload X12.here hx rfl (hb hby d6_16) rfl) ?_
  show ∃ t o, Steps p.tables e below (T12.setTop (mkF m 18 #[.val (.ref ar), .val (.int (((31 : Int32) * ((31 : Int32) + r0)) + r1)), .val (.ref ar), .val (.int (3 : Int32)), .val (.int (2 : Int32)), .val (.ref x1)] [(.int (2 : Int32))])) t ∧ _
  refine own_go (fun _ => XS.iloadN X12.here hx rfl (hb hby d6_18) rfl) ?_
  show ∃ t o, Steps p.tables e below (T12.setTop (mkF m 19 #[.val (.ref ar), .val (.int (((31 : Int32) * ((31 : Int32) + r0)) + r1)), .val (.ref ar), .val (.int (3 : Int32)), .val (.int (2 : Int32)), .val (.ref x1)] [(.int (3 : Int32)), (.int (2 : Int32))])) t ∧ _
  refine own_go (fun _ => XS.icmpNo X12.here hx rfl (hb hby d6_19) rfl (tlt (by decide : (2 : Int32) < (3 : Int32))).2.1) ?_
  show ∃ t o, Steps p.tables e below (T12.setTop (mkF m 22 #[.val (.ref ar), .val (.int (((31 : Int32) * ((31 : Int32) + r0)) + r1)), .val (.ref ar), .val (.int (3 : Int32)), .val (.int (2 : Int32)), .val (.ref x1)] [])) t ∧ _
  refine own_go (fun _ => XS.aloadN X12.here hx rfl (hb hby d6_22) rfl rfl) ?_
  show ∃ t o, Steps p.tables e below (T12.setTop (mkF m 23 #[.val (.ref ar), .val (.int (((31 : Int32) * ((31 : Int32) + r0)) + r1)), .val (.ref ar), .val (.int (3 : Int32)), .val (.int (2 : Int32)), .val (.ref x1)] [(.ref ar)])) t ∧ _
  refine own_go (fun _ => XS.iload X12.here hx rfl (hb hby d6_23) rfl) ?_
  show ∃ t o, Steps p.tables e below (T12.setTop (mkF m 25 #[.val (.ref ar), .val (.int (((31 : Int32) * ((31 : Int32) + r0)) + r1)), .val (.ref ar), .val (.int (3 : Int32)), .val (.int (2 : Int32)), .val (.ref x1)] [(.int (2 : Int32)), (.ref ar)])) t ∧ _
  obtain ⟨cl13, Ar13, q13, S13, N13, H13, G13⟩ := id P1
  have hin13 : ¬ ((2 : Int32) < 0 ∨ cl13.slots.size ≤ ((2 : Int32)).toNatClampNeg) := inb_of S13 ⟨by decide, by decide⟩
  have hat13 : cl13.slots[((2 : Int32)).toNatClampNeg]? = some (.ref x2) := Has.at H13 hin13 rfl
  refine own_go (fun _ => X12.aaload hx (j := (2 : Int32)) (v := (.ref x2)) (by rw [e12]; exact Ar13.1) (State.isArrayOf_alike hZ.alike Ar13.2.1) rfl Ar13.2.2 hin13 hat13 (g := (mkF m 25 #[.val (.ref ar), .val (.int (((31 : Int32) * ((31 : Int32) + r0)) + r1)), .val (.ref ar), .val (.int (3 : Int32)), .val (.int (2 : Int32)), .val (.ref x1)] [(.int (2 : Int32)), (.ref ar)])) rfl rfl (hb hby d6_25) _) ?_
  show ∃ t o, Steps p.tables e below (T12.setTop (mkF m 26 #[.val (.ref ar), .val (.int (((31 : Int32) * ((31 : Int32) + r0)) + r1)), .val (.ref ar), .val (.int (3 : Int32)), .val (.int (2 : Int32)), .val (.ref x1)] [(.ref x2)])) t ∧ _
  refine own_go (fun _ => XS.astore X12.here hx rfl (hb hby d6_26) rfl rfl (l' := #[.val (.ref ar), .val (.int (((31 : Int32) * ((31 : Int32) + r0)) + r1)), .val (.ref ar), .val (.int (3 : Int32)), .val (.int (2 : Int32)), .val (.ref x2)]) rfl) ?_
  show ∃ t o, Steps p.tables e below (T12.setTop (mkF m 28 #[.val (.ref ar), .val (.int (((31 : Int32) * ((31 : Int32) + r0)) + r1)), .val (.ref ar), .val (.int (3 : Int32)), .val (.int (2 : Int32)), .val (.ref x2)] [])) t ∧ _
  refine own_go (fun _ => XS.bipush X12.here hx rfl (hb hby d6_28)) ?_
  show ∃ t o, Steps p.tables e below (T12.setTop (mkF m 30 #[.val (.ref ar), .val (.int (((31 : Int32) * ((31 : Int32) + r0)) + r1)), .val (.ref ar), .val (.int (3 : Int32)), .val (.int (2 : Int32)), .val (.ref x2)] [(.int (31 : Int32))])) t ∧ _
  refine own_go (fun _ => XS.iloadN X12.here hx rfl (hb hby d6_30) rfl) ?_
  show ∃ t o, Steps p.tables e below (T12.setTop (mkF m 31 #[.val (.ref ar), .val (.int (((31 : Int32) * ((31 : Int32) + r0)) + r1)), .val (.ref ar), .val (.int (3 : Int32)), .val (.int (2 : Int32)), .val (.ref x2)] [(.int (((31 : Int32) * ((31 : Int32) + r0)) + r1)), (.int (31 : Int32))])) t ∧ _
  refine own_go (fun _ => XS.imul X12.here hx rfl (hb hby d6_31) rfl) ?_
  show ∃ t o, Steps p.tables e below (T12.setTop (mkF m 32 #[.val (.ref ar), .val (.int (((31 : Int32) * ((31 : Int32) + r0)) + r1)), .val (.ref ar), .val (.int (3 : Int32)), .val (.int (2 : Int32)), .val (.ref x2)] [(.int ((31 : Int32) * (((31 : Int32) * ((31 : Int32) + r0)) + r1)))])) t ∧ _
  refine own_go (fun _ => XS.aload X12.here hx rfl (hb hby d6_32) rfl rfl) ?_
  show ∃ t o, Steps p.tables e below (T12.setTop (mkF m 34 #[.val (.ref ar), .val (.int (((31 : Int32) * ((31 : Int32) + r0)) + r1)), .val (.ref ar), .val (.int (3 : Int32)), .val (.int (2 : Int32)), .val (.ref x2)] [(.ref x2), (.int ((31 : Int32) * (((31 : Int32) * ((31 : Int32) + r0)) + r1)))])) t ∧ _
  refine own_go (fun _ => XS.ifnonnullYes X12.here hx rfl (pc0 := 34) (pc' := 41) rfl (hb hby d6_34) rfl (by decide) (by decide)) ?_
  show ∃ t o, Steps p.tables e below (T12.setTop (mkF m 41 #[.val (.ref ar), .val (.int (((31 : Int32) * ((31 : Int32) + r0)) + r1)), .val (.ref ar), .val (.int (3 : Int32)), .val (.int (2 : Int32)), .val (.ref x2)] [(.int ((31 : Int32) * (((31 : Int32) * ((31 : Int32) + r0)) + r1)))])) t ∧ _
  refine own_go (fun _ => XS.aload X12.here hx rfl (hb hby d6_41) rfl rfl) ?_
  show ∃ t o, Steps p.tables e below (T12.setTop (mkF m 43 #[.val (.ref ar), .val (.int (((31 : Int32) * ((31 : Int32) + r0)) + r1)), .val (.ref ar), .val (.int (3 : Int32)), .val (.int (2 : Int32)), .val (.ref x2)] [(.ref x2), (.int ((31 : Int32) * (((31 : Int32) * ((31 : Int32) + r0)) + r1)))])) t ∧ _
  obtain ⟨cq14, kq14, q14a, q14b, q14c⟩ := isOf hZ e12 P6
  obtain ⟨_, _, ⟨T14, L14, k14, n14⟩, -, X14, ⟨Lc14, hQ14, l14, y14, z14⟩, st14⟩ := X12.virtualBack hx (y := (⟨"java/lang/Object", "hashCode", "()I"⟩ : MethodName)) (z := (⟨"java/lang/Long", "hashCode", "()I"⟩ : MethodName)) hown (mvT hZ (hw _ (List.mem_of_getElem? (i := 77) rfl))) (mvT hZ (hw _ (List.mem_of_getElem? (i := 78) rfl))) (own_nfo (args := #[]) (mvT hZ (hw _ (List.mem_of_getElem? (i := 45) rfl))) rfl) (mvT hZ (hw _ (List.mem_of_getElem? (i := 86) rfl))) (mvT hZ (hw _ (List.mem_of_getElem? (i := 87) rfl))) (by decide) (backOf (W := 1) (rmLHC l Z a0 hw [] x2 r2 h0 n0 Z0 P7 OLD) hZ (hw _ (List.mem_of_getElem? (i := 88) rfl)) (hw _ (List.mem_of_getElem? (i := 9) rfl)) (by decide) (by decide)) q14a q14c (g := (mkF m 43 #[.val (.ref ar), .val (.int (((31 : Int32) * ((31 : Int32) + r0)) + r1)), .val (.ref ar), .val (.int (3 : Int32)), .val (.int (2 : Int32)), .val (.ref x2)] [(.ref x2), (.int ((31 : Int32) * (((31 : Int32) * ((31 : Int32) + r0)) + r1)))])) rfl (by rw [hml]; rfl) (Steps.refl _) (argsL := []) (rest := [(.int ((31 : Int32) * (((31 : Int32) * ((31 : Int32) + r0)) + r1)))]) (lenOf pd__28_29I rfl) rfl (by show 2 * 0 + _ ≤ _; exact Nat.le_of_eq rfl) (hb hby d6_43) (fun _ _ => ⟨rfl, e12, (by decide : 0 + 0 ≤ _), (by decide : 0 + 0 ≤ _)⟩)
  dsimp only [Pt.U, Pt.locs, Pt.cells, Pt.slots] at X14 l14 y14 z14 st14 hQ14
  subst l14 y14 z14
  obtain ⟨rh_14, rfl, Nq14, e14⟩ := hQ14
  have N14 := Fr.app N12 Nq14
  refine own_goT st14 ?_
  show ∃ t o, Steps p.tables e below (T14.setTop (mkF m 46 #[.val (.ref ar), .val (.int (((31 : Int32) * ((31 : Int32) + r0)) + r1)), .val (.ref ar), .val (.int (3 : Int32)), .val (.int (2 : Int32)), .val (.ref x2)] [(.int rh_14), (.int ((31 : Int32) * (((31 : Int32) * ((31 : Int32) + r0)) + r1)))])) t ∧ _
  refine own_go (fun _ => XS.iadd X14.here hx rfl (hb hby d6_46) rfl) ?_
  show ∃ t o, Steps p.tables e below (T14.setTop (mkF m 47 #[.val (.ref ar), .val (.int (((31 : Int32) * ((31 : Int32) + r0)) + r1)), .val (.ref ar), .val (.int (3 : Int32)), .val (.int (2 : Int32)), .val (.ref x2)] [(.int (((31 : Int32) * (((31 : Int32) * ((31 : Int32) + r0)) + r1)) + rh_14))])) t ∧ _
  refine own_go (fun _ => XS.istoreN X14.here hx rfl (hb hby d6_47) rfl (l' := #[.val (.ref ar), .val (.int (((31 : Int32) * (((31 : Int32) * ((31 : Int32) + r0)) + r1)) + rh_14)), .val (.ref ar), .val (.int (3 : Int32)), .val (.int (2 : Int32)), .val (.ref x2)]) rfl) ?_
  show ∃ t o, Steps p.tables e below (T14.setTop (mkF m 48 #[.val (.ref ar), .val (.int (((31 : Int32) * (((31 : Int32) * ((31 : Int32) + r0)) + r1)) + rh_14)), .val (.ref ar), .val (.int (3 : Int32)), .val (.int (2 : Int32)), .val (.ref x2)] [])) t ∧ _
  refine own_go (fun _ => XS.iinc X14.here hx rfl (hb hby d6_48) rfl (l' := #[.val (.ref ar), .val (.int (((31 : Int32) * (((31 : Int32) * ((31 : Int32) + r0)) + r1)) + rh_14)), .val (.ref ar), .val (.int (3 : Int32)), .val (.int (3 : Int32)), .val (.ref x2)]) rfl) ?_
  show ∃ t o, Steps p.tables e below (T14.setTop (mkF m 51 #[.val (.ref ar), .val (.int (((31 : Int32) * (((31 : Int32) * ((31 : Int32) + r0)) + r1)) + rh_14)), .val (.ref ar), .val (.int (3 : Int32)), .val (.int (3 : Int32)), .val (.ref x2)] [])) t ∧ _
  refine own_go (fun _ => XS.goto X14.here hx rfl (pc0 := 51) (pc' := 16) rfl (hb hby d6_51) (by decide) (by decide)) ?_
  show ∃ t o, Steps p.tables e below (T14.setTop (mkF m 16 #[.val (.ref ar), .val (.int (((31 : Int32) * (((31 : Int32) * ((31 : Int32) + r0)) + r1)) + rh_14)), .val (.ref ar), .val (.int (3 : Int32)), .val (.int (3 : Int32)), .val (.ref x2)] [])) t ∧ _
  refine own_go (fun _ => XS.iload X14.here hx rfl (hb hby d6_16) rfl) ?_
  show ∃ t o, Steps p.tables e below (T14.setTop (mkF m 18 #[.val (.ref ar), .val (.int (((31 : Int32) * (((31 : Int32) * ((31 : Int32) + r0)) + r1)) + rh_14)), .val (.ref ar), .val (.int (3 : Int32)), .val (.int (3 : Int32)), .val (.ref x2)] [(.int (3 : Int32))])) t ∧ _
  refine own_go (fun _ => XS.iloadN X14.here hx rfl (hb hby d6_18) rfl) ?_
  show ∃ t o, Steps p.tables e below (T14.setTop (mkF m 19 #[.val (.ref ar), .val (.int (((31 : Int32) * (((31 : Int32) * ((31 : Int32) + r0)) + r1)) + rh_14)), .val (.ref ar), .val (.int (3 : Int32)), .val (.int (3 : Int32)), .val (.ref x2)] [(.int (3 : Int32)), (.int (3 : Int32))])) t ∧ _
  refine own_go (fun _ => XS.icmpYes X14.here hx rfl (pc0 := 19) (pc' := 54) rfl (hb hby d6_19) rfl (flt (by decide : ¬ ((3 : Int32) < (3 : Int32)))).2.1 (by decide) (by decide)) ?_
  show ∃ t o, Steps p.tables e below (T14.setTop (mkF m 54 #[.val (.ref ar), .val (.int (((31 : Int32) * (((31 : Int32) * ((31 : Int32) + r0)) + r1)) + rh_14)), .val (.ref ar), .val (.int (3 : Int32)), .val (.int (3 : Int32)), .val (.ref x2)] [])) t ∧ _
  refine own_go (fun _ => XS.iloadN X14.here hx rfl (hb hby d6_54) rfl) ?_
  show ∃ t o, Steps p.tables e below (T14.setTop (mkF m 55 #[.val (.ref ar), .val (.int (((31 : Int32) * (((31 : Int32) * ((31 : Int32) + r0)) + r1)) + rh_14)), .val (.ref ar), .val (.int (3 : Int32)), .val (.int (3 : Int32)), .val (.ref x2)] [(.int (((31 : Int32) * (((31 : Int32) * ((31 : Int32) + r0)) + r1)) + rh_14))])) t ∧ _
  obtain ⟨fs, hr, hrun, hended, hW, hsame⟩ := X14.leave (v := some (.int (((31 : Int32) * (((31 : Int32) * ((31 : Int32) + r0)) + r1)) + rh_14))) (fun h => by rw [Bd.returns] at h; cases h)
  refine ⟨_, _, ?_, hrun, hended, _, _, rfl, ?_, ⟨_, rfl⟩, hW, hsame.mono (by decide) (by decide)⟩
  · exact retI X14 hx Bd.returns (hb hby d6_55) hr
  · show Q_rmHash3 Z ar kk x0 r0 x1 r1 x2 r2 h0 n0 _ T14.heap _
    rw [e14]
    exact ⟨(((31 : Int32) * (((31 : Int32) * ((31 : Int32) + r0)) + r1)) + rh_14), rfl, N14, rfl⟩
theorem ef_rmKeyInit3 (m : MethodId) (x0 : Nat) (x1 : Nat) : entryFrame m #[(.ref x0), (.ref x1)] 2 = mkF m 0 #[.val (.ref x0), .val (.ref x1)] [] := by first | (simp [entryFrame, mkF, argsToLocals, Value.category]; done) | rfl
def Q_rmKeyInit3 (Z : State) (a1 : Nat) (ar : Nat) (kk : ClassId) (x0 : Nat) (r0 : Int32) (x1 : Nat) (r1 : Int32) (x2 : Nat) (r2 : Int64) (h0 : Heap) (n0 : Nat) (v : Option Value) (h : Heap) (L : List Loc) : Prop := v = none ∧ Fr n0 L ∧ Keep h0 h [a1] ∧ Exa Z h a1 "com/example/planwright/planwright/plan/Key" ∧ Fld Z h a1 "com/example/planwright/planwright/plan/Key" "values" "[Ljava/lang/Object;" (.ref ar)
set_option maxRecDepth 65536 in
set_option maxHeartbeats 40000000 in
theorem rmKeyInit3 (l : Launch) (Z : State) (a0 : Array Value) (hw : ∀ d ∈ tables_1, d.before a0 Z = true) (ws : List Jvm.Cond) (a1 : Nat) (ar : Nat) (kk : ClassId) (x0 : Nat) (r0 : Int32) (x1 : Nat) (r1 : Int32) (x2 : Nat) (r2 : Int64) (h0 : Heap) (n0 : Nat) (Z0 : n0 ≤ h0.size) (P1 : Exa Z h0 a1 "com/example/planwright/planwright/plan/Key") (P2 : Fld Z h0 a1 "com/example/planwright/planwright/plan/Key" "values" "[Ljava/lang/Object;" .null) (P3 : Fld Z h0 a1 "com/example/planwright/planwright/plan/Key" "hash" "I" (.int (0 : Int32))) (P4 : Arv Z h0 ar kk (.object "java/lang/Object") (3 : Int32) [(.ref x0), (.ref x1), (.ref x2)] .null) (P5 : Exa Z h0 x0 "java/lang/Integer") (P6 : Fld Z h0 x0 "java/lang/Integer" "value" "I" (.int r0)) (P7 : Exa Z h0 x1 "java/lang/Integer") (P8 : Fld Z h0 x1 "java/lang/Integer" "value" "I" (.int r1)) (P9 : Exa Z h0 x2 "java/lang/Long") (P10 : Fld Z h0 x2 "java/lang/Long" "value" "J" (.long r2)) (OLD : Old Z n0 h0) (ga : n0 ≤ a1) (na : ar ≠ a1) (nx0 : x0 ≠ a1) (nx1 : x1 ≠ a1) (nx2 : x2 ≠ a1) :
    MetFree l (⟨"com/example/planwright/planwright/plan/Key", "<init>", "([Ljava/lang/Object;)V"⟩ : MethodName) (head1 (Jvm.Cond.code (⟨"com/example/planwright/planwright/plan/Key", "<init>", "([Ljava/lang/Object;)V"⟩ : MethodName) prog_66_method_1_code 2 none :: ws) ({ frames := 3, cells := 0, slots := 0, locals := 44 } : Room)) (fun a U => a = #[(.ref a1), (.ref ar)] ∧ Z.Warmed39 U.vm ∧ U.heap = h0) (fun _ _ _ _ _ => True) (fun _ U o U' => ∃ v L, o = .returned v ∧ Q_rmKeyInit3 Z a1 ar kk x0 r0 x1 r1 x2 r2 h0 n0 v U'.heap L ∧ FrameEnd U o U' L ({ frames := 3, cells := 0, slots := 0, locals := 44 } : Room).cells ({ frames := 3, cells := 0, slots := 0, locals := 44 } : Room).slots) := by
  refine MetFree.of_bodySF (plainFor_of_name pn_com_example_planwright_planwright_plan_Key) hisR ?_
  intro p e s m args below meth c s₁ Bd hml0 hP hK
  obtain ⟨rfl, hZ, hh⟩ := hP
  have hx := Bd.exec
  have hby := Bd.bytes
  have hml : c.maxLocals = 2 := hml0
  have hown : s.vm.findClass "com/example/planwright/planwright/plan/Key" = some m.cls := findClass_of_methodNamed Bd.named
  have hnm := (name_of_methodNamed Bd.named Bd.method).1
  have X0 : Stand p l e ({ frames := 3, cells := 0, slots := 0, locals := 44 } : Room) s m #[(.ref a1), (.ref ar)] below meth c s₁ [] 0 0 := Stand.of_body Bd
  have e0 : s₁.heap = h0 := by rw [← hh, Bd.state]; rfl
  have N0 := Fr.nil n0
  have pre0 : ∀ t, Steps p.tables e below (s₁.setTop (mkF m 0 #[.val (.ref a1), .val (.ref ar)] [])) t → Steps p.tables e below (s₁.setTop (entryFrame m #[(.ref a1), (.ref ar)] 2)) t := fun t k => castTop (ef_rmKeyInit3 m a1 ar) k
  have oz := OLD.1
  have lt_a1 : a1 < h0.size := P1.lt
  have lt_ar : ar < h0.size := P4.lt
  have lt_x0 : x0 < h0.size := P5.lt
  have lt_x1 : x1 < h0.size := P7.lt
  have lt_x2 : x2 < h0.size := P9.lt
  refine own_go (B := s₁.setTop (mkF m 0 #[.val (.ref a1), .val (.ref ar)] [])) pre0 ?_
  show ∃ t o, Steps p.tables e below (s₁.setTop (mkF m 0 #[.val (.ref a1), .val (.ref ar)] [])) t ∧ _
  refine own_go (fun _ => XS.aloadN X0.here hx rfl (hb hby d4_0) rfl rfl) ?_
  show ∃ t o, Steps p.tables e below (s₁.setTop (mkF m 1 #[.val (.ref a1), .val (.ref ar)] [(.ref a1)])) t ∧ _
  obtain ⟨T11, X11, e11, st11⟩ := initO X0 hx hZ hown (hw _ (List.mem_of_getElem? (i := 26) rfl)) (hw _ (List.mem_of_getElem? (i := 27) rfl)) (hw _ (List.mem_of_getElem? (i := 28) rfl)) e0 (g := (mkF m 1 #[.val (.ref a1), .val (.ref ar)] [(.ref a1)])) rfl (by rw [hml]; rfl) rfl (hb hby d4_1) (by decide) (W := 0) (by show 2 * 0 + _ ≤ _; exact Nat.le_of_eq rfl) (by decide)
  refine own_go st11 ?_
  show ∃ t o, Steps p.tables e below (T11.setTop (mkF m 4 #[.val (.ref a1), .val (.ref ar)] [])) t ∧ _
  refine own_go (fun _ => XS.aloadN X11.here hx rfl (hb hby d4_4) rfl rfl) ?_
  show ∃ t o, Steps p.tables e below (T11.setTop (mkF m 5 #[.val (.ref a1), .val (.ref ar)] [(.ref a1)])) t ∧ _
  refine own_go (fun _ => XS.aloadN X11.here hx rfl (hb hby d4_5) rfl rfl) ?_
  show ∃ t o, Steps p.tables e below (T11.setTop (mkF m 6 #[.val (.ref a1), .val (.ref ar)] [(.ref ar), (.ref a1)])) t ∧ _
  obtain ⟨T12, h12, X12, e12, W12, st12⟩ := putF X11 hx hZ hown (host := "") (Or.inl (hw _ (List.mem_of_getElem? (i := 29) rfl))) Via.refl e11 P2 P1 (Or.inr ⟨(hw _ (List.mem_of_getElem? (i := 30) rfl)), rfl, hnm⟩) (hw _ (List.mem_of_getElem? (i := 22) rfl)) (ty := (.array (.object "java/lang/Object"))) (by decide) rfl rfl (g := (mkF m 6 #[.val (.ref a1), .val (.ref ar)] [(.ref ar), (.ref a1)])) rfl rfl (hb hby d4_6)
  refine own_go st12 ?_
  have le_12 : h0.size ≤ h12.size := Nat.le_of_eq W12.size.symm
  have K12 : Keep h0 h12 [a1] := Keep.wr (Keep.refl h0 [a1]) W12 (Or.inl (List.mem_of_getElem? (i := 0) rfl))
  have N12 := Fr.snoc X12 N0 ga
  have Fw12 := Fld.same W12 P2
  show ∃ t o, Steps p.tables e below (T12.setTop (mkF m 9 #[.val (.ref a1), .val (.ref ar)] [])) t ∧ _
  refine own_go (fun _ => XS.aloadN X12.here hx rfl (hb hby d4_9) rfl rfl) ?_
  show ∃ t o, Steps p.tables e below (T12.setTop (mkF m 10 #[.val (.ref a1), .val (.ref ar)] [(.ref a1)])) t ∧ _
  refine own_go (fun _ => XS.aloadN X12.here hx rfl (hb hby d4_10) rfl rfl) ?_
  show ∃ t o, Steps p.tables e below (T12.setTop (mkF m 11 #[.val (.ref a1), .val (.ref ar)] [(.ref ar), (.ref a1)])) t ∧ _
  have F13 : Arv Z h12 ar kk (.object "java/lang/Object") (3 : Int32) [(.ref x0), (.ref x1), (.ref x2)] .null := (Arv.other P4 W12 na)
  have F14 : Exa Z h12 x0 "java/lang/Integer" := (Exa.wr W12 P5)
  have F15 : Fld Z h12 x0 "java/lang/Integer" "value" "I" (.int r0) := (Fld.other W12 P6 (Or.inl nx0))
  have F16 : Exa Z h12 x1 "java/lang/Integer" := (Exa.wr W12 P7)
  have F17 : Fld Z h12 x1 "java/lang/Integer" "value" "I" (.int r1) := (Fld.other W12 P8 (Or.inl nx1))
  have F18 : Exa Z h12 x2 "java/lang/Long" := (Exa.wr W12 P9)
  have F19 : Fld Z h12 x2 "java/lang/Long" "value" "J" (.long r2) := (Fld.other W12 P10 (Or.inl nx2))
  have F20 : Old Z n0 h12 := (Old.wr OLD W12 ga)
  have zl21 : n0 ≤ h12.size := by omega
  obtain ⟨_, _, ⟨T22, L22, k22, n22⟩, -, X22, ⟨Lc22, hQ22, l22, y22, z22⟩, st22⟩ := Jvm.LawKit.callS X12 hx (y := (⟨"java/util/Arrays", "hashCode", "([Ljava/lang/Object;)I"⟩ : MethodName)) hown (mvT hZ (hw _ (List.mem_of_getElem? (i := 31) rfl))) (mvT hZ (hw _ (List.mem_of_getElem? (i := 32) rfl))) (mvT hZ (hw _ (List.mem_of_getElem? (i := 33) rfl))) (mvT hZ (hw _ (List.mem_of_getElem? (i := 34) rfl))) (by decide) (backOf (W := 1) (rmHash3 l Z a0 hw [] ar kk x0 r0 x1 r1 x2 r2 h12 n0 zl21 F13 F14 F15 F16 F17 F18 F19 F20) hZ (hw _ (List.mem_of_getElem? (i := 34) rfl)) (hw _ (List.mem_of_getElem? (i := 33) rfl)) (by decide) (by decide)) (g := (mkF m 11 #[.val (.ref a1), .val (.ref ar)] [(.ref ar), (.ref a1)])) rfl (by rw [hml]; rfl) (argsL := [(.ref ar)]) (rest := [(.ref a1)]) (lenOf pd__28_5bLjava_2flang_2fObject_3b_29I rfl) rfl (by show 2 * 0 + _ ≤ _; exact Nat.le_of_eq rfl) (hb hby d4_11) (fun _ _ => ⟨rfl, e12, (by decide : 0 + 0 ≤ _), (by decide : 0 + 0 ≤ _)⟩)
  dsimp only [Pt.U, Pt.locs, Pt.cells, Pt.slots] at X22 l22 y22 z22 st22 hQ22
  subst l22 y22 z22
  obtain ⟨rh_22, rfl, Nq22, e22⟩ := hQ22
  have N22 := Fr.app N12 Nq22
  refine own_go st22 ?_
  show ∃ t o, Steps p.tables e below (T22.setTop (mkF m 14 #[.val (.ref a1), .val (.ref ar)] [(.int rh_22), (.ref a1)])) t ∧ _
  have F23 : Exa Z h12 a1 "com/example/planwright/planwright/plan/Key" := (Exa.wr W12 P1)
  have F24 : Fld Z h12 a1 "com/example/planwright/planwright/plan/Key" "hash" "I" (.int (0 : Int32)) := (Fld.other W12 P3 (Or.inr (slot_ne (a0 := a0) (Or.inr (hw _ (List.mem_of_getElem? (i := 36) rfl))) (Or.inr (hw _ (List.mem_of_getElem? (i := 30) rfl))) (by decide) (t := .int) (t' := (.array (.object "java/lang/Object"))) (by decide) (by decide))))
  obtain ⟨T25, h25, X25, e25, W25, st25⟩ := putF X22 hx hZ hown (host := "") (Or.inl (hw _ (List.mem_of_getElem? (i := 35) rfl))) Via.refl e22 F24 F23 (Or.inr ⟨(hw _ (List.mem_of_getElem? (i := 36) rfl)), rfl, hnm⟩) (hw _ (List.mem_of_getElem? (i := 22) rfl)) (ty := .int) (by decide) rfl rfl (g := (mkF m 14 #[.val (.ref a1), .val (.ref ar)] [(.int rh_22), (.ref a1)])) rfl rfl (hb hby d4_14)
  refine own_go st25 ?_
  have le_25 : h12.size ≤ h25.size := Nat.le_of_eq W25.size.symm
  have K25 : Keep h0 h25 [a1] := Keep.wr K12 W25 (Or.inl (List.mem_of_getElem? (i := 0) rfl))
  have N25 := Fr.snoc X25 N22 ga
  have Fw25 := Fld.same W25 F24
  show ∃ t o, Steps p.tables e below (T25.setTop (mkF m 17 #[.val (.ref a1), .val (.ref ar)] [])) t ∧ _
  have F26 : Exa Z h25 a1 "com/example/planwright/planwright/plan/Key" := (Exa.wr W25 F23)
  have F27 : Fld Z h25 a1 "com/example/planwright/planwright/plan/Key" "values" "[Ljava/lang/Object;" (.ref ar) := (Fld.other W25 Fw12 (Or.inr (slot_ne (a0 := a0) (Or.inr (hw _ (List.mem_of_getElem? (i := 30) rfl))) (Or.inr (hw _ (List.mem_of_getElem? (i := 36) rfl))) (by decide) (t := (.array (.object "java/lang/Object"))) (t' := .int) (by decide) (by decide))))
  obtain ⟨fs, hr, hrun, hended, hW, hsame⟩ := X25.leave (v := none) (fun _ => rfl)
  refine ⟨_, _, ?_, hrun, hended, _, _, rfl, ?_, ⟨_, rfl⟩, hW, hsame.mono (by decide) (by decide)⟩
  · exact X25.returnOut hx Bd.returns (hb hby d4_17) hr
  · show Q_rmKeyInit3 Z a1 ar kk x0 r0 x1 r1 x2 r2 h0 n0 _ T25.heap _
    rw [e25]
    exact ⟨rfl, N25, K25, F26, F27⟩
theorem ef_rmOf3 (m : MethodId) (x0 : Nat) : entryFrame m #[(.ref x0)] 1 = mkF m 0 #[.val (.ref x0)] [] := by first | (simp [entryFrame, mkF, argsToLocals, Value.category]; done) | rfl
def Q_rmOf3 (Z : State) (ar : Nat) (kk : ClassId) (x0 : Nat) (r0 : Int32) (x1 : Nat) (r1 : Int32) (x2 : Nat) (r2 : Int64) (h0 : Heap) (n0 : Nat) (v : Option Value) (h : Heap) (L : List Loc) : Prop := ∃ (b : Nat), v = some (.ref b) ∧ Fr n0 L ∧ Keep h0 h [] ∧ Exa Z h b "com/example/planwright/planwright/plan/Key" ∧ Fld Z h b "com/example/planwright/planwright/plan/Key" "values" "[Ljava/lang/Object;" (.ref ar) ∧ (h0.size ≤ b)
set_option maxRecDepth 65536 in
set_option maxHeartbeats 40000000 in
theorem rmOf3 (l : Launch) (Z : State) (a0 : Array Value) (hw : ∀ d ∈ tables_1, d.before a0 Z = true) (ws : List Jvm.Cond) (ar : Nat) (kk : ClassId) (x0 : Nat) (r0 : Int32) (x1 : Nat) (r1 : Int32) (x2 : Nat) (r2 : Int64) (h0 : Heap) (n0 : Nat) (Z0 : n0 ≤ h0.size) (P1 : Arv Z h0 ar kk (.object "java/lang/Object") (3 : Int32) [(.ref x0), (.ref x1), (.ref x2)] .null) (P2 : Exa Z h0 x0 "java/lang/Integer") (P3 : Fld Z h0 x0 "java/lang/Integer" "value" "I" (.int r0)) (P4 : Exa Z h0 x1 "java/lang/Integer") (P5 : Fld Z h0 x1 "java/lang/Integer" "value" "I" (.int r1)) (P6 : Exa Z h0 x2 "java/lang/Long") (P7 : Fld Z h0 x2 "java/lang/Long" "value" "J" (.long r2)) (OLD : Old Z n0 h0) :
    MetFree l (⟨"com/example/planwright/planwright/plan/Key", "of", "([Ljava/lang/Object;)Ljava/lang/Object;"⟩ : MethodName) (head1 (Jvm.Cond.code (⟨"com/example/planwright/planwright/plan/Key", "of", "([Ljava/lang/Object;)Ljava/lang/Object;"⟩ : MethodName) prog_66_method_2_code 1 (some (.object "java/lang/Object")) :: ws) ({ frames := 4, cells := 1, slots := 2, locals := 58 } : Room)) (fun a U => a = #[(.ref ar)] ∧ Z.Warmed39 U.vm ∧ U.heap = h0) (fun _ _ _ _ _ => True) (fun _ U o U' => ∃ v L, o = .returned v ∧ Q_rmOf3 Z ar kk x0 r0 x1 r1 x2 r2 h0 n0 v U'.heap L ∧ FrameEnd U o U' L ({ frames := 4, cells := 1, slots := 2, locals := 58 } : Room).cells ({ frames := 4, cells := 1, slots := 2, locals := 58 } : Room).slots) := by
  refine MetFree.of_bodySF (plainFor_of_name pn_com_example_planwright_planwright_plan_Key) hisR ?_
  intro p e s m args below meth c s₁ Bd hml0 hP hK
  obtain ⟨rfl, hZ, hh⟩ := hP
  have hx := Bd.exec
  have hby := Bd.bytes
  have hml : c.maxLocals = 1 := hml0
  have hown : s.vm.findClass "com/example/planwright/planwright/plan/Key" = some m.cls := findClass_of_methodNamed Bd.named
  have hnm := (name_of_methodNamed Bd.named Bd.method).1
  have X0 : Stand p l e ({ frames := 4, cells := 1, slots := 2, locals := 58 } : Room) s m #[(.ref ar)] below meth c s₁ [] 0 0 := Stand.of_body Bd
  have e0 : s₁.heap = h0 := by rw [← hh, Bd.state]; rfl
  have N0 := Fr.nil n0
  have pre0 : ∀ t, Steps p.tables e below (s₁.setTop (mkF m 0 #[.val (.ref ar)] [])) t → Steps p.tables e below (s₁.setTop (entryFrame m #[(.ref ar)] 1)) t := fun t k => castTop (ef_rmOf3 m ar) k
  have oz := OLD.1
  have lt_ar : ar < h0.size := P1.lt
  have lt_x0 : x0 < h0.size := P2.lt
  have lt_x1 : x1 < h0.size := P4.lt
  have lt_x2 : x2 < h0.size := P6.lt
  refine own_go (B := s₁.setTop (mkF m 0 #[.val (.ref ar)] [])) pre0 ?_
  show ∃ t o, Steps p.tables e below (s₁.setTop (mkF m 0 #[.val (.ref ar)] [])) t ∧ _
  refine own_go (fun _ => XS.aloadN X0.here hx rfl (hb hby d3_0) rfl rfl) ?_
  show ∃ t o, Steps p.tables e below (s₁.setTop (mkF m 1 #[.val (.ref ar)] [(.ref ar)])) t ∧ _
  obtain ⟨cl8, Ar8, q8, S8, N8, H8, G8⟩ := id P1
  have ln8 : cl8.slots.size.toInt32 = (3 : Int32) := len_of S8 N8
  have al8 := X0.arraylength hx (by rw [e0]; exact Ar8.1) (State.isArrayOf_alike hZ.alike Ar8.2.1) (g := (mkF m 1 #[.val (.ref ar)] [(.ref ar)])) rfl rfl (hb hby d3_1)
  rw [ln8] at al8
  refine own_go al8 ?_
  show ∃ t o, Steps p.tables e below (s₁.setTop (mkF m 2 #[.val (.ref ar)] [(.int (3 : Int32))])) t ∧ _
  refine own_go (fun _ => XS.iconst X0.here hx rfl (hb hby d3_2)) ?_
  show ∃ t o, Steps p.tables e below (s₁.setTop (mkF m 3 #[.val (.ref ar)] [(.int (1 : Int32)), (.int (3 : Int32))])) t ∧ _
  refine own_go (fun _ => XS.icmpYes X0.here hx rfl (pc0 := 3) (pc' := 12) rfl (hb hby d3_3) rfl (feq (by decide : ¬ ((3 : Int32) = (1 : Int32)))).2 (by decide) (by decide)) ?_
  show ∃ t o, Steps p.tables e below (s₁.setTop (mkF m 12 #[.val (.ref ar)] [])) t ∧ _
  obtain ⟨T9, h9, X9, e9, E9, A9, D9, -, st9⟩ := newO X0 hx hZ hown (hw _ (List.mem_of_getElem? (i := 21) rfl)) (hw _ (List.mem_of_getElem? (i := 22) rfl)) (hw _ (List.mem_of_getElem? (i := 19) rfl)) e0 (g := (mkF m 12 #[.val (.ref ar)] [])) rfl (hb hby d3_12) (by decide) (by decide)
  obtain ⟨b9, g9⟩ : ∃ z, z = h0.size := ⟨_, rfl⟩
  rw [← g9] at A9 D9 st9
  refine own_go st9 ?_
  have le_9 : h0.size ≤ h9.size := E9.1
  have lt_b9 : b9 < h9.size := A9.lt
  have F_values_b9 : Fld Z h9 b9 "com/example/planwright/planwright/plan/Key" "values" "[Ljava/lang/Object;" .null := D9 (Or.inr (hw _ (List.mem_of_getElem? (i := 30) rfl))) (ty := (.array (.object "java/lang/Object"))) (by decide)
  have F_hash_b9 : Fld Z h9 b9 "com/example/planwright/planwright/plan/Key" "hash" "I" (.int (0 : Int32)) := D9 (Or.inr (hw _ (List.mem_of_getElem? (i := 36) rfl))) (ty := .int) (by decide)
  have K9 : Keep h0 h9 [] := Keep.ext (Keep.refl h0 []) E9
  show ∃ t o, Steps p.tables e below (T9.setTop (mkF m 15 #[.val (.ref ar)] [(.ref b9)])) t ∧ _
  refine own_go (fun _ => XS.dup X9.here hx rfl (hb hby d3_15) rfl rfl) ?_
  show ∃ t o, Steps p.tables e below (T9.setTop (mkF m 16 #[.val (.ref ar)] [(.ref b9), (.ref b9)])) t ∧ _
  refine own_go (fun _ => XS.aloadN X9.here hx rfl (hb hby d3_16) rfl rfl) ?_
  show ∃ t o, Steps p.tables e below (T9.setTop (mkF m 17 #[.val (.ref ar)] [(.ref ar), (.ref b9), (.ref b9)])) t ∧ _
  have F10 : Arv Z h9 ar kk (.object "java/lang/Object") (3 : Int32) [(.ref x0), (.ref x1), (.ref x2)] .null := (P1.ext E9)
  have F11 : Exa Z h9 x0 "java/lang/Integer" := (Exa.ext E9 P2)
  have F12 : Fld Z h9 x0 "java/lang/Integer" "value" "I" (.int r0) := (Fld.ext E9 P3)
  have F13 : Exa Z h9 x1 "java/lang/Integer" := (Exa.ext E9 P4)
  have F14 : Fld Z h9 x1 "java/lang/Integer" "value" "I" (.int r1) := (Fld.ext E9 P5)
  have F15 : Exa Z h9 x2 "java/lang/Long" := (Exa.ext E9 P6)
  have F16 : Fld Z h9 x2 "java/lang/Long" "value" "J" (.long r2) := (Fld.ext E9 P7)
  have F17 : Old Z n0 h9 := (OLD.ext E9)
  have ge18 : n0 ≤ b9 := by omega
  have ne19 : ar ≠ b9 := own_ne (by omega)
  have ne20 : x0 ≠ b9 := own_ne (by omega)
  have ne21 : x1 ≠ b9 := own_ne (by omega)
  have ne22 : x2 ≠ b9 := own_ne (by omega)
  have zl23 : n0 ≤ h9.size := by omega
  obtain ⟨_, _, ⟨T24, L24, k24, n24⟩, -, X24, ⟨Lc24, hQ24, l24, y24, z24⟩, st24⟩ := X9.specialBack hx (y := (⟨"com/example/planwright/planwright/plan/Key", "<init>", "([Ljava/lang/Object;)V"⟩ : MethodName)) rfl hown (mvT hZ (hw _ (List.mem_of_getElem? (i := 23) rfl))) (mvT hZ (hw _ (List.mem_of_getElem? (i := 24) rfl))) (mvT hZ (hw _ (List.mem_of_getElem? (i := 25) rfl))) (by decide) (backOf (W := 1) (rmKeyInit3 l Z a0 hw [] b9 ar kk x0 r0 x1 r1 x2 r2 h9 n0 zl23 A9 F_values_b9 F_hash_b9 F10 F11 F12 F13 F14 F15 F16 F17 ge18 ne19 ne20 ne21 ne22) hZ (hw _ (List.mem_of_getElem? (i := 25) rfl)) (hw _ (List.mem_of_getElem? (i := 19) rfl)) (by decide) (by decide)) (g := (mkF m 17 #[.val (.ref ar)] [(.ref ar), (.ref b9), (.ref b9)])) rfl (by rw [hml]; rfl) (Steps.refl _) (a := b9) (argsL := [(.ref ar)]) (rest := [(.ref b9)]) (lenOf pd__28_5bLjava_2flang_2fObject_3b_29V rfl) rfl (by show 2 * 0 + _ ≤ _; exact Nat.le_of_eq rfl) (hb hby d3_17) (fun _ _ => ⟨rfl, e9, (by decide : 1 + 0 ≤ _), (by decide : 2 + 0 ≤ _)⟩)
  dsimp only [Pt.U, Pt.locs, Pt.cells, Pt.slots] at X24 l24 y24 z24 st24 hQ24
  subst l24 y24 z24
  obtain ⟨rfl, Nq24, Kp24, G24_0, G24_1⟩ := hQ24
  have N24 := Fr.app N0 Nq24
  refine own_goT st24 ?_
  have le_24 : h9.size ≤ T24.heap.size := Kp24.1
  have sz25 : h0.size ≤ b9 := by omega
  have K24 : Keep h0 T24.heap [] := Keep.trans K9 Kp24 (allS (Or.inr sz25) all0)
  show ∃ t o, Steps p.tables e below (T24.setTop (mkF m 20 #[.val (.ref ar)] [(.ref b9)])) t ∧ _
  obtain ⟨fs, hr, hrun, hended, hW, hsame⟩ := X24.leave (v := some (.ref b9)) (fun h => by rw [Bd.returns] at h; cases h)
  refine ⟨_, _, ?_, hrun, hended, _, _, rfl, ?_, ⟨_, rfl⟩, hW, hsame.mono (by decide) (by decide)⟩
  · jvm_step X24.here [X24.here.top, hx, (hb hby d3_20), X24.method', Bd.returns, Value.isRef, FieldType.isReference]
    first | (intro acts; rw [hr _ acts rfl rfl rfl]) | rw [hr _ _ rfl rfl rfl]
    exact Steps.refl _
  · show Q_rmOf3 Z ar kk x0 r0 x1 r1 x2 r2 h0 n0 _ T24.heap _
    exact ⟨b9, rfl, N24, K24, G24_0, G24_1, (by omega)⟩
theorem ef_rmVals3 (m : MethodId) (x0 : Nat) (x1 : Int32) : entryFrame m #[(.ref x0), (.int x1)] 2 = mkF m 0 #[.val (.ref x0), .val (.int x1)] [] := by first | (simp [entryFrame, mkF, argsToLocals, Value.category]; done) | rfl
def Q_rmVals3 (Z : State) (ko : Nat) (ar : Nat) (kk : ClassId) (x0 : Nat) (x1 : Nat) (x2 : Nat) (h0 : Heap) (n0 : Nat) (v : Option Value) (h : Heap) (L : List Loc) : Prop := ∃ (b : Nat), v = some (.ref b) ∧ Fr n0 L ∧ Keep h0 h [] ∧ Arv Z h b kk (.object "java/lang/Object") (3 : Int32) [(.ref x0), (.ref x1), (.ref x2)] .null ∧ (h0.size ≤ b)
set_option maxRecDepth 65536 in
set_option maxHeartbeats 40000000 in
theorem rmVals3 (l : Launch) (Z : State) (a0 : Array Value) (hw : ∀ d ∈ tables_1, d.before a0 Z = true) (ws : List Jvm.Cond) (ko : Nat) (ar : Nat) (kk : ClassId) (x0 : Nat) (x1 : Nat) (x2 : Nat) (h0 : Heap) (n0 : Nat) (Z0 : n0 ≤ h0.size) (P1 : Exa Z h0 ko "com/example/planwright/planwright/plan/Key") (P2 : Fld Z h0 ko "com/example/planwright/planwright/plan/Key" "values" "[Ljava/lang/Object;" (.ref ar)) (P3 : Arv Z h0 ar kk (.object "java/lang/Object") (3 : Int32) [(.ref x0), (.ref x1), (.ref x2)] .null) (P4 : Exa Z h0 ar "[Ljava/lang/Object;") (OLD : Old Z n0 h0) :
    MetFree l (⟨"com/example/planwright/planwright/plan/Key", "values", "(Ljava/lang/Object;I)[Ljava/lang/Object;"⟩ : MethodName) (head1 (Jvm.Cond.code (⟨"com/example/planwright/planwright/plan/Key", "values", "(Ljava/lang/Object;I)[Ljava/lang/Object;"⟩ : MethodName) prog_66_method_3_code 2 (some (.array (.object "java/lang/Object"))) :: ws) ({ frames := 1, cells := 1, slots := 3, locals := 14 } : Room)) (fun a U => a = #[(.ref ko), (.int (3 : Int32))] ∧ Z.Warmed39 U.vm ∧ U.heap = h0) (fun _ _ _ _ _ => True) (fun _ U o U' => ∃ v L, o = .returned v ∧ Q_rmVals3 Z ko ar kk x0 x1 x2 h0 n0 v U'.heap L ∧ FrameEnd U o U' L ({ frames := 1, cells := 1, slots := 3, locals := 14 } : Room).cells ({ frames := 1, cells := 1, slots := 3, locals := 14 } : Room).slots) := by
  refine MetFree.of_bodySF (plainFor_of_name pn_com_example_planwright_planwright_plan_Key) hisR ?_
  intro p e s m args below meth c s₁ Bd hml0 hP hK
  obtain ⟨rfl, hZ, hh⟩ := hP
  have hx := Bd.exec
  have hby := Bd.bytes
  have hml : c.maxLocals = 2 := hml0
  have hown : s.vm.findClass "com/example/planwright/planwright/plan/Key" = some m.cls := findClass_of_methodNamed Bd.named
  have hnm := (name_of_methodNamed Bd.named Bd.method).1
  have X0 : Stand p l e ({ frames := 1, cells := 1, slots := 3, locals := 14 } : Room) s m #[(.ref ko), (.int (3 : Int32))] below meth c s₁ [] 0 0 := Stand.of_body Bd
  have e0 : s₁.heap = h0 := by rw [← hh, Bd.state]; rfl
  have N0 := Fr.nil n0
  have pre0 : ∀ t, Steps p.tables e below (s₁.setTop (mkF m 0 #[.val (.ref ko), .val (.int (3 : Int32))] [])) t → Steps p.tables e below (s₁.setTop (entryFrame m #[(.ref ko), (.int (3 : Int32))] 2)) t := fun t k => castTop (ef_rmVals3 m ko (3 : Int32)) k
  have oz := OLD.1
  have lt_ar : ar < h0.size := P3.lt
  have lt_ko : ko < h0.size := P1.lt
  refine own_go (B := s₁.setTop (mkF m 0 #[.val (.ref ko), .val (.int (3 : Int32))] [])) pre0 ?_
  show ∃ t o, Steps p.tables e below (s₁.setTop (mkF m 0 #[.val (.ref ko), .val (.int (3 : Int32))] [])) t ∧ _
  refine own_go (fun _ => XS.iloadN X0.here hx rfl (hb hby d7_0) rfl) ?_
  show ∃ t o, Steps p.tables e below (s₁.setTop (mkF m 1 #[.val (.ref ko), .val (.int (3 : Int32))] [(.int (3 : Int32))])) t ∧ _
  refine own_go (fun _ => XS.iconst X0.here hx rfl (hb hby d7_1)) ?_
  show ∃ t o, Steps p.tables e below (s₁.setTop (mkF m 2 #[.val (.ref ko), .val (.int (3 : Int32))] [(.int (1 : Int32)), (.int (3 : Int32))])) t ∧ _
  refine own_go (fun _ => XS.icmpYes X0.here hx rfl (pc0 := 2) (pc' := 16) rfl (hb hby d7_2) rfl (feq (by decide : ¬ ((3 : Int32) = (1 : Int32)))).2 (by decide) (by decide)) ?_
  show ∃ t o, Steps p.tables e below (s₁.setTop (mkF m 16 #[.val (.ref ko), .val (.int (3 : Int32))] [])) t ∧ _
  refine own_go (fun _ => XS.aloadN X0.here hx rfl (hb hby d7_16) rfl rfl) ?_
  show ∃ t o, Steps p.tables e below (s₁.setTop (mkF m 17 #[.val (.ref ko), .val (.int (3 : Int32))] [(.ref ko)])) t ∧ _
  obtain ⟨T5, X5, e5, st5⟩ := castY X0 hx hZ hown (hw _ (List.mem_of_getElem? (i := 21) rfl)) e0 (Ins.self P1) (g := (mkF m 17 #[.val (.ref ko), .val (.int (3 : Int32))] [(.ref ko)])) rfl rfl (hb hby d7_17)
  refine own_go st5 ?_
  show ∃ t o, Steps p.tables e below (T5.setTop (mkF m 20 #[.val (.ref ko), .val (.int (3 : Int32))] [(.ref ko)])) t ∧ _
  obtain ⟨T6, X6, e6, st6⟩ := getF X5 hx hZ hown (host := "") (Or.inl (hw _ (List.mem_of_getElem? (i := 29) rfl))) Via.refl e5 P2 (g := (mkF m 20 #[.val (.ref ko), .val (.int (3 : Int32))] [(.ref ko)])) rfl rfl (hb hby d7_20)
  refine own_go st6 ?_
  show ∃ t o, Steps p.tables e below (T6.setTop (mkF m 23 #[.val (.ref ko), .val (.int (3 : Int32))] [(.ref ar)])) t ∧ _
  obtain ⟨T7, h7, X7, e7, E7, A7, Q7, st7⟩ := cloneH X6 hx hZ hown (hw _ (List.mem_of_getElem? (i := 41) rfl)) (hw _ (List.mem_of_getElem? (i := 42) rfl)) (hw _ (List.mem_of_getElem? (i := 46) rfl)) (hw _ (List.mem_of_getElem? (i := 44) rfl)) (hw _ (List.mem_of_getElem? (i := 45) rfl)) (hw _ (List.mem_of_getElem? (i := 47) rfl)) e6 (Arv.arh P3) P4 (g := (mkF m 23 #[.val (.ref ko), .val (.int (3 : Int32))] [(.ref ar)])) rfl (by rw [hml]; rfl) rfl (hb hby d7_23) (by decide) (W := 0) (cap := 3) (by show 2 * 0 + _ ≤ _; exact Nat.le_of_eq rfl) (by decide) (by decide) (by decide) (by decide)
  obtain ⟨b7, g7⟩ : ∃ z, z = h0.size := ⟨_, rfl⟩
  rw [← g7] at A7 Q7 st7
  refine own_go st7 ?_
  have le_7 : h0.size ≤ h7.size := E7.1
  have V_b7 : Arv Z h7 b7 kk (.object "java/lang/Object") (3 : Int32) [(.ref x0), (.ref x1), (.ref x2)] .null := A7
  have lt_b7 : b7 < h7.size := V_b7.lt
  have K7 : Keep h0 h7 [] := Keep.ext (Keep.refl h0 []) E7
  show ∃ t o, Steps p.tables e below (T7.setTop (mkF m 26 #[.val (.ref ko), .val (.int (3 : Int32))] [(.ref b7)])) t ∧ _
  obtain ⟨T8, X8, e8, st8⟩ := castY X7 hx hZ hown (hw _ (List.mem_of_getElem? (i := 48) rfl)) e7 (Ins.self Q7) (g := (mkF m 26 #[.val (.ref ko), .val (.int (3 : Int32))] [(.ref b7)])) rfl rfl (hb hby d7_26)
  refine own_go st8 ?_
  show ∃ t o, Steps p.tables e below (T8.setTop (mkF m 29 #[.val (.ref ko), .val (.int (3 : Int32))] [(.ref b7)])) t ∧ _
  obtain ⟨fs, hr, hrun, hended, hW, hsame⟩ := X8.leave (v := some (.ref b7)) (fun h => by rw [Bd.returns] at h; cases h)
  refine ⟨_, _, ?_, hrun, hended, _, _, rfl, ?_, ⟨_, rfl⟩, hW, hsame.mono (by decide) (by decide)⟩
  · jvm_step X8.here [X8.here.top, hx, (hb hby d7_29), X8.method', Bd.returns, Value.isRef, FieldType.isReference]
    first | (intro acts; rw [hr _ acts rfl rfl rfl]) | rw [hr _ _ rfl rfl rfl]
    exact Steps.refl _
  · show Q_rmVals3 Z ko ar kk x0 x1 x2 h0 n0 _ T8.heap _
    rw [e8]
    exact ⟨b7, rfl, N0, K7, V_b7, (by omega)⟩
theorem ef_rmHash3n (m : MethodId) (x0 : Nat) : entryFrame m #[(.ref x0)] 6 = mkF m 0 #[.val (.ref x0), .unset, .unset, .unset, .unset, .unset] [] := by first | (simp [entryFrame, mkF, argsToLocals, Value.category]; done) | rfl
def Q_rmHash3n (Z : State) (ar : Nat) (kk : ClassId) (x0 : Nat) (r0 : Int32) (x2 : Nat) (r2 : Int64) (h0 : Heap) (n0 : Nat) (v : Option Value) (h : Heap) (L : List Loc) : Prop := ∃ (rh : Int32), v = some (.int rh) ∧ Fr n0 L ∧ h = h0
set_option maxRecDepth 65536 in
set_option maxHeartbeats 40000000 in
theorem rmHash3n (l : Launch) (Z : State) (a0 : Array Value) (hw : ∀ d ∈ tables_1, d.before a0 Z = true) (ws : List Jvm.Cond) (ar : Nat) (kk : ClassId) (x0 : Nat) (r0 : Int32) (x2 : Nat) (r2 : Int64) (h0 : Heap) (n0 : Nat) (Z0 : n0 ≤ h0.size) (P1 : Arv Z h0 ar kk (.object "java/lang/Object") (3 : Int32) [(.ref x0), .null, (.ref x2)] .null) (P2 : Exa Z h0 x0 "java/lang/Integer") (P3 : Fld Z h0 x0 "java/lang/Integer" "value" "I" (.int r0)) (P4 : Exa Z h0 x2 "java/lang/Long") (P5 : Fld Z h0 x2 "java/lang/Long" "value" "J" (.long r2)) (OLD : Old Z n0 h0) :
    MetFree l (⟨"java/util/Arrays", "hashCode", "([Ljava/lang/Object;)I"⟩ : MethodName) (head1 (Jvm.Cond.code (⟨"java/util/Arrays", "hashCode", "([Ljava/lang/Object;)I"⟩ : MethodName) jdk_65_method_157_code 6 (some .int) :: ws) ({ frames := 2, cells := 0, slots := 0, locals := 26 } : Room)) (fun a U => a = #[(.ref ar)] ∧ Z.Warmed39 U.vm ∧ U.heap = h0) (fun _ _ _ _ _ => True) (fun _ U o U' => ∃ v L, o = .returned v ∧ Q_rmHash3n Z ar kk x0 r0 x2 r2 h0 n0 v U'.heap L ∧ FrameEnd U o U' L ({ frames := 2, cells := 0, slots := 0, locals := 26 } : Room).cells ({ frames := 2, cells := 0, slots := 0, locals := 26 } : Room).slots) := by
  refine MetFree.of_bodySF (plainFor_of_name pn_java_util_Arrays) hisR ?_
  intro p e s m args below meth c s₁ Bd hml0 hP hK
  obtain ⟨rfl, hZ, hh⟩ := hP
  have hx := Bd.exec
  have hby := Bd.bytes
  have hml : c.maxLocals = 6 := hml0
  have hown : s.vm.findClass "java/util/Arrays" = some m.cls := findClass_of_methodNamed Bd.named
  have hnm := (name_of_methodNamed Bd.named Bd.method).1
  have X0 : Stand p l e ({ frames := 2, cells := 0, slots := 0, locals := 26 } : Room) s m #[(.ref ar)] below meth c s₁ [] 0 0 := Stand.of_body Bd
  have e0 : s₁.heap = h0 := by rw [← hh, Bd.state]; rfl
  have N0 := Fr.nil n0
  have pre0 : ∀ t, Steps p.tables e below (s₁.setTop (mkF m 0 #[.val (.ref ar), .unset, .unset, .unset, .unset, .unset] [])) t → Steps p.tables e below (s₁.setTop (entryFrame m #[(.ref ar)] 6)) t := fun t k => castTop (ef_rmHash3n m ar) k
  have oz := OLD.1
  have lt_ar : ar < h0.size := P1.lt
  have lt_x0 : x0 < h0.size := P2.lt
  have lt_x2 : x2 < h0.size := P4.lt
  refine own_go (B := s₁.setTop (mkF m 0 #[.val (.ref ar), .unset, .unset, .unset, .unset, .unset] [])) pre0 ?_
  show ∃ t o, Steps p.tables e below (s₁.setTop (mkF m 0 #[.val (.ref ar), .unset, .unset, .unset, .unset, .unset] [])) t ∧ _
  refine own_go (fun _ => XS.aloadN X0.here hx rfl (hb hby d6_0) rfl rfl) ?_
  show ∃ t o, Steps p.tables e below (s₁.setTop (mkF m 1 #[.val (.ref ar), .unset, .unset, .unset, .unset, .unset] [(.ref ar)])) t ∧ _
  refine own_go (fun _ => XS.ifnonnullYes X0.here hx rfl (pc0 := 1) (pc' := 6) rfl (hb hby d6_1) rfl (by decide) (by decide)) ?_
  show ∃ t o, Steps p.tables e below (s₁.setTop (mkF m 6 #[.val (.ref ar), .unset, .unset, .unset, .unset, .unset] [])) t ∧ _
  refine own_go (fun _ => XS.iconst X0.here hx rfl (hb hby d6_6)) ?_
  show ∃ t o, Steps p.tables e below (s₁.setTop (mkF m 7 #[.val (.ref ar), .unset, .unset, .unset, .unset, .unset] [(.int (1 : Int32))])) t ∧ _
  refine own_go (fun _ => XS.istoreN X0.here hx rfl (hb hby d6_7) rfl (l' := #[.val (.ref ar), .val (.int (1 : Int32)), .unset, .unset, .unset, .unset]) rfl) ?_
  show ∃ t o, Steps p.tables e below (s₁.setTop (mkF m 8 #[.val (.ref ar), .val (.int (1 : Int32)), .unset, .unset, .unset, .unset] [])) t ∧ _
  refine own_go (fun _ => XS.aloadN X0.here hx rfl (hb hby d6_8) rfl rfl) ?_
  show ∃ t o, Steps p.tables e below (s₁.setTop (mkF m 9 #[.val (.ref ar), .val (.int (1 : Int32)), .unset, .unset, .unset, .unset] [(.ref ar)])) t ∧ _
  refine own_go (fun _ => XS.astoreN X0.here hx rfl (hb hby d6_9) rfl rfl (l' := #[.val (.ref ar), .val (.int (1 : Int32)), .val (.ref ar), .unset, .unset, .unset]) rfl) ?_
  show ∃ t o, Steps p.tables e below (s₁.setTop (mkF m 10 #[.val (.ref ar), .val (.int (1 : Int32)), .val (.ref ar), .unset, .unset, .unset] [])) t ∧ _
  refine own_go (fun _ => XS.aloadN X0.here hx rfl (hb hby d6_10) rfl rfl) ?_
  show ∃ t o, Steps p.tables e below (s₁.setTop (mkF m 11 #[.val (.ref ar), .val (.int (1 : Int32)), .val (.ref ar), .unset, .unset, .unset] [(.ref ar)])) t ∧ _
  obtain ⟨cl6, Ar6, q6, S6, N6, H6, G6⟩ := id P1
  have ln6 : cl6.slots.size.toInt32 = (3 : Int32) := len_of S6 N6
  have al6 := X0.arraylength hx (by rw [e0]; exact Ar6.1) (State.isArrayOf_alike hZ.alike Ar6.2.1) (g := (mkF m 11 #[.val (.ref ar), .val (.int (1 : Int32)), .val (.ref ar), .unset, .unset, .unset] [(.ref ar)])) rfl rfl (hb hby d6_11)
  rw [ln6] at al6
  refine own_go al6 ?_
  show ∃ t o, Steps p.tables e below (s₁.setTop (mkF m 12 #[.val (.ref ar), .val (.int (1 : Int32)), .val (.ref ar), .unset, .unset, .unset] [(.int (3 : Int32))])) t ∧ _
  refine own_go (fun _ => XS.istoreN X0.here hx rfl (hb hby d6_12) rfl (l' := #[.val (.ref ar), .val (.int (1 : Int32)), .val (.ref ar), .val (.int (3 : Int32)), .unset, .unset]) rfl) ?_
  show ∃ t o, Steps p.tables e below (s₁.setTop (mkF m 13 #[.val (.ref ar), .val (.int (1 : Int32)), .val (.ref ar), .val (.int (3 : Int32)), .unset, .unset] [])) t ∧ _
  refine own_go (fun _ => XS.iconst X0.here hx rfl (hb hby d6_13)) ?_
  show ∃ t o, Steps p.tables e below (s₁.setTop (mkF m 14 #[.val (.ref ar), .val (.int (1 : Int32)), .val (.ref ar), .val (.int (3 : Int32)), .unset, .unset] [(.int (0 : Int32))])) t ∧ _
  refine own_go (fun _ => XS.istore X0.here hx rfl (hb hby d6_14) rfl (l' := #[.val (.ref ar), .val (.int (1 : Int32)), .val (.ref ar), .val (.int (3 : Int32)), .val (.int (0 : Int32)), .unset]) rfl) ?_
  show ∃ t o, Steps p.tables e below (s₁.setTop (mkF m 16 #[.val (.ref ar), .val (.int (1 : Int32)), .val (.ref ar), .val (.int (3 : Int32)), .val (.int (0 : Int32)), .unset] [])) t ∧ _
  refine own_go (fun _ => XS.iload X0.here hx rfl (hb hby d6_16) rfl) ?_
  show ∃ t o, Steps p.tables e below (s₁.setTop (mkF m 18 #[.val (.ref ar), .val (.int (1 : Int32)), .val (.ref ar), .val (.int (3 : Int32)), .val (.int (0 : Int32)), .unset] [(.int (0 : Int32))])) t ∧ _
  refine own_go (fun _ => XS.iloadN X0.here hx rfl (hb hby d6_18) rfl) ?_
  show ∃ t o, Steps p.tables e below (s₁.setTop (mkF m 19 #[.val (.ref ar), .val (.int (1 : Int32)), .val (.ref ar), .val (.int (3 : Int32)), .val (.int (0 : Int32)), .unset] [(.int (3 : Int32)), (.int (0 : Int32))])) t ∧ _
  refine own_go (fun _ => XS.icmpNo X0.here hx rfl (hb hby d6_19) rfl (tlt (by decide : (0 : Int32) < (3 : Int32))).2.1) ?_
  show ∃ t o, Steps p.tables e below (s₁.setTop (mkF m 22 #[.val (.ref ar), .val (.int (1 : Int32)), .val (.ref ar), .val (.int (3 : Int32)), .val (.int (0 : Int32)), .unset] [])) t ∧ _
  refine own_go (fun _ => XS.aloadN X0.here hx rfl (hb hby d6_22) rfl rfl) ?_
  show ∃ t o, Steps p.tables e below (s₁.setTop (mkF m 23 #[.val (.ref ar), .val (.int (1 : Int32)), .val (.ref ar), .val (.int (3 : Int32)), .val (.int (0 : Int32)), .unset] [(.ref ar)])) t ∧ _
  refine own_go (fun _ => XS.iload X0.here hx rfl (hb hby d6_23) rfl) ?_
  show ∃ t o, Steps p.tables e below (s₁.setTop (mkF m 25 #[.val (.ref ar), .val (.int (1 : Int32)), .val (.ref ar), .val (.int (3 : Int32)), .val (.int (0 : Int32)), .unset] [(.int (0 : Int32)), (.ref ar)])) t ∧ _
  obtain ⟨cl7, Ar7, q7, S7, N7, H7, G7⟩ := id P1
  have hin7 : ¬ ((0 : Int32) < 0 ∨ cl7.slots.size ≤ ((0 : Int32)).toNatClampNeg) := inb_of S7 ⟨by decide, by decide⟩
  have hat7 : cl7.slots[((0 : Int32)).toNatClampNeg]? = some (.ref x0) := Has.at H7 hin7 rfl
  refine own_go (fun _ => X0.aaload hx (j := (0 : Int32)) (v := (.ref x0)) (by rw [e0]; exact Ar7.1) (State.isArrayOf_alike hZ.alike Ar7.2.1) rfl Ar7.2.2 hin7 hat7 (g := (mkF m 25 #[.val (.ref ar), .val (.int (1 : Int32)), .val (.ref ar), .val (.int (3 : Int32)), .val (.int (0 : Int32)), .unset] [(.int (0 : Int32)), (.ref ar)])) rfl rfl (hb hby d6_25) _) ?_
  show ∃ t o, Steps p.tables e below (s₁.setTop (mkF m 26 #[.val (.ref ar), .val (.int (1 : Int32)), .val (.ref ar), .val (.int (3 : Int32)), .val (.int (0 : Int32)), .unset] [(.ref x0)])) t ∧ _
  refine own_go (fun _ => XS.astore X0.here hx rfl (hb hby d6_26) rfl rfl (l' := #[.val (.ref ar), .val (.int (1 : Int32)), .val (.ref ar), .val (.int (3 : Int32)), .val (.int (0 : Int32)), .val (.ref x0)]) rfl) ?_
  show ∃ t o, Steps p.tables e below (s₁.setTop (mkF m 28 #[.val (.ref ar), .val (.int (1 : Int32)), .val (.ref ar), .val (.int (3 : Int32)), .val (.int (0 : Int32)), .val (.ref x0)] [])) t ∧ _
  refine own_go (fun _ => XS.bipush X0.here hx rfl (hb hby d6_28)) ?_
  show ∃ t o, Steps p.tables e below (s₁.setTop (mkF m 30 #[.val (.ref ar), .val (.int (1 : Int32)), .val (.ref ar), .val (.int (3 : Int32)), .val (.int (0 : Int32)), .val (.ref x0)] [(.int (31 : Int32))])) t ∧ _
  refine own_go (fun _ => XS.iloadN X0.here hx rfl (hb hby d6_30) rfl) ?_
  show ∃ t o, Steps p.tables e below (s₁.setTop (mkF m 31 #[.val (.ref ar), .val (.int (1 : Int32)), .val (.ref ar), .val (.int (3 : Int32)), .val (.int (0 : Int32)), .val (.ref x0)] [(.int (1 : Int32)), (.int (31 : Int32))])) t ∧ _
  refine own_go (fun _ => XS.imul X0.here hx rfl (hb hby d6_31) rfl) ?_
  show ∃ t o, Steps p.tables e below (s₁.setTop (mkF m 32 #[.val (.ref ar), .val (.int (1 : Int32)), .val (.ref ar), .val (.int (3 : Int32)), .val (.int (0 : Int32)), .val (.ref x0)] [(.int (31 : Int32))])) t ∧ _
  refine own_go (fun _ => XS.aload X0.here hx rfl (hb hby d6_32) rfl rfl) ?_
  show ∃ t o, Steps p.tables e below (s₁.setTop (mkF m 34 #[.val (.ref ar), .val (.int (1 : Int32)), .val (.ref ar), .val (.int (3 : Int32)), .val (.int (0 : Int32)), .val (.ref x0)] [(.ref x0), (.int (31 : Int32))])) t ∧ _
  refine own_go (fun _ => XS.ifnonnullYes X0.here hx rfl (pc0 := 34) (pc' := 41) rfl (hb hby d6_34) rfl (by decide) (by decide)) ?_
  show ∃ t o, Steps p.tables e below (s₁.setTop (mkF m 41 #[.val (.ref ar), .val (.int (1 : Int32)), .val (.ref ar), .val (.int (3 : Int32)), .val (.int (0 : Int32)), .val (.ref x0)] [(.int (31 : Int32))])) t ∧ _
  refine own_go (fun _ => XS.aload X0.here hx rfl (hb hby d6_41) rfl rfl) ?_
  show ∃ t o, Steps p.tables e below (s₁.setTop (mkF m 43 #[.val (.ref ar), .val (.int (1 : Int32)), .val (.ref ar), .val (.int (3 : Int32)), .val (.int (0 : Int32)), .val (.ref x0)] [(.ref x0), (.int (31 : Int32))])) t ∧ _
  obtain ⟨cq8, kq8, q8a, q8b, q8c⟩ := isOf hZ e0 P2
  obtain ⟨_, _, ⟨T8, L8, k8, n8⟩, -, X8, ⟨Lc8, hQ8, l8, y8, z8⟩, st8⟩ := X0.virtualBack hx (y := (⟨"java/lang/Object", "hashCode", "()I"⟩ : MethodName)) (z := (⟨"java/lang/Integer", "hashCode", "()I"⟩ : MethodName)) hown (mvT hZ (hw _ (List.mem_of_getElem? (i := 77) rfl))) (mvT hZ (hw _ (List.mem_of_getElem? (i := 78) rfl))) (own_nfo (args := #[]) (mvT hZ (hw _ (List.mem_of_getElem? (i := 45) rfl))) rfl) (mvT hZ (hw _ (List.mem_of_getElem? (i := 80) rfl))) (mvT hZ (hw _ (List.mem_of_getElem? (i := 81) rfl))) (by decide) (backOf (W := 1) (rmIHC l Z a0 hw [] x0 r0 h0 n0 Z0 P3 OLD) hZ (hw _ (List.mem_of_getElem? (i := 82) rfl)) (hw _ (List.mem_of_getElem? (i := 2) rfl)) (by decide) (by decide)) q8a q8c (g := (mkF m 43 #[.val (.ref ar), .val (.int (1 : Int32)), .val (.ref ar), .val (.int (3 : Int32)), .val (.int (0 : Int32)), .val (.ref x0)] [(.ref x0), (.int (31 : Int32))])) rfl (by rw [hml]; rfl) (Steps.refl _) (argsL := []) (rest := [(.int (31 : Int32))]) (lenOf pd__28_29I rfl) rfl (by show 2 * 0 + _ ≤ _; exact Nat.le_of_eq rfl) (hb hby d6_43) (fun _ _ => ⟨rfl, e0, (by decide : 0 + 0 ≤ _), (by decide : 0 + 0 ≤ _)⟩)
  dsimp only [Pt.U, Pt.locs, Pt.cells, Pt.slots] at X8 l8 y8 z8 st8 hQ8
  subst l8 y8 z8
  obtain ⟨rfl, Nq8, e8⟩ := hQ8
  have N8 := Fr.app N0 Nq8
  refine own_goT st8 ?_
  show ∃ t o, Steps p.tables e below (T8.setTop (mkF m 46 #[.val (.ref ar), .val (.int (1 : Int32)), .val (.ref ar), .val (.int (3 : Int32)), .val (.int (0 : Int32)), .val (.ref x0)] [(.int r0), (.int (31 : Int32))])) t ∧ _
  refine own_go (fun _ => XS.iadd X8.here hx rfl (hb hby d6_46) rfl) ?_
  show ∃ t o, Steps p.tables e below (T8.setTop (mkF m 47 #[.val (.ref ar), .val (.int (1 : Int32)), .val (.ref ar), .val (.int (3 : Int32)), .val (.int (0 : Int32)), .val (.ref x0)] [(.int ((31 : Int32) + r0))])) t ∧ _
  refine own_go (fun _ => XS.istoreN X8.here hx rfl (hb hby d6_47) rfl (l' := #[.val (.ref ar), .val (.int ((31 : Int32) + r0)), .val (.ref ar), .val (.int (3 : Int32)), .val (.int (0 : Int32)), .val (.ref x0)]) rfl) ?_
  show ∃ t o, Steps p.tables e below (T8.setTop (mkF m 48 #[.val (.ref ar), .val (.int ((31 : Int32) + r0)), .val (.ref ar), .val (.int (3 : Int32)), .val (.int (0 : Int32)), .val (.ref x0)] [])) t ∧ _
  refine own_go (fun _ => XS.iinc X8.here hx rfl (hb hby d6_48) rfl (l' := #[.val (.ref ar), .val (.int ((31 : Int32) + r0)), .val (.ref ar), .val (.int (3 : Int32)), .val (.int (1 : Int32)), .val (.ref x0)]) rfl) ?_
  show ∃ t o, Steps p.tables e below (T8.setTop (mkF m 51 #[.val (.ref ar), .val (.int ((31 : Int32) + r0)), .val (.ref ar), .val (.int (3 : Int32)), .val (.int (1 : Int32)), .val (.ref x0)] [])) t ∧ _
  refine own_go (fun _ => XS.goto X8.here hx rfl (pc0 := 51) (pc' := 16) rfl (hb hby d6_51) (by decide) (by decide)) ?_
  show ∃ t o, Steps p.tables e below (T8.setTop (mkF m 16 #[.val (.ref ar), .val (.int ((31 : Int32) + r0)), .val (.ref ar), .val (.int (3 : Int32)), .val (.int (1 : Int32)), .val (.ref x0)] [])) t ∧ _
  refine own_go (fun _ => XS.iload X8.here hx rfl (hb hby d6_16) rfl) ?_
  show ∃ t o, Steps p.tables e below (T8.setTop (mkF m 18 #[.val (.ref ar), .val (.int ((31 : Int32) + r0)), .val (.ref ar), .val (.int (3 : Int32)), .val (.int (1 : Int32)), .val (.ref x0)] [(.int (1 : Int32))])) t ∧ _
  refine own_go (fun _ => XS.iloadN X8.here hx rfl (hb hby d6_18) rfl) ?_
  show ∃ t o, Steps p.tables e below (T8.setTop (mkF m 19 #[.val (.ref ar), .val (.int ((31 : Int32) + r0)), .val (.ref ar), .val (.int (3 : Int32)), .val (.int (1 : Int32)), .val (.ref x0)] [(.int (3 : Int32)), (.int (1 : Int32))])) t ∧ _
  refine own_go (fun _ => XS.icmpNo X8.here hx rfl (hb hby d6_19) rfl (tlt (by decide : (1 : Int32) < (3 : Int32))).2.1) ?_
  show ∃ t o, Steps p.tables e below (T8.setTop (mkF m 22 #[.val (.ref ar), .val (.int ((31 : Int32) + r0)), .val (.ref ar), .val (.int (3 : Int32)), .val (.int (1 : Int32)), .val (.ref x0)] [])) t ∧ _
  refine own_go (fun _ => XS.aloadN X8.here hx rfl (hb hby d6_22) rfl rfl) ?_
  show ∃ t o, Steps p.tables e below (T8.setTop (mkF m 23 #[.val (.ref ar), .val (.int ((31 : Int32) + r0)), .val (.ref ar), .val (.int (3 : Int32)), .val (.int (1 : Int32)), .val (.ref x0)] [(.ref ar)])) t ∧ _
  refine own_go (fun _ => XS.iload X8.here hx rfl (hb hby d6_23) rfl) ?_
  show ∃ t o, Steps p.tables e below (T8.setTop (mkF m 25 #[.val (.ref ar), .val (.int ((31 : Int32) + r0)), .val (.ref ar), .val (.int (3 : Int32)), .val (.int (1 : Int32)), .val (.ref x0)] [(.int (1 : Int32)), (.ref ar)])) t ∧ _
  obtain ⟨cl9, Ar9, q9, S9, N9, H9, G9⟩ := id P1
  have hin9 : ¬ ((1 : Int32) < 0 ∨ cl9.slots.size ≤ ((1 : Int32)).toNatClampNeg) := inb_of S9 ⟨by decide, by decide⟩
  have hat9 : cl9.slots[((1 : Int32)).toNatClampNeg]? = some .null := Has.at H9 hin9 rfl
  refine own_go (fun _ => X8.aaload hx (j := (1 : Int32)) (v := .null) (by rw [e8]; exact Ar9.1) (State.isArrayOf_alike hZ.alike Ar9.2.1) rfl Ar9.2.2 hin9 hat9 (g := (mkF m 25 #[.val (.ref ar), .val (.int ((31 : Int32) + r0)), .val (.ref ar), .val (.int (3 : Int32)), .val (.int (1 : Int32)), .val (.ref x0)] [(.int (1 : Int32)), (.ref ar)])) rfl rfl (hb hby d6_25) _) ?_
  show ∃ t o, Steps p.tables e below (T8.setTop (mkF m 26 #[.val (.ref ar), .val (.int ((31 : Int32) + r0)), .val (.ref ar), .val (.int (3 : Int32)), .val (.int (1 : Int32)), .val (.ref x0)] [.null])) t ∧ _
  refine own_go (fun _ => XS.astore X8.here hx rfl (hb hby d6_26) rfl rfl (l' := #[.val (.ref ar), .val (.int ((31 : Int32) + r0)), .val (.ref ar), .val (.int (3 : Int32)), .val (.int (1 : Int32)), .val .null]) rfl) ?_
  show ∃ t o, Steps p.tables e below (T8.setTop (mkF m 28 #[.val (.ref ar), .val (.int ((31 : Int32) + r0)), .val (.ref ar), .val (.int (3 : Int32)), .val (.int (1 : Int32)), .val .null] [])) t ∧ _
  refine own_go (fun _ => XS.bipush X8.here hx rfl (hb hby d6_28)) ?_
  show ∃ t o, Steps p.tables e below (T8.setTop (mkF m 30 #[.val (.ref ar), .val (.int ((31 : Int32) + r0)), .val (.ref ar), .val (.int (3 : Int32)), .val (.int (1 : Int32)), .val .null] [(.int (31 : Int32))])) t ∧ _
  refine own_go (fun _ => XS.iloadN X8.here hx rfl (hb hby d6_30) rfl) ?_
  show ∃ t o, Steps p.tables e below (T8.setTop (mkF m 31 #[.val (.ref ar), .val (.int ((31 : Int32) + r0)), .val (.ref ar), .val (.int (3 : Int32)), .val (.int (1 : Int32)), .val .null] [(.int ((31 : Int32) + r0)), (.int (31 : Int32))])) t ∧ _
  refine own_go (fun _ => XS.imul X8.here hx rfl (hb hby d6_31) rfl) ?_
  show ∃ t o, Steps p.tables e below (T8.setTop (mkF m 32 #[.val (.ref ar), .val (.int ((31 : Int32) + r0)), .val (.ref ar), .val (.int (3 : Int32)), .val (.int (1 : Int32)), .val .null] [(.int ((31 : Int32) * ((31 : Int32) + r0)))])) t ∧ _
  refine own_go (fun _ => XS.aload X8.here hx rfl (hb hby d6_32) rfl rfl) ?_
  show ∃ t o, Steps p.tables e below (T8.setTop (mkF m 34 #[.val (.ref ar), .val (.int ((31 : Int32) + r0)), .val (.ref ar), .val (.int (3 : Int32)), .val (.int (1 : Int32)), .val .null] [.null, (.int ((31 : Int32) * ((31 : Int32) + r0)))])) t ∧ _
  refine own_go (fun _ => XS.ifnonnullNo X8.here hx rfl (hb hby d6_34) rfl) ?_
  show ∃ t o, Steps p.tables e below (T8.setTop (mkF m 37 #[.val (.ref ar), .val (.int ((31 : Int32) + r0)), .val (.ref ar), .val (.int (3 : Int32)), .val (.int (1 : Int32)), .val .null] [(.int ((31 : Int32) * ((31 : Int32) + r0)))])) t ∧ _
  refine own_go (fun _ => XS.iconst X8.here hx rfl (hb hby d6_37)) ?_
  show ∃ t o, Steps p.tables e below (T8.setTop (mkF m 38 #[.val (.ref ar), .val (.int ((31 : Int32) + r0)), .val (.ref ar), .val (.int (3 : Int32)), .val (.int (1 : Int32)), .val .null] [(.int (0 : Int32)), (.int ((31 : Int32) * ((31 : Int32) + r0)))])) t ∧ _
  refine own_go (fun _ => XS.goto X8.here hx rfl (pc0 := 38) (pc' := 46) rfl (hb hby d6_38) (by decide) (by decide)) ?_
  show ∃ t o, Steps p.tables e below (T8.setTop (mkF m 46 #[.val (.ref ar), .val (.int ((31 : Int32) + r0)), .val (.ref ar), .val (.int (3 : Int32)), .val (.int (1 : Int32)), .val .null] [(.int (0 : Int32)), (.int ((31 : Int32) * ((31 : Int32) + r0)))])) t ∧ _
  refine own_go (fun _ => XS.iadd X8.here hx rfl (hb hby d6_46) rfl) ?_
  show ∃ t o, Steps p.tables e below (T8.setTop (mkF m 47 #[.val (.ref ar), .val (.int ((31 : Int32) + r0)), .val (.ref ar), .val (.int (3 : Int32)), .val (.int (1 : Int32)), .val .null] [(.int (((31 : Int32) * ((31 : Int32) + r0)) + (0 : Int32)))])) t ∧ _
  refine own_go (fun _ => XS.istoreN X8.here hx rfl (hb hby d6_47) rfl (l' := #[.val (.ref ar), .val (.int (((31 : Int32) * ((31 : Int32) + r0)) + (0 : Int32))), .val (.ref ar), .val (.int (3 : Int32)), .val (.int (1 : Int32)), .val .null]) rfl) ?_
  show ∃ t o, Steps p.tables e below (T8.setTop (mkF m 48 #[.val (.ref ar), .val (.int (((31 : Int32) * ((31 : Int32) + r0)) + (0 : Int32))), .val (.ref ar), .val (.int (3 : Int32)), .val (.int (1 : Int32)), .val .null] [])) t ∧ _
  refine own_go (fun _ => XS.iinc X8.here hx rfl (hb hby d6_48) rfl (l' := #[.val (.ref ar), .val (.int (((31 : Int32) * ((31 : Int32) + r0)) + (0 : Int32))), .val (.ref ar), .val (.int (3 : Int32)), .val (.int (2 : Int32)), .val .null]) rfl) ?_
  show ∃ t o, Steps p.tables e below (T8.setTop (mkF m 51 #[.val (.ref ar), .val (.int (((31 : Int32) * ((31 : Int32) + r0)) + (0 : Int32))), .val (.ref ar), .val (.int (3 : Int32)), .val (.int (2 : Int32)), .val .null] [])) t ∧ _
  refine own_go (fun _ => XS.goto X8.here hx rfl (pc0 := 51) (pc' := 16) rfl (hb hby d6_51) (by decide) (by decide)) ?_
  show ∃ t o, Steps p.tables e below (T8.setTop (mkF m 16 #[.val (.ref ar), .val (.int (((31 : Int32) * ((31 : Int32) + r0)) + (0 : Int32))), .val (.ref ar), .val (.int (3 : Int32)), .val (.int (2 : Int32)), .val .null] [])) t ∧ _
  refine own_go (fun _ => XS.iload X8.here hx rfl (hb hby d6_16) rfl) ?_
  show ∃ t o, Steps p.tables e below (T8.setTop (mkF m 18 #[.val (.ref ar), .val (.int (((31 : Int32) * ((31 : Int32) + r0)) + (0 : Int32))), .val (.ref ar), .val (.int (3 : Int32)), .val (.int (2 : Int32)), .val .null] [(.int (2 : Int32))])) t ∧ _
  refine own_go (fun _ => XS.iloadN X8.here hx rfl (hb hby d6_18) rfl) ?_
  show ∃ t o, Steps p.tables e below (T8.setTop (mkF m 19 #[.val (.ref ar), .val (.int (((31 : Int32) * ((31 : Int32) + r0)) + (0 : Int32))), .val (.ref ar), .val (.int (3 : Int32)), .val (.int (2 : Int32)), .val .null] [(.int (3 : Int32)), (.int (2 : Int32))])) t ∧ _
  refine own_go (fun _ => XS.icmpNo X8.here hx rfl (hb hby d6_19) rfl (tlt (by decide : (2 : Int32) < (3 : Int32))).2.1) ?_
  show ∃ t o, Steps p.tables e below (T8.setTop (mkF m 22 #[.val (.ref ar), .val (.int (((31 : Int32) * ((31 : Int32) + r0)) + (0 : Int32))), .val (.ref ar), .val (.int (3 : Int32)), .val (.int (2 : Int32)), .val .null] [])) t ∧ _
  refine own_go (fun _ => XS.aloadN X8.here hx rfl (hb hby d6_22) rfl rfl) ?_
  show ∃ t o, Steps p.tables e below (T8.setTop (mkF m 23 #[.val (.ref ar), .val (.int (((31 : Int32) * ((31 : Int32) + r0)) + (0 : Int32))), .val (.ref ar), .val (.int (3 : Int32)), .val (.int (2 : Int32)), .val .null] [(.ref ar)])) t ∧ _
  refine own_go (fun _ => XS.iload X8.here hx rfl (hb hby d6_23) rfl) ?_
  show ∃ t o, Steps p.tables e below (T8.setTop (mkF m 25 #[.val (.ref ar), .val (.int (((31 : Int32) * ((31 : Int32) + r0)) + (0 : Int32))), .val (.ref ar), .val (.int (3 : Int32)), .val (.int (2 : Int32)), .val .null] [(.int (2 : Int32)), (.ref ar)])) t ∧ _
  obtain ⟨cl10, Ar10, q10, S10, N10, H10, G10⟩ := id P1
  have hin10 : ¬ ((2 : Int32) < 0 ∨ cl10.slots.size ≤ ((2 : Int32)).toNatClampNeg) := inb_of S10 ⟨by decide, by decide⟩
  have hat10 : cl10.slots[((2 : Int32)).toNatClampNeg]? = some (.ref x2) := Has.at H10 hin10 rfl
  refine own_go (fun _ => X8.aaload hx (j := (2 : Int32)) (v := (.ref x2)) (by rw [e8]; exact Ar10.1) (State.isArrayOf_alike hZ.alike Ar10.2.1) rfl Ar10.2.2 hin10 hat10 (g := (mkF m 25 #[.val (.ref ar), .val (.int (((31 : Int32) * ((31 : Int32) + r0)) + (0 : Int32))), .val (.ref ar), .val (.int (3 : Int32)), .val (.int (2 : Int32)), .val .null] [(.int (2 : Int32)), (.ref ar)])) rfl rfl (hb hby d6_25) _) ?_
  show ∃ t o, Steps p.tables e below (T8.setTop (mkF m 26 #[.val (.ref ar), .val (.int (((31 : Int32) * ((31 : Int32) + r0)) + (0 : Int32))), .val (.ref ar), .val (.int (3 : Int32)), .val (.int (2 : Int32)), .val .null] [(.ref x2)])) t ∧ _
  refine own_go (fun _ => XS.astore X8.here hx rfl (hb hby d6_26) rfl rfl (l' := #[.val (.ref ar), .val (.int (((31 : Int32) * ((31 : Int32) + r0)) + (0 : Int32))), .val (.ref ar), .val (.int (3 : Int32)), .val (.int (2 : Int32)), .val (.ref x2)]) rfl) ?_
  show ∃ t o, Steps p.tables e below (T8.setTop (mkF m 28 #[.val (.ref ar), .val (.int (((31 : Int32) * ((31 : Int32) + r0)) + (0 : Int32))), .val (.ref ar), .val (.int (3 : Int32)), .val (.int (2 : Int32)), .val (.ref x2)] [])) t ∧ _
  refine own_go (fun _ => XS.bipush X8.here hx rfl (hb hby d6_28)) ?_
  show ∃ t o, Steps p.tables e below (T8.setTop (mkF m 30 #[.val (.ref ar), .val (.int (((31 : Int32) * ((31 : Int32) + r0)) + (0 : Int32))), .val (.ref ar), .val (.int (3 : Int32)), .val (.int (2 : Int32)), .val (.ref x2)] [(.int (31 : Int32))])) t ∧ _
  refine own_go (fun _ => XS.iloadN X8.here hx rfl (hb hby d6_30) rfl) ?_
  show ∃ t o, Steps p.tables e below (T8.setTop (mkF m 31 #[.val (.ref ar), .val (.int (((31 : Int32) * ((31 : Int32) + r0)) + (0 : Int32))), .val (.ref ar), .val (.int (3 : Int32)), .val (.int (2 : Int32)), .val (.ref x2)] [(.int (((31 : Int32) * ((31 : Int32) + r0)) + (0 : Int32))), (.int (31 : Int32))])) t ∧ _
  refine own_go (fun _ => XS.imul X8.here hx rfl (hb hby d6_31) rfl) ?_
  show ∃ t o, Steps p.tables e below (T8.setTop (mkF m 32 #[.val (.ref ar), .val (.int (((31 : Int32) * ((31 : Int32) + r0)) + (0 : Int32))), .val (.ref ar), .val (.int (3 : Int32)), .val (.int (2 : Int32)), .val (.ref x2)] [(.int ((31 : Int32) * (((31 : Int32) * ((31 : Int32) + r0)) + (0 : Int32))))])) t ∧ _
  refine own_go (fun _ => XS.aload X8.here hx rfl (hb hby d6_32) rfl rfl) ?_
  show ∃ t o, Steps p.tables e below (T8.setTop (mkF m 34 #[.val (.ref ar), .val (.int (((31 : Int32) * ((31 : Int32) + r0)) + (0 : Int32))), .val (.ref ar), .val (.int (3 : Int32)), .val (.int (2 : Int32)), .val (.ref x2)] [(.ref x2), (.int ((31 : Int32) * (((31 : Int32) * ((31 : Int32) + r0)) + (0 : Int32))))])) t ∧ _
  refine own_go (fun _ => XS.ifnonnullYes X8.here hx rfl (pc0 := 34) (pc' := 41) rfl (hb hby d6_34) rfl (by decide) (by decide)) ?_
  show ∃ t o, Steps p.tables e below (T8.setTop (mkF m 41 #[.val (.ref ar), .val (.int (((31 : Int32) * ((31 : Int32) + r0)) + (0 : Int32))), .val (.ref ar), .val (.int (3 : Int32)), .val (.int (2 : Int32)), .val (.ref x2)] [(.int ((31 : Int32) * (((31 : Int32) * ((31 : Int32) + r0)) + (0 : Int32))))])) t ∧ _
  refine own_go (fun _ => XS.aload X8.here hx rfl (hb hby d6_41) rfl rfl) ?_
  show ∃ t o, Steps p.tables e below (T8.setTop (mkF m 43 #[.val (.ref ar), .val (.int (((31 : Int32) * ((31 : Int32) + r0)) + (0 : Int32))), .val (.ref ar), .val (.int (3 : Int32)), .val (.int (2 : Int32)), .val (.ref x2)] [(.ref x2), (.int ((31 : Int32) * (((31 : Int32) * ((31 : Int32) + r0)) + (0 : Int32))))])) t ∧ _
  obtain ⟨cq11, kq11, q11a, q11b, q11c⟩ := isOf hZ e8 P4
  obtain ⟨_, _, ⟨T11, L11, k11, n11⟩, -, X11, ⟨Lc11, hQ11, l11, y11, z11⟩, st11⟩ := X8.virtualBack hx (y := (⟨"java/lang/Object", "hashCode", "()I"⟩ : MethodName)) (z := (⟨"java/lang/Long", "hashCode", "()I"⟩ : MethodName)) hown (mvT hZ (hw _ (List.mem_of_getElem? (i := 77) rfl))) (mvT hZ (hw _ (List.mem_of_getElem? (i := 78) rfl))) (own_nfo (args := #[]) (mvT hZ (hw _ (List.mem_of_getElem? (i := 45) rfl))) rfl) (mvT hZ (hw _ (List.mem_of_getElem? (i := 86) rfl))) (mvT hZ (hw _ (List.mem_of_getElem? (i := 87) rfl))) (by decide) (backOf (W := 1) (rmLHC l Z a0 hw [] x2 r2 h0 n0 Z0 P5 OLD) hZ (hw _ (List.mem_of_getElem? (i := 88) rfl)) (hw _ (List.mem_of_getElem? (i := 9) rfl)) (by decide) (by decide)) q11a q11c (g := (mkF m 43 #[.val (.ref ar), .val (.int (((31 : Int32) * ((31 : Int32) + r0)) + (0 : Int32))), .val (.ref ar), .val (.int (3 : Int32)), .val (.int (2 : Int32)), .val (.ref x2)] [(.ref x2), (.int ((31 : Int32) * (((31 : Int32) * ((31 : Int32) + r0)) + (0 : Int32))))])) rfl (by rw [hml]; rfl) (Steps.refl _) (argsL := []) (rest := [(.int ((31 : Int32) * (((31 : Int32) * ((31 : Int32) + r0)) + (0 : Int32))))]) (lenOf pd__28_29I rfl) rfl (by show 2 * 0 + _ ≤ _; exact Nat.le_of_eq rfl) (hb hby d6_43) (fun _ _ => ⟨rfl, e8, (by decide : 0 + 0 ≤ _), (by decide : 0 + 0 ≤ _)⟩)
  dsimp only [Pt.U, Pt.locs, Pt.cells, Pt.slots] at X11 l11 y11 z11 st11 hQ11
  subst l11 y11 z11
  obtain ⟨rh_11, rfl, Nq11, e11⟩ := hQ11
  have N11 := Fr.app N8 Nq11
  refine own_goT st11 ?_
  show ∃ t o, Steps p.tables e below (T11.setTop (mkF m 46 #[.val (.ref ar), .val (.int (((31 : Int32) * ((31 : Int32) + r0)) + (0 : Int32))), .val (.ref ar), .val (.int (3 : Int32)), .val (.int (2 : Int32)), .val (.ref x2)] [(.int rh_11), (.int ((31 : Int32) * (((31 : Int32) * ((31 : Int32) + r0)) + (0 : Int32))))])) t ∧ _
  refine own_go (fun _ => XS.iadd X11.here hx rfl (hb hby d6_46) rfl) ?_
  show ∃ t o, Steps p.tables e below (T11.setTop (mkF m 47 #[.val (.ref ar), .val (.int (((31 : Int32) * ((31 : Int32) + r0)) + (0 : Int32))), .val (.ref ar), .val (.int (3 : Int32)), .val (.int (2 : Int32)), .val (.ref x2)] [(.int (((31 : Int32) * (((31 : Int32) * ((31 : Int32) + r0)) + (0 : Int32))) + rh_11))])) t ∧ _
  refine own_go (fun _ => XS.istoreN X11.here hx rfl (hb hby d6_47) rfl (l' := #[.val (.ref ar), .val (.int (((31 : Int32) * (((31 : Int32) * ((31 : Int32) + r0)) + (0 : Int32))) + rh_11)), .val (.ref ar), .val (.int (3 : Int32)), .val (.int (2 : Int32)), .val (.ref x2)]) rfl) ?_
  show ∃ t o, Steps p.tables e below (T11.setTop (mkF m 48 #[.val (.ref ar), .val (.int (((31 : Int32) * (((31 : Int32) * ((31 : Int32) + r0)) + (0 : Int32))) + rh_11)), .val (.ref ar), .val (.int (3 : Int32)), .val (.int (2 : Int32)), .val (.ref x2)] [])) t ∧ _
  refine own_go (fun _ => XS.iinc X11.here hx rfl (hb hby d6_48) rfl (l' := #[.val (.ref ar), .val (.int (((31 : Int32) * (((31 : Int32) * ((31 : Int32) + r0)) + (0 : Int32))) + rh_11)), .val (.ref ar), .val (.int (3 : Int32)), .val (.int (3 : Int32)), .val (.ref x2)]) rfl) ?_
  show ∃ t o, Steps p.tables e below (T11.setTop (mkF m 51 #[.val (.ref ar), .val (.int (((31 : Int32) * (((31 : Int32) * ((31 : Int32) + r0)) + (0 : Int32))) + rh_11)), .val (.ref ar), .val (.int (3 : Int32)), .val (.int (3 : Int32)), .val (.ref x2)] [])) t ∧ _
  refine own_go (fun _ => XS.goto X11.here hx rfl (pc0 := 51) (pc' := 16) rfl (hb hby d6_51) (by decide) (by decide)) ?_
  show ∃ t o, Steps p.tables e below (T11.setTop (mkF m 16 #[.val (.ref ar), .val (.int (((31 : Int32) * (((31 : Int32) * ((31 : Int32) + r0)) + (0 : Int32))) + rh_11)), .val (.ref ar), .val (.int (3 : Int32)), .val (.int (3 : Int32)), .val (.ref x2)] [])) t ∧ _
  refine own_go (fun _ => XS.iload X11.here hx rfl (hb hby d6_16) rfl) ?_
  show ∃ t o, Steps p.tables e below (T11.setTop (mkF m 18 #[.val (.ref ar), .val (.int (((31 : Int32) * (((31 : Int32) * ((31 : Int32) + r0)) + (0 : Int32))) + rh_11)), .val (.ref ar), .val (.int (3 : Int32)), .val (.int (3 : Int32)), .val (.ref x2)] [(.int (3 : Int32))])) t ∧ _
  refine own_go (fun _ => XS.iloadN X11.here hx rfl (hb hby d6_18) rfl) ?_
  show ∃ t o, Steps p.tables e below (T11.setTop (mkF m 19 #[.val (.ref ar), .val (.int (((31 : Int32) * (((31 : Int32) * ((31 : Int32) + r0)) + (0 : Int32))) + rh_11)), .val (.ref ar), .val (.int (3 : Int32)), .val (.int (3 : Int32)), .val (.ref x2)] [(.int (3 : Int32)), (.int (3 : Int32))])) t ∧ _
  refine own_go (fun _ => XS.icmpYes X11.here hx rfl (pc0 := 19) (pc' := 54) rfl (hb hby d6_19) rfl (flt (by decide : ¬ ((3 : Int32) < (3 : Int32)))).2.1 (by decide) (by decide)) ?_
  show ∃ t o, Steps p.tables e below (T11.setTop (mkF m 54 #[.val (.ref ar), .val (.int (((31 : Int32) * (((31 : Int32) * ((31 : Int32) + r0)) + (0 : Int32))) + rh_11)), .val (.ref ar), .val (.int (3 : Int32)), .val (.int (3 : Int32)), .val (.ref x2)] [])) t ∧ _
  refine own_go (fun _ => XS.iloadN X11.here hx rfl (hb hby d6_54) rfl) ?_
  show ∃ t o, Steps p.tables e below (T11.setTop (mkF m 55 #[.val (.ref ar), .val (.int (((31 : Int32) * (((31 : Int32) * ((31 : Int32) + r0)) + (0 : Int32))) + rh_11)), .val (.ref ar), .val (.int (3 : Int32)), .val (.int (3 : Int32)), .val (.ref x2)] [(.int (((31 : Int32) * (((31 : Int32) * ((31 : Int32) + r0)) + (0 : Int32))) + rh_11))])) t ∧ _
  obtain ⟨fs, hr, hrun, hended, hW, hsame⟩ := X11.leave (v := some (.int (((31 : Int32) * (((31 : Int32) * ((31 : Int32) + r0)) + (0 : Int32))) + rh_11))) (fun h => by rw [Bd.returns] at h; cases h)
  refine ⟨_, _, ?_, hrun, hended, _, _, rfl, ?_, ⟨_, rfl⟩, hW, hsame.mono (by decide) (by decide)⟩
  · exact retI X11 hx Bd.returns (hb hby d6_55) hr
  · show Q_rmHash3n Z ar kk x0 r0 x2 r2 h0 n0 _ T11.heap _
    rw [e11]
    exact ⟨(((31 : Int32) * (((31 : Int32) * ((31 : Int32) + r0)) + (0 : Int32))) + rh_11), rfl, N11, rfl⟩
theorem ef_rmKeyInit3n (m : MethodId) (x0 : Nat) (x1 : Nat) : entryFrame m #[(.ref x0), (.ref x1)] 2 = mkF m 0 #[.val (.ref x0), .val (.ref x1)] [] := by first | (simp [entryFrame, mkF, argsToLocals, Value.category]; done) | rfl
def Q_rmKeyInit3n (Z : State) (a1 : Nat) (ar : Nat) (kk : ClassId) (x0 : Nat) (r0 : Int32) (x2 : Nat) (r2 : Int64) (h0 : Heap) (n0 : Nat) (v : Option Value) (h : Heap) (L : List Loc) : Prop := v = none ∧ Fr n0 L ∧ Keep h0 h [a1] ∧ Exa Z h a1 "com/example/planwright/planwright/plan/Key" ∧ Fld Z h a1 "com/example/planwright/planwright/plan/Key" "values" "[Ljava/lang/Object;" (.ref ar)
set_option maxRecDepth 65536 in
set_option maxHeartbeats 40000000 in
theorem rmKeyInit3n (l : Launch) (Z : State) (a0 : Array Value) (hw : ∀ d ∈ tables_1, d.before a0 Z = true) (ws : List Jvm.Cond) (a1 : Nat) (ar : Nat) (kk : ClassId) (x0 : Nat) (r0 : Int32) (x2 : Nat) (r2 : Int64) (h0 : Heap) (n0 : Nat) (Z0 : n0 ≤ h0.size) (P1 : Exa Z h0 a1 "com/example/planwright/planwright/plan/Key") (P2 : Fld Z h0 a1 "com/example/planwright/planwright/plan/Key" "values" "[Ljava/lang/Object;" .null) (P3 : Fld Z h0 a1 "com/example/planwright/planwright/plan/Key" "hash" "I" (.int (0 : Int32))) (P4 : Arv Z h0 ar kk (.object "java/lang/Object") (3 : Int32) [(.ref x0), .null, (.ref x2)] .null) (P5 : Exa Z h0 x0 "java/lang/Integer") (P6 : Fld Z h0 x0 "java/lang/Integer" "value" "I" (.int r0)) (P7 : Exa Z h0 x2 "java/lang/Long") (P8 : Fld Z h0 x2 "java/lang/Long" "value" "J" (.long r2)) (OLD : Old Z n0 h0) (ga : n0 ≤ a1) (na : ar ≠ a1) (nx0 : x0 ≠ a1) (nx2 : x2 ≠ a1) :
    MetFree l (⟨"com/example/planwright/planwright/plan/Key", "<init>", "([Ljava/lang/Object;)V"⟩ : MethodName) (head1 (Jvm.Cond.code (⟨"com/example/planwright/planwright/plan/Key", "<init>", "([Ljava/lang/Object;)V"⟩ : MethodName) prog_66_method_1_code 2 none :: ws) ({ frames := 3, cells := 0, slots := 0, locals := 44 } : Room)) (fun a U => a = #[(.ref a1), (.ref ar)] ∧ Z.Warmed39 U.vm ∧ U.heap = h0) (fun _ _ _ _ _ => True) (fun _ U o U' => ∃ v L, o = .returned v ∧ Q_rmKeyInit3n Z a1 ar kk x0 r0 x2 r2 h0 n0 v U'.heap L ∧ FrameEnd U o U' L ({ frames := 3, cells := 0, slots := 0, locals := 44 } : Room).cells ({ frames := 3, cells := 0, slots := 0, locals := 44 } : Room).slots) := by
  refine MetFree.of_bodySF (plainFor_of_name pn_com_example_planwright_planwright_plan_Key) hisR ?_
  intro p e s m args below meth c s₁ Bd hml0 hP hK
  obtain ⟨rfl, hZ, hh⟩ := hP
  have hx := Bd.exec
  have hby := Bd.bytes
  have hml : c.maxLocals = 2 := hml0
  have hown : s.vm.findClass "com/example/planwright/planwright/plan/Key" = some m.cls := findClass_of_methodNamed Bd.named
  have hnm := (name_of_methodNamed Bd.named Bd.method).1
  have X0 : Stand p l e ({ frames := 3, cells := 0, slots := 0, locals := 44 } : Room) s m #[(.ref a1), (.ref ar)] below meth c s₁ [] 0 0 := Stand.of_body Bd
  have e0 : s₁.heap = h0 := by rw [← hh, Bd.state]; rfl
  have N0 := Fr.nil n0
  have pre0 : ∀ t, Steps p.tables e below (s₁.setTop (mkF m 0 #[.val (.ref a1), .val (.ref ar)] [])) t → Steps p.tables e below (s₁.setTop (entryFrame m #[(.ref a1), (.ref ar)] 2)) t := fun t k => castTop (ef_rmKeyInit3n m a1 ar) k
  have oz := OLD.1
  have lt_a1 : a1 < h0.size := P1.lt
  have lt_ar : ar < h0.size := P4.lt
  have lt_x0 : x0 < h0.size := P5.lt
  have lt_x2 : x2 < h0.size := P7.lt
  refine own_go (B := s₁.setTop (mkF m 0 #[.val (.ref a1), .val (.ref ar)] [])) pre0 ?_
  show ∃ t o, Steps p.tables e below (s₁.setTop (mkF m 0 #[.val (.ref a1), .val (.ref ar)] [])) t ∧ _
  refine own_go (fun _ => XS.aloadN X0.here hx rfl (hb hby d4_0) rfl rfl) ?_
  show ∃ t o, Steps p.tables e below (s₁.setTop (mkF m 1 #[.val (.ref a1), .val (.ref ar)] [(.ref a1)])) t ∧ _
  obtain ⟨T9, X9, e9, st9⟩ := initO X0 hx hZ hown (hw _ (List.mem_of_getElem? (i := 26) rfl)) (hw _ (List.mem_of_getElem? (i := 27) rfl)) (hw _ (List.mem_of_getElem? (i := 28) rfl)) e0 (g := (mkF m 1 #[.val (.ref a1), .val (.ref ar)] [(.ref a1)])) rfl (by rw [hml]; rfl) rfl (hb hby d4_1) (by decide) (W := 0) (by show 2 * 0 + _ ≤ _; exact Nat.le_of_eq rfl) (by decide)
  refine own_go st9 ?_
  show ∃ t o, Steps p.tables e below (T9.setTop (mkF m 4 #[.val (.ref a1), .val (.ref ar)] [])) t ∧ _
  refine own_go (fun _ => XS.aloadN X9.here hx rfl (hb hby d4_4) rfl rfl) ?_
  show ∃ t o, Steps p.tables e below (T9.setTop (mkF m 5 #[.val (.ref a1), .val (.ref ar)] [(.ref a1)])) t ∧ _
  refine own_go (fun _ => XS.aloadN X9.here hx rfl (hb hby d4_5) rfl rfl) ?_
  show ∃ t o, Steps p.tables e below (T9.setTop (mkF m 6 #[.val (.ref a1), .val (.ref ar)] [(.ref ar), (.ref a1)])) t ∧ _
  obtain ⟨T10, h10, X10, e10, W10, st10⟩ := putF X9 hx hZ hown (host := "") (Or.inl (hw _ (List.mem_of_getElem? (i := 29) rfl))) Via.refl e9 P2 P1 (Or.inr ⟨(hw _ (List.mem_of_getElem? (i := 30) rfl)), rfl, hnm⟩) (hw _ (List.mem_of_getElem? (i := 22) rfl)) (ty := (.array (.object "java/lang/Object"))) (by decide) rfl rfl (g := (mkF m 6 #[.val (.ref a1), .val (.ref ar)] [(.ref ar), (.ref a1)])) rfl rfl (hb hby d4_6)
  refine own_go st10 ?_
  have le_10 : h0.size ≤ h10.size := Nat.le_of_eq W10.size.symm
  have K10 : Keep h0 h10 [a1] := Keep.wr (Keep.refl h0 [a1]) W10 (Or.inl (List.mem_of_getElem? (i := 0) rfl))
  have N10 := Fr.snoc X10 N0 ga
  have Fw10 := Fld.same W10 P2
  show ∃ t o, Steps p.tables e below (T10.setTop (mkF m 9 #[.val (.ref a1), .val (.ref ar)] [])) t ∧ _
  refine own_go (fun _ => XS.aloadN X10.here hx rfl (hb hby d4_9) rfl rfl) ?_
  show ∃ t o, Steps p.tables e below (T10.setTop (mkF m 10 #[.val (.ref a1), .val (.ref ar)] [(.ref a1)])) t ∧ _
  refine own_go (fun _ => XS.aloadN X10.here hx rfl (hb hby d4_10) rfl rfl) ?_
  show ∃ t o, Steps p.tables e below (T10.setTop (mkF m 11 #[.val (.ref a1), .val (.ref ar)] [(.ref ar), (.ref a1)])) t ∧ _
  have F11 : Arv Z h10 ar kk (.object "java/lang/Object") (3 : Int32) [(.ref x0), .null, (.ref x2)] .null := (Arv.other P4 W10 na)
  have F12 : Exa Z h10 x0 "java/lang/Integer" := (Exa.wr W10 P5)
  have F13 : Fld Z h10 x0 "java/lang/Integer" "value" "I" (.int r0) := (Fld.other W10 P6 (Or.inl nx0))
  have F14 : Exa Z h10 x2 "java/lang/Long" := (Exa.wr W10 P7)
  have F15 : Fld Z h10 x2 "java/lang/Long" "value" "J" (.long r2) := (Fld.other W10 P8 (Or.inl nx2))
  have F16 : Old Z n0 h10 := (Old.wr OLD W10 ga)
  have zl17 : n0 ≤ h10.size := by omega
  obtain ⟨_, _, ⟨T18, L18, k18, n18⟩, -, X18, ⟨Lc18, hQ18, l18, y18, z18⟩, st18⟩ := Jvm.LawKit.callS X10 hx (y := (⟨"java/util/Arrays", "hashCode", "([Ljava/lang/Object;)I"⟩ : MethodName)) hown (mvT hZ (hw _ (List.mem_of_getElem? (i := 31) rfl))) (mvT hZ (hw _ (List.mem_of_getElem? (i := 32) rfl))) (mvT hZ (hw _ (List.mem_of_getElem? (i := 33) rfl))) (mvT hZ (hw _ (List.mem_of_getElem? (i := 34) rfl))) (by decide) (backOf (W := 1) (rmHash3n l Z a0 hw [] ar kk x0 r0 x2 r2 h10 n0 zl17 F11 F12 F13 F14 F15 F16) hZ (hw _ (List.mem_of_getElem? (i := 34) rfl)) (hw _ (List.mem_of_getElem? (i := 33) rfl)) (by decide) (by decide)) (g := (mkF m 11 #[.val (.ref a1), .val (.ref ar)] [(.ref ar), (.ref a1)])) rfl (by rw [hml]; rfl) (argsL := [(.ref ar)]) (rest := [(.ref a1)]) (lenOf pd__28_5bLjava_2flang_2fObject_3b_29I rfl) rfl (by show 2 * 0 + _ ≤ _; exact Nat.le_of_eq rfl) (hb hby d4_11) (fun _ _ => ⟨rfl, e10, (by decide : 0 + 0 ≤ _), (by decide : 0 + 0 ≤ _)⟩)
  dsimp only [Pt.U, Pt.locs, Pt.cells, Pt.slots] at X18 l18 y18 z18 st18 hQ18
  subst l18 y18 z18
  obtain ⟨rh_18, rfl, Nq18, e18⟩ := hQ18
  have N18 := Fr.app N10 Nq18
  refine own_go st18 ?_
  show ∃ t o, Steps p.tables e below (T18.setTop (mkF m 14 #[.val (.ref a1), .val (.ref ar)] [(.int rh_18), (.ref a1)])) t ∧ _
  have F19 : Exa Z h10 a1 "com/example/planwright/planwright/plan/Key" := (Exa.wr W10 P1)
  have F20 : Fld Z h10 a1 "com/example/planwright/planwright/plan/Key" "hash" "I" (.int (0 : Int32)) := (Fld.other W10 P3 (Or.inr (slot_ne (a0 := a0) (Or.inr (hw _ (List.mem_of_getElem? (i := 36) rfl))) (Or.inr (hw _ (List.mem_of_getElem? (i := 30) rfl))) (by decide) (t := .int) (t' := (.array (.object "java/lang/Object"))) (by decide) (by decide))))
  obtain ⟨T21, h21, X21, e21, W21, st21⟩ := putF X18 hx hZ hown (host := "") (Or.inl (hw _ (List.mem_of_getElem? (i := 35) rfl))) Via.refl e18 F20 F19 (Or.inr ⟨(hw _ (List.mem_of_getElem? (i := 36) rfl)), rfl, hnm⟩) (hw _ (List.mem_of_getElem? (i := 22) rfl)) (ty := .int) (by decide) rfl rfl (g := (mkF m 14 #[.val (.ref a1), .val (.ref ar)] [(.int rh_18), (.ref a1)])) rfl rfl (hb hby d4_14)
  refine own_go st21 ?_
  have le_21 : h10.size ≤ h21.size := Nat.le_of_eq W21.size.symm
  have K21 : Keep h0 h21 [a1] := Keep.wr K10 W21 (Or.inl (List.mem_of_getElem? (i := 0) rfl))
  have N21 := Fr.snoc X21 N18 ga
  have Fw21 := Fld.same W21 F20
  show ∃ t o, Steps p.tables e below (T21.setTop (mkF m 17 #[.val (.ref a1), .val (.ref ar)] [])) t ∧ _
  have F22 : Exa Z h21 a1 "com/example/planwright/planwright/plan/Key" := (Exa.wr W21 F19)
  have F23 : Fld Z h21 a1 "com/example/planwright/planwright/plan/Key" "values" "[Ljava/lang/Object;" (.ref ar) := (Fld.other W21 Fw10 (Or.inr (slot_ne (a0 := a0) (Or.inr (hw _ (List.mem_of_getElem? (i := 30) rfl))) (Or.inr (hw _ (List.mem_of_getElem? (i := 36) rfl))) (by decide) (t := (.array (.object "java/lang/Object"))) (t' := .int) (by decide) (by decide))))
  obtain ⟨fs, hr, hrun, hended, hW, hsame⟩ := X21.leave (v := none) (fun _ => rfl)
  refine ⟨_, _, ?_, hrun, hended, _, _, rfl, ?_, ⟨_, rfl⟩, hW, hsame.mono (by decide) (by decide)⟩
  · exact X21.returnOut hx Bd.returns (hb hby d4_17) hr
  · show Q_rmKeyInit3n Z a1 ar kk x0 r0 x2 r2 h0 n0 _ T21.heap _
    rw [e21]
    exact ⟨rfl, N21, K21, F22, F23⟩
theorem ef_rmOf3n (m : MethodId) (x0 : Nat) : entryFrame m #[(.ref x0)] 1 = mkF m 0 #[.val (.ref x0)] [] := by first | (simp [entryFrame, mkF, argsToLocals, Value.category]; done) | rfl
def Q_rmOf3n (Z : State) (ar : Nat) (kk : ClassId) (x0 : Nat) (r0 : Int32) (x2 : Nat) (r2 : Int64) (h0 : Heap) (n0 : Nat) (v : Option Value) (h : Heap) (L : List Loc) : Prop := ∃ (b : Nat), v = some (.ref b) ∧ Fr n0 L ∧ Keep h0 h [] ∧ Exa Z h b "com/example/planwright/planwright/plan/Key" ∧ Fld Z h b "com/example/planwright/planwright/plan/Key" "values" "[Ljava/lang/Object;" (.ref ar) ∧ (h0.size ≤ b)
set_option maxRecDepth 65536 in
set_option maxHeartbeats 40000000 in
theorem rmOf3n (l : Launch) (Z : State) (a0 : Array Value) (hw : ∀ d ∈ tables_1, d.before a0 Z = true) (ws : List Jvm.Cond) (ar : Nat) (kk : ClassId) (x0 : Nat) (r0 : Int32) (x2 : Nat) (r2 : Int64) (h0 : Heap) (n0 : Nat) (Z0 : n0 ≤ h0.size) (P1 : Arv Z h0 ar kk (.object "java/lang/Object") (3 : Int32) [(.ref x0), .null, (.ref x2)] .null) (P2 : Exa Z h0 x0 "java/lang/Integer") (P3 : Fld Z h0 x0 "java/lang/Integer" "value" "I" (.int r0)) (P4 : Exa Z h0 x2 "java/lang/Long") (P5 : Fld Z h0 x2 "java/lang/Long" "value" "J" (.long r2)) (OLD : Old Z n0 h0) :
    MetFree l (⟨"com/example/planwright/planwright/plan/Key", "of", "([Ljava/lang/Object;)Ljava/lang/Object;"⟩ : MethodName) (head1 (Jvm.Cond.code (⟨"com/example/planwright/planwright/plan/Key", "of", "([Ljava/lang/Object;)Ljava/lang/Object;"⟩ : MethodName) prog_66_method_2_code 1 (some (.object "java/lang/Object")) :: ws) ({ frames := 4, cells := 1, slots := 2, locals := 58 } : Room)) (fun a U => a = #[(.ref ar)] ∧ Z.Warmed39 U.vm ∧ U.heap = h0) (fun _ _ _ _ _ => True) (fun _ U o U' => ∃ v L, o = .returned v ∧ Q_rmOf3n Z ar kk x0 r0 x2 r2 h0 n0 v U'.heap L ∧ FrameEnd U o U' L ({ frames := 4, cells := 1, slots := 2, locals := 58 } : Room).cells ({ frames := 4, cells := 1, slots := 2, locals := 58 } : Room).slots) := by
  refine MetFree.of_bodySF (plainFor_of_name pn_com_example_planwright_planwright_plan_Key) hisR ?_
  intro p e s m args below meth c s₁ Bd hml0 hP hK
  obtain ⟨rfl, hZ, hh⟩ := hP
  have hx := Bd.exec
  have hby := Bd.bytes
  have hml : c.maxLocals = 1 := hml0
  have hown : s.vm.findClass "com/example/planwright/planwright/plan/Key" = some m.cls := findClass_of_methodNamed Bd.named
  have hnm := (name_of_methodNamed Bd.named Bd.method).1
  have X0 : Stand p l e ({ frames := 4, cells := 1, slots := 2, locals := 58 } : Room) s m #[(.ref ar)] below meth c s₁ [] 0 0 := Stand.of_body Bd
  have e0 : s₁.heap = h0 := by rw [← hh, Bd.state]; rfl
  have N0 := Fr.nil n0
  have pre0 : ∀ t, Steps p.tables e below (s₁.setTop (mkF m 0 #[.val (.ref ar)] [])) t → Steps p.tables e below (s₁.setTop (entryFrame m #[(.ref ar)] 1)) t := fun t k => castTop (ef_rmOf3n m ar) k
  have oz := OLD.1
  have lt_ar : ar < h0.size := P1.lt
  have lt_x0 : x0 < h0.size := P2.lt
  have lt_x2 : x2 < h0.size := P4.lt
  refine own_go (B := s₁.setTop (mkF m 0 #[.val (.ref ar)] [])) pre0 ?_
  show ∃ t o, Steps p.tables e below (s₁.setTop (mkF m 0 #[.val (.ref ar)] [])) t ∧ _
  refine own_go (fun _ => XS.aloadN X0.here hx rfl (hb hby d3_0) rfl rfl) ?_
  show ∃ t o, Steps p.tables e below (s₁.setTop (mkF m 1 #[.val (.ref ar)] [(.ref ar)])) t ∧ _
  obtain ⟨cl6, Ar6, q6, S6, N6, H6, G6⟩ := id P1
  have ln6 : cl6.slots.size.toInt32 = (3 : Int32) := len_of S6 N6
  have al6 := X0.arraylength hx (by rw [e0]; exact Ar6.1) (State.isArrayOf_alike hZ.alike Ar6.2.1) (g := (mkF m 1 #[.val (.ref ar)] [(.ref ar)])) rfl rfl (hb hby d3_1)
  rw [ln6] at al6
  refine own_go al6 ?_
  show ∃ t o, Steps p.tables e below (s₁.setTop (mkF m 2 #[.val (.ref ar)] [(.int (3 : Int32))])) t ∧ _
  refine own_go (fun _ => XS.iconst X0.here hx rfl (hb hby d3_2)) ?_
  show ∃ t o, Steps p.tables e below (s₁.setTop (mkF m 3 #[.val (.ref ar)] [(.int (1 : Int32)), (.int (3 : Int32))])) t ∧ _
  refine own_go (fun _ => XS.icmpYes X0.here hx rfl (pc0 := 3) (pc' := 12) rfl (hb hby d3_3) rfl (feq (by decide : ¬ ((3 : Int32) = (1 : Int32)))).2 (by decide) (by decide)) ?_
  show ∃ t o, Steps p.tables e below (s₁.setTop (mkF m 12 #[.val (.ref ar)] [])) t ∧ _
  obtain ⟨T7, h7, X7, e7, E7, A7, D7, -, st7⟩ := newO X0 hx hZ hown (hw _ (List.mem_of_getElem? (i := 21) rfl)) (hw _ (List.mem_of_getElem? (i := 22) rfl)) (hw _ (List.mem_of_getElem? (i := 19) rfl)) e0 (g := (mkF m 12 #[.val (.ref ar)] [])) rfl (hb hby d3_12) (by decide) (by decide)
  obtain ⟨b7, g7⟩ : ∃ z, z = h0.size := ⟨_, rfl⟩
  rw [← g7] at A7 D7 st7
  refine own_go st7 ?_
  have le_7 : h0.size ≤ h7.size := E7.1
  have lt_b7 : b7 < h7.size := A7.lt
  have F_values_b7 : Fld Z h7 b7 "com/example/planwright/planwright/plan/Key" "values" "[Ljava/lang/Object;" .null := D7 (Or.inr (hw _ (List.mem_of_getElem? (i := 30) rfl))) (ty := (.array (.object "java/lang/Object"))) (by decide)
  have F_hash_b7 : Fld Z h7 b7 "com/example/planwright/planwright/plan/Key" "hash" "I" (.int (0 : Int32)) := D7 (Or.inr (hw _ (List.mem_of_getElem? (i := 36) rfl))) (ty := .int) (by decide)
  have K7 : Keep h0 h7 [] := Keep.ext (Keep.refl h0 []) E7
  show ∃ t o, Steps p.tables e below (T7.setTop (mkF m 15 #[.val (.ref ar)] [(.ref b7)])) t ∧ _
  refine own_go (fun _ => XS.dup X7.here hx rfl (hb hby d3_15) rfl rfl) ?_
  show ∃ t o, Steps p.tables e below (T7.setTop (mkF m 16 #[.val (.ref ar)] [(.ref b7), (.ref b7)])) t ∧ _
  refine own_go (fun _ => XS.aloadN X7.here hx rfl (hb hby d3_16) rfl rfl) ?_
  show ∃ t o, Steps p.tables e below (T7.setTop (mkF m 17 #[.val (.ref ar)] [(.ref ar), (.ref b7), (.ref b7)])) t ∧ _
  have F8 : Arv Z h7 ar kk (.object "java/lang/Object") (3 : Int32) [(.ref x0), .null, (.ref x2)] .null := (P1.ext E7)
  have F9 : Exa Z h7 x0 "java/lang/Integer" := (Exa.ext E7 P2)
  have F10 : Fld Z h7 x0 "java/lang/Integer" "value" "I" (.int r0) := (Fld.ext E7 P3)
  have F11 : Exa Z h7 x2 "java/lang/Long" := (Exa.ext E7 P4)
  have F12 : Fld Z h7 x2 "java/lang/Long" "value" "J" (.long r2) := (Fld.ext E7 P5)
  have F13 : Old Z n0 h7 := (OLD.ext E7)
  have ge14 : n0 ≤ b7 := by omega
  have ne15 : ar ≠ b7 := own_ne (by omega)
  have ne16 : x0 ≠ b7 := own_ne (by omega)
  have ne17 : x2 ≠ b7 := own_ne (by omega)
  have zl18 : n0 ≤ h7.size := by omega
  obtain ⟨_, _, ⟨T19, L19, k19, n19⟩, -, X19, ⟨Lc19, hQ19, l19, y19, z19⟩, st19⟩ := X7.specialBack hx (y := (⟨"com/example/planwright/planwright/plan/Key", "<init>", "([Ljava/lang/Object;)V"⟩ : MethodName)) rfl hown (mvT hZ (hw _ (List.mem_of_getElem? (i := 23) rfl))) (mvT hZ (hw _ (List.mem_of_getElem? (i := 24) rfl))) (mvT hZ (hw _ (List.mem_of_getElem? (i := 25) rfl))) (by decide) (backOf (W := 1) (rmKeyInit3n l Z a0 hw [] b7 ar kk x0 r0 x2 r2 h7 n0 zl18 A7 F_values_b7 F_hash_b7 F8 F9 F10 F11 F12 F13 ge14 ne15 ne16 ne17) hZ (hw _ (List.mem_of_getElem? (i := 25) rfl)) (hw _ (List.mem_of_getElem? (i := 19) rfl)) (by decide) (by decide)) (g := (mkF m 17 #[.val (.ref ar)] [(.ref ar), (.ref b7), (.ref b7)])) rfl (by rw [hml]; rfl) (Steps.refl _) (a := b7) (argsL := [(.ref ar)]) (rest := [(.ref b7)]) (lenOf pd__28_5bLjava_2flang_2fObject_3b_29V rfl) rfl (by show 2 * 0 + _ ≤ _; exact Nat.le_of_eq rfl) (hb hby d3_17) (fun _ _ => ⟨rfl, e7, (by decide : 1 + 0 ≤ _), (by decide : 2 + 0 ≤ _)⟩)
  dsimp only [Pt.U, Pt.locs, Pt.cells, Pt.slots] at X19 l19 y19 z19 st19 hQ19
  subst l19 y19 z19
  obtain ⟨rfl, Nq19, Kp19, G19_0, G19_1⟩ := hQ19
  have N19 := Fr.app N0 Nq19
  refine own_goT st19 ?_
  have le_19 : h7.size ≤ T19.heap.size := Kp19.1
  have sz20 : h0.size ≤ b7 := by omega
  have K19 : Keep h0 T19.heap [] := Keep.trans K7 Kp19 (allS (Or.inr sz20) all0)
  show ∃ t o, Steps p.tables e below (T19.setTop (mkF m 20 #[.val (.ref ar)] [(.ref b7)])) t ∧ _
  obtain ⟨fs, hr, hrun, hended, hW, hsame⟩ := X19.leave (v := some (.ref b7)) (fun h => by rw [Bd.returns] at h; cases h)
  refine ⟨_, _, ?_, hrun, hended, _, _, rfl, ?_, ⟨_, rfl⟩, hW, hsame.mono (by decide) (by decide)⟩
  · jvm_step X19.here [X19.here.top, hx, (hb hby d3_20), X19.method', Bd.returns, Value.isRef, FieldType.isReference]
    first | (intro acts; rw [hr _ acts rfl rfl rfl]) | rw [hr _ _ rfl rfl rfl]
    exact Steps.refl _
  · show Q_rmOf3n Z ar kk x0 r0 x2 r2 h0 n0 _ T19.heap _
    exact ⟨b7, rfl, N19, K19, G19_0, G19_1, (by omega)⟩
theorem ef_rmVals3n (m : MethodId) (x0 : Nat) (x1 : Int32) : entryFrame m #[(.ref x0), (.int x1)] 2 = mkF m 0 #[.val (.ref x0), .val (.int x1)] [] := by first | (simp [entryFrame, mkF, argsToLocals, Value.category]; done) | rfl
def Q_rmVals3n (Z : State) (ko : Nat) (ar : Nat) (kk : ClassId) (x0 : Nat) (x2 : Nat) (h0 : Heap) (n0 : Nat) (v : Option Value) (h : Heap) (L : List Loc) : Prop := ∃ (b : Nat), v = some (.ref b) ∧ Fr n0 L ∧ Keep h0 h [] ∧ Arv Z h b kk (.object "java/lang/Object") (3 : Int32) [(.ref x0), .null, (.ref x2)] .null ∧ (h0.size ≤ b)
set_option maxRecDepth 65536 in
set_option maxHeartbeats 40000000 in
theorem rmVals3n (l : Launch) (Z : State) (a0 : Array Value) (hw : ∀ d ∈ tables_1, d.before a0 Z = true) (ws : List Jvm.Cond) (ko : Nat) (ar : Nat) (kk : ClassId) (x0 : Nat) (x2 : Nat) (h0 : Heap) (n0 : Nat) (Z0 : n0 ≤ h0.size) (P1 : Exa Z h0 ko "com/example/planwright/planwright/plan/Key") (P2 : Fld Z h0 ko "com/example/planwright/planwright/plan/Key" "values" "[Ljava/lang/Object;" (.ref ar)) (P3 : Arv Z h0 ar kk (.object "java/lang/Object") (3 : Int32) [(.ref x0), .null, (.ref x2)] .null) (P4 : Exa Z h0 ar "[Ljava/lang/Object;") (OLD : Old Z n0 h0) :
    MetFree l (⟨"com/example/planwright/planwright/plan/Key", "values", "(Ljava/lang/Object;I)[Ljava/lang/Object;"⟩ : MethodName) (head1 (Jvm.Cond.code (⟨"com/example/planwright/planwright/plan/Key", "values", "(Ljava/lang/Object;I)[Ljava/lang/Object;"⟩ : MethodName) prog_66_method_3_code 2 (some (.array (.object "java/lang/Object"))) :: ws) ({ frames := 1, cells := 1, slots := 3, locals := 14 } : Room)) (fun a U => a = #[(.ref ko), (.int (3 : Int32))] ∧ Z.Warmed39 U.vm ∧ U.heap = h0) (fun _ _ _ _ _ => True) (fun _ U o U' => ∃ v L, o = .returned v ∧ Q_rmVals3n Z ko ar kk x0 x2 h0 n0 v U'.heap L ∧ FrameEnd U o U' L ({ frames := 1, cells := 1, slots := 3, locals := 14 } : Room).cells ({ frames := 1, cells := 1, slots := 3, locals := 14 } : Room).slots) := by
  refine MetFree.of_bodySF (plainFor_of_name pn_com_example_planwright_planwright_plan_Key) hisR ?_
  intro p e s m args below meth c s₁ Bd hml0 hP hK
  obtain ⟨rfl, hZ, hh⟩ := hP
  have hx := Bd.exec
  have hby := Bd.bytes
  have hml : c.maxLocals = 2 := hml0
  have hown : s.vm.findClass "com/example/planwright/planwright/plan/Key" = some m.cls := findClass_of_methodNamed Bd.named
  have hnm := (name_of_methodNamed Bd.named Bd.method).1
  have X0 : Stand p l e ({ frames := 1, cells := 1, slots := 3, locals := 14 } : Room) s m #[(.ref ko), (.int (3 : Int32))] below meth c s₁ [] 0 0 := Stand.of_body Bd
  have e0 : s₁.heap = h0 := by rw [← hh, Bd.state]; rfl
  have N0 := Fr.nil n0
  have pre0 : ∀ t, Steps p.tables e below (s₁.setTop (mkF m 0 #[.val (.ref ko), .val (.int (3 : Int32))] [])) t → Steps p.tables e below (s₁.setTop (entryFrame m #[(.ref ko), (.int (3 : Int32))] 2)) t := fun t k => castTop (ef_rmVals3n m ko (3 : Int32)) k
  have oz := OLD.1
  have lt_ar : ar < h0.size := P3.lt
  have lt_ko : ko < h0.size := P1.lt
  refine own_go (B := s₁.setTop (mkF m 0 #[.val (.ref ko), .val (.int (3 : Int32))] [])) pre0 ?_
  show ∃ t o, Steps p.tables e below (s₁.setTop (mkF m 0 #[.val (.ref ko), .val (.int (3 : Int32))] [])) t ∧ _
  refine own_go (fun _ => XS.iloadN X0.here hx rfl (hb hby d7_0) rfl) ?_
  show ∃ t o, Steps p.tables e below (s₁.setTop (mkF m 1 #[.val (.ref ko), .val (.int (3 : Int32))] [(.int (3 : Int32))])) t ∧ _
  refine own_go (fun _ => XS.iconst X0.here hx rfl (hb hby d7_1)) ?_
  show ∃ t o, Steps p.tables e below (s₁.setTop (mkF m 2 #[.val (.ref ko), .val (.int (3 : Int32))] [(.int (1 : Int32)), (.int (3 : Int32))])) t ∧ _
  refine own_go (fun _ => XS.icmpYes X0.here hx rfl (pc0 := 2) (pc' := 16) rfl (hb hby d7_2) rfl (feq (by decide : ¬ ((3 : Int32) = (1 : Int32)))).2 (by decide) (by decide)) ?_
  show ∃ t o, Steps p.tables e below (s₁.setTop (mkF m 16 #[.val (.ref ko), .val (.int (3 : Int32))] [])) t ∧ _
  refine own_go (fun _ => XS.aloadN X0.here hx rfl (hb hby d7_16) rfl rfl) ?_
  show ∃ t o, Steps p.tables e below (s₁.setTop (mkF m 17 #[.val (.ref ko), .val (.int (3 : Int32))] [(.ref ko)])) t ∧ _
  obtain ⟨T5, X5, e5, st5⟩ := castY X0 hx hZ hown (hw _ (List.mem_of_getElem? (i := 21) rfl)) e0 (Ins.self P1) (g := (mkF m 17 #[.val (.ref ko), .val (.int (3 : Int32))] [(.ref ko)])) rfl rfl (hb hby d7_17)
  refine own_go st5 ?_
  show ∃ t o, Steps p.tables e below (T5.setTop (mkF m 20 #[.val (.ref ko), .val (.int (3 : Int32))] [(.ref ko)])) t ∧ _
  obtain ⟨T6, X6, e6, st6⟩ := getF X5 hx hZ hown (host := "") (Or.inl (hw _ (List.mem_of_getElem? (i := 29) rfl))) Via.refl e5 P2 (g := (mkF m 20 #[.val (.ref ko), .val (.int (3 : Int32))] [(.ref ko)])) rfl rfl (hb hby d7_20)
  refine own_go st6 ?_
  show ∃ t o, Steps p.tables e below (T6.setTop (mkF m 23 #[.val (.ref ko), .val (.int (3 : Int32))] [(.ref ar)])) t ∧ _
  obtain ⟨T7, h7, X7, e7, E7, A7, Q7, st7⟩ := cloneH X6 hx hZ hown (hw _ (List.mem_of_getElem? (i := 41) rfl)) (hw _ (List.mem_of_getElem? (i := 42) rfl)) (hw _ (List.mem_of_getElem? (i := 46) rfl)) (hw _ (List.mem_of_getElem? (i := 44) rfl)) (hw _ (List.mem_of_getElem? (i := 45) rfl)) (hw _ (List.mem_of_getElem? (i := 47) rfl)) e6 (Arv.arh P3) P4 (g := (mkF m 23 #[.val (.ref ko), .val (.int (3 : Int32))] [(.ref ar)])) rfl (by rw [hml]; rfl) rfl (hb hby d7_23) (by decide) (W := 0) (cap := 3) (by show 2 * 0 + _ ≤ _; exact Nat.le_of_eq rfl) (by decide) (by decide) (by decide) (by decide)
  obtain ⟨b7, g7⟩ : ∃ z, z = h0.size := ⟨_, rfl⟩
  rw [← g7] at A7 Q7 st7
  refine own_go st7 ?_
  have le_7 : h0.size ≤ h7.size := E7.1
  have V_b7 : Arv Z h7 b7 kk (.object "java/lang/Object") (3 : Int32) [(.ref x0), .null, (.ref x2)] .null := A7
  have lt_b7 : b7 < h7.size := V_b7.lt
  have K7 : Keep h0 h7 [] := Keep.ext (Keep.refl h0 []) E7
  show ∃ t o, Steps p.tables e below (T7.setTop (mkF m 26 #[.val (.ref ko), .val (.int (3 : Int32))] [(.ref b7)])) t ∧ _
  obtain ⟨T8, X8, e8, st8⟩ := castY X7 hx hZ hown (hw _ (List.mem_of_getElem? (i := 48) rfl)) e7 (Ins.self Q7) (g := (mkF m 26 #[.val (.ref ko), .val (.int (3 : Int32))] [(.ref b7)])) rfl rfl (hb hby d7_26)
  refine own_go st8 ?_
  show ∃ t o, Steps p.tables e below (T8.setTop (mkF m 29 #[.val (.ref ko), .val (.int (3 : Int32))] [(.ref b7)])) t ∧ _
  obtain ⟨fs, hr, hrun, hended, hW, hsame⟩ := X8.leave (v := some (.ref b7)) (fun h => by rw [Bd.returns] at h; cases h)
  refine ⟨_, _, ?_, hrun, hended, _, _, rfl, ?_, ⟨_, rfl⟩, hW, hsame.mono (by decide) (by decide)⟩
  · jvm_step X8.here [X8.here.top, hx, (hb hby d7_29), X8.method', Bd.returns, Value.isRef, FieldType.isReference]
    first | (intro acts; rw [hr _ acts rfl rfl rfl]) | rw [hr _ _ rfl rfl rfl]
    exact Steps.refl _
  · show Q_rmVals3n Z ko ar kk x0 x2 h0 n0 _ T8.heap _
    rw [e8]
    exact ⟨b7, rfl, N0, K7, V_b7, (by omega)⟩
theorem ef_rmOf1 (m : MethodId) (x0 : Nat) : entryFrame m #[(.ref x0)] 1 = mkF m 0 #[.val (.ref x0)] [] := by first | (simp [entryFrame, mkF, argsToLocals, Value.category]; done) | rfl
theorem d3_6 : decode prog_66_method_2_code 6 = .ok (.aload_n 0, 1) := by decide +kernel
theorem d3_7 : decode prog_66_method_2_code 7 = .ok (.iconst 0, 1) := by decide +kernel
theorem d3_8 : decode prog_66_method_2_code 8 = .ok (.aaload, 1) := by decide +kernel
theorem d3_9 : decode prog_66_method_2_code 9 = .ok (.goto 11, 3) := by decide +kernel
def Q_rmOf1 (Z : State) (ar : Nat) (kk : ClassId) (x0 : Nat) (h0 : Heap) (n0 : Nat) (v : Option Value) (h : Heap) (L : List Loc) : Prop := v = some (.ref x0) ∧ Fr n0 L ∧ h = h0
set_option maxRecDepth 65536 in
set_option maxHeartbeats 40000000 in
theorem rmOf1 (l : Launch) (Z : State) (a0 : Array Value) (hw : ∀ d ∈ tables_1, d.before a0 Z = true) (ws : List Jvm.Cond) (ar : Nat) (kk : ClassId) (x0 : Nat) (h0 : Heap) (n0 : Nat) (Z0 : n0 ≤ h0.size) (P1 : Arv Z h0 ar kk (.object "java/lang/Object") (1 : Int32) [(.ref x0)] .null) (OLD : Old Z n0 h0) :
    MetFree l (⟨"com/example/planwright/planwright/plan/Key", "of", "([Ljava/lang/Object;)Ljava/lang/Object;"⟩ : MethodName) (head1 (Jvm.Cond.code (⟨"com/example/planwright/planwright/plan/Key", "of", "([Ljava/lang/Object;)Ljava/lang/Object;"⟩ : MethodName) prog_66_method_2_code 1 (some (.object "java/lang/Object")) :: ws) ({ frames := 0, cells := 0, slots := 0, locals := 0 } : Room)) (fun a U => a = #[(.ref ar)] ∧ Z.Warmed39 U.vm ∧ U.heap = h0) (fun _ _ _ _ _ => True) (fun _ U o U' => ∃ v L, o = .returned v ∧ Q_rmOf1 Z ar kk x0 h0 n0 v U'.heap L ∧ FrameEnd U o U' L ({ frames := 0, cells := 0, slots := 0, locals := 0 } : Room).cells ({ frames := 0, cells := 0, slots := 0, locals := 0 } : Room).slots) := by
  refine MetFree.of_bodySF (plainFor_of_name pn_com_example_planwright_planwright_plan_Key) hisR ?_
  intro p e s m args below meth c s₁ Bd hml0 hP hK
  obtain ⟨rfl, hZ, hh⟩ := hP
  have hx := Bd.exec
  have hby := Bd.bytes
  have hml : c.maxLocals = 1 := hml0
  have hown : s.vm.findClass "com/example/planwright/planwright/plan/Key" = some m.cls := findClass_of_methodNamed Bd.named
  have hnm := (name_of_methodNamed Bd.named Bd.method).1
  have X0 : Stand p l e ({ frames := 0, cells := 0, slots := 0, locals := 0 } : Room) s m #[(.ref ar)] below meth c s₁ [] 0 0 := Stand.of_body Bd
  have e0 : s₁.heap = h0 := by rw [← hh, Bd.state]; rfl
  have N0 := Fr.nil n0
  have pre0 : ∀ t, Steps p.tables e below (s₁.setTop (mkF m 0 #[.val (.ref ar)] [])) t → Steps p.tables e below (s₁.setTop (entryFrame m #[(.ref ar)] 1)) t := fun t k => castTop (ef_rmOf1 m ar) k
  have oz := OLD.1
  have lt_ar : ar < h0.size := P1.lt
  refine own_go (B := s₁.setTop (mkF m 0 #[.val (.ref ar)] [])) pre0 ?_
  show ∃ t o, Steps p.tables e below (s₁.setTop (mkF m 0 #[.val (.ref ar)] [])) t ∧ _
  refine own_go (fun _ => XS.aloadN X0.here hx rfl (hb hby d3_0) rfl rfl) ?_
  show ∃ t o, Steps p.tables e below (s₁.setTop (mkF m 1 #[.val (.ref ar)] [(.ref ar)])) t ∧ _
  obtain ⟨cl2, Ar2, q2, S2, N2, H2, G2⟩ := id P1
  have ln2 : cl2.slots.size.toInt32 = (1 : Int32) := len_of S2 N2
  have al2 := X0.arraylength hx (by rw [e0]; exact Ar2.1) (State.isArrayOf_alike hZ.alike Ar2.2.1) (g := (mkF m 1 #[.val (.ref ar)] [(.ref ar)])) rfl rfl (hb hby d3_1)
  rw [ln2] at al2
  refine own_go al2 ?_
  show ∃ t o, Steps p.tables e below (s₁.setTop (mkF m 2 #[.val (.ref ar)] [(.int (1 : Int32))])) t ∧ _
  refine own_go (fun _ => XS.iconst X0.here hx rfl (hb hby d3_2)) ?_
  show ∃ t o, Steps p.tables e below (s₁.setTop (mkF m 3 #[.val (.ref ar)] [(.int (1 : Int32)), (.int (1 : Int32))])) t ∧ _
  refine own_go (fun _ => XS.icmpNo X0.here hx rfl (hb hby d3_3) rfl (teq (by decide : (1 : Int32) = (1 : Int32))).2) ?_
  show ∃ t o, Steps p.tables e below (s₁.setTop (mkF m 6 #[.val (.ref ar)] [])) t ∧ _
  refine own_go (fun _ => XS.aloadN X0.here hx rfl (hb hby d3_6) rfl rfl) ?_
  show ∃ t o, Steps p.tables e below (s₁.setTop (mkF m 7 #[.val (.ref ar)] [(.ref ar)])) t ∧ _
  refine own_go (fun _ => XS.iconst X0.here hx rfl (hb hby d3_7)) ?_
  show ∃ t o, Steps p.tables e below (s₁.setTop (mkF m 8 #[.val (.ref ar)] [(.int (0 : Int32)), (.ref ar)])) t ∧ _
  obtain ⟨cl3, Ar3, q3, S3, N3, H3, G3⟩ := id P1
  have hin3 : ¬ ((0 : Int32) < 0 ∨ cl3.slots.size ≤ ((0 : Int32)).toNatClampNeg) := inb_of S3 ⟨by decide, by decide⟩
  have hat3 : cl3.slots[((0 : Int32)).toNatClampNeg]? = some (.ref x0) := Has.at H3 hin3 rfl
  refine own_go (fun _ => X0.aaload hx (j := (0 : Int32)) (v := (.ref x0)) (by rw [e0]; exact Ar3.1) (State.isArrayOf_alike hZ.alike Ar3.2.1) rfl Ar3.2.2 hin3 hat3 (g := (mkF m 8 #[.val (.ref ar)] [(.int (0 : Int32)), (.ref ar)])) rfl rfl (hb hby d3_8) _) ?_
  show ∃ t o, Steps p.tables e below (s₁.setTop (mkF m 9 #[.val (.ref ar)] [(.ref x0)])) t ∧ _
  refine own_go (fun _ => XS.goto X0.here hx rfl (pc0 := 9) (pc' := 20) rfl (hb hby d3_9) (by decide) (by decide)) ?_
  show ∃ t o, Steps p.tables e below (s₁.setTop (mkF m 20 #[.val (.ref ar)] [(.ref x0)])) t ∧ _
  obtain ⟨fs, hr, hrun, hended, hW, hsame⟩ := X0.leave (v := some (.ref x0)) (fun h => by rw [Bd.returns] at h; cases h)
  refine ⟨_, _, ?_, hrun, hended, _, _, rfl, ?_, ⟨_, rfl⟩, hW, hsame.mono (by decide) (by decide)⟩
  · jvm_step X0.here [X0.here.top, hx, (hb hby d3_20), X0.method', Bd.returns, Value.isRef, FieldType.isReference]
    first | (intro acts; rw [hr _ acts rfl rfl rfl]) | rw [hr _ _ rfl rfl rfl]
    exact Steps.refl _
  · show Q_rmOf1 Z ar kk x0 h0 n0 _ s₁.heap _
    rw [e0]
    exact ⟨rfl, N0, rfl⟩
theorem ef_rmVals1 (m : MethodId) (x0 : Nat) (x1 : Int32) : entryFrame m #[(.ref x0), (.int x1)] 2 = mkF m 0 #[.val (.ref x0), .val (.int x1)] [] := by first | (simp [entryFrame, mkF, argsToLocals, Value.category]; done) | rfl
theorem d7_5 : decode prog_66_method_3_code 5 = .ok (.iconst 1, 1) := by decide +kernel
theorem d7_6 : decode prog_66_method_3_code 6 = .ok (.anewarray 2, 3) := by decide +kernel
theorem d7_9 : decode prog_66_method_3_code 9 = .ok (.dup, 1) := by decide +kernel
theorem d7_10 : decode prog_66_method_3_code 10 = .ok (.iconst 0, 1) := by decide +kernel
theorem d7_11 : decode prog_66_method_3_code 11 = .ok (.aload_n 0, 1) := by decide +kernel
theorem d7_12 : decode prog_66_method_3_code 12 = .ok (.aastore, 1) := by decide +kernel
theorem d7_13 : decode prog_66_method_3_code 13 = .ok (.goto 16, 3) := by decide +kernel
def Q_rmVals1 (Z : State) (x0 : Nat) (h0 : Heap) (n0 : Nat) (v : Option Value) (h : Heap) (L : List Loc) : Prop := ∃ (b : Nat), ∃ (kq : ClassId), v = some (.ref b) ∧ Fr n0 L ∧ Keep h0 h [] ∧ Arv Z h b kq (.object "java/lang/Object") (1 : Int32) [(.ref x0)] .null ∧ (h0.size ≤ b) ∧ (Ovr Z kq "java/lang/Object")
set_option maxRecDepth 65536 in
set_option maxHeartbeats 40000000 in
theorem rmVals1 (l : Launch) (Z : State) (a0 : Array Value) (hw : ∀ d ∈ tables_1, d.before a0 Z = true) (ws : List Jvm.Cond) (x0 : Nat) (h0 : Heap) (n0 : Nat) (Z0 : n0 ≤ h0.size) (P1 : Exa Z h0 x0 "java/lang/Integer") (OLD : Old Z n0 h0) :
    MetFree l (⟨"com/example/planwright/planwright/plan/Key", "values", "(Ljava/lang/Object;I)[Ljava/lang/Object;"⟩ : MethodName) (head1 (Jvm.Cond.code (⟨"com/example/planwright/planwright/plan/Key", "values", "(Ljava/lang/Object;I)[Ljava/lang/Object;"⟩ : MethodName) prog_66_method_3_code 2 (some (.array (.object "java/lang/Object"))) :: ws) ({ frames := 0, cells := 1, slots := 1, locals := 0 } : Room)) (fun a U => a = #[(.ref x0), (.int (1 : Int32))] ∧ Z.Warmed39 U.vm ∧ U.heap = h0) (fun _ _ _ _ _ => True) (fun _ U o U' => ∃ v L, o = .returned v ∧ Q_rmVals1 Z x0 h0 n0 v U'.heap L ∧ FrameEnd U o U' L ({ frames := 0, cells := 1, slots := 1, locals := 0 } : Room).cells ({ frames := 0, cells := 1, slots := 1, locals := 0 } : Room).slots) := by
  refine MetFree.of_bodySF (plainFor_of_name pn_com_example_planwright_planwright_plan_Key) hisR ?_
  intro p e s m args below meth c s₁ Bd hml0 hP hK
  obtain ⟨rfl, hZ, hh⟩ := hP
  have hx := Bd.exec
  have hby := Bd.bytes
  have hml : c.maxLocals = 2 := hml0
  have hown : s.vm.findClass "com/example/planwright/planwright/plan/Key" = some m.cls := findClass_of_methodNamed Bd.named
  have hnm := (name_of_methodNamed Bd.named Bd.method).1
  have X0 : Stand p l e ({ frames := 0, cells := 1, slots := 1, locals := 0 } : Room) s m #[(.ref x0), (.int (1 : Int32))] below meth c s₁ [] 0 0 := Stand.of_body Bd
  have e0 : s₁.heap = h0 := by rw [← hh, Bd.state]; rfl
  have N0 := Fr.nil n0
  have pre0 : ∀ t, Steps p.tables e below (s₁.setTop (mkF m 0 #[.val (.ref x0), .val (.int (1 : Int32))] [])) t → Steps p.tables e below (s₁.setTop (entryFrame m #[(.ref x0), (.int (1 : Int32))] 2)) t := fun t k => castTop (ef_rmVals1 m x0 (1 : Int32)) k
  have oz := OLD.1
  have lt_x0 : x0 < h0.size := P1.lt
  refine own_go (B := s₁.setTop (mkF m 0 #[.val (.ref x0), .val (.int (1 : Int32))] [])) pre0 ?_
  show ∃ t o, Steps p.tables e below (s₁.setTop (mkF m 0 #[.val (.ref x0), .val (.int (1 : Int32))] [])) t ∧ _
  refine own_go (fun _ => XS.iloadN X0.here hx rfl (hb hby d7_0) rfl) ?_
  show ∃ t o, Steps p.tables e below (s₁.setTop (mkF m 1 #[.val (.ref x0), .val (.int (1 : Int32))] [(.int (1 : Int32))])) t ∧ _
  refine own_go (fun _ => XS.iconst X0.here hx rfl (hb hby d7_1)) ?_
  show ∃ t o, Steps p.tables e below (s₁.setTop (mkF m 2 #[.val (.ref x0), .val (.int (1 : Int32))] [(.int (1 : Int32)), (.int (1 : Int32))])) t ∧ _
  refine own_go (fun _ => XS.icmpNo X0.here hx rfl (hb hby d7_2) rfl (teq (by decide : (1 : Int32) = (1 : Int32))).2) ?_
  show ∃ t o, Steps p.tables e below (s₁.setTop (mkF m 5 #[.val (.ref x0), .val (.int (1 : Int32))] [])) t ∧ _
  refine own_go (fun _ => XS.iconst X0.here hx rfl (hb hby d7_5)) ?_
  show ∃ t o, Steps p.tables e below (s₁.setTop (mkF m 6 #[.val (.ref x0), .val (.int (1 : Int32))] [(.int (1 : Int32))])) t ∧ _
  obtain ⟨T2, h2, k2, X2, e2, E2, A2, Q2, O2, st2⟩ := newRE X0 hx hZ hown (hw _ (List.mem_of_getElem? (i := 92) rfl)) (hw _ (List.mem_of_getElem? (i := 16) rfl)) e0 (g := (mkF m 6 #[.val (.ref x0), .val (.int (1 : Int32))] [(.int (1 : Int32))])) rfl (hb hby d7_6) rfl (by decide) (cap := 1) (by decide) (by decide) (by decide) (by decide) (ad := "[Ljava/lang/Object;") rfl
  obtain ⟨b2, g2⟩ : ∃ z, z = h0.size := ⟨_, rfl⟩
  rw [← g2] at A2 Q2 st2
  refine own_go st2 ?_
  have le_2 : h0.size ≤ h2.size := E2.1
  have lt_b2 : b2 < h2.size := A2.lt
  have V_b2 : Arv Z h2 b2 k2 (.object "java/lang/Object") (1 : Int32) [.null] .null := (Arv.new A2 (by decide)).pad (pad_rep [] .null 1)
  have K2 : Keep h0 h2 [] := Keep.ext (Keep.refl h0 []) E2
  show ∃ t o, Steps p.tables e below (T2.setTop (mkF m 9 #[.val (.ref x0), .val (.int (1 : Int32))] [(.ref b2)])) t ∧ _
  refine own_go (fun _ => XS.dup X2.here hx rfl (hb hby d7_9) rfl rfl) ?_
  show ∃ t o, Steps p.tables e below (T2.setTop (mkF m 10 #[.val (.ref x0), .val (.int (1 : Int32))] [(.ref b2), (.ref b2)])) t ∧ _
  refine own_go (fun _ => XS.iconst X2.here hx rfl (hb hby d7_10)) ?_
  show ∃ t o, Steps p.tables e below (T2.setTop (mkF m 11 #[.val (.ref x0), .val (.int (1 : Int32))] [(.int (0 : Int32)), (.ref b2), (.ref b2)])) t ∧ _
  refine own_go (fun _ => XS.aloadN X2.here hx rfl (hb hby d7_11) rfl rfl) ?_
  show ∃ t o, Steps p.tables e below (T2.setTop (mkF m 12 #[.val (.ref x0), .val (.int (1 : Int32))] [(.ref x0), (.int (0 : Int32)), (.ref b2), (.ref b2)])) t ∧ _
  obtain ⟨cl3, Ar3, q3, S3, N3, H3, G3⟩ := id V_b2
  have hin3 : ¬ ((0 : Int32) < 0 ∨ cl3.slots.size ≤ ((0 : Int32)).toNatClampNeg) := inb_of S3 ⟨by decide, by decide⟩
  have F4 : Exa Z h2 x0 "java/lang/Integer" := (Exa.ext E2 P1)
  obtain ⟨T5, h5, X5, e5, W5, st5⟩ := stR X2 hx hZ e2 Ar3 (j := (0 : Int32)) hin3 rfl (Sto.ofV Ar3 q3 O2 (Ins.of_exa F4 (hw _ (List.mem_of_getElem? (i := 75) rfl)))) (g := (mkF m 12 #[.val (.ref x0), .val (.int (1 : Int32))] [(.ref x0), (.int (0 : Int32)), (.ref b2), (.ref b2)])) rfl rfl (hb hby d7_12)
  refine own_go st5 ?_
  have ge6 : n0 ≤ b2 := by omega
  have le_5 : h2.size ≤ h5.size := Nat.le_of_eq W5.size.symm
  have sz7 : h0.size ≤ b2 := by omega
  have K5 : Keep h0 h5 [] := Keep.wr K2 W5 (Or.inr sz7)
  have N5 := Fr.snoc X5 N0 ge6
  have V5 : Arv Z h5 b2 k2 (.object "java/lang/Object") (1 : Int32) [(.ref x0)] .null := Arv.set Ar3 q3 S3 N3 H3 G3 rfl W5 0 rfl (Nat.le_of_ble_eq_true rfl)
  show ∃ t o, Steps p.tables e below (T5.setTop (mkF m 13 #[.val (.ref x0), .val (.int (1 : Int32))] [(.ref b2)])) t ∧ _
  refine own_go (fun _ => XS.goto X5.here hx rfl (pc0 := 13) (pc' := 29) rfl (hb hby d7_13) (by decide) (by decide)) ?_
  show ∃ t o, Steps p.tables e below (T5.setTop (mkF m 29 #[.val (.ref x0), .val (.int (1 : Int32))] [(.ref b2)])) t ∧ _
  obtain ⟨fs, hr, hrun, hended, hW, hsame⟩ := X5.leave (v := some (.ref b2)) (fun h => by rw [Bd.returns] at h; cases h)
  refine ⟨_, _, ?_, hrun, hended, _, _, rfl, ?_, ⟨_, rfl⟩, hW, hsame.mono (by decide) (by decide)⟩
  · jvm_step X5.here [X5.here.top, hx, (hb hby d7_29), X5.method', Bd.returns, Value.isRef, FieldType.isReference]
    first | (intro acts; rw [hr _ acts rfl rfl rfl]) | rw [hr _ _ rfl rfl rfl]
    exact Steps.refl _
  · show Q_rmVals1 Z x0 h0 n0 _ T5.heap _
    rw [e5]
    exact ⟨b2, k2, rfl, N5, K5, V5, (by omega), O2⟩
theorem ef_rm0 (m : MethodId) (x0 : Int32) (x1 : Int32) (x2 : Int32) (x3 : Int32) : entryFrame m #[(.int x0), (.int x1), (.int x2), (.int x3)] maxLocals = mkF m 0 #[.val (.int x0), .val (.int x1), .val (.int x2), .val (.int x3), .unset, .unset, .unset, .unset, .unset, .unset, .unset, .unset, .unset] [] := by first | (simp [entryFrame, mkF, argsToLocals, Value.category, maxLocals]; done) | rfl
theorem pd__28I_29Ljava_2flang_2fInteger_3b : parseMethodDescriptor "(I)Ljava/lang/Integer;" = some ⟨[.int], some (.object "java/lang/Integer")⟩ := by decide +kernel
theorem pd__28J_29Ljava_2flang_2fLong_3b : parseMethodDescriptor "(J)Ljava/lang/Long;" = some ⟨[.long], some (.object "java/lang/Long")⟩ := by decide +kernel
theorem pd_hefb3f20f : parseMethodDescriptor "([Ljava/lang/Object;)Ljava/lang/Object;" = some ⟨[(.array (.object "java/lang/Object"))], some (.object "java/lang/Object")⟩ := by decide +kernel
theorem pd_h9d814d6e : parseMethodDescriptor "(Ljava/lang/Object;I)[Ljava/lang/Object;" = some ⟨[(.object "java/lang/Object"), .int], some (.array (.object "java/lang/Object"))⟩ := by decide +kernel
theorem pn_com_example_planwright_planwright_plan_KeyValuesPinLaw : plainName "com/example/planwright/planwright/plan/KeyValuesPinLaw" = true := by first | (simp [plainName, overriddenIn]; done) | decide +kernel
def Q_rm0 (Z : State) (f1 : Int32) (x1 : Int32) (y1 : Int32) (z1 : Int32) (caI : Nat) (ccI : Cell) (caL : Nat) (ccL : Cell) (h0 : Heap) (n0 : Nat) (v : Option Value) (h : Heap) (L : List Loc) : Prop := v = some (.int (1 : Int32)) ∧ Fr n0 L ∧ Keep h0 h []
set_option maxRecDepth 65536 in
set_option maxHeartbeats 40000000 in
theorem rm0 (l : Launch) (Z : State) (a0 : Array Value) (hw : ∀ d ∈ tables_1, d.before a0 Z = true) (ws : List Jvm.Cond) (f1 : Int32) (x1 : Int32) (y1 : Int32) (z1 : Int32) (caI : Nat) (ccI : Cell) (caL : Nat) (ccL : Cell) (h0 : Heap) (n0 : Nat) (Z0 : n0 ≤ h0.size) (OLD : Old Z n0 h0) (P1 : Sta Z Z.heap "java/lang/Integer$IntegerCache" "cache" "[Ljava/lang/Integer;" (.ref caI)) (P2 : Sta Z Z.heap "java/lang/Integer$IntegerCache" "high" "I" (.int (127 : Int32))) (P3 : Sta Z Z.heap "java/lang/Long$LongCache" "cache" "[Ljava/lang/Long;" (.ref caL)) (BXI : Bxs Z caI ccI "java/lang/Integer" "I" (256 : Int32) own_ival) (BXL : Bxs Z caL ccL "java/lang/Long" "J" (256 : Int32) own_lval) :
    MetFree l x (head1 (Jvm.Cond.code x code maxLocals ret :: ws) room_1) (fun a U => a = #[(.int f1), (.int x1), (.int y1), (.int z1)] ∧ Z.Warmed39 U.vm ∧ U.heap = h0) (fun _ _ _ _ _ => True) (fun _ U o U' => ∃ v L, o = .returned v ∧ Q_rm0 Z f1 x1 y1 z1 caI ccI caL ccL h0 n0 v U'.heap L ∧ FrameEnd U o U' L room_1.cells room_1.slots) := by
  refine MetFree.of_bodySF (plainFor_of_name pn_com_example_planwright_planwright_plan_KeyValuesPinLaw) hisR ?_
  intro p e s m args below meth c s₁ Bd hml0 hP hK
  obtain ⟨rfl, hZ, hh⟩ := hP
  have hx := Bd.exec
  have hby := Bd.bytes
  have hml : c.maxLocals = 13 := hml0
  have hown : s.vm.findClass "com/example/planwright/planwright/plan/KeyValuesPinLaw" = some m.cls := findClass_of_methodNamed Bd.named
  have hnm := (name_of_methodNamed Bd.named Bd.method).1
  have X0 : Stand p l e room_1 s m #[(.int f1), (.int x1), (.int y1), (.int z1)] below meth c s₁ [] 0 0 := Stand.of_body Bd
  have e0 : s₁.heap = h0 := by rw [← hh, Bd.state]; rfl
  have N0 := Fr.nil n0
  have pre0 : ∀ t, Steps p.tables e below (s₁.setTop (mkF m 0 #[.val (.int f1), .val (.int x1), .val (.int y1), .val (.int z1), .unset, .unset, .unset, .unset, .unset, .unset, .unset, .unset, .unset] [])) t → Steps p.tables e below (s₁.setTop (entryFrame m #[(.int f1), (.int x1), (.int y1), (.int z1)] maxLocals)) t := fun t k => castTop (ef_rm0 m f1 x1 y1 z1) k
  have oz := OLD.1
  refine own_go (B := s₁.setTop (mkF m 0 #[.val (.int f1), .val (.int x1), .val (.int y1), .val (.int z1), .unset, .unset, .unset, .unset, .unset, .unset, .unset, .unset, .unset] [])) pre0 ?_
  show ∃ t o, Steps p.tables e below (s₁.setTop (mkF m 0 #[.val (.int f1), .val (.int x1), .val (.int y1), .val (.int z1), .unset, .unset, .unset, .unset, .unset, .unset, .unset, .unset, .unset] [])) t ∧ _
  refine own_go (fun _ => XS.iloadN X0.here hx rfl (hb hby at_0) rfl) ?_
  show ∃ t o, Steps p.tables e below (s₁.setTop (mkF m 1 #[.val (.int f1), .val (.int x1), .val (.int y1), .val (.int z1), .unset, .unset, .unset, .unset, .unset, .unset, .unset, .unset, .unset] [(.int f1)])) t ∧ _
  refine own_go (fun _ => XS.iconst X0.here hx rfl (hb hby at_1)) ?_
  show ∃ t o, Steps p.tables e below (s₁.setTop (mkF m 2 #[.val (.int f1), .val (.int x1), .val (.int y1), .val (.int z1), .unset, .unset, .unset, .unset, .unset, .unset, .unset, .unset, .unset] [(.int (3 : Int32)), (.int f1)])) t ∧ _
  refine own_go (fun _ => XS.iand X0.here hx rfl (hb hby at_2) rfl) ?_
  show ∃ t o, Steps p.tables e below (s₁.setTop (mkF m 3 #[.val (.int f1), .val (.int x1), .val (.int y1), .val (.int z1), .unset, .unset, .unset, .unset, .unset, .unset, .unset, .unset, .unset] [(.int (f1 &&& (3 : Int32)))])) t ∧ _
  refine own_go (fun _ => XS.istore X0.here hx rfl (hb hby at_3) rfl (l' := #[.val (.int f1), .val (.int x1), .val (.int y1), .val (.int z1), .val (.int (f1 &&& (3 : Int32))), .unset, .unset, .unset, .unset, .unset, .unset, .unset, .unset]) rfl) ?_
  show ∃ t o, Steps p.tables e below (s₁.setTop (mkF m 5 #[.val (.int f1), .val (.int x1), .val (.int y1), .val (.int z1), .val (.int (f1 &&& (3 : Int32))), .unset, .unset, .unset, .unset, .unset, .unset, .unset, .unset] [])) t ∧ _
  rcases own_and3 f1 with hk | hk | hk | hk
  · rw [hk]
    show ∃ t o, Steps p.tables e below (s₁.setTop (mkF m 5 #[.val (.int f1), .val (.int x1), .val (.int y1), .val (.int z1), .val (.int (0 : Int32)), .unset, .unset, .unset, .unset, .unset, .unset, .unset, .unset] [])) t ∧ _
    refine own_go (fun _ => XS.iloadN X0.here hx rfl (hb hby at_5) rfl) ?_
    show ∃ t o, Steps p.tables e below (s₁.setTop (mkF m 6 #[.val (.int f1), .val (.int x1), .val (.int y1), .val (.int z1), .val (.int (0 : Int32)), .unset, .unset, .unset, .unset, .unset, .unset, .unset, .unset] [(.int x1)])) t ∧ _
    obtain ⟨_, _, ⟨T4, L4, k4, n4⟩, -, X4, ⟨Lc4, hQ4, l4, y4, z4⟩, st4⟩ := Jvm.LawKit.callS X0 hx (y := (⟨"java/lang/Integer", "valueOf", "(I)Ljava/lang/Integer;"⟩ : MethodName)) hown (mvT hZ (hw _ (List.mem_of_getElem? (i := 0) rfl))) (mvT hZ (hw _ (List.mem_of_getElem? (i := 1) rfl))) (mvT hZ (hw _ (List.mem_of_getElem? (i := 2) rfl))) (mvT hZ (hw _ (List.mem_of_getElem? (i := 3) rfl))) (by decide) (backOf (W := 0) (rmIntOf l Z a0 hw [] x1 caI ccI h0 n0 Z0 OLD P1 P2 (BXI : Bxs Z caI ccI "java/lang/Integer" "I" (256 : Int32) own_ival)) hZ (hw _ (List.mem_of_getElem? (i := 3) rfl)) (hw _ (List.mem_of_getElem? (i := 2) rfl)) (by decide) (by decide)) (g := (mkF m 6 #[.val (.int f1), .val (.int x1), .val (.int y1), .val (.int z1), .val (.int (0 : Int32)), .unset, .unset, .unset, .unset, .unset, .unset, .unset, .unset] [(.int x1)])) rfl (by rw [hml]; rfl) (argsL := [(.int x1)]) (rest := []) (lenOf pd__28I_29Ljava_2flang_2fInteger_3b rfl) rfl (by show 2 * 0 + _ ≤ _; exact Nat.le_of_eq rfl) (hb hby at_6) (fun _ _ => ⟨rfl, e0, (by decide : 0 + 1 ≤ _), (by decide : 0 + 1 ≤ _)⟩)
    dsimp only [Pt.U, Pt.locs, Pt.cells, Pt.slots] at X4 l4 y4 z4 st4 hQ4
    subst l4 y4 z4
    obtain ⟨b_4, rv_4, rfl, Nq4, Kp4, G4_0, G4_1⟩ := hQ4
    have N4 := Fr.app N0 Nq4
    refine own_go st4 ?_
    have le_4 : h0.size ≤ T4.heap.size := Kp4.1
    have K4 : Keep h0 T4.heap [] := Keep.trans (Keep.refl h0 []) Kp4 all0
    have lt_b_4 : b_4 < T4.heap.size := (G4_0).lt
    show ∃ t o, Steps p.tables e below (T4.setTop (mkF m 9 #[.val (.int f1), .val (.int x1), .val (.int y1), .val (.int z1), .val (.int (0 : Int32)), .unset, .unset, .unset, .unset, .unset, .unset, .unset, .unset] [(.ref b_4)])) t ∧ _
    refine own_go (fun _ => XS.astore X4.here hx rfl (hb hby at_9) rfl rfl (l' := #[.val (.int f1), .val (.int x1), .val (.int y1), .val (.int z1), .val (.int (0 : Int32)), .val (.ref b_4), .unset, .unset, .unset, .unset, .unset, .unset, .unset]) rfl) ?_
    show ∃ t o, Steps p.tables e below (T4.setTop (mkF m 11 #[.val (.int f1), .val (.int x1), .val (.int y1), .val (.int z1), .val (.int (0 : Int32)), .val (.ref b_4), .unset, .unset, .unset, .unset, .unset, .unset, .unset] [])) t ∧ _
    refine own_go (fun _ => XS.iloadN X4.here hx rfl (hb hby at_11) rfl) ?_
    show ∃ t o, Steps p.tables e below (T4.setTop (mkF m 12 #[.val (.int f1), .val (.int x1), .val (.int y1), .val (.int z1), .val (.int (0 : Int32)), .val (.ref b_4), .unset, .unset, .unset, .unset, .unset, .unset, .unset] [(.int f1)])) t ∧ _
    refine own_go (fun _ => XS.iconst X4.here hx rfl (hb hby at_12)) ?_
    show ∃ t o, Steps p.tables e below (T4.setTop (mkF m 13 #[.val (.int f1), .val (.int x1), .val (.int y1), .val (.int z1), .val (.int (0 : Int32)), .val (.ref b_4), .unset, .unset, .unset, .unset, .unset, .unset, .unset] [(.int (4 : Int32)), (.int f1)])) t ∧ _
    refine own_go (fun _ => XS.iand X4.here hx rfl (hb hby at_13) rfl) ?_
    show ∃ t o, Steps p.tables e below (T4.setTop (mkF m 14 #[.val (.int f1), .val (.int x1), .val (.int y1), .val (.int z1), .val (.int (0 : Int32)), .val (.ref b_4), .unset, .unset, .unset, .unset, .unset, .unset, .unset] [(.int (f1 &&& (4 : Int32)))])) t ∧ _
    by_cases hc5 : (f1 &&& (4 : Int32)) = (0 : Int32)
    · refine own_go (fun _ => XS.ifYes X4.here hx rfl (pc0 := 14) (pc' := 21) rfl (hb hby at_14) rfl ((if0 _ _).trans (teq hc5).1) (by decide) (by decide)) ?_
      show ∃ t o, Steps p.tables e below (T4.setTop (mkF m 21 #[.val (.int f1), .val (.int x1), .val (.int y1), .val (.int z1), .val (.int (0 : Int32)), .val (.ref b_4), .unset, .unset, .unset, .unset, .unset, .unset, .unset] [])) t ∧ _
      refine own_go (fun _ => XS.iloadN X4.here hx rfl (hb hby at_21) rfl) ?_
      show ∃ t o, Steps p.tables e below (T4.setTop (mkF m 22 #[.val (.int f1), .val (.int x1), .val (.int y1), .val (.int z1), .val (.int (0 : Int32)), .val (.ref b_4), .unset, .unset, .unset, .unset, .unset, .unset, .unset] [(.int y1)])) t ∧ _
      have F6 : Old Z n0 T4.heap := (Old.keep OLD Kp4 all0)
      have zl7 : n0 ≤ T4.heap.size := by omega
      obtain ⟨_, _, ⟨T8, L8, k8, n8⟩, -, X8, ⟨Lc8, hQ8, l8, y8, z8⟩, st8⟩ := Jvm.LawKit.callS X4 hx (y := (⟨"java/lang/Integer", "valueOf", "(I)Ljava/lang/Integer;"⟩ : MethodName)) hown (mvT hZ (hw _ (List.mem_of_getElem? (i := 0) rfl))) (mvT hZ (hw _ (List.mem_of_getElem? (i := 1) rfl))) (mvT hZ (hw _ (List.mem_of_getElem? (i := 2) rfl))) (mvT hZ (hw _ (List.mem_of_getElem? (i := 3) rfl))) (by decide) (backOf (W := 0) (rmIntOf l Z a0 hw [] y1 caI ccI T4.heap n0 zl7 F6 P1 P2 (BXI : Bxs Z caI ccI "java/lang/Integer" "I" (256 : Int32) own_ival)) hZ (hw _ (List.mem_of_getElem? (i := 3) rfl)) (hw _ (List.mem_of_getElem? (i := 2) rfl)) (by decide) (by decide)) (g := (mkF m 22 #[.val (.int f1), .val (.int x1), .val (.int y1), .val (.int z1), .val (.int (0 : Int32)), .val (.ref b_4), .unset, .unset, .unset, .unset, .unset, .unset, .unset] [(.int y1)])) rfl (by rw [hml]; rfl) (argsL := [(.int y1)]) (rest := []) (lenOf pd__28I_29Ljava_2flang_2fInteger_3b rfl) rfl (by show 2 * 0 + _ ≤ _; exact Nat.le_of_eq rfl) (hb hby at_22) (fun _ _ => ⟨rfl, rfl, (by decide : 1 + 1 ≤ _), (by decide : 1 + 1 ≤ _)⟩)
      dsimp only [Pt.U, Pt.locs, Pt.cells, Pt.slots] at X8 l8 y8 z8 st8 hQ8
      subst l8 y8 z8
      obtain ⟨b_8, rv_8, rfl, Nq8, Kp8, G8_0, G8_1⟩ := hQ8
      have N8 := Fr.app N4 Nq8
      refine own_go st8 ?_
      have le_8 : T4.heap.size ≤ T8.heap.size := Kp8.1
      have K8 : Keep h0 T8.heap [] := Keep.trans K4 Kp8 all0
      have lt_b_8 : b_8 < T8.heap.size := (G8_0).lt
      show ∃ t o, Steps p.tables e below (T8.setTop (mkF m 25 #[.val (.int f1), .val (.int x1), .val (.int y1), .val (.int z1), .val (.int (0 : Int32)), .val (.ref b_4), .unset, .unset, .unset, .unset, .unset, .unset, .unset] [(.ref b_8)])) t ∧ _
      refine own_go (fun _ => XS.astore X8.here hx rfl (hb hby at_25) rfl rfl (l' := #[.val (.int f1), .val (.int x1), .val (.int y1), .val (.int z1), .val (.int (0 : Int32)), .val (.ref b_4), .val (.ref b_8), .unset, .unset, .unset, .unset, .unset, .unset]) rfl) ?_
      show ∃ t o, Steps p.tables e below (T8.setTop (mkF m 27 #[.val (.int f1), .val (.int x1), .val (.int y1), .val (.int z1), .val (.int (0 : Int32)), .val (.ref b_4), .val (.ref b_8), .unset, .unset, .unset, .unset, .unset, .unset] [])) t ∧ _
      refine own_go (fun _ => XS.iloadN X8.here hx rfl (hb hby at_27) rfl) ?_
      show ∃ t o, Steps p.tables e below (T8.setTop (mkF m 28 #[.val (.int f1), .val (.int x1), .val (.int y1), .val (.int z1), .val (.int (0 : Int32)), .val (.ref b_4), .val (.ref b_8), .unset, .unset, .unset, .unset, .unset, .unset] [(.int z1)])) t ∧ _
      refine own_go (fun _ => XS.i2l X8.here hx rfl (hb hby at_28) rfl) ?_
      show ∃ t o, Steps p.tables e below (T8.setTop (mkF m 29 #[.val (.int f1), .val (.int x1), .val (.int y1), .val (.int z1), .val (.int (0 : Int32)), .val (.ref b_4), .val (.ref b_8), .unset, .unset, .unset, .unset, .unset, .unset] [(.long (z1.toInt64))])) t ∧ _
      have F9 : Old Z n0 T8.heap := (Old.keep F6 Kp8 all0)
      have zl10 : n0 ≤ T8.heap.size := by omega
      obtain ⟨_, _, ⟨T11, L11, k11, n11⟩, -, X11, ⟨Lc11, hQ11, l11, y11, z11⟩, st11⟩ := Jvm.LawKit.callS X8 hx (y := (⟨"java/lang/Long", "valueOf", "(J)Ljava/lang/Long;"⟩ : MethodName)) hown (mvT hZ (hw _ (List.mem_of_getElem? (i := 7) rfl))) (mvT hZ (hw _ (List.mem_of_getElem? (i := 8) rfl))) (mvT hZ (hw _ (List.mem_of_getElem? (i := 9) rfl))) (mvT hZ (hw _ (List.mem_of_getElem? (i := 10) rfl))) (by decide) (backOf (W := 0) (rmLongOf l Z a0 hw [] (z1.toInt64) caL ccL T8.heap n0 zl10 F9 P3 (BXL : Bxs Z caL ccL "java/lang/Long" "J" (256 : Int32) own_lval)) hZ (hw _ (List.mem_of_getElem? (i := 10) rfl)) (hw _ (List.mem_of_getElem? (i := 9) rfl)) (by decide) (by decide)) (g := (mkF m 29 #[.val (.int f1), .val (.int x1), .val (.int y1), .val (.int z1), .val (.int (0 : Int32)), .val (.ref b_4), .val (.ref b_8), .unset, .unset, .unset, .unset, .unset, .unset] [(.long (z1.toInt64))])) rfl (by rw [hml]; rfl) (argsL := [(.long (z1.toInt64))]) (rest := []) (lenOf pd__28J_29Ljava_2flang_2fLong_3b rfl) rfl (by show 2 * 0 + _ ≤ _; exact Nat.le_of_eq rfl) (hb hby at_29) (fun _ _ => ⟨rfl, rfl, (by decide : 2 + 1 ≤ _), (by decide : 2 + 1 ≤ _)⟩)
      dsimp only [Pt.U, Pt.locs, Pt.cells, Pt.slots] at X11 l11 y11 z11 st11 hQ11
      subst l11 y11 z11
      obtain ⟨b_11, rv_11, rfl, Nq11, Kp11, G11_0, G11_1⟩ := hQ11
      have N11 := Fr.app N8 Nq11
      refine own_go st11 ?_
      have le_11 : T8.heap.size ≤ T11.heap.size := Kp11.1
      have K11 : Keep h0 T11.heap [] := Keep.trans K8 Kp11 all0
      have lt_b_11 : b_11 < T11.heap.size := (G11_0).lt
      show ∃ t o, Steps p.tables e below (T11.setTop (mkF m 32 #[.val (.int f1), .val (.int x1), .val (.int y1), .val (.int z1), .val (.int (0 : Int32)), .val (.ref b_4), .val (.ref b_8), .unset, .unset, .unset, .unset, .unset, .unset] [(.ref b_11)])) t ∧ _
      refine own_go (fun _ => XS.astore X11.here hx rfl (hb hby at_32) rfl rfl (l' := #[.val (.int f1), .val (.int x1), .val (.int y1), .val (.int z1), .val (.int (0 : Int32)), .val (.ref b_4), .val (.ref b_8), .val (.ref b_11), .unset, .unset, .unset, .unset, .unset]) rfl) ?_
      show ∃ t o, Steps p.tables e below (T11.setTop (mkF m 34 #[.val (.int f1), .val (.int x1), .val (.int y1), .val (.int z1), .val (.int (0 : Int32)), .val (.ref b_4), .val (.ref b_8), .val (.ref b_11), .unset, .unset, .unset, .unset, .unset] [])) t ∧ _
      refine own_go (fun _ => XS.iloadN X11.here hx rfl (hb hby at_34) rfl) ?_
      show ∃ t o, Steps p.tables e below (T11.setTop (mkF m 35 #[.val (.int f1), .val (.int x1), .val (.int y1), .val (.int z1), .val (.int (0 : Int32)), .val (.ref b_4), .val (.ref b_8), .val (.ref b_11), .unset, .unset, .unset, .unset, .unset] [(.int x1)])) t ∧ _
      refine own_go (fun _ => XS.iconst X11.here hx rfl (hb hby at_35)) ?_
      show ∃ t o, Steps p.tables e below (T11.setTop (mkF m 36 #[.val (.int f1), .val (.int x1), .val (.int y1), .val (.int z1), .val (.int (0 : Int32)), .val (.ref b_4), .val (.ref b_8), .val (.ref b_11), .unset, .unset, .unset, .unset, .unset] [(.int (1 : Int32)), (.int x1)])) t ∧ _
      refine own_go (fun _ => XS.ixor X11.here hx rfl (hb hby at_36) rfl) ?_
      show ∃ t o, Steps p.tables e below (T11.setTop (mkF m 37 #[.val (.int f1), .val (.int x1), .val (.int y1), .val (.int z1), .val (.int (0 : Int32)), .val (.ref b_4), .val (.ref b_8), .val (.ref b_11), .unset, .unset, .unset, .unset, .unset] [(.int (x1 ^^^ (1 : Int32)))])) t ∧ _
      have F12 : Old Z n0 T11.heap := (Old.keep F9 Kp11 all0)
      have zl13 : n0 ≤ T11.heap.size := by omega
      obtain ⟨_, _, ⟨T14, L14, k14, n14⟩, -, X14, ⟨Lc14, hQ14, l14, y14, z14⟩, st14⟩ := Jvm.LawKit.callS X11 hx (y := (⟨"java/lang/Integer", "valueOf", "(I)Ljava/lang/Integer;"⟩ : MethodName)) hown (mvT hZ (hw _ (List.mem_of_getElem? (i := 0) rfl))) (mvT hZ (hw _ (List.mem_of_getElem? (i := 1) rfl))) (mvT hZ (hw _ (List.mem_of_getElem? (i := 2) rfl))) (mvT hZ (hw _ (List.mem_of_getElem? (i := 3) rfl))) (by decide) (backOf (W := 0) (rmIntOf l Z a0 hw [] ((x1 ^^^ (1 : Int32))) caI ccI T11.heap n0 zl13 F12 P1 P2 (BXI : Bxs Z caI ccI "java/lang/Integer" "I" (256 : Int32) own_ival)) hZ (hw _ (List.mem_of_getElem? (i := 3) rfl)) (hw _ (List.mem_of_getElem? (i := 2) rfl)) (by decide) (by decide)) (g := (mkF m 37 #[.val (.int f1), .val (.int x1), .val (.int y1), .val (.int z1), .val (.int (0 : Int32)), .val (.ref b_4), .val (.ref b_8), .val (.ref b_11), .unset, .unset, .unset, .unset, .unset] [(.int (x1 ^^^ (1 : Int32)))])) rfl (by rw [hml]; rfl) (argsL := [(.int (x1 ^^^ (1 : Int32)))]) (rest := []) (lenOf pd__28I_29Ljava_2flang_2fInteger_3b rfl) rfl (by show 2 * 0 + _ ≤ _; exact Nat.le_of_eq rfl) (hb hby at_37) (fun _ _ => ⟨rfl, rfl, (by decide : 3 + 1 ≤ _), (by decide : 3 + 1 ≤ _)⟩)
      dsimp only [Pt.U, Pt.locs, Pt.cells, Pt.slots] at X14 l14 y14 z14 st14 hQ14
      subst l14 y14 z14
      obtain ⟨b_14, rv_14, rfl, Nq14, Kp14, G14_0, G14_1⟩ := hQ14
      have N14 := Fr.app N11 Nq14
      refine own_go st14 ?_
      have le_14 : T11.heap.size ≤ T14.heap.size := Kp14.1
      have K14 : Keep h0 T14.heap [] := Keep.trans K11 Kp14 all0
      have lt_b_14 : b_14 < T14.heap.size := (G14_0).lt
      show ∃ t o, Steps p.tables e below (T14.setTop (mkF m 40 #[.val (.int f1), .val (.int x1), .val (.int y1), .val (.int z1), .val (.int (0 : Int32)), .val (.ref b_4), .val (.ref b_8), .val (.ref b_11), .unset, .unset, .unset, .unset, .unset] [(.ref b_14)])) t ∧ _
      refine own_go (fun _ => XS.astore X14.here hx rfl (hb hby at_40) rfl rfl (l' := #[.val (.int f1), .val (.int x1), .val (.int y1), .val (.int z1), .val (.int (0 : Int32)), .val (.ref b_4), .val (.ref b_8), .val (.ref b_11), .val (.ref b_14), .unset, .unset, .unset, .unset]) rfl) ?_
      show ∃ t o, Steps p.tables e below (T14.setTop (mkF m 42 #[.val (.int f1), .val (.int x1), .val (.int y1), .val (.int z1), .val (.int (0 : Int32)), .val (.ref b_4), .val (.ref b_8), .val (.ref b_11), .val (.ref b_14), .unset, .unset, .unset, .unset] [])) t ∧ _
      refine own_go (fun _ => XS.iload X14.here hx rfl (hb hby at_42) rfl) ?_
      show ∃ t o, Steps p.tables e below (T14.setTop (mkF m 44 #[.val (.int f1), .val (.int x1), .val (.int y1), .val (.int z1), .val (.int (0 : Int32)), .val (.ref b_4), .val (.ref b_8), .val (.ref b_11), .val (.ref b_14), .unset, .unset, .unset, .unset] [(.int (0 : Int32))])) t ∧ _
      obtain ⟨T15, h15, k15, X15, e15, E15, A15, Q15, O15, st15⟩ := newRE X14 hx hZ hown (hw _ (List.mem_of_getElem? (i := 15) rfl)) (hw _ (List.mem_of_getElem? (i := 16) rfl)) rfl (g := (mkF m 44 #[.val (.int f1), .val (.int x1), .val (.int y1), .val (.int z1), .val (.int (0 : Int32)), .val (.ref b_4), .val (.ref b_8), .val (.ref b_11), .val (.ref b_14), .unset, .unset, .unset, .unset] [(.int (0 : Int32))])) rfl (hb hby at_44) rfl (by decide) (cap := 0) (by decide) (by decide) (by decide) (by decide) (ad := "[Ljava/lang/Object;") rfl
      obtain ⟨b15, g15⟩ : ∃ z, z = T14.heap.size := ⟨_, rfl⟩
      rw [← g15] at A15 Q15 st15
      refine own_go st15 ?_
      have le_15 : T14.heap.size ≤ h15.size := E15.1
      have lt_b15 : b15 < h15.size := A15.lt
      have V_b15 : Arv Z h15 b15 k15 (.object "java/lang/Object") (0 : Int32) [] .null := (Arv.new A15 (by decide)).pad (pad_rep [] .null 0)
      have K15 : Keep h0 h15 [] := Keep.ext K14 E15
      show ∃ t o, Steps p.tables e below (T15.setTop (mkF m 47 #[.val (.int f1), .val (.int x1), .val (.int y1), .val (.int z1), .val (.int (0 : Int32)), .val (.ref b_4), .val (.ref b_8), .val (.ref b_11), .val (.ref b_14), .unset, .unset, .unset, .unset] [(.ref b15)])) t ∧ _
      refine own_go (fun _ => XS.astore X15.here hx rfl (hb hby at_47) rfl rfl (l' := #[.val (.int f1), .val (.int x1), .val (.int y1), .val (.int z1), .val (.int (0 : Int32)), .val (.ref b_4), .val (.ref b_8), .val (.ref b_11), .val (.ref b_14), .val (.ref b15), .unset, .unset, .unset]) rfl) ?_
      show ∃ t o, Steps p.tables e below (T15.setTop (mkF m 49 #[.val (.int f1), .val (.int x1), .val (.int y1), .val (.int z1), .val (.int (0 : Int32)), .val (.ref b_4), .val (.ref b_8), .val (.ref b_11), .val (.ref b_14), .val (.ref b15), .unset, .unset, .unset] [])) t ∧ _
      refine own_go (fun _ => XS.iload X15.here hx rfl (hb hby at_49) rfl) ?_
      show ∃ t o, Steps p.tables e below (T15.setTop (mkF m 51 #[.val (.int f1), .val (.int x1), .val (.int y1), .val (.int z1), .val (.int (0 : Int32)), .val (.ref b_4), .val (.ref b_8), .val (.ref b_11), .val (.ref b_14), .val (.ref b15), .unset, .unset, .unset] [(.int (0 : Int32))])) t ∧ _
      refine own_go (fun _ => XS.ifYes X15.here hx rfl (pc0 := 51) (pc' := 60) rfl (hb hby at_51) rfl ((if0 _ _).trans (flt (by decide : ¬ ((0 : Int32) < (0 : Int32)))).2.2.2) (by decide) (by decide)) ?_
      show ∃ t o, Steps p.tables e below (T15.setTop (mkF m 60 #[.val (.int f1), .val (.int x1), .val (.int y1), .val (.int z1), .val (.int (0 : Int32)), .val (.ref b_4), .val (.ref b_8), .val (.ref b_11), .val (.ref b_14), .val (.ref b15), .unset, .unset, .unset] [])) t ∧ _
      refine own_go (fun _ => XS.iload X15.here hx rfl (hb hby at_60) rfl) ?_
      show ∃ t o, Steps p.tables e below (T15.setTop (mkF m 62 #[.val (.int f1), .val (.int x1), .val (.int y1), .val (.int z1), .val (.int (0 : Int32)), .val (.ref b_4), .val (.ref b_8), .val (.ref b_11), .val (.ref b_14), .val (.ref b15), .unset, .unset, .unset] [(.int (0 : Int32))])) t ∧ _
      refine own_go (fun _ => XS.iconst X15.here hx rfl (hb hby at_62)) ?_
      show ∃ t o, Steps p.tables e below (T15.setTop (mkF m 63 #[.val (.int f1), .val (.int x1), .val (.int y1), .val (.int z1), .val (.int (0 : Int32)), .val (.ref b_4), .val (.ref b_8), .val (.ref b_11), .val (.ref b_14), .val (.ref b15), .unset, .unset, .unset] [(.int (1 : Int32)), (.int (0 : Int32))])) t ∧ _
      refine own_go (fun _ => XS.icmpYes X15.here hx rfl (pc0 := 63) (pc' := 72) rfl (hb hby at_63) rfl (flt (by decide : ¬ ((1 : Int32) < (0 : Int32)))).2.2.2 (by decide) (by decide)) ?_
      show ∃ t o, Steps p.tables e below (T15.setTop (mkF m 72 #[.val (.int f1), .val (.int x1), .val (.int y1), .val (.int z1), .val (.int (0 : Int32)), .val (.ref b_4), .val (.ref b_8), .val (.ref b_11), .val (.ref b_14), .val (.ref b15), .unset, .unset, .unset] [])) t ∧ _
      refine own_go (fun _ => XS.iload X15.here hx rfl (hb hby at_72) rfl) ?_
      show ∃ t o, Steps p.tables e below (T15.setTop (mkF m 74 #[.val (.int f1), .val (.int x1), .val (.int y1), .val (.int z1), .val (.int (0 : Int32)), .val (.ref b_4), .val (.ref b_8), .val (.ref b_11), .val (.ref b_14), .val (.ref b15), .unset, .unset, .unset] [(.int (0 : Int32))])) t ∧ _
      refine own_go (fun _ => XS.iconst X15.here hx rfl (hb hby at_74)) ?_
      show ∃ t o, Steps p.tables e below (T15.setTop (mkF m 75 #[.val (.int f1), .val (.int x1), .val (.int y1), .val (.int z1), .val (.int (0 : Int32)), .val (.ref b_4), .val (.ref b_8), .val (.ref b_11), .val (.ref b_14), .val (.ref b15), .unset, .unset, .unset] [(.int (2 : Int32)), (.int (0 : Int32))])) t ∧ _
      refine own_go (fun _ => XS.icmpYes X15.here hx rfl (pc0 := 75) (pc' := 84) rfl (hb hby at_75) rfl (flt (by decide : ¬ ((2 : Int32) < (0 : Int32)))).2.2.2 (by decide) (by decide)) ?_
      show ∃ t o, Steps p.tables e below (T15.setTop (mkF m 84 #[.val (.int f1), .val (.int x1), .val (.int y1), .val (.int z1), .val (.int (0 : Int32)), .val (.ref b_4), .val (.ref b_8), .val (.ref b_11), .val (.ref b_14), .val (.ref b15), .unset, .unset, .unset] [])) t ∧ _
      refine own_go (fun _ => XS.aload X15.here hx rfl (hb hby at_84) rfl rfl) ?_
      show ∃ t o, Steps p.tables e below (T15.setTop (mkF m 86 #[.val (.int f1), .val (.int x1), .val (.int y1), .val (.int z1), .val (.int (0 : Int32)), .val (.ref b_4), .val (.ref b_8), .val (.ref b_11), .val (.ref b_14), .val (.ref b15), .unset, .unset, .unset] [(.ref b15)])) t ∧ _
      have F16 : Old Z n0 h15 := ((Old.keep F12 Kp14 all0).ext E15)
      have zl17 : n0 ≤ h15.size := by omega
      obtain ⟨_, _, ⟨T18, L18, k18, n18⟩, -, X18, ⟨Lc18, hQ18, l18, y18, z18⟩, st18⟩ := Jvm.LawKit.callS X15 hx (y := (⟨"com/example/planwright/planwright/plan/Key", "of", "([Ljava/lang/Object;)Ljava/lang/Object;"⟩ : MethodName)) hown (mvT hZ (hw _ (List.mem_of_getElem? (i := 17) rfl))) (mvT hZ (hw _ (List.mem_of_getElem? (i := 18) rfl))) (mvT hZ (hw _ (List.mem_of_getElem? (i := 19) rfl))) (mvT hZ (hw _ (List.mem_of_getElem? (i := 20) rfl))) (by decide) (backOf (W := 0) (rmOf0 l Z a0 hw [] b15 k15 h15 n0 zl17 V_b15 F16) hZ (hw _ (List.mem_of_getElem? (i := 20) rfl)) (hw _ (List.mem_of_getElem? (i := 19) rfl)) (by decide) (by decide)) (g := (mkF m 86 #[.val (.int f1), .val (.int x1), .val (.int y1), .val (.int z1), .val (.int (0 : Int32)), .val (.ref b_4), .val (.ref b_8), .val (.ref b_11), .val (.ref b_14), .val (.ref b15), .unset, .unset, .unset] [(.ref b15)])) rfl (by rw [hml]; rfl) (argsL := [(.ref b15)]) (rest := []) (lenOf pd_hefb3f20f rfl) rfl (by show 2 * 0 + _ ≤ _; exact Nat.le_of_eq rfl) (hb hby at_86) (fun _ _ => ⟨rfl, e15, (by decide : 5 + 1 ≤ _), (by decide : 4 + 2 ≤ _)⟩)
      dsimp only [Pt.U, Pt.locs, Pt.cells, Pt.slots] at X18 l18 y18 z18 st18 hQ18
      subst l18 y18 z18
      obtain ⟨b_18, rfl, Nq18, Kp18, G18_0, G18_1, H18_0⟩ := hQ18
      have N18 := Fr.app N14 Nq18
      refine own_go st18 ?_
      have le_18 : h15.size ≤ T18.heap.size := Kp18.1
      have K18 : Keep h0 T18.heap [] := Keep.trans K15 Kp18 all0
      have lt_b_18 : b_18 < T18.heap.size := (G18_0).lt
      show ∃ t o, Steps p.tables e below (T18.setTop (mkF m 89 #[.val (.int f1), .val (.int x1), .val (.int y1), .val (.int z1), .val (.int (0 : Int32)), .val (.ref b_4), .val (.ref b_8), .val (.ref b_11), .val (.ref b_14), .val (.ref b15), .unset, .unset, .unset] [(.ref b_18)])) t ∧ _
      refine own_go (fun _ => XS.astore X18.here hx rfl (hb hby at_89) rfl rfl (l' := #[.val (.int f1), .val (.int x1), .val (.int y1), .val (.int z1), .val (.int (0 : Int32)), .val (.ref b_4), .val (.ref b_8), .val (.ref b_11), .val (.ref b_14), .val (.ref b15), .val (.ref b_18), .unset, .unset]) rfl) ?_
      show ∃ t o, Steps p.tables e below (T18.setTop (mkF m 91 #[.val (.int f1), .val (.int x1), .val (.int y1), .val (.int z1), .val (.int (0 : Int32)), .val (.ref b_4), .val (.ref b_8), .val (.ref b_11), .val (.ref b_14), .val (.ref b15), .val (.ref b_18), .unset, .unset] [])) t ∧ _
      refine own_go (fun _ => XS.aload X18.here hx rfl (hb hby at_91) rfl rfl) ?_
      show ∃ t o, Steps p.tables e below (T18.setTop (mkF m 93 #[.val (.int f1), .val (.int x1), .val (.int y1), .val (.int z1), .val (.int (0 : Int32)), .val (.ref b_4), .val (.ref b_8), .val (.ref b_11), .val (.ref b_14), .val (.ref b15), .val (.ref b_18), .unset, .unset] [(.ref b_18)])) t ∧ _
      refine own_go (fun _ => XS.iload X18.here hx rfl (hb hby at_93) rfl) ?_
      show ∃ t o, Steps p.tables e below (T18.setTop (mkF m 95 #[.val (.int f1), .val (.int x1), .val (.int y1), .val (.int z1), .val (.int (0 : Int32)), .val (.ref b_4), .val (.ref b_8), .val (.ref b_11), .val (.ref b_14), .val (.ref b15), .val (.ref b_18), .unset, .unset] [(.int (0 : Int32)), (.ref b_18)])) t ∧ _
      have F19 : Arv Z T18.heap b15 k15 (.object "java/lang/Object") (0 : Int32) [] .null := (Arv.keep V_b15 Kp18 nin0)
      have F20 : Exa Z T18.heap b15 "[Ljava/lang/Object;" := (Exa.keep Q15 Kp18)
      have F21 : Old Z n0 T18.heap := (Old.keep F16 Kp18 all0)
      have zl22 : n0 ≤ T18.heap.size := by omega
      obtain ⟨_, _, ⟨T23, L23, k23, n23⟩, -, X23, ⟨Lc23, hQ23, l23, y23, z23⟩, st23⟩ := Jvm.LawKit.callS X18 hx (y := (⟨"com/example/planwright/planwright/plan/Key", "values", "(Ljava/lang/Object;I)[Ljava/lang/Object;"⟩ : MethodName)) hown (mvT hZ (hw _ (List.mem_of_getElem? (i := 37) rfl))) (mvT hZ (hw _ (List.mem_of_getElem? (i := 38) rfl))) (mvT hZ (hw _ (List.mem_of_getElem? (i := 19) rfl))) (mvT hZ (hw _ (List.mem_of_getElem? (i := 39) rfl))) (by decide) (backOf (W := 0) (rmVals0 l Z a0 hw [] b_18 b15 k15 T18.heap n0 zl22 G18_0 G18_1 F19 F20 F21) hZ (hw _ (List.mem_of_getElem? (i := 39) rfl)) (hw _ (List.mem_of_getElem? (i := 19) rfl)) (by decide) (by decide)) (g := (mkF m 95 #[.val (.int f1), .val (.int x1), .val (.int y1), .val (.int z1), .val (.int (0 : Int32)), .val (.ref b_4), .val (.ref b_8), .val (.ref b_11), .val (.ref b_14), .val (.ref b15), .val (.ref b_18), .unset, .unset] [(.int (0 : Int32)), (.ref b_18)])) rfl (by rw [hml]; rfl) (argsL := [(.ref b_18), (.int (0 : Int32))]) (rest := []) (lenOf pd_h9d814d6e rfl) rfl (by show 2 * 0 + _ ≤ _; exact Nat.le_of_eq rfl) (hb hby at_95) (fun _ _ => ⟨rfl, rfl, (by decide : 6 + 1 ≤ _), (by decide : 6 + 0 ≤ _)⟩)
      dsimp only [Pt.U, Pt.locs, Pt.cells, Pt.slots] at X23 l23 y23 z23 st23 hQ23
      subst l23 y23 z23
      obtain ⟨b_23, rfl, Nq23, Kp23, G23_0, H23_0⟩ := hQ23
      have N23 := Fr.app N18 Nq23
      refine own_go st23 ?_
      have le_23 : T18.heap.size ≤ T23.heap.size := Kp23.1
      have K23 : Keep h0 T23.heap [] := Keep.trans K18 Kp23 all0
      have lt_b_23 : b_23 < T23.heap.size := (G23_0).lt
      show ∃ t o, Steps p.tables e below (T23.setTop (mkF m 98 #[.val (.int f1), .val (.int x1), .val (.int y1), .val (.int z1), .val (.int (0 : Int32)), .val (.ref b_4), .val (.ref b_8), .val (.ref b_11), .val (.ref b_14), .val (.ref b15), .val (.ref b_18), .unset, .unset] [(.ref b_23)])) t ∧ _
      refine own_go (fun _ => XS.astore X23.here hx rfl (hb hby at_98) rfl rfl (l' := #[.val (.int f1), .val (.int x1), .val (.int y1), .val (.int z1), .val (.int (0 : Int32)), .val (.ref b_4), .val (.ref b_8), .val (.ref b_11), .val (.ref b_14), .val (.ref b15), .val (.ref b_18), .val (.ref b_23), .unset]) rfl) ?_
      show ∃ t o, Steps p.tables e below (T23.setTop (mkF m 100 #[.val (.int f1), .val (.int x1), .val (.int y1), .val (.int z1), .val (.int (0 : Int32)), .val (.ref b_4), .val (.ref b_8), .val (.ref b_11), .val (.ref b_14), .val (.ref b15), .val (.ref b_18), .val (.ref b_23), .unset] [])) t ∧ _
      refine own_go (fun _ => XS.aload X23.here hx rfl (hb hby at_100) rfl rfl) ?_
      show ∃ t o, Steps p.tables e below (T23.setTop (mkF m 102 #[.val (.int f1), .val (.int x1), .val (.int y1), .val (.int z1), .val (.int (0 : Int32)), .val (.ref b_4), .val (.ref b_8), .val (.ref b_11), .val (.ref b_14), .val (.ref b15), .val (.ref b_18), .val (.ref b_23), .unset] [(.ref b_23)])) t ∧ _
      refine own_go (fun _ => XS.ifnullNo X23.here hx rfl (hb hby at_102) rfl) ?_
      show ∃ t o, Steps p.tables e below (T23.setTop (mkF m 105 #[.val (.int f1), .val (.int x1), .val (.int y1), .val (.int z1), .val (.int (0 : Int32)), .val (.ref b_4), .val (.ref b_8), .val (.ref b_11), .val (.ref b_14), .val (.ref b15), .val (.ref b_18), .val (.ref b_23), .unset] [])) t ∧ _
      refine own_go (fun _ => XS.aload X23.here hx rfl (hb hby at_105) rfl rfl) ?_
      show ∃ t o, Steps p.tables e below (T23.setTop (mkF m 107 #[.val (.int f1), .val (.int x1), .val (.int y1), .val (.int z1), .val (.int (0 : Int32)), .val (.ref b_4), .val (.ref b_8), .val (.ref b_11), .val (.ref b_14), .val (.ref b15), .val (.ref b_18), .val (.ref b_23), .unset] [(.ref b_23)])) t ∧ _
      refine own_go (fun _ => XS.aload X23.here hx rfl (hb hby at_107) rfl rfl) ?_
      show ∃ t o, Steps p.tables e below (T23.setTop (mkF m 109 #[.val (.int f1), .val (.int x1), .val (.int y1), .val (.int z1), .val (.int (0 : Int32)), .val (.ref b_4), .val (.ref b_8), .val (.ref b_11), .val (.ref b_14), .val (.ref b15), .val (.ref b_18), .val (.ref b_23), .unset] [(.ref b15), (.ref b_23)])) t ∧ _
      have ne24 : b_23 ≠ b15 := own_ne (by omega)
      refine own_go (fun _ => Jvm.RoadKit.acmp (g := (mkF m 109 #[.val (.int f1), .val (.int x1), .val (.int y1), .val (.int z1), .val (.int (0 : Int32)), .val (.ref b_4), .val (.ref b_8), .val (.ref b_11), .val (.ref b_14), .val (.ref b15), .val (.ref b_18), .val (.ref b_23), .unset] [(.ref b15), (.ref b_23)])) X23 hx rfl rfl rfl (pc0 := 109) (pc' := 112) (same := false) rfl (hb hby at_109) rfl (decide_eq_false fun q => ne24 (Value.ref.inj q)) (by decide) (by decide)) ?_
      show ∃ t o, Steps p.tables e below (T23.setTop (mkF m 112 #[.val (.int f1), .val (.int x1), .val (.int y1), .val (.int z1), .val (.int (0 : Int32)), .val (.ref b_4), .val (.ref b_8), .val (.ref b_11), .val (.ref b_14), .val (.ref b15), .val (.ref b_18), .val (.ref b_23), .unset] [])) t ∧ _
      refine own_go (fun _ => XS.aload X23.here hx rfl (hb hby at_112) rfl rfl) ?_
      show ∃ t o, Steps p.tables e below (T23.setTop (mkF m 114 #[.val (.int f1), .val (.int x1), .val (.int y1), .val (.int z1), .val (.int (0 : Int32)), .val (.ref b_4), .val (.ref b_8), .val (.ref b_11), .val (.ref b_14), .val (.ref b15), .val (.ref b_18), .val (.ref b_23), .unset] [(.ref b_23)])) t ∧ _
      obtain ⟨cl25, Ar25, q25, S25, N25, H25, G25⟩ := id G23_0
      have ln25 : cl25.slots.size.toInt32 = (0 : Int32) := len_of S25 N25
      have al25 := X23.arraylength hx Ar25.1 (State.isArrayOf_alike hZ.alike Ar25.2.1) (g := (mkF m 114 #[.val (.int f1), .val (.int x1), .val (.int y1), .val (.int z1), .val (.int (0 : Int32)), .val (.ref b_4), .val (.ref b_8), .val (.ref b_11), .val (.ref b_14), .val (.ref b15), .val (.ref b_18), .val (.ref b_23), .unset] [(.ref b_23)])) rfl rfl (hb hby at_114)
      rw [ln25] at al25
      refine own_go al25 ?_
      show ∃ t o, Steps p.tables e below (T23.setTop (mkF m 115 #[.val (.int f1), .val (.int x1), .val (.int y1), .val (.int z1), .val (.int (0 : Int32)), .val (.ref b_4), .val (.ref b_8), .val (.ref b_11), .val (.ref b_14), .val (.ref b15), .val (.ref b_18), .val (.ref b_23), .unset] [(.int (0 : Int32))])) t ∧ _
      refine own_go (fun _ => XS.iload X23.here hx rfl (hb hby at_115) rfl) ?_
      show ∃ t o, Steps p.tables e below (T23.setTop (mkF m 117 #[.val (.int f1), .val (.int x1), .val (.int y1), .val (.int z1), .val (.int (0 : Int32)), .val (.ref b_4), .val (.ref b_8), .val (.ref b_11), .val (.ref b_14), .val (.ref b15), .val (.ref b_18), .val (.ref b_23), .unset] [(.int (0 : Int32)), (.int (0 : Int32))])) t ∧ _
      refine own_go (fun _ => XS.icmpYes X23.here hx rfl (pc0 := 117) (pc' := 122) rfl (hb hby at_117) rfl (teq (by decide : (0 : Int32) = (0 : Int32))).1 (by decide) (by decide)) ?_
      show ∃ t o, Steps p.tables e below (T23.setTop (mkF m 122 #[.val (.int f1), .val (.int x1), .val (.int y1), .val (.int z1), .val (.int (0 : Int32)), .val (.ref b_4), .val (.ref b_8), .val (.ref b_11), .val (.ref b_14), .val (.ref b15), .val (.ref b_18), .val (.ref b_23), .unset] [])) t ∧ _
      refine own_go (fun _ => XS.iload X23.here hx rfl (hb hby at_122) rfl) ?_
      show ∃ t o, Steps p.tables e below (T23.setTop (mkF m 124 #[.val (.int f1), .val (.int x1), .val (.int y1), .val (.int z1), .val (.int (0 : Int32)), .val (.ref b_4), .val (.ref b_8), .val (.ref b_11), .val (.ref b_14), .val (.ref b15), .val (.ref b_18), .val (.ref b_23), .unset] [(.int (0 : Int32))])) t ∧ _
      refine own_go (fun _ => XS.ifYes X23.here hx rfl (pc0 := 124) (pc' := 138) rfl (hb hby at_124) rfl ((if0 _ _).trans (flt (by decide : ¬ ((0 : Int32) < (0 : Int32)))).2.2.2) (by decide) (by decide)) ?_
      show ∃ t o, Steps p.tables e below (T23.setTop (mkF m 138 #[.val (.int f1), .val (.int x1), .val (.int y1), .val (.int z1), .val (.int (0 : Int32)), .val (.ref b_4), .val (.ref b_8), .val (.ref b_11), .val (.ref b_14), .val (.ref b15), .val (.ref b_18), .val (.ref b_23), .unset] [])) t ∧ _
      refine own_go (fun _ => XS.iload X23.here hx rfl (hb hby at_138) rfl) ?_
      show ∃ t o, Steps p.tables e below (T23.setTop (mkF m 140 #[.val (.int f1), .val (.int x1), .val (.int y1), .val (.int z1), .val (.int (0 : Int32)), .val (.ref b_4), .val (.ref b_8), .val (.ref b_11), .val (.ref b_14), .val (.ref b15), .val (.ref b_18), .val (.ref b_23), .unset] [(.int (0 : Int32))])) t ∧ _
      refine own_go (fun _ => XS.iconst X23.here hx rfl (hb hby at_140)) ?_
      show ∃ t o, Steps p.tables e below (T23.setTop (mkF m 141 #[.val (.int f1), .val (.int x1), .val (.int y1), .val (.int z1), .val (.int (0 : Int32)), .val (.ref b_4), .val (.ref b_8), .val (.ref b_11), .val (.ref b_14), .val (.ref b15), .val (.ref b_18), .val (.ref b_23), .unset] [(.int (1 : Int32)), (.int (0 : Int32))])) t ∧ _
      refine own_go (fun _ => XS.icmpYes X23.here hx rfl (pc0 := 141) (pc' := 155) rfl (hb hby at_141) rfl (flt (by decide : ¬ ((1 : Int32) < (0 : Int32)))).2.2.2 (by decide) (by decide)) ?_
      show ∃ t o, Steps p.tables e below (T23.setTop (mkF m 155 #[.val (.int f1), .val (.int x1), .val (.int y1), .val (.int z1), .val (.int (0 : Int32)), .val (.ref b_4), .val (.ref b_8), .val (.ref b_11), .val (.ref b_14), .val (.ref b15), .val (.ref b_18), .val (.ref b_23), .unset] [])) t ∧ _
      refine own_go (fun _ => XS.iload X23.here hx rfl (hb hby at_155) rfl) ?_
      show ∃ t o, Steps p.tables e below (T23.setTop (mkF m 157 #[.val (.int f1), .val (.int x1), .val (.int y1), .val (.int z1), .val (.int (0 : Int32)), .val (.ref b_4), .val (.ref b_8), .val (.ref b_11), .val (.ref b_14), .val (.ref b15), .val (.ref b_18), .val (.ref b_23), .unset] [(.int (0 : Int32))])) t ∧ _
      refine own_go (fun _ => XS.iconst X23.here hx rfl (hb hby at_157)) ?_
      show ∃ t o, Steps p.tables e below (T23.setTop (mkF m 158 #[.val (.int f1), .val (.int x1), .val (.int y1), .val (.int z1), .val (.int (0 : Int32)), .val (.ref b_4), .val (.ref b_8), .val (.ref b_11), .val (.ref b_14), .val (.ref b15), .val (.ref b_18), .val (.ref b_23), .unset] [(.int (2 : Int32)), (.int (0 : Int32))])) t ∧ _
      refine own_go (fun _ => XS.icmpYes X23.here hx rfl (pc0 := 158) (pc' := 172) rfl (hb hby at_158) rfl (flt (by decide : ¬ ((2 : Int32) < (0 : Int32)))).2.2.2 (by decide) (by decide)) ?_
      show ∃ t o, Steps p.tables e below (T23.setTop (mkF m 172 #[.val (.int f1), .val (.int x1), .val (.int y1), .val (.int z1), .val (.int (0 : Int32)), .val (.ref b_4), .val (.ref b_8), .val (.ref b_11), .val (.ref b_14), .val (.ref b15), .val (.ref b_18), .val (.ref b_23), .unset] [])) t ∧ _
      refine own_go (fun _ => XS.iload X23.here hx rfl (hb hby at_172) rfl) ?_
      show ∃ t o, Steps p.tables e below (T23.setTop (mkF m 174 #[.val (.int f1), .val (.int x1), .val (.int y1), .val (.int z1), .val (.int (0 : Int32)), .val (.ref b_4), .val (.ref b_8), .val (.ref b_11), .val (.ref b_14), .val (.ref b15), .val (.ref b_18), .val (.ref b_23), .unset] [(.int (0 : Int32))])) t ∧ _
      refine own_go (fun _ => XS.ifYes X23.here hx rfl (pc0 := 174) (pc' := 259) rfl (hb hby at_174) rfl ((if0 _ _).trans (flt (by decide : ¬ ((0 : Int32) < (0 : Int32)))).2.2.2) (by decide) (by decide)) ?_
      show ∃ t o, Steps p.tables e below (T23.setTop (mkF m 259 #[.val (.int f1), .val (.int x1), .val (.int y1), .val (.int z1), .val (.int (0 : Int32)), .val (.ref b_4), .val (.ref b_8), .val (.ref b_11), .val (.ref b_14), .val (.ref b15), .val (.ref b_18), .val (.ref b_23), .unset] [])) t ∧ _
      refine own_go (fun _ => XS.iconst X23.here hx rfl (hb hby at_259)) ?_
      show ∃ t o, Steps p.tables e below (T23.setTop (mkF m 260 #[.val (.int f1), .val (.int x1), .val (.int y1), .val (.int z1), .val (.int (0 : Int32)), .val (.ref b_4), .val (.ref b_8), .val (.ref b_11), .val (.ref b_14), .val (.ref b15), .val (.ref b_18), .val (.ref b_23), .unset] [(.int (1 : Int32))])) t ∧ _
      obtain ⟨fs, hr, hrun, hended, hW, hsame⟩ := X23.leave (v := some (.int (1 : Int32))) (fun h => by rw [Bd.returns] at h; cases h)
      refine ⟨_, _, ?_, hrun, hended, _, _, rfl, ?_, ⟨_, rfl⟩, hW, hsame.mono (by decide) (by decide)⟩
      · exact retN X23 hx (t := .boolean) Bd.returns (by simp) (hb hby at_260) hr
      · show Q_rm0 Z f1 x1 y1 z1 caI ccI caL ccL h0 n0 _ T23.heap _
        exact ⟨rfl, N23, K23⟩
    · refine own_go (fun _ => XS.ifNo X4.here hx rfl (hb hby at_14) rfl ((if0 _ _).trans (feq hc5).1)) ?_
      show ∃ t o, Steps p.tables e below (T4.setTop (mkF m 17 #[.val (.int f1), .val (.int x1), .val (.int y1), .val (.int z1), .val (.int (0 : Int32)), .val (.ref b_4), .unset, .unset, .unset, .unset, .unset, .unset, .unset] [])) t ∧ _
      refine own_go (fun _ => XS.aconstNull X4.here hx rfl (hb hby at_17)) ?_
      show ∃ t o, Steps p.tables e below (T4.setTop (mkF m 18 #[.val (.int f1), .val (.int x1), .val (.int y1), .val (.int z1), .val (.int (0 : Int32)), .val (.ref b_4), .unset, .unset, .unset, .unset, .unset, .unset, .unset] [.null])) t ∧ _
      refine own_go (fun _ => XS.goto X4.here hx rfl (pc0 := 18) (pc' := 25) rfl (hb hby at_18) (by decide) (by decide)) ?_
      show ∃ t o, Steps p.tables e below (T4.setTop (mkF m 25 #[.val (.int f1), .val (.int x1), .val (.int y1), .val (.int z1), .val (.int (0 : Int32)), .val (.ref b_4), .unset, .unset, .unset, .unset, .unset, .unset, .unset] [.null])) t ∧ _
      refine own_go (fun _ => XS.astore X4.here hx rfl (hb hby at_25) rfl rfl (l' := #[.val (.int f1), .val (.int x1), .val (.int y1), .val (.int z1), .val (.int (0 : Int32)), .val (.ref b_4), .val .null, .unset, .unset, .unset, .unset, .unset, .unset]) rfl) ?_
      show ∃ t o, Steps p.tables e below (T4.setTop (mkF m 27 #[.val (.int f1), .val (.int x1), .val (.int y1), .val (.int z1), .val (.int (0 : Int32)), .val (.ref b_4), .val .null, .unset, .unset, .unset, .unset, .unset, .unset] [])) t ∧ _
      refine own_go (fun _ => XS.iloadN X4.here hx rfl (hb hby at_27) rfl) ?_
      show ∃ t o, Steps p.tables e below (T4.setTop (mkF m 28 #[.val (.int f1), .val (.int x1), .val (.int y1), .val (.int z1), .val (.int (0 : Int32)), .val (.ref b_4), .val .null, .unset, .unset, .unset, .unset, .unset, .unset] [(.int z1)])) t ∧ _
      refine own_go (fun _ => XS.i2l X4.here hx rfl (hb hby at_28) rfl) ?_
      show ∃ t o, Steps p.tables e below (T4.setTop (mkF m 29 #[.val (.int f1), .val (.int x1), .val (.int y1), .val (.int z1), .val (.int (0 : Int32)), .val (.ref b_4), .val .null, .unset, .unset, .unset, .unset, .unset, .unset] [(.long (z1.toInt64))])) t ∧ _
      have F26 : Old Z n0 T4.heap := (Old.keep OLD Kp4 all0)
      have zl27 : n0 ≤ T4.heap.size := by omega
      obtain ⟨_, _, ⟨T28, L28, k28, n28⟩, -, X28, ⟨Lc28, hQ28, l28, y28, z28⟩, st28⟩ := Jvm.LawKit.callS X4 hx (y := (⟨"java/lang/Long", "valueOf", "(J)Ljava/lang/Long;"⟩ : MethodName)) hown (mvT hZ (hw _ (List.mem_of_getElem? (i := 7) rfl))) (mvT hZ (hw _ (List.mem_of_getElem? (i := 8) rfl))) (mvT hZ (hw _ (List.mem_of_getElem? (i := 9) rfl))) (mvT hZ (hw _ (List.mem_of_getElem? (i := 10) rfl))) (by decide) (backOf (W := 0) (rmLongOf l Z a0 hw [] (z1.toInt64) caL ccL T4.heap n0 zl27 F26 P3 (BXL : Bxs Z caL ccL "java/lang/Long" "J" (256 : Int32) own_lval)) hZ (hw _ (List.mem_of_getElem? (i := 10) rfl)) (hw _ (List.mem_of_getElem? (i := 9) rfl)) (by decide) (by decide)) (g := (mkF m 29 #[.val (.int f1), .val (.int x1), .val (.int y1), .val (.int z1), .val (.int (0 : Int32)), .val (.ref b_4), .val .null, .unset, .unset, .unset, .unset, .unset, .unset] [(.long (z1.toInt64))])) rfl (by rw [hml]; rfl) (argsL := [(.long (z1.toInt64))]) (rest := []) (lenOf pd__28J_29Ljava_2flang_2fLong_3b rfl) rfl (by show 2 * 0 + _ ≤ _; exact Nat.le_of_eq rfl) (hb hby at_29) (fun _ _ => ⟨rfl, rfl, (by decide : 1 + 1 ≤ _), (by decide : 1 + 1 ≤ _)⟩)
      dsimp only [Pt.U, Pt.locs, Pt.cells, Pt.slots] at X28 l28 y28 z28 st28 hQ28
      subst l28 y28 z28
      obtain ⟨b_28, rv_28, rfl, Nq28, Kp28, G28_0, G28_1⟩ := hQ28
      have N28 := Fr.app N4 Nq28
      refine own_go st28 ?_
      have le_28 : T4.heap.size ≤ T28.heap.size := Kp28.1
      have K28 : Keep h0 T28.heap [] := Keep.trans K4 Kp28 all0
      have lt_b_28 : b_28 < T28.heap.size := (G28_0).lt
      show ∃ t o, Steps p.tables e below (T28.setTop (mkF m 32 #[.val (.int f1), .val (.int x1), .val (.int y1), .val (.int z1), .val (.int (0 : Int32)), .val (.ref b_4), .val .null, .unset, .unset, .unset, .unset, .unset, .unset] [(.ref b_28)])) t ∧ _
      refine own_go (fun _ => XS.astore X28.here hx rfl (hb hby at_32) rfl rfl (l' := #[.val (.int f1), .val (.int x1), .val (.int y1), .val (.int z1), .val (.int (0 : Int32)), .val (.ref b_4), .val .null, .val (.ref b_28), .unset, .unset, .unset, .unset, .unset]) rfl) ?_
      show ∃ t o, Steps p.tables e below (T28.setTop (mkF m 34 #[.val (.int f1), .val (.int x1), .val (.int y1), .val (.int z1), .val (.int (0 : Int32)), .val (.ref b_4), .val .null, .val (.ref b_28), .unset, .unset, .unset, .unset, .unset] [])) t ∧ _
      refine own_go (fun _ => XS.iloadN X28.here hx rfl (hb hby at_34) rfl) ?_
      show ∃ t o, Steps p.tables e below (T28.setTop (mkF m 35 #[.val (.int f1), .val (.int x1), .val (.int y1), .val (.int z1), .val (.int (0 : Int32)), .val (.ref b_4), .val .null, .val (.ref b_28), .unset, .unset, .unset, .unset, .unset] [(.int x1)])) t ∧ _
      refine own_go (fun _ => XS.iconst X28.here hx rfl (hb hby at_35)) ?_
      show ∃ t o, Steps p.tables e below (T28.setTop (mkF m 36 #[.val (.int f1), .val (.int x1), .val (.int y1), .val (.int z1), .val (.int (0 : Int32)), .val (.ref b_4), .val .null, .val (.ref b_28), .unset, .unset, .unset, .unset, .unset] [(.int (1 : Int32)), (.int x1)])) t ∧ _
      refine own_go (fun _ => XS.ixor X28.here hx rfl (hb hby at_36) rfl) ?_
      show ∃ t o, Steps p.tables e below (T28.setTop (mkF m 37 #[.val (.int f1), .val (.int x1), .val (.int y1), .val (.int z1), .val (.int (0 : Int32)), .val (.ref b_4), .val .null, .val (.ref b_28), .unset, .unset, .unset, .unset, .unset] [(.int (x1 ^^^ (1 : Int32)))])) t ∧ _
      have F29 : Old Z n0 T28.heap := (Old.keep F26 Kp28 all0)
      have zl30 : n0 ≤ T28.heap.size := by omega
      obtain ⟨_, _, ⟨T31, L31, k31, n31⟩, -, X31, ⟨Lc31, hQ31, l31, y31, z31⟩, st31⟩ := Jvm.LawKit.callS X28 hx (y := (⟨"java/lang/Integer", "valueOf", "(I)Ljava/lang/Integer;"⟩ : MethodName)) hown (mvT hZ (hw _ (List.mem_of_getElem? (i := 0) rfl))) (mvT hZ (hw _ (List.mem_of_getElem? (i := 1) rfl))) (mvT hZ (hw _ (List.mem_of_getElem? (i := 2) rfl))) (mvT hZ (hw _ (List.mem_of_getElem? (i := 3) rfl))) (by decide) (backOf (W := 0) (rmIntOf l Z a0 hw [] ((x1 ^^^ (1 : Int32))) caI ccI T28.heap n0 zl30 F29 P1 P2 (BXI : Bxs Z caI ccI "java/lang/Integer" "I" (256 : Int32) own_ival)) hZ (hw _ (List.mem_of_getElem? (i := 3) rfl)) (hw _ (List.mem_of_getElem? (i := 2) rfl)) (by decide) (by decide)) (g := (mkF m 37 #[.val (.int f1), .val (.int x1), .val (.int y1), .val (.int z1), .val (.int (0 : Int32)), .val (.ref b_4), .val .null, .val (.ref b_28), .unset, .unset, .unset, .unset, .unset] [(.int (x1 ^^^ (1 : Int32)))])) rfl (by rw [hml]; rfl) (argsL := [(.int (x1 ^^^ (1 : Int32)))]) (rest := []) (lenOf pd__28I_29Ljava_2flang_2fInteger_3b rfl) rfl (by show 2 * 0 + _ ≤ _; exact Nat.le_of_eq rfl) (hb hby at_37) (fun _ _ => ⟨rfl, rfl, (by decide : 2 + 1 ≤ _), (by decide : 2 + 1 ≤ _)⟩)
      dsimp only [Pt.U, Pt.locs, Pt.cells, Pt.slots] at X31 l31 y31 z31 st31 hQ31
      subst l31 y31 z31
      obtain ⟨b_31, rv_31, rfl, Nq31, Kp31, G31_0, G31_1⟩ := hQ31
      have N31 := Fr.app N28 Nq31
      refine own_go st31 ?_
      have le_31 : T28.heap.size ≤ T31.heap.size := Kp31.1
      have K31 : Keep h0 T31.heap [] := Keep.trans K28 Kp31 all0
      have lt_b_31 : b_31 < T31.heap.size := (G31_0).lt
      show ∃ t o, Steps p.tables e below (T31.setTop (mkF m 40 #[.val (.int f1), .val (.int x1), .val (.int y1), .val (.int z1), .val (.int (0 : Int32)), .val (.ref b_4), .val .null, .val (.ref b_28), .unset, .unset, .unset, .unset, .unset] [(.ref b_31)])) t ∧ _
      refine own_go (fun _ => XS.astore X31.here hx rfl (hb hby at_40) rfl rfl (l' := #[.val (.int f1), .val (.int x1), .val (.int y1), .val (.int z1), .val (.int (0 : Int32)), .val (.ref b_4), .val .null, .val (.ref b_28), .val (.ref b_31), .unset, .unset, .unset, .unset]) rfl) ?_
      show ∃ t o, Steps p.tables e below (T31.setTop (mkF m 42 #[.val (.int f1), .val (.int x1), .val (.int y1), .val (.int z1), .val (.int (0 : Int32)), .val (.ref b_4), .val .null, .val (.ref b_28), .val (.ref b_31), .unset, .unset, .unset, .unset] [])) t ∧ _
      refine own_go (fun _ => XS.iload X31.here hx rfl (hb hby at_42) rfl) ?_
      show ∃ t o, Steps p.tables e below (T31.setTop (mkF m 44 #[.val (.int f1), .val (.int x1), .val (.int y1), .val (.int z1), .val (.int (0 : Int32)), .val (.ref b_4), .val .null, .val (.ref b_28), .val (.ref b_31), .unset, .unset, .unset, .unset] [(.int (0 : Int32))])) t ∧ _
      obtain ⟨T32, h32, k32, X32, e32, E32, A32, Q32, O32, st32⟩ := newRE X31 hx hZ hown (hw _ (List.mem_of_getElem? (i := 15) rfl)) (hw _ (List.mem_of_getElem? (i := 16) rfl)) rfl (g := (mkF m 44 #[.val (.int f1), .val (.int x1), .val (.int y1), .val (.int z1), .val (.int (0 : Int32)), .val (.ref b_4), .val .null, .val (.ref b_28), .val (.ref b_31), .unset, .unset, .unset, .unset] [(.int (0 : Int32))])) rfl (hb hby at_44) rfl (by decide) (cap := 0) (by decide) (by decide) (by decide) (by decide) (ad := "[Ljava/lang/Object;") rfl
      obtain ⟨b32, g32⟩ : ∃ z, z = T31.heap.size := ⟨_, rfl⟩
      rw [← g32] at A32 Q32 st32
      refine own_go st32 ?_
      have le_32 : T31.heap.size ≤ h32.size := E32.1
      have lt_b32 : b32 < h32.size := A32.lt
      have V_b32 : Arv Z h32 b32 k32 (.object "java/lang/Object") (0 : Int32) [] .null := (Arv.new A32 (by decide)).pad (pad_rep [] .null 0)
      have K32 : Keep h0 h32 [] := Keep.ext K31 E32
      show ∃ t o, Steps p.tables e below (T32.setTop (mkF m 47 #[.val (.int f1), .val (.int x1), .val (.int y1), .val (.int z1), .val (.int (0 : Int32)), .val (.ref b_4), .val .null, .val (.ref b_28), .val (.ref b_31), .unset, .unset, .unset, .unset] [(.ref b32)])) t ∧ _
      refine own_go (fun _ => XS.astore X32.here hx rfl (hb hby at_47) rfl rfl (l' := #[.val (.int f1), .val (.int x1), .val (.int y1), .val (.int z1), .val (.int (0 : Int32)), .val (.ref b_4), .val .null, .val (.ref b_28), .val (.ref b_31), .val (.ref b32), .unset, .unset, .unset]) rfl) ?_
      show ∃ t o, Steps p.tables e below (T32.setTop (mkF m 49 #[.val (.int f1), .val (.int x1), .val (.int y1), .val (.int z1), .val (.int (0 : Int32)), .val (.ref b_4), .val .null, .val (.ref b_28), .val (.ref b_31), .val (.ref b32), .unset, .unset, .unset] [])) t ∧ _
      refine own_go (fun _ => XS.iload X32.here hx rfl (hb hby at_49) rfl) ?_
      show ∃ t o, Steps p.tables e below (T32.setTop (mkF m 51 #[.val (.int f1), .val (.int x1), .val (.int y1), .val (.int z1), .val (.int (0 : Int32)), .val (.ref b_4), .val .null, .val (.ref b_28), .val (.ref b_31), .val (.ref b32), .unset, .unset, .unset] [(.int (0 : Int32))])) t ∧ _
      refine own_go (fun _ => XS.ifYes X32.here hx rfl (pc0 := 51) (pc' := 60) rfl (hb hby at_51) rfl ((if0 _ _).trans (flt (by decide : ¬ ((0 : Int32) < (0 : Int32)))).2.2.2) (by decide) (by decide)) ?_
      show ∃ t o, Steps p.tables e below (T32.setTop (mkF m 60 #[.val (.int f1), .val (.int x1), .val (.int y1), .val (.int z1), .val (.int (0 : Int32)), .val (.ref b_4), .val .null, .val (.ref b_28), .val (.ref b_31), .val (.ref b32), .unset, .unset, .unset] [])) t ∧ _
      refine own_go (fun _ => XS.iload X32.here hx rfl (hb hby at_60) rfl) ?_
      show ∃ t o, Steps p.tables e below (T32.setTop (mkF m 62 #[.val (.int f1), .val (.int x1), .val (.int y1), .val (.int z1), .val (.int (0 : Int32)), .val (.ref b_4), .val .null, .val (.ref b_28), .val (.ref b_31), .val (.ref b32), .unset, .unset, .unset] [(.int (0 : Int32))])) t ∧ _
      refine own_go (fun _ => XS.iconst X32.here hx rfl (hb hby at_62)) ?_
      show ∃ t o, Steps p.tables e below (T32.setTop (mkF m 63 #[.val (.int f1), .val (.int x1), .val (.int y1), .val (.int z1), .val (.int (0 : Int32)), .val (.ref b_4), .val .null, .val (.ref b_28), .val (.ref b_31), .val (.ref b32), .unset, .unset, .unset] [(.int (1 : Int32)), (.int (0 : Int32))])) t ∧ _
      refine own_go (fun _ => XS.icmpYes X32.here hx rfl (pc0 := 63) (pc' := 72) rfl (hb hby at_63) rfl (flt (by decide : ¬ ((1 : Int32) < (0 : Int32)))).2.2.2 (by decide) (by decide)) ?_
      show ∃ t o, Steps p.tables e below (T32.setTop (mkF m 72 #[.val (.int f1), .val (.int x1), .val (.int y1), .val (.int z1), .val (.int (0 : Int32)), .val (.ref b_4), .val .null, .val (.ref b_28), .val (.ref b_31), .val (.ref b32), .unset, .unset, .unset] [])) t ∧ _
      refine own_go (fun _ => XS.iload X32.here hx rfl (hb hby at_72) rfl) ?_
      show ∃ t o, Steps p.tables e below (T32.setTop (mkF m 74 #[.val (.int f1), .val (.int x1), .val (.int y1), .val (.int z1), .val (.int (0 : Int32)), .val (.ref b_4), .val .null, .val (.ref b_28), .val (.ref b_31), .val (.ref b32), .unset, .unset, .unset] [(.int (0 : Int32))])) t ∧ _
      refine own_go (fun _ => XS.iconst X32.here hx rfl (hb hby at_74)) ?_
      show ∃ t o, Steps p.tables e below (T32.setTop (mkF m 75 #[.val (.int f1), .val (.int x1), .val (.int y1), .val (.int z1), .val (.int (0 : Int32)), .val (.ref b_4), .val .null, .val (.ref b_28), .val (.ref b_31), .val (.ref b32), .unset, .unset, .unset] [(.int (2 : Int32)), (.int (0 : Int32))])) t ∧ _
      refine own_go (fun _ => XS.icmpYes X32.here hx rfl (pc0 := 75) (pc' := 84) rfl (hb hby at_75) rfl (flt (by decide : ¬ ((2 : Int32) < (0 : Int32)))).2.2.2 (by decide) (by decide)) ?_
      show ∃ t o, Steps p.tables e below (T32.setTop (mkF m 84 #[.val (.int f1), .val (.int x1), .val (.int y1), .val (.int z1), .val (.int (0 : Int32)), .val (.ref b_4), .val .null, .val (.ref b_28), .val (.ref b_31), .val (.ref b32), .unset, .unset, .unset] [])) t ∧ _
      refine own_go (fun _ => XS.aload X32.here hx rfl (hb hby at_84) rfl rfl) ?_
      show ∃ t o, Steps p.tables e below (T32.setTop (mkF m 86 #[.val (.int f1), .val (.int x1), .val (.int y1), .val (.int z1), .val (.int (0 : Int32)), .val (.ref b_4), .val .null, .val (.ref b_28), .val (.ref b_31), .val (.ref b32), .unset, .unset, .unset] [(.ref b32)])) t ∧ _
      have F33 : Old Z n0 h32 := ((Old.keep F29 Kp31 all0).ext E32)
      have zl34 : n0 ≤ h32.size := by omega
      obtain ⟨_, _, ⟨T35, L35, k35, n35⟩, -, X35, ⟨Lc35, hQ35, l35, y35, z35⟩, st35⟩ := Jvm.LawKit.callS X32 hx (y := (⟨"com/example/planwright/planwright/plan/Key", "of", "([Ljava/lang/Object;)Ljava/lang/Object;"⟩ : MethodName)) hown (mvT hZ (hw _ (List.mem_of_getElem? (i := 17) rfl))) (mvT hZ (hw _ (List.mem_of_getElem? (i := 18) rfl))) (mvT hZ (hw _ (List.mem_of_getElem? (i := 19) rfl))) (mvT hZ (hw _ (List.mem_of_getElem? (i := 20) rfl))) (by decide) (backOf (W := 0) (rmOf0 l Z a0 hw [] b32 k32 h32 n0 zl34 V_b32 F33) hZ (hw _ (List.mem_of_getElem? (i := 20) rfl)) (hw _ (List.mem_of_getElem? (i := 19) rfl)) (by decide) (by decide)) (g := (mkF m 86 #[.val (.int f1), .val (.int x1), .val (.int y1), .val (.int z1), .val (.int (0 : Int32)), .val (.ref b_4), .val .null, .val (.ref b_28), .val (.ref b_31), .val (.ref b32), .unset, .unset, .unset] [(.ref b32)])) rfl (by rw [hml]; rfl) (argsL := [(.ref b32)]) (rest := []) (lenOf pd_hefb3f20f rfl) rfl (by show 2 * 0 + _ ≤ _; exact Nat.le_of_eq rfl) (hb hby at_86) (fun _ _ => ⟨rfl, e32, (by decide : 4 + 1 ≤ _), (by decide : 3 + 2 ≤ _)⟩)
      dsimp only [Pt.U, Pt.locs, Pt.cells, Pt.slots] at X35 l35 y35 z35 st35 hQ35
      subst l35 y35 z35
      obtain ⟨b_35, rfl, Nq35, Kp35, G35_0, G35_1, H35_0⟩ := hQ35
      have N35 := Fr.app N31 Nq35
      refine own_go st35 ?_
      have le_35 : h32.size ≤ T35.heap.size := Kp35.1
      have K35 : Keep h0 T35.heap [] := Keep.trans K32 Kp35 all0
      have lt_b_35 : b_35 < T35.heap.size := (G35_0).lt
      show ∃ t o, Steps p.tables e below (T35.setTop (mkF m 89 #[.val (.int f1), .val (.int x1), .val (.int y1), .val (.int z1), .val (.int (0 : Int32)), .val (.ref b_4), .val .null, .val (.ref b_28), .val (.ref b_31), .val (.ref b32), .unset, .unset, .unset] [(.ref b_35)])) t ∧ _
      refine own_go (fun _ => XS.astore X35.here hx rfl (hb hby at_89) rfl rfl (l' := #[.val (.int f1), .val (.int x1), .val (.int y1), .val (.int z1), .val (.int (0 : Int32)), .val (.ref b_4), .val .null, .val (.ref b_28), .val (.ref b_31), .val (.ref b32), .val (.ref b_35), .unset, .unset]) rfl) ?_
      show ∃ t o, Steps p.tables e below (T35.setTop (mkF m 91 #[.val (.int f1), .val (.int x1), .val (.int y1), .val (.int z1), .val (.int (0 : Int32)), .val (.ref b_4), .val .null, .val (.ref b_28), .val (.ref b_31), .val (.ref b32), .val (.ref b_35), .unset, .unset] [])) t ∧ _
      refine own_go (fun _ => XS.aload X35.here hx rfl (hb hby at_91) rfl rfl) ?_
      show ∃ t o, Steps p.tables e below (T35.setTop (mkF m 93 #[.val (.int f1), .val (.int x1), .val (.int y1), .val (.int z1), .val (.int (0 : Int32)), .val (.ref b_4), .val .null, .val (.ref b_28), .val (.ref b_31), .val (.ref b32), .val (.ref b_35), .unset, .unset] [(.ref b_35)])) t ∧ _
      refine own_go (fun _ => XS.iload X35.here hx rfl (hb hby at_93) rfl) ?_
      show ∃ t o, Steps p.tables e below (T35.setTop (mkF m 95 #[.val (.int f1), .val (.int x1), .val (.int y1), .val (.int z1), .val (.int (0 : Int32)), .val (.ref b_4), .val .null, .val (.ref b_28), .val (.ref b_31), .val (.ref b32), .val (.ref b_35), .unset, .unset] [(.int (0 : Int32)), (.ref b_35)])) t ∧ _
      have F36 : Arv Z T35.heap b32 k32 (.object "java/lang/Object") (0 : Int32) [] .null := (Arv.keep V_b32 Kp35 nin0)
      have F37 : Exa Z T35.heap b32 "[Ljava/lang/Object;" := (Exa.keep Q32 Kp35)
      have F38 : Old Z n0 T35.heap := (Old.keep F33 Kp35 all0)
      have zl39 : n0 ≤ T35.heap.size := by omega
      obtain ⟨_, _, ⟨T40, L40, k40, n40⟩, -, X40, ⟨Lc40, hQ40, l40, y40, z40⟩, st40⟩ := Jvm.LawKit.callS X35 hx (y := (⟨"com/example/planwright/planwright/plan/Key", "values", "(Ljava/lang/Object;I)[Ljava/lang/Object;"⟩ : MethodName)) hown (mvT hZ (hw _ (List.mem_of_getElem? (i := 37) rfl))) (mvT hZ (hw _ (List.mem_of_getElem? (i := 38) rfl))) (mvT hZ (hw _ (List.mem_of_getElem? (i := 19) rfl))) (mvT hZ (hw _ (List.mem_of_getElem? (i := 39) rfl))) (by decide) (backOf (W := 0) (rmVals0 l Z a0 hw [] b_35 b32 k32 T35.heap n0 zl39 G35_0 G35_1 F36 F37 F38) hZ (hw _ (List.mem_of_getElem? (i := 39) rfl)) (hw _ (List.mem_of_getElem? (i := 19) rfl)) (by decide) (by decide)) (g := (mkF m 95 #[.val (.int f1), .val (.int x1), .val (.int y1), .val (.int z1), .val (.int (0 : Int32)), .val (.ref b_4), .val .null, .val (.ref b_28), .val (.ref b_31), .val (.ref b32), .val (.ref b_35), .unset, .unset] [(.int (0 : Int32)), (.ref b_35)])) rfl (by rw [hml]; rfl) (argsL := [(.ref b_35), (.int (0 : Int32))]) (rest := []) (lenOf pd_h9d814d6e rfl) rfl (by show 2 * 0 + _ ≤ _; exact Nat.le_of_eq rfl) (hb hby at_95) (fun _ _ => ⟨rfl, rfl, (by decide : 5 + 1 ≤ _), (by decide : 5 + 0 ≤ _)⟩)
      dsimp only [Pt.U, Pt.locs, Pt.cells, Pt.slots] at X40 l40 y40 z40 st40 hQ40
      subst l40 y40 z40
      obtain ⟨b_40, rfl, Nq40, Kp40, G40_0, H40_0⟩ := hQ40
      have N40 := Fr.app N35 Nq40
      refine own_go st40 ?_
      have le_40 : T35.heap.size ≤ T40.heap.size := Kp40.1
      have K40 : Keep h0 T40.heap [] := Keep.trans K35 Kp40 all0
      have lt_b_40 : b_40 < T40.heap.size := (G40_0).lt
      show ∃ t o, Steps p.tables e below (T40.setTop (mkF m 98 #[.val (.int f1), .val (.int x1), .val (.int y1), .val (.int z1), .val (.int (0 : Int32)), .val (.ref b_4), .val .null, .val (.ref b_28), .val (.ref b_31), .val (.ref b32), .val (.ref b_35), .unset, .unset] [(.ref b_40)])) t ∧ _
      refine own_go (fun _ => XS.astore X40.here hx rfl (hb hby at_98) rfl rfl (l' := #[.val (.int f1), .val (.int x1), .val (.int y1), .val (.int z1), .val (.int (0 : Int32)), .val (.ref b_4), .val .null, .val (.ref b_28), .val (.ref b_31), .val (.ref b32), .val (.ref b_35), .val (.ref b_40), .unset]) rfl) ?_
      show ∃ t o, Steps p.tables e below (T40.setTop (mkF m 100 #[.val (.int f1), .val (.int x1), .val (.int y1), .val (.int z1), .val (.int (0 : Int32)), .val (.ref b_4), .val .null, .val (.ref b_28), .val (.ref b_31), .val (.ref b32), .val (.ref b_35), .val (.ref b_40), .unset] [])) t ∧ _
      refine own_go (fun _ => XS.aload X40.here hx rfl (hb hby at_100) rfl rfl) ?_
      show ∃ t o, Steps p.tables e below (T40.setTop (mkF m 102 #[.val (.int f1), .val (.int x1), .val (.int y1), .val (.int z1), .val (.int (0 : Int32)), .val (.ref b_4), .val .null, .val (.ref b_28), .val (.ref b_31), .val (.ref b32), .val (.ref b_35), .val (.ref b_40), .unset] [(.ref b_40)])) t ∧ _
      refine own_go (fun _ => XS.ifnullNo X40.here hx rfl (hb hby at_102) rfl) ?_
      show ∃ t o, Steps p.tables e below (T40.setTop (mkF m 105 #[.val (.int f1), .val (.int x1), .val (.int y1), .val (.int z1), .val (.int (0 : Int32)), .val (.ref b_4), .val .null, .val (.ref b_28), .val (.ref b_31), .val (.ref b32), .val (.ref b_35), .val (.ref b_40), .unset] [])) t ∧ _
      refine own_go (fun _ => XS.aload X40.here hx rfl (hb hby at_105) rfl rfl) ?_
      show ∃ t o, Steps p.tables e below (T40.setTop (mkF m 107 #[.val (.int f1), .val (.int x1), .val (.int y1), .val (.int z1), .val (.int (0 : Int32)), .val (.ref b_4), .val .null, .val (.ref b_28), .val (.ref b_31), .val (.ref b32), .val (.ref b_35), .val (.ref b_40), .unset] [(.ref b_40)])) t ∧ _
      refine own_go (fun _ => XS.aload X40.here hx rfl (hb hby at_107) rfl rfl) ?_
      show ∃ t o, Steps p.tables e below (T40.setTop (mkF m 109 #[.val (.int f1), .val (.int x1), .val (.int y1), .val (.int z1), .val (.int (0 : Int32)), .val (.ref b_4), .val .null, .val (.ref b_28), .val (.ref b_31), .val (.ref b32), .val (.ref b_35), .val (.ref b_40), .unset] [(.ref b32), (.ref b_40)])) t ∧ _
      have ne41 : b_40 ≠ b32 := own_ne (by omega)
      refine own_go (fun _ => Jvm.RoadKit.acmp (g := (mkF m 109 #[.val (.int f1), .val (.int x1), .val (.int y1), .val (.int z1), .val (.int (0 : Int32)), .val (.ref b_4), .val .null, .val (.ref b_28), .val (.ref b_31), .val (.ref b32), .val (.ref b_35), .val (.ref b_40), .unset] [(.ref b32), (.ref b_40)])) X40 hx rfl rfl rfl (pc0 := 109) (pc' := 112) (same := false) rfl (hb hby at_109) rfl (decide_eq_false fun q => ne41 (Value.ref.inj q)) (by decide) (by decide)) ?_
      show ∃ t o, Steps p.tables e below (T40.setTop (mkF m 112 #[.val (.int f1), .val (.int x1), .val (.int y1), .val (.int z1), .val (.int (0 : Int32)), .val (.ref b_4), .val .null, .val (.ref b_28), .val (.ref b_31), .val (.ref b32), .val (.ref b_35), .val (.ref b_40), .unset] [])) t ∧ _
      refine own_go (fun _ => XS.aload X40.here hx rfl (hb hby at_112) rfl rfl) ?_
      show ∃ t o, Steps p.tables e below (T40.setTop (mkF m 114 #[.val (.int f1), .val (.int x1), .val (.int y1), .val (.int z1), .val (.int (0 : Int32)), .val (.ref b_4), .val .null, .val (.ref b_28), .val (.ref b_31), .val (.ref b32), .val (.ref b_35), .val (.ref b_40), .unset] [(.ref b_40)])) t ∧ _
      obtain ⟨cl42, Ar42, q42, S42, N42, H42, G42⟩ := id G40_0
      have ln42 : cl42.slots.size.toInt32 = (0 : Int32) := len_of S42 N42
      have al42 := X40.arraylength hx Ar42.1 (State.isArrayOf_alike hZ.alike Ar42.2.1) (g := (mkF m 114 #[.val (.int f1), .val (.int x1), .val (.int y1), .val (.int z1), .val (.int (0 : Int32)), .val (.ref b_4), .val .null, .val (.ref b_28), .val (.ref b_31), .val (.ref b32), .val (.ref b_35), .val (.ref b_40), .unset] [(.ref b_40)])) rfl rfl (hb hby at_114)
      rw [ln42] at al42
      refine own_go al42 ?_
      show ∃ t o, Steps p.tables e below (T40.setTop (mkF m 115 #[.val (.int f1), .val (.int x1), .val (.int y1), .val (.int z1), .val (.int (0 : Int32)), .val (.ref b_4), .val .null, .val (.ref b_28), .val (.ref b_31), .val (.ref b32), .val (.ref b_35), .val (.ref b_40), .unset] [(.int (0 : Int32))])) t ∧ _
      refine own_go (fun _ => XS.iload X40.here hx rfl (hb hby at_115) rfl) ?_
      show ∃ t o, Steps p.tables e below (T40.setTop (mkF m 117 #[.val (.int f1), .val (.int x1), .val (.int y1), .val (.int z1), .val (.int (0 : Int32)), .val (.ref b_4), .val .null, .val (.ref b_28), .val (.ref b_31), .val (.ref b32), .val (.ref b_35), .val (.ref b_40), .unset] [(.int (0 : Int32)), (.int (0 : Int32))])) t ∧ _
      refine own_go (fun _ => XS.icmpYes X40.here hx rfl (pc0 := 117) (pc' := 122) rfl (hb hby at_117) rfl (teq (by decide : (0 : Int32) = (0 : Int32))).1 (by decide) (by decide)) ?_
      show ∃ t o, Steps p.tables e below (T40.setTop (mkF m 122 #[.val (.int f1), .val (.int x1), .val (.int y1), .val (.int z1), .val (.int (0 : Int32)), .val (.ref b_4), .val .null, .val (.ref b_28), .val (.ref b_31), .val (.ref b32), .val (.ref b_35), .val (.ref b_40), .unset] [])) t ∧ _
      refine own_go (fun _ => XS.iload X40.here hx rfl (hb hby at_122) rfl) ?_
      show ∃ t o, Steps p.tables e below (T40.setTop (mkF m 124 #[.val (.int f1), .val (.int x1), .val (.int y1), .val (.int z1), .val (.int (0 : Int32)), .val (.ref b_4), .val .null, .val (.ref b_28), .val (.ref b_31), .val (.ref b32), .val (.ref b_35), .val (.ref b_40), .unset] [(.int (0 : Int32))])) t ∧ _
      refine own_go (fun _ => XS.ifYes X40.here hx rfl (pc0 := 124) (pc' := 138) rfl (hb hby at_124) rfl ((if0 _ _).trans (flt (by decide : ¬ ((0 : Int32) < (0 : Int32)))).2.2.2) (by decide) (by decide)) ?_
      show ∃ t o, Steps p.tables e below (T40.setTop (mkF m 138 #[.val (.int f1), .val (.int x1), .val (.int y1), .val (.int z1), .val (.int (0 : Int32)), .val (.ref b_4), .val .null, .val (.ref b_28), .val (.ref b_31), .val (.ref b32), .val (.ref b_35), .val (.ref b_40), .unset] [])) t ∧ _
      refine own_go (fun _ => XS.iload X40.here hx rfl (hb hby at_138) rfl) ?_
      show ∃ t o, Steps p.tables e below (T40.setTop (mkF m 140 #[.val (.int f1), .val (.int x1), .val (.int y1), .val (.int z1), .val (.int (0 : Int32)), .val (.ref b_4), .val .null, .val (.ref b_28), .val (.ref b_31), .val (.ref b32), .val (.ref b_35), .val (.ref b_40), .unset] [(.int (0 : Int32))])) t ∧ _
      refine own_go (fun _ => XS.iconst X40.here hx rfl (hb hby at_140)) ?_
      show ∃ t o, Steps p.tables e below (T40.setTop (mkF m 141 #[.val (.int f1), .val (.int x1), .val (.int y1), .val (.int z1), .val (.int (0 : Int32)), .val (.ref b_4), .val .null, .val (.ref b_28), .val (.ref b_31), .val (.ref b32), .val (.ref b_35), .val (.ref b_40), .unset] [(.int (1 : Int32)), (.int (0 : Int32))])) t ∧ _
      refine own_go (fun _ => XS.icmpYes X40.here hx rfl (pc0 := 141) (pc' := 155) rfl (hb hby at_141) rfl (flt (by decide : ¬ ((1 : Int32) < (0 : Int32)))).2.2.2 (by decide) (by decide)) ?_
      show ∃ t o, Steps p.tables e below (T40.setTop (mkF m 155 #[.val (.int f1), .val (.int x1), .val (.int y1), .val (.int z1), .val (.int (0 : Int32)), .val (.ref b_4), .val .null, .val (.ref b_28), .val (.ref b_31), .val (.ref b32), .val (.ref b_35), .val (.ref b_40), .unset] [])) t ∧ _
      refine own_go (fun _ => XS.iload X40.here hx rfl (hb hby at_155) rfl) ?_
      show ∃ t o, Steps p.tables e below (T40.setTop (mkF m 157 #[.val (.int f1), .val (.int x1), .val (.int y1), .val (.int z1), .val (.int (0 : Int32)), .val (.ref b_4), .val .null, .val (.ref b_28), .val (.ref b_31), .val (.ref b32), .val (.ref b_35), .val (.ref b_40), .unset] [(.int (0 : Int32))])) t ∧ _
      refine own_go (fun _ => XS.iconst X40.here hx rfl (hb hby at_157)) ?_
      show ∃ t o, Steps p.tables e below (T40.setTop (mkF m 158 #[.val (.int f1), .val (.int x1), .val (.int y1), .val (.int z1), .val (.int (0 : Int32)), .val (.ref b_4), .val .null, .val (.ref b_28), .val (.ref b_31), .val (.ref b32), .val (.ref b_35), .val (.ref b_40), .unset] [(.int (2 : Int32)), (.int (0 : Int32))])) t ∧ _
      refine own_go (fun _ => XS.icmpYes X40.here hx rfl (pc0 := 158) (pc' := 172) rfl (hb hby at_158) rfl (flt (by decide : ¬ ((2 : Int32) < (0 : Int32)))).2.2.2 (by decide) (by decide)) ?_
      show ∃ t o, Steps p.tables e below (T40.setTop (mkF m 172 #[.val (.int f1), .val (.int x1), .val (.int y1), .val (.int z1), .val (.int (0 : Int32)), .val (.ref b_4), .val .null, .val (.ref b_28), .val (.ref b_31), .val (.ref b32), .val (.ref b_35), .val (.ref b_40), .unset] [])) t ∧ _
      refine own_go (fun _ => XS.iload X40.here hx rfl (hb hby at_172) rfl) ?_
      show ∃ t o, Steps p.tables e below (T40.setTop (mkF m 174 #[.val (.int f1), .val (.int x1), .val (.int y1), .val (.int z1), .val (.int (0 : Int32)), .val (.ref b_4), .val .null, .val (.ref b_28), .val (.ref b_31), .val (.ref b32), .val (.ref b_35), .val (.ref b_40), .unset] [(.int (0 : Int32))])) t ∧ _
      refine own_go (fun _ => XS.ifYes X40.here hx rfl (pc0 := 174) (pc' := 259) rfl (hb hby at_174) rfl ((if0 _ _).trans (flt (by decide : ¬ ((0 : Int32) < (0 : Int32)))).2.2.2) (by decide) (by decide)) ?_
      show ∃ t o, Steps p.tables e below (T40.setTop (mkF m 259 #[.val (.int f1), .val (.int x1), .val (.int y1), .val (.int z1), .val (.int (0 : Int32)), .val (.ref b_4), .val .null, .val (.ref b_28), .val (.ref b_31), .val (.ref b32), .val (.ref b_35), .val (.ref b_40), .unset] [])) t ∧ _
      refine own_go (fun _ => XS.iconst X40.here hx rfl (hb hby at_259)) ?_
      show ∃ t o, Steps p.tables e below (T40.setTop (mkF m 260 #[.val (.int f1), .val (.int x1), .val (.int y1), .val (.int z1), .val (.int (0 : Int32)), .val (.ref b_4), .val .null, .val (.ref b_28), .val (.ref b_31), .val (.ref b32), .val (.ref b_35), .val (.ref b_40), .unset] [(.int (1 : Int32))])) t ∧ _
      obtain ⟨fs, hr, hrun, hended, hW, hsame⟩ := X40.leave (v := some (.int (1 : Int32))) (fun h => by rw [Bd.returns] at h; cases h)
      refine ⟨_, _, ?_, hrun, hended, _, _, rfl, ?_, ⟨_, rfl⟩, hW, hsame.mono (by decide) (by decide)⟩
      · exact retN X40 hx (t := .boolean) Bd.returns (by simp) (hb hby at_260) hr
      · show Q_rm0 Z f1 x1 y1 z1 caI ccI caL ccL h0 n0 _ T40.heap _
        exact ⟨rfl, N40, K40⟩
  · rw [hk]
    show ∃ t o, Steps p.tables e below (s₁.setTop (mkF m 5 #[.val (.int f1), .val (.int x1), .val (.int y1), .val (.int z1), .val (.int (1 : Int32)), .unset, .unset, .unset, .unset, .unset, .unset, .unset, .unset] [])) t ∧ _
    refine own_go (fun _ => XS.iloadN X0.here hx rfl (hb hby at_5) rfl) ?_
    show ∃ t o, Steps p.tables e below (s₁.setTop (mkF m 6 #[.val (.int f1), .val (.int x1), .val (.int y1), .val (.int z1), .val (.int (1 : Int32)), .unset, .unset, .unset, .unset, .unset, .unset, .unset, .unset] [(.int x1)])) t ∧ _
    obtain ⟨_, _, ⟨T43, L43, k43, n43⟩, -, X43, ⟨Lc43, hQ43, l43, y43, z43⟩, st43⟩ := Jvm.LawKit.callS X0 hx (y := (⟨"java/lang/Integer", "valueOf", "(I)Ljava/lang/Integer;"⟩ : MethodName)) hown (mvT hZ (hw _ (List.mem_of_getElem? (i := 0) rfl))) (mvT hZ (hw _ (List.mem_of_getElem? (i := 1) rfl))) (mvT hZ (hw _ (List.mem_of_getElem? (i := 2) rfl))) (mvT hZ (hw _ (List.mem_of_getElem? (i := 3) rfl))) (by decide) (backOf (W := 0) (rmIntOf l Z a0 hw [] x1 caI ccI h0 n0 Z0 OLD P1 P2 (BXI : Bxs Z caI ccI "java/lang/Integer" "I" (256 : Int32) own_ival)) hZ (hw _ (List.mem_of_getElem? (i := 3) rfl)) (hw _ (List.mem_of_getElem? (i := 2) rfl)) (by decide) (by decide)) (g := (mkF m 6 #[.val (.int f1), .val (.int x1), .val (.int y1), .val (.int z1), .val (.int (1 : Int32)), .unset, .unset, .unset, .unset, .unset, .unset, .unset, .unset] [(.int x1)])) rfl (by rw [hml]; rfl) (argsL := [(.int x1)]) (rest := []) (lenOf pd__28I_29Ljava_2flang_2fInteger_3b rfl) rfl (by show 2 * 0 + _ ≤ _; exact Nat.le_of_eq rfl) (hb hby at_6) (fun _ _ => ⟨rfl, e0, (by decide : 0 + 1 ≤ _), (by decide : 0 + 1 ≤ _)⟩)
    dsimp only [Pt.U, Pt.locs, Pt.cells, Pt.slots] at X43 l43 y43 z43 st43 hQ43
    subst l43 y43 z43
    obtain ⟨b_43, rv_43, rfl, Nq43, Kp43, G43_0, G43_1⟩ := hQ43
    have N43 := Fr.app N0 Nq43
    refine own_go st43 ?_
    have le_43 : h0.size ≤ T43.heap.size := Kp43.1
    have K43 : Keep h0 T43.heap [] := Keep.trans (Keep.refl h0 []) Kp43 all0
    have lt_b_43 : b_43 < T43.heap.size := (G43_0).lt
    show ∃ t o, Steps p.tables e below (T43.setTop (mkF m 9 #[.val (.int f1), .val (.int x1), .val (.int y1), .val (.int z1), .val (.int (1 : Int32)), .unset, .unset, .unset, .unset, .unset, .unset, .unset, .unset] [(.ref b_43)])) t ∧ _
    refine own_go (fun _ => XS.astore X43.here hx rfl (hb hby at_9) rfl rfl (l' := #[.val (.int f1), .val (.int x1), .val (.int y1), .val (.int z1), .val (.int (1 : Int32)), .val (.ref b_43), .unset, .unset, .unset, .unset, .unset, .unset, .unset]) rfl) ?_
    show ∃ t o, Steps p.tables e below (T43.setTop (mkF m 11 #[.val (.int f1), .val (.int x1), .val (.int y1), .val (.int z1), .val (.int (1 : Int32)), .val (.ref b_43), .unset, .unset, .unset, .unset, .unset, .unset, .unset] [])) t ∧ _
    refine own_go (fun _ => XS.iloadN X43.here hx rfl (hb hby at_11) rfl) ?_
    show ∃ t o, Steps p.tables e below (T43.setTop (mkF m 12 #[.val (.int f1), .val (.int x1), .val (.int y1), .val (.int z1), .val (.int (1 : Int32)), .val (.ref b_43), .unset, .unset, .unset, .unset, .unset, .unset, .unset] [(.int f1)])) t ∧ _
    refine own_go (fun _ => XS.iconst X43.here hx rfl (hb hby at_12)) ?_
    show ∃ t o, Steps p.tables e below (T43.setTop (mkF m 13 #[.val (.int f1), .val (.int x1), .val (.int y1), .val (.int z1), .val (.int (1 : Int32)), .val (.ref b_43), .unset, .unset, .unset, .unset, .unset, .unset, .unset] [(.int (4 : Int32)), (.int f1)])) t ∧ _
    refine own_go (fun _ => XS.iand X43.here hx rfl (hb hby at_13) rfl) ?_
    show ∃ t o, Steps p.tables e below (T43.setTop (mkF m 14 #[.val (.int f1), .val (.int x1), .val (.int y1), .val (.int z1), .val (.int (1 : Int32)), .val (.ref b_43), .unset, .unset, .unset, .unset, .unset, .unset, .unset] [(.int (f1 &&& (4 : Int32)))])) t ∧ _
    by_cases hc44 : (f1 &&& (4 : Int32)) = (0 : Int32)
    · refine own_go (fun _ => XS.ifYes X43.here hx rfl (pc0 := 14) (pc' := 21) rfl (hb hby at_14) rfl ((if0 _ _).trans (teq hc44).1) (by decide) (by decide)) ?_
      show ∃ t o, Steps p.tables e below (T43.setTop (mkF m 21 #[.val (.int f1), .val (.int x1), .val (.int y1), .val (.int z1), .val (.int (1 : Int32)), .val (.ref b_43), .unset, .unset, .unset, .unset, .unset, .unset, .unset] [])) t ∧ _
      refine own_go (fun _ => XS.iloadN X43.here hx rfl (hb hby at_21) rfl) ?_
      show ∃ t o, Steps p.tables e below (T43.setTop (mkF m 22 #[.val (.int f1), .val (.int x1), .val (.int y1), .val (.int z1), .val (.int (1 : Int32)), .val (.ref b_43), .unset, .unset, .unset, .unset, .unset, .unset, .unset] [(.int y1)])) t ∧ _
      have F45 : Old Z n0 T43.heap := (Old.keep OLD Kp43 all0)
      have zl46 : n0 ≤ T43.heap.size := by omega
      obtain ⟨_, _, ⟨T47, L47, k47, n47⟩, -, X47, ⟨Lc47, hQ47, l47, y47, z47⟩, st47⟩ := Jvm.LawKit.callS X43 hx (y := (⟨"java/lang/Integer", "valueOf", "(I)Ljava/lang/Integer;"⟩ : MethodName)) hown (mvT hZ (hw _ (List.mem_of_getElem? (i := 0) rfl))) (mvT hZ (hw _ (List.mem_of_getElem? (i := 1) rfl))) (mvT hZ (hw _ (List.mem_of_getElem? (i := 2) rfl))) (mvT hZ (hw _ (List.mem_of_getElem? (i := 3) rfl))) (by decide) (backOf (W := 0) (rmIntOf l Z a0 hw [] y1 caI ccI T43.heap n0 zl46 F45 P1 P2 (BXI : Bxs Z caI ccI "java/lang/Integer" "I" (256 : Int32) own_ival)) hZ (hw _ (List.mem_of_getElem? (i := 3) rfl)) (hw _ (List.mem_of_getElem? (i := 2) rfl)) (by decide) (by decide)) (g := (mkF m 22 #[.val (.int f1), .val (.int x1), .val (.int y1), .val (.int z1), .val (.int (1 : Int32)), .val (.ref b_43), .unset, .unset, .unset, .unset, .unset, .unset, .unset] [(.int y1)])) rfl (by rw [hml]; rfl) (argsL := [(.int y1)]) (rest := []) (lenOf pd__28I_29Ljava_2flang_2fInteger_3b rfl) rfl (by show 2 * 0 + _ ≤ _; exact Nat.le_of_eq rfl) (hb hby at_22) (fun _ _ => ⟨rfl, rfl, (by decide : 1 + 1 ≤ _), (by decide : 1 + 1 ≤ _)⟩)
      dsimp only [Pt.U, Pt.locs, Pt.cells, Pt.slots] at X47 l47 y47 z47 st47 hQ47
      subst l47 y47 z47
      obtain ⟨b_47, rv_47, rfl, Nq47, Kp47, G47_0, G47_1⟩ := hQ47
      have N47 := Fr.app N43 Nq47
      refine own_go st47 ?_
      have le_47 : T43.heap.size ≤ T47.heap.size := Kp47.1
      have K47 : Keep h0 T47.heap [] := Keep.trans K43 Kp47 all0
      have lt_b_47 : b_47 < T47.heap.size := (G47_0).lt
      show ∃ t o, Steps p.tables e below (T47.setTop (mkF m 25 #[.val (.int f1), .val (.int x1), .val (.int y1), .val (.int z1), .val (.int (1 : Int32)), .val (.ref b_43), .unset, .unset, .unset, .unset, .unset, .unset, .unset] [(.ref b_47)])) t ∧ _
      refine own_go (fun _ => XS.astore X47.here hx rfl (hb hby at_25) rfl rfl (l' := #[.val (.int f1), .val (.int x1), .val (.int y1), .val (.int z1), .val (.int (1 : Int32)), .val (.ref b_43), .val (.ref b_47), .unset, .unset, .unset, .unset, .unset, .unset]) rfl) ?_
      show ∃ t o, Steps p.tables e below (T47.setTop (mkF m 27 #[.val (.int f1), .val (.int x1), .val (.int y1), .val (.int z1), .val (.int (1 : Int32)), .val (.ref b_43), .val (.ref b_47), .unset, .unset, .unset, .unset, .unset, .unset] [])) t ∧ _
      refine own_go (fun _ => XS.iloadN X47.here hx rfl (hb hby at_27) rfl) ?_
      show ∃ t o, Steps p.tables e below (T47.setTop (mkF m 28 #[.val (.int f1), .val (.int x1), .val (.int y1), .val (.int z1), .val (.int (1 : Int32)), .val (.ref b_43), .val (.ref b_47), .unset, .unset, .unset, .unset, .unset, .unset] [(.int z1)])) t ∧ _
      refine own_go (fun _ => XS.i2l X47.here hx rfl (hb hby at_28) rfl) ?_
      show ∃ t o, Steps p.tables e below (T47.setTop (mkF m 29 #[.val (.int f1), .val (.int x1), .val (.int y1), .val (.int z1), .val (.int (1 : Int32)), .val (.ref b_43), .val (.ref b_47), .unset, .unset, .unset, .unset, .unset, .unset] [(.long (z1.toInt64))])) t ∧ _
      have F48 : Old Z n0 T47.heap := (Old.keep F45 Kp47 all0)
      have zl49 : n0 ≤ T47.heap.size := by omega
      obtain ⟨_, _, ⟨T50, L50, k50, n50⟩, -, X50, ⟨Lc50, hQ50, l50, y50, z50⟩, st50⟩ := Jvm.LawKit.callS X47 hx (y := (⟨"java/lang/Long", "valueOf", "(J)Ljava/lang/Long;"⟩ : MethodName)) hown (mvT hZ (hw _ (List.mem_of_getElem? (i := 7) rfl))) (mvT hZ (hw _ (List.mem_of_getElem? (i := 8) rfl))) (mvT hZ (hw _ (List.mem_of_getElem? (i := 9) rfl))) (mvT hZ (hw _ (List.mem_of_getElem? (i := 10) rfl))) (by decide) (backOf (W := 0) (rmLongOf l Z a0 hw [] (z1.toInt64) caL ccL T47.heap n0 zl49 F48 P3 (BXL : Bxs Z caL ccL "java/lang/Long" "J" (256 : Int32) own_lval)) hZ (hw _ (List.mem_of_getElem? (i := 10) rfl)) (hw _ (List.mem_of_getElem? (i := 9) rfl)) (by decide) (by decide)) (g := (mkF m 29 #[.val (.int f1), .val (.int x1), .val (.int y1), .val (.int z1), .val (.int (1 : Int32)), .val (.ref b_43), .val (.ref b_47), .unset, .unset, .unset, .unset, .unset, .unset] [(.long (z1.toInt64))])) rfl (by rw [hml]; rfl) (argsL := [(.long (z1.toInt64))]) (rest := []) (lenOf pd__28J_29Ljava_2flang_2fLong_3b rfl) rfl (by show 2 * 0 + _ ≤ _; exact Nat.le_of_eq rfl) (hb hby at_29) (fun _ _ => ⟨rfl, rfl, (by decide : 2 + 1 ≤ _), (by decide : 2 + 1 ≤ _)⟩)
      dsimp only [Pt.U, Pt.locs, Pt.cells, Pt.slots] at X50 l50 y50 z50 st50 hQ50
      subst l50 y50 z50
      obtain ⟨b_50, rv_50, rfl, Nq50, Kp50, G50_0, G50_1⟩ := hQ50
      have N50 := Fr.app N47 Nq50
      refine own_go st50 ?_
      have le_50 : T47.heap.size ≤ T50.heap.size := Kp50.1
      have K50 : Keep h0 T50.heap [] := Keep.trans K47 Kp50 all0
      have lt_b_50 : b_50 < T50.heap.size := (G50_0).lt
      show ∃ t o, Steps p.tables e below (T50.setTop (mkF m 32 #[.val (.int f1), .val (.int x1), .val (.int y1), .val (.int z1), .val (.int (1 : Int32)), .val (.ref b_43), .val (.ref b_47), .unset, .unset, .unset, .unset, .unset, .unset] [(.ref b_50)])) t ∧ _
      refine own_go (fun _ => XS.astore X50.here hx rfl (hb hby at_32) rfl rfl (l' := #[.val (.int f1), .val (.int x1), .val (.int y1), .val (.int z1), .val (.int (1 : Int32)), .val (.ref b_43), .val (.ref b_47), .val (.ref b_50), .unset, .unset, .unset, .unset, .unset]) rfl) ?_
      show ∃ t o, Steps p.tables e below (T50.setTop (mkF m 34 #[.val (.int f1), .val (.int x1), .val (.int y1), .val (.int z1), .val (.int (1 : Int32)), .val (.ref b_43), .val (.ref b_47), .val (.ref b_50), .unset, .unset, .unset, .unset, .unset] [])) t ∧ _
      refine own_go (fun _ => XS.iloadN X50.here hx rfl (hb hby at_34) rfl) ?_
      show ∃ t o, Steps p.tables e below (T50.setTop (mkF m 35 #[.val (.int f1), .val (.int x1), .val (.int y1), .val (.int z1), .val (.int (1 : Int32)), .val (.ref b_43), .val (.ref b_47), .val (.ref b_50), .unset, .unset, .unset, .unset, .unset] [(.int x1)])) t ∧ _
      refine own_go (fun _ => XS.iconst X50.here hx rfl (hb hby at_35)) ?_
      show ∃ t o, Steps p.tables e below (T50.setTop (mkF m 36 #[.val (.int f1), .val (.int x1), .val (.int y1), .val (.int z1), .val (.int (1 : Int32)), .val (.ref b_43), .val (.ref b_47), .val (.ref b_50), .unset, .unset, .unset, .unset, .unset] [(.int (1 : Int32)), (.int x1)])) t ∧ _
      refine own_go (fun _ => XS.ixor X50.here hx rfl (hb hby at_36) rfl) ?_
      show ∃ t o, Steps p.tables e below (T50.setTop (mkF m 37 #[.val (.int f1), .val (.int x1), .val (.int y1), .val (.int z1), .val (.int (1 : Int32)), .val (.ref b_43), .val (.ref b_47), .val (.ref b_50), .unset, .unset, .unset, .unset, .unset] [(.int (x1 ^^^ (1 : Int32)))])) t ∧ _
      have F51 : Old Z n0 T50.heap := (Old.keep F48 Kp50 all0)
      have zl52 : n0 ≤ T50.heap.size := by omega
      obtain ⟨_, _, ⟨T53, L53, k53, n53⟩, -, X53, ⟨Lc53, hQ53, l53, y53, z53⟩, st53⟩ := Jvm.LawKit.callS X50 hx (y := (⟨"java/lang/Integer", "valueOf", "(I)Ljava/lang/Integer;"⟩ : MethodName)) hown (mvT hZ (hw _ (List.mem_of_getElem? (i := 0) rfl))) (mvT hZ (hw _ (List.mem_of_getElem? (i := 1) rfl))) (mvT hZ (hw _ (List.mem_of_getElem? (i := 2) rfl))) (mvT hZ (hw _ (List.mem_of_getElem? (i := 3) rfl))) (by decide) (backOf (W := 0) (rmIntOf l Z a0 hw [] ((x1 ^^^ (1 : Int32))) caI ccI T50.heap n0 zl52 F51 P1 P2 (BXI : Bxs Z caI ccI "java/lang/Integer" "I" (256 : Int32) own_ival)) hZ (hw _ (List.mem_of_getElem? (i := 3) rfl)) (hw _ (List.mem_of_getElem? (i := 2) rfl)) (by decide) (by decide)) (g := (mkF m 37 #[.val (.int f1), .val (.int x1), .val (.int y1), .val (.int z1), .val (.int (1 : Int32)), .val (.ref b_43), .val (.ref b_47), .val (.ref b_50), .unset, .unset, .unset, .unset, .unset] [(.int (x1 ^^^ (1 : Int32)))])) rfl (by rw [hml]; rfl) (argsL := [(.int (x1 ^^^ (1 : Int32)))]) (rest := []) (lenOf pd__28I_29Ljava_2flang_2fInteger_3b rfl) rfl (by show 2 * 0 + _ ≤ _; exact Nat.le_of_eq rfl) (hb hby at_37) (fun _ _ => ⟨rfl, rfl, (by decide : 3 + 1 ≤ _), (by decide : 3 + 1 ≤ _)⟩)
      dsimp only [Pt.U, Pt.locs, Pt.cells, Pt.slots] at X53 l53 y53 z53 st53 hQ53
      subst l53 y53 z53
      obtain ⟨b_53, rv_53, rfl, Nq53, Kp53, G53_0, G53_1⟩ := hQ53
      have N53 := Fr.app N50 Nq53
      refine own_go st53 ?_
      have le_53 : T50.heap.size ≤ T53.heap.size := Kp53.1
      have K53 : Keep h0 T53.heap [] := Keep.trans K50 Kp53 all0
      have lt_b_53 : b_53 < T53.heap.size := (G53_0).lt
      show ∃ t o, Steps p.tables e below (T53.setTop (mkF m 40 #[.val (.int f1), .val (.int x1), .val (.int y1), .val (.int z1), .val (.int (1 : Int32)), .val (.ref b_43), .val (.ref b_47), .val (.ref b_50), .unset, .unset, .unset, .unset, .unset] [(.ref b_53)])) t ∧ _
      refine own_go (fun _ => XS.astore X53.here hx rfl (hb hby at_40) rfl rfl (l' := #[.val (.int f1), .val (.int x1), .val (.int y1), .val (.int z1), .val (.int (1 : Int32)), .val (.ref b_43), .val (.ref b_47), .val (.ref b_50), .val (.ref b_53), .unset, .unset, .unset, .unset]) rfl) ?_
      show ∃ t o, Steps p.tables e below (T53.setTop (mkF m 42 #[.val (.int f1), .val (.int x1), .val (.int y1), .val (.int z1), .val (.int (1 : Int32)), .val (.ref b_43), .val (.ref b_47), .val (.ref b_50), .val (.ref b_53), .unset, .unset, .unset, .unset] [])) t ∧ _
      refine own_go (fun _ => XS.iload X53.here hx rfl (hb hby at_42) rfl) ?_
      show ∃ t o, Steps p.tables e below (T53.setTop (mkF m 44 #[.val (.int f1), .val (.int x1), .val (.int y1), .val (.int z1), .val (.int (1 : Int32)), .val (.ref b_43), .val (.ref b_47), .val (.ref b_50), .val (.ref b_53), .unset, .unset, .unset, .unset] [(.int (1 : Int32))])) t ∧ _
      obtain ⟨T54, h54, k54, X54, e54, E54, A54, Q54, O54, st54⟩ := newRE X53 hx hZ hown (hw _ (List.mem_of_getElem? (i := 15) rfl)) (hw _ (List.mem_of_getElem? (i := 16) rfl)) rfl (g := (mkF m 44 #[.val (.int f1), .val (.int x1), .val (.int y1), .val (.int z1), .val (.int (1 : Int32)), .val (.ref b_43), .val (.ref b_47), .val (.ref b_50), .val (.ref b_53), .unset, .unset, .unset, .unset] [(.int (1 : Int32))])) rfl (hb hby at_44) rfl (by decide) (cap := 1) (by decide) (by decide) (by decide) (by decide) (ad := "[Ljava/lang/Object;") rfl
      obtain ⟨b54, g54⟩ : ∃ z, z = T53.heap.size := ⟨_, rfl⟩
      rw [← g54] at A54 Q54 st54
      refine own_go st54 ?_
      have le_54 : T53.heap.size ≤ h54.size := E54.1
      have lt_b54 : b54 < h54.size := A54.lt
      have V_b54 : Arv Z h54 b54 k54 (.object "java/lang/Object") (1 : Int32) [.null] .null := (Arv.new A54 (by decide)).pad (pad_rep [] .null 1)
      have K54 : Keep h0 h54 [] := Keep.ext K53 E54
      show ∃ t o, Steps p.tables e below (T54.setTop (mkF m 47 #[.val (.int f1), .val (.int x1), .val (.int y1), .val (.int z1), .val (.int (1 : Int32)), .val (.ref b_43), .val (.ref b_47), .val (.ref b_50), .val (.ref b_53), .unset, .unset, .unset, .unset] [(.ref b54)])) t ∧ _
      refine own_go (fun _ => XS.astore X54.here hx rfl (hb hby at_47) rfl rfl (l' := #[.val (.int f1), .val (.int x1), .val (.int y1), .val (.int z1), .val (.int (1 : Int32)), .val (.ref b_43), .val (.ref b_47), .val (.ref b_50), .val (.ref b_53), .val (.ref b54), .unset, .unset, .unset]) rfl) ?_
      show ∃ t o, Steps p.tables e below (T54.setTop (mkF m 49 #[.val (.int f1), .val (.int x1), .val (.int y1), .val (.int z1), .val (.int (1 : Int32)), .val (.ref b_43), .val (.ref b_47), .val (.ref b_50), .val (.ref b_53), .val (.ref b54), .unset, .unset, .unset] [])) t ∧ _
      refine own_go (fun _ => XS.iload X54.here hx rfl (hb hby at_49) rfl) ?_
      show ∃ t o, Steps p.tables e below (T54.setTop (mkF m 51 #[.val (.int f1), .val (.int x1), .val (.int y1), .val (.int z1), .val (.int (1 : Int32)), .val (.ref b_43), .val (.ref b_47), .val (.ref b_50), .val (.ref b_53), .val (.ref b54), .unset, .unset, .unset] [(.int (1 : Int32))])) t ∧ _
      refine own_go (fun _ => XS.ifNo X54.here hx rfl (hb hby at_51) rfl ((if0 _ _).trans (tlt (by decide : (0 : Int32) < (1 : Int32))).2.2.2)) ?_
      show ∃ t o, Steps p.tables e below (T54.setTop (mkF m 54 #[.val (.int f1), .val (.int x1), .val (.int y1), .val (.int z1), .val (.int (1 : Int32)), .val (.ref b_43), .val (.ref b_47), .val (.ref b_50), .val (.ref b_53), .val (.ref b54), .unset, .unset, .unset] [])) t ∧ _
      refine own_go (fun _ => XS.aload X54.here hx rfl (hb hby at_54) rfl rfl) ?_
      show ∃ t o, Steps p.tables e below (T54.setTop (mkF m 56 #[.val (.int f1), .val (.int x1), .val (.int y1), .val (.int z1), .val (.int (1 : Int32)), .val (.ref b_43), .val (.ref b_47), .val (.ref b_50), .val (.ref b_53), .val (.ref b54), .unset, .unset, .unset] [(.ref b54)])) t ∧ _
      refine own_go (fun _ => XS.iconst X54.here hx rfl (hb hby at_56)) ?_
      show ∃ t o, Steps p.tables e below (T54.setTop (mkF m 57 #[.val (.int f1), .val (.int x1), .val (.int y1), .val (.int z1), .val (.int (1 : Int32)), .val (.ref b_43), .val (.ref b_47), .val (.ref b_50), .val (.ref b_53), .val (.ref b54), .unset, .unset, .unset] [(.int (0 : Int32)), (.ref b54)])) t ∧ _
      refine own_go (fun _ => XS.aload X54.here hx rfl (hb hby at_57) rfl rfl) ?_
      show ∃ t o, Steps p.tables e below (T54.setTop (mkF m 59 #[.val (.int f1), .val (.int x1), .val (.int y1), .val (.int z1), .val (.int (1 : Int32)), .val (.ref b_43), .val (.ref b_47), .val (.ref b_50), .val (.ref b_53), .val (.ref b54), .unset, .unset, .unset] [(.ref b_43), (.int (0 : Int32)), (.ref b54)])) t ∧ _
      obtain ⟨cl55, Ar55, q55, S55, N55, H55, G55⟩ := id V_b54
      have hin55 : ¬ ((0 : Int32) < 0 ∨ cl55.slots.size ≤ ((0 : Int32)).toNatClampNeg) := inb_of S55 ⟨by decide, by decide⟩
      have F56 : Exa Z h54 b_43 "java/lang/Integer" := (Exa.ext E54 (Exa.keep (Exa.keep (Exa.keep G43_0 Kp47) Kp50) Kp53))
      obtain ⟨T57, h57, X57, e57, W57, st57⟩ := stR X54 hx hZ e54 Ar55 (j := (0 : Int32)) hin55 rfl (Sto.ofV Ar55 q55 O54 (Ins.of_exa F56 (hw _ (List.mem_of_getElem? (i := 75) rfl)))) (g := (mkF m 59 #[.val (.int f1), .val (.int x1), .val (.int y1), .val (.int z1), .val (.int (1 : Int32)), .val (.ref b_43), .val (.ref b_47), .val (.ref b_50), .val (.ref b_53), .val (.ref b54), .unset, .unset, .unset] [(.ref b_43), (.int (0 : Int32)), (.ref b54)])) rfl rfl (hb hby at_59)
      refine own_go st57 ?_
      have ge58 : n0 ≤ b54 := by omega
      have le_57 : h54.size ≤ h57.size := Nat.le_of_eq W57.size.symm
      have sz59 : h0.size ≤ b54 := by omega
      have K57 : Keep h0 h57 [] := Keep.wr K54 W57 (Or.inr sz59)
      have N57 := Fr.snoc X57 N53 ge58
      have V57 : Arv Z h57 b54 k54 (.object "java/lang/Object") (1 : Int32) [(.ref b_43)] .null := Arv.set Ar55 q55 S55 N55 H55 G55 rfl W57 0 rfl (Nat.le_of_ble_eq_true rfl)
      show ∃ t o, Steps p.tables e below (T57.setTop (mkF m 60 #[.val (.int f1), .val (.int x1), .val (.int y1), .val (.int z1), .val (.int (1 : Int32)), .val (.ref b_43), .val (.ref b_47), .val (.ref b_50), .val (.ref b_53), .val (.ref b54), .unset, .unset, .unset] [])) t ∧ _
      refine own_go (fun _ => XS.iload X57.here hx rfl (hb hby at_60) rfl) ?_
      show ∃ t o, Steps p.tables e below (T57.setTop (mkF m 62 #[.val (.int f1), .val (.int x1), .val (.int y1), .val (.int z1), .val (.int (1 : Int32)), .val (.ref b_43), .val (.ref b_47), .val (.ref b_50), .val (.ref b_53), .val (.ref b54), .unset, .unset, .unset] [(.int (1 : Int32))])) t ∧ _
      refine own_go (fun _ => XS.iconst X57.here hx rfl (hb hby at_62)) ?_
      show ∃ t o, Steps p.tables e below (T57.setTop (mkF m 63 #[.val (.int f1), .val (.int x1), .val (.int y1), .val (.int z1), .val (.int (1 : Int32)), .val (.ref b_43), .val (.ref b_47), .val (.ref b_50), .val (.ref b_53), .val (.ref b54), .unset, .unset, .unset] [(.int (1 : Int32)), (.int (1 : Int32))])) t ∧ _
      refine own_go (fun _ => XS.icmpYes X57.here hx rfl (pc0 := 63) (pc' := 72) rfl (hb hby at_63) rfl (flt (by decide : ¬ ((1 : Int32) < (1 : Int32)))).2.2.2 (by decide) (by decide)) ?_
      show ∃ t o, Steps p.tables e below (T57.setTop (mkF m 72 #[.val (.int f1), .val (.int x1), .val (.int y1), .val (.int z1), .val (.int (1 : Int32)), .val (.ref b_43), .val (.ref b_47), .val (.ref b_50), .val (.ref b_53), .val (.ref b54), .unset, .unset, .unset] [])) t ∧ _
      refine own_go (fun _ => XS.iload X57.here hx rfl (hb hby at_72) rfl) ?_
      show ∃ t o, Steps p.tables e below (T57.setTop (mkF m 74 #[.val (.int f1), .val (.int x1), .val (.int y1), .val (.int z1), .val (.int (1 : Int32)), .val (.ref b_43), .val (.ref b_47), .val (.ref b_50), .val (.ref b_53), .val (.ref b54), .unset, .unset, .unset] [(.int (1 : Int32))])) t ∧ _
      refine own_go (fun _ => XS.iconst X57.here hx rfl (hb hby at_74)) ?_
      show ∃ t o, Steps p.tables e below (T57.setTop (mkF m 75 #[.val (.int f1), .val (.int x1), .val (.int y1), .val (.int z1), .val (.int (1 : Int32)), .val (.ref b_43), .val (.ref b_47), .val (.ref b_50), .val (.ref b_53), .val (.ref b54), .unset, .unset, .unset] [(.int (2 : Int32)), (.int (1 : Int32))])) t ∧ _
      refine own_go (fun _ => XS.icmpYes X57.here hx rfl (pc0 := 75) (pc' := 84) rfl (hb hby at_75) rfl (flt (by decide : ¬ ((2 : Int32) < (1 : Int32)))).2.2.2 (by decide) (by decide)) ?_
      show ∃ t o, Steps p.tables e below (T57.setTop (mkF m 84 #[.val (.int f1), .val (.int x1), .val (.int y1), .val (.int z1), .val (.int (1 : Int32)), .val (.ref b_43), .val (.ref b_47), .val (.ref b_50), .val (.ref b_53), .val (.ref b54), .unset, .unset, .unset] [])) t ∧ _
      refine own_go (fun _ => XS.aload X57.here hx rfl (hb hby at_84) rfl rfl) ?_
      show ∃ t o, Steps p.tables e below (T57.setTop (mkF m 86 #[.val (.int f1), .val (.int x1), .val (.int y1), .val (.int z1), .val (.int (1 : Int32)), .val (.ref b_43), .val (.ref b_47), .val (.ref b_50), .val (.ref b_53), .val (.ref b54), .unset, .unset, .unset] [(.ref b54)])) t ∧ _
      have F60 : Old Z n0 h57 := (Old.wr ((Old.keep F51 Kp53 all0).ext E54) W57 ge58)
      have zl61 : n0 ≤ h57.size := by omega
      obtain ⟨_, _, ⟨T62, L62, k62, n62⟩, -, X62, ⟨Lc62, hQ62, l62, y62, z62⟩, st62⟩ := Jvm.LawKit.callS X57 hx (y := (⟨"com/example/planwright/planwright/plan/Key", "of", "([Ljava/lang/Object;)Ljava/lang/Object;"⟩ : MethodName)) hown (mvT hZ (hw _ (List.mem_of_getElem? (i := 17) rfl))) (mvT hZ (hw _ (List.mem_of_getElem? (i := 18) rfl))) (mvT hZ (hw _ (List.mem_of_getElem? (i := 19) rfl))) (mvT hZ (hw _ (List.mem_of_getElem? (i := 20) rfl))) (by decide) (backOf (W := 0) (rmOf1 l Z a0 hw [] b54 k54 b_43 h57 n0 zl61 V57 F60) hZ (hw _ (List.mem_of_getElem? (i := 20) rfl)) (hw _ (List.mem_of_getElem? (i := 19) rfl)) (by decide) (by decide)) (g := (mkF m 86 #[.val (.int f1), .val (.int x1), .val (.int y1), .val (.int z1), .val (.int (1 : Int32)), .val (.ref b_43), .val (.ref b_47), .val (.ref b_50), .val (.ref b_53), .val (.ref b54), .unset, .unset, .unset] [(.ref b54)])) rfl (by rw [hml]; rfl) (argsL := [(.ref b54)]) (rest := []) (lenOf pd_hefb3f20f rfl) rfl (by show 2 * 0 + _ ≤ _; exact Nat.le_of_eq rfl) (hb hby at_86) (fun _ _ => ⟨rfl, e57, (by decide : 5 + 0 ≤ _), (by decide : 5 + 0 ≤ _)⟩)
      dsimp only [Pt.U, Pt.locs, Pt.cells, Pt.slots] at X62 l62 y62 z62 st62 hQ62
      subst l62 y62 z62
      obtain ⟨rfl, Nq62, e62⟩ := hQ62
      have N62 := Fr.app N57 Nq62
      refine own_go st62 ?_
      show ∃ t o, Steps p.tables e below (T62.setTop (mkF m 89 #[.val (.int f1), .val (.int x1), .val (.int y1), .val (.int z1), .val (.int (1 : Int32)), .val (.ref b_43), .val (.ref b_47), .val (.ref b_50), .val (.ref b_53), .val (.ref b54), .unset, .unset, .unset] [(.ref b_43)])) t ∧ _
      refine own_go (fun _ => XS.astore X62.here hx rfl (hb hby at_89) rfl rfl (l' := #[.val (.int f1), .val (.int x1), .val (.int y1), .val (.int z1), .val (.int (1 : Int32)), .val (.ref b_43), .val (.ref b_47), .val (.ref b_50), .val (.ref b_53), .val (.ref b54), .val (.ref b_43), .unset, .unset]) rfl) ?_
      show ∃ t o, Steps p.tables e below (T62.setTop (mkF m 91 #[.val (.int f1), .val (.int x1), .val (.int y1), .val (.int z1), .val (.int (1 : Int32)), .val (.ref b_43), .val (.ref b_47), .val (.ref b_50), .val (.ref b_53), .val (.ref b54), .val (.ref b_43), .unset, .unset] [])) t ∧ _
      refine own_go (fun _ => XS.aload X62.here hx rfl (hb hby at_91) rfl rfl) ?_
      show ∃ t o, Steps p.tables e below (T62.setTop (mkF m 93 #[.val (.int f1), .val (.int x1), .val (.int y1), .val (.int z1), .val (.int (1 : Int32)), .val (.ref b_43), .val (.ref b_47), .val (.ref b_50), .val (.ref b_53), .val (.ref b54), .val (.ref b_43), .unset, .unset] [(.ref b_43)])) t ∧ _
      refine own_go (fun _ => XS.iload X62.here hx rfl (hb hby at_93) rfl) ?_
      show ∃ t o, Steps p.tables e below (T62.setTop (mkF m 95 #[.val (.int f1), .val (.int x1), .val (.int y1), .val (.int z1), .val (.int (1 : Int32)), .val (.ref b_43), .val (.ref b_47), .val (.ref b_50), .val (.ref b_53), .val (.ref b54), .val (.ref b_43), .unset, .unset] [(.int (1 : Int32)), (.ref b_43)])) t ∧ _
      have F63 : Exa Z h57 b_43 "java/lang/Integer" := (Exa.wr W57 F56)
      obtain ⟨_, _, ⟨T64, L64, k64, n64⟩, -, X64, ⟨Lc64, hQ64, l64, y64, z64⟩, st64⟩ := Jvm.LawKit.callS X62 hx (y := (⟨"com/example/planwright/planwright/plan/Key", "values", "(Ljava/lang/Object;I)[Ljava/lang/Object;"⟩ : MethodName)) hown (mvT hZ (hw _ (List.mem_of_getElem? (i := 37) rfl))) (mvT hZ (hw _ (List.mem_of_getElem? (i := 38) rfl))) (mvT hZ (hw _ (List.mem_of_getElem? (i := 19) rfl))) (mvT hZ (hw _ (List.mem_of_getElem? (i := 39) rfl))) (by decide) (backOf (W := 0) (rmVals1 l Z a0 hw [] b_43 h57 n0 zl61 F63 F60) hZ (hw _ (List.mem_of_getElem? (i := 39) rfl)) (hw _ (List.mem_of_getElem? (i := 19) rfl)) (by decide) (by decide)) (g := (mkF m 95 #[.val (.int f1), .val (.int x1), .val (.int y1), .val (.int z1), .val (.int (1 : Int32)), .val (.ref b_43), .val (.ref b_47), .val (.ref b_50), .val (.ref b_53), .val (.ref b54), .val (.ref b_43), .unset, .unset] [(.int (1 : Int32)), (.ref b_43)])) rfl (by rw [hml]; rfl) (argsL := [(.ref b_43), (.int (1 : Int32))]) (rest := []) (lenOf pd_h9d814d6e rfl) rfl (by show 2 * 0 + _ ≤ _; exact Nat.le_of_eq rfl) (hb hby at_95) (fun _ _ => ⟨rfl, e62, (by decide : 5 + 1 ≤ _), (by decide : 5 + 1 ≤ _)⟩)
      dsimp only [Pt.U, Pt.locs, Pt.cells, Pt.slots] at X64 l64 y64 z64 st64 hQ64
      subst l64 y64 z64
      obtain ⟨b_64, kq_64, rfl, Nq64, Kp64, G64_0, H64_0, H64_1⟩ := hQ64
      have N64 := Fr.app N62 Nq64
      refine own_go st64 ?_
      have le_64 : h57.size ≤ T64.heap.size := Kp64.1
      have K64 : Keep h0 T64.heap [] := Keep.trans K57 Kp64 all0
      have lt_b_64 : b_64 < T64.heap.size := (G64_0).lt
      show ∃ t o, Steps p.tables e below (T64.setTop (mkF m 98 #[.val (.int f1), .val (.int x1), .val (.int y1), .val (.int z1), .val (.int (1 : Int32)), .val (.ref b_43), .val (.ref b_47), .val (.ref b_50), .val (.ref b_53), .val (.ref b54), .val (.ref b_43), .unset, .unset] [(.ref b_64)])) t ∧ _
      refine own_go (fun _ => XS.astore X64.here hx rfl (hb hby at_98) rfl rfl (l' := #[.val (.int f1), .val (.int x1), .val (.int y1), .val (.int z1), .val (.int (1 : Int32)), .val (.ref b_43), .val (.ref b_47), .val (.ref b_50), .val (.ref b_53), .val (.ref b54), .val (.ref b_43), .val (.ref b_64), .unset]) rfl) ?_
      show ∃ t o, Steps p.tables e below (T64.setTop (mkF m 100 #[.val (.int f1), .val (.int x1), .val (.int y1), .val (.int z1), .val (.int (1 : Int32)), .val (.ref b_43), .val (.ref b_47), .val (.ref b_50), .val (.ref b_53), .val (.ref b54), .val (.ref b_43), .val (.ref b_64), .unset] [])) t ∧ _
      refine own_go (fun _ => XS.aload X64.here hx rfl (hb hby at_100) rfl rfl) ?_
      show ∃ t o, Steps p.tables e below (T64.setTop (mkF m 102 #[.val (.int f1), .val (.int x1), .val (.int y1), .val (.int z1), .val (.int (1 : Int32)), .val (.ref b_43), .val (.ref b_47), .val (.ref b_50), .val (.ref b_53), .val (.ref b54), .val (.ref b_43), .val (.ref b_64), .unset] [(.ref b_64)])) t ∧ _
      refine own_go (fun _ => XS.ifnullNo X64.here hx rfl (hb hby at_102) rfl) ?_
      show ∃ t o, Steps p.tables e below (T64.setTop (mkF m 105 #[.val (.int f1), .val (.int x1), .val (.int y1), .val (.int z1), .val (.int (1 : Int32)), .val (.ref b_43), .val (.ref b_47), .val (.ref b_50), .val (.ref b_53), .val (.ref b54), .val (.ref b_43), .val (.ref b_64), .unset] [])) t ∧ _
      refine own_go (fun _ => XS.aload X64.here hx rfl (hb hby at_105) rfl rfl) ?_
      show ∃ t o, Steps p.tables e below (T64.setTop (mkF m 107 #[.val (.int f1), .val (.int x1), .val (.int y1), .val (.int z1), .val (.int (1 : Int32)), .val (.ref b_43), .val (.ref b_47), .val (.ref b_50), .val (.ref b_53), .val (.ref b54), .val (.ref b_43), .val (.ref b_64), .unset] [(.ref b_64)])) t ∧ _
      refine own_go (fun _ => XS.aload X64.here hx rfl (hb hby at_107) rfl rfl) ?_
      show ∃ t o, Steps p.tables e below (T64.setTop (mkF m 109 #[.val (.int f1), .val (.int x1), .val (.int y1), .val (.int z1), .val (.int (1 : Int32)), .val (.ref b_43), .val (.ref b_47), .val (.ref b_50), .val (.ref b_53), .val (.ref b54), .val (.ref b_43), .val (.ref b_64), .unset] [(.ref b54), (.ref b_64)])) t ∧ _
      have ne65 : b_64 ≠ b54 := own_ne (by omega)
      refine own_go (fun _ => Jvm.RoadKit.acmp (g := (mkF m 109 #[.val (.int f1), .val (.int x1), .val (.int y1), .val (.int z1), .val (.int (1 : Int32)), .val (.ref b_43), .val (.ref b_47), .val (.ref b_50), .val (.ref b_53), .val (.ref b54), .val (.ref b_43), .val (.ref b_64), .unset] [(.ref b54), (.ref b_64)])) X64 hx rfl rfl rfl (pc0 := 109) (pc' := 112) (same := false) rfl (hb hby at_109) rfl (decide_eq_false fun q => ne65 (Value.ref.inj q)) (by decide) (by decide)) ?_
      show ∃ t o, Steps p.tables e below (T64.setTop (mkF m 112 #[.val (.int f1), .val (.int x1), .val (.int y1), .val (.int z1), .val (.int (1 : Int32)), .val (.ref b_43), .val (.ref b_47), .val (.ref b_50), .val (.ref b_53), .val (.ref b54), .val (.ref b_43), .val (.ref b_64), .unset] [])) t ∧ _
      refine own_go (fun _ => XS.aload X64.here hx rfl (hb hby at_112) rfl rfl) ?_
      show ∃ t o, Steps p.tables e below (T64.setTop (mkF m 114 #[.val (.int f1), .val (.int x1), .val (.int y1), .val (.int z1), .val (.int (1 : Int32)), .val (.ref b_43), .val (.ref b_47), .val (.ref b_50), .val (.ref b_53), .val (.ref b54), .val (.ref b_43), .val (.ref b_64), .unset] [(.ref b_64)])) t ∧ _
      obtain ⟨cl66, Ar66, q66, S66, N66, H66, G66⟩ := id G64_0
      have ln66 : cl66.slots.size.toInt32 = (1 : Int32) := len_of S66 N66
      have al66 := X64.arraylength hx Ar66.1 (State.isArrayOf_alike hZ.alike Ar66.2.1) (g := (mkF m 114 #[.val (.int f1), .val (.int x1), .val (.int y1), .val (.int z1), .val (.int (1 : Int32)), .val (.ref b_43), .val (.ref b_47), .val (.ref b_50), .val (.ref b_53), .val (.ref b54), .val (.ref b_43), .val (.ref b_64), .unset] [(.ref b_64)])) rfl rfl (hb hby at_114)
      rw [ln66] at al66
      refine own_go al66 ?_
      show ∃ t o, Steps p.tables e below (T64.setTop (mkF m 115 #[.val (.int f1), .val (.int x1), .val (.int y1), .val (.int z1), .val (.int (1 : Int32)), .val (.ref b_43), .val (.ref b_47), .val (.ref b_50), .val (.ref b_53), .val (.ref b54), .val (.ref b_43), .val (.ref b_64), .unset] [(.int (1 : Int32))])) t ∧ _
      refine own_go (fun _ => XS.iload X64.here hx rfl (hb hby at_115) rfl) ?_
      show ∃ t o, Steps p.tables e below (T64.setTop (mkF m 117 #[.val (.int f1), .val (.int x1), .val (.int y1), .val (.int z1), .val (.int (1 : Int32)), .val (.ref b_43), .val (.ref b_47), .val (.ref b_50), .val (.ref b_53), .val (.ref b54), .val (.ref b_43), .val (.ref b_64), .unset] [(.int (1 : Int32)), (.int (1 : Int32))])) t ∧ _
      refine own_go (fun _ => XS.icmpYes X64.here hx rfl (pc0 := 117) (pc' := 122) rfl (hb hby at_117) rfl (teq (by decide : (1 : Int32) = (1 : Int32))).1 (by decide) (by decide)) ?_
      show ∃ t o, Steps p.tables e below (T64.setTop (mkF m 122 #[.val (.int f1), .val (.int x1), .val (.int y1), .val (.int z1), .val (.int (1 : Int32)), .val (.ref b_43), .val (.ref b_47), .val (.ref b_50), .val (.ref b_53), .val (.ref b54), .val (.ref b_43), .val (.ref b_64), .unset] [])) t ∧ _
      refine own_go (fun _ => XS.iload X64.here hx rfl (hb hby at_122) rfl) ?_
      show ∃ t o, Steps p.tables e below (T64.setTop (mkF m 124 #[.val (.int f1), .val (.int x1), .val (.int y1), .val (.int z1), .val (.int (1 : Int32)), .val (.ref b_43), .val (.ref b_47), .val (.ref b_50), .val (.ref b_53), .val (.ref b54), .val (.ref b_43), .val (.ref b_64), .unset] [(.int (1 : Int32))])) t ∧ _
      refine own_go (fun _ => XS.ifNo X64.here hx rfl (hb hby at_124) rfl ((if0 _ _).trans (tlt (by decide : (0 : Int32) < (1 : Int32))).2.2.2)) ?_
      show ∃ t o, Steps p.tables e below (T64.setTop (mkF m 127 #[.val (.int f1), .val (.int x1), .val (.int y1), .val (.int z1), .val (.int (1 : Int32)), .val (.ref b_43), .val (.ref b_47), .val (.ref b_50), .val (.ref b_53), .val (.ref b54), .val (.ref b_43), .val (.ref b_64), .unset] [])) t ∧ _
      refine own_go (fun _ => XS.aload X64.here hx rfl (hb hby at_127) rfl rfl) ?_
      show ∃ t o, Steps p.tables e below (T64.setTop (mkF m 129 #[.val (.int f1), .val (.int x1), .val (.int y1), .val (.int z1), .val (.int (1 : Int32)), .val (.ref b_43), .val (.ref b_47), .val (.ref b_50), .val (.ref b_53), .val (.ref b54), .val (.ref b_43), .val (.ref b_64), .unset] [(.ref b_64)])) t ∧ _
      refine own_go (fun _ => XS.iconst X64.here hx rfl (hb hby at_129)) ?_
      show ∃ t o, Steps p.tables e below (T64.setTop (mkF m 130 #[.val (.int f1), .val (.int x1), .val (.int y1), .val (.int z1), .val (.int (1 : Int32)), .val (.ref b_43), .val (.ref b_47), .val (.ref b_50), .val (.ref b_53), .val (.ref b54), .val (.ref b_43), .val (.ref b_64), .unset] [(.int (0 : Int32)), (.ref b_64)])) t ∧ _
      obtain ⟨cl67, Ar67, q67, S67, N67, H67, G67⟩ := id G64_0
      have hin67 : ¬ ((0 : Int32) < 0 ∨ cl67.slots.size ≤ ((0 : Int32)).toNatClampNeg) := inb_of S67 ⟨by decide, by decide⟩
      have hat67 : cl67.slots[((0 : Int32)).toNatClampNeg]? = some (.ref b_43) := Has.at H67 hin67 rfl
      refine own_go (fun _ => X64.aaload hx (j := (0 : Int32)) (v := (.ref b_43)) Ar67.1 (State.isArrayOf_alike hZ.alike Ar67.2.1) rfl Ar67.2.2 hin67 hat67 (g := (mkF m 130 #[.val (.int f1), .val (.int x1), .val (.int y1), .val (.int z1), .val (.int (1 : Int32)), .val (.ref b_43), .val (.ref b_47), .val (.ref b_50), .val (.ref b_53), .val (.ref b54), .val (.ref b_43), .val (.ref b_64), .unset] [(.int (0 : Int32)), (.ref b_64)])) rfl rfl (hb hby at_130) _) ?_
      show ∃ t o, Steps p.tables e below (T64.setTop (mkF m 131 #[.val (.int f1), .val (.int x1), .val (.int y1), .val (.int z1), .val (.int (1 : Int32)), .val (.ref b_43), .val (.ref b_47), .val (.ref b_50), .val (.ref b_53), .val (.ref b54), .val (.ref b_43), .val (.ref b_64), .unset] [(.ref b_43)])) t ∧ _
      refine own_go (fun _ => XS.aload X64.here hx rfl (hb hby at_131) rfl rfl) ?_
      show ∃ t o, Steps p.tables e below (T64.setTop (mkF m 133 #[.val (.int f1), .val (.int x1), .val (.int y1), .val (.int z1), .val (.int (1 : Int32)), .val (.ref b_43), .val (.ref b_47), .val (.ref b_50), .val (.ref b_53), .val (.ref b54), .val (.ref b_43), .val (.ref b_64), .unset] [(.ref b_43), (.ref b_43)])) t ∧ _
      refine own_go (fun _ => Jvm.RoadKit.acmp (g := (mkF m 133 #[.val (.int f1), .val (.int x1), .val (.int y1), .val (.int z1), .val (.int (1 : Int32)), .val (.ref b_43), .val (.ref b_47), .val (.ref b_50), .val (.ref b_53), .val (.ref b54), .val (.ref b_43), .val (.ref b_64), .unset] [(.ref b_43), (.ref b_43)])) X64 hx rfl rfl rfl (pc0 := 133) (pc' := 138) (same := true) rfl (hb hby at_133) rfl (decide_eq_true rfl) (by decide) (by decide)) ?_
      show ∃ t o, Steps p.tables e below (T64.setTop (mkF m 138 #[.val (.int f1), .val (.int x1), .val (.int y1), .val (.int z1), .val (.int (1 : Int32)), .val (.ref b_43), .val (.ref b_47), .val (.ref b_50), .val (.ref b_53), .val (.ref b54), .val (.ref b_43), .val (.ref b_64), .unset] [])) t ∧ _
      refine own_go (fun _ => XS.iload X64.here hx rfl (hb hby at_138) rfl) ?_
      show ∃ t o, Steps p.tables e below (T64.setTop (mkF m 140 #[.val (.int f1), .val (.int x1), .val (.int y1), .val (.int z1), .val (.int (1 : Int32)), .val (.ref b_43), .val (.ref b_47), .val (.ref b_50), .val (.ref b_53), .val (.ref b54), .val (.ref b_43), .val (.ref b_64), .unset] [(.int (1 : Int32))])) t ∧ _
      refine own_go (fun _ => XS.iconst X64.here hx rfl (hb hby at_140)) ?_
      show ∃ t o, Steps p.tables e below (T64.setTop (mkF m 141 #[.val (.int f1), .val (.int x1), .val (.int y1), .val (.int z1), .val (.int (1 : Int32)), .val (.ref b_43), .val (.ref b_47), .val (.ref b_50), .val (.ref b_53), .val (.ref b54), .val (.ref b_43), .val (.ref b_64), .unset] [(.int (1 : Int32)), (.int (1 : Int32))])) t ∧ _
      refine own_go (fun _ => XS.icmpYes X64.here hx rfl (pc0 := 141) (pc' := 155) rfl (hb hby at_141) rfl (flt (by decide : ¬ ((1 : Int32) < (1 : Int32)))).2.2.2 (by decide) (by decide)) ?_
      show ∃ t o, Steps p.tables e below (T64.setTop (mkF m 155 #[.val (.int f1), .val (.int x1), .val (.int y1), .val (.int z1), .val (.int (1 : Int32)), .val (.ref b_43), .val (.ref b_47), .val (.ref b_50), .val (.ref b_53), .val (.ref b54), .val (.ref b_43), .val (.ref b_64), .unset] [])) t ∧ _
      refine own_go (fun _ => XS.iload X64.here hx rfl (hb hby at_155) rfl) ?_
      show ∃ t o, Steps p.tables e below (T64.setTop (mkF m 157 #[.val (.int f1), .val (.int x1), .val (.int y1), .val (.int z1), .val (.int (1 : Int32)), .val (.ref b_43), .val (.ref b_47), .val (.ref b_50), .val (.ref b_53), .val (.ref b54), .val (.ref b_43), .val (.ref b_64), .unset] [(.int (1 : Int32))])) t ∧ _
      refine own_go (fun _ => XS.iconst X64.here hx rfl (hb hby at_157)) ?_
      show ∃ t o, Steps p.tables e below (T64.setTop (mkF m 158 #[.val (.int f1), .val (.int x1), .val (.int y1), .val (.int z1), .val (.int (1 : Int32)), .val (.ref b_43), .val (.ref b_47), .val (.ref b_50), .val (.ref b_53), .val (.ref b54), .val (.ref b_43), .val (.ref b_64), .unset] [(.int (2 : Int32)), (.int (1 : Int32))])) t ∧ _
      refine own_go (fun _ => XS.icmpYes X64.here hx rfl (pc0 := 158) (pc' := 172) rfl (hb hby at_158) rfl (flt (by decide : ¬ ((2 : Int32) < (1 : Int32)))).2.2.2 (by decide) (by decide)) ?_
      show ∃ t o, Steps p.tables e below (T64.setTop (mkF m 172 #[.val (.int f1), .val (.int x1), .val (.int y1), .val (.int z1), .val (.int (1 : Int32)), .val (.ref b_43), .val (.ref b_47), .val (.ref b_50), .val (.ref b_53), .val (.ref b54), .val (.ref b_43), .val (.ref b_64), .unset] [])) t ∧ _
      refine own_go (fun _ => XS.iload X64.here hx rfl (hb hby at_172) rfl) ?_
      show ∃ t o, Steps p.tables e below (T64.setTop (mkF m 174 #[.val (.int f1), .val (.int x1), .val (.int y1), .val (.int z1), .val (.int (1 : Int32)), .val (.ref b_43), .val (.ref b_47), .val (.ref b_50), .val (.ref b_53), .val (.ref b54), .val (.ref b_43), .val (.ref b_64), .unset] [(.int (1 : Int32))])) t ∧ _
      refine own_go (fun _ => XS.ifNo X64.here hx rfl (hb hby at_174) rfl ((if0 _ _).trans (tlt (by decide : (0 : Int32) < (1 : Int32))).2.2.2)) ?_
      show ∃ t o, Steps p.tables e below (T64.setTop (mkF m 177 #[.val (.int f1), .val (.int x1), .val (.int y1), .val (.int z1), .val (.int (1 : Int32)), .val (.ref b_43), .val (.ref b_47), .val (.ref b_50), .val (.ref b_53), .val (.ref b54), .val (.ref b_43), .val (.ref b_64), .unset] [])) t ∧ _
      refine own_go (fun _ => XS.aload X64.here hx rfl (hb hby at_177) rfl rfl) ?_
      show ∃ t o, Steps p.tables e below (T64.setTop (mkF m 179 #[.val (.int f1), .val (.int x1), .val (.int y1), .val (.int z1), .val (.int (1 : Int32)), .val (.ref b_43), .val (.ref b_47), .val (.ref b_50), .val (.ref b_53), .val (.ref b54), .val (.ref b_43), .val (.ref b_64), .unset] [(.ref b_64)])) t ∧ _
      refine own_go (fun _ => XS.iconst X64.here hx rfl (hb hby at_179)) ?_
      show ∃ t o, Steps p.tables e below (T64.setTop (mkF m 180 #[.val (.int f1), .val (.int x1), .val (.int y1), .val (.int z1), .val (.int (1 : Int32)), .val (.ref b_43), .val (.ref b_47), .val (.ref b_50), .val (.ref b_53), .val (.ref b54), .val (.ref b_43), .val (.ref b_64), .unset] [(.int (0 : Int32)), (.ref b_64)])) t ∧ _
      refine own_go (fun _ => XS.aload X64.here hx rfl (hb hby at_180) rfl rfl) ?_
      show ∃ t o, Steps p.tables e below (T64.setTop (mkF m 182 #[.val (.int f1), .val (.int x1), .val (.int y1), .val (.int z1), .val (.int (1 : Int32)), .val (.ref b_43), .val (.ref b_47), .val (.ref b_50), .val (.ref b_53), .val (.ref b54), .val (.ref b_43), .val (.ref b_64), .unset] [(.ref b_53), (.int (0 : Int32)), (.ref b_64)])) t ∧ _
      obtain ⟨cl68, Ar68, q68, S68, N68, H68, G68⟩ := id G64_0
      have hin68 : ¬ ((0 : Int32) < 0 ∨ cl68.slots.size ≤ ((0 : Int32)).toNatClampNeg) := inb_of S68 ⟨by decide, by decide⟩
      have F69 : Exa Z T64.heap b_53 "java/lang/Integer" := (Exa.keep (Exa.wr W57 (Exa.ext E54 G53_0)) Kp64)
      obtain ⟨T70, h70, X70, e70, W70, st70⟩ := stR X64 hx hZ rfl Ar68 (j := (0 : Int32)) hin68 rfl (Sto.ofV Ar68 q68 H64_1 (Ins.of_exa F69 (hw _ (List.mem_of_getElem? (i := 75) rfl)))) (g := (mkF m 182 #[.val (.int f1), .val (.int x1), .val (.int y1), .val (.int z1), .val (.int (1 : Int32)), .val (.ref b_43), .val (.ref b_47), .val (.ref b_50), .val (.ref b_53), .val (.ref b54), .val (.ref b_43), .val (.ref b_64), .unset] [(.ref b_53), (.int (0 : Int32)), (.ref b_64)])) rfl rfl (hb hby at_182)
      refine own_go st70 ?_
      have ge71 : n0 ≤ b_64 := by omega
      have le_70 : T64.heap.size ≤ h70.size := Nat.le_of_eq W70.size.symm
      have sz72 : h0.size ≤ b_64 := by omega
      have K70 : Keep h0 h70 [] := Keep.wr K64 W70 (Or.inr sz72)
      have N70 := Fr.snoc X70 N64 ge71
      have V70 : Arv Z h70 b_64 kq_64 (.object "java/lang/Object") (1 : Int32) [(.ref b_53)] .null := Arv.set Ar68 q68 S68 N68 H68 G68 rfl W70 0 rfl (Nat.le_of_ble_eq_true rfl)
      show ∃ t o, Steps p.tables e below (T70.setTop (mkF m 183 #[.val (.int f1), .val (.int x1), .val (.int y1), .val (.int z1), .val (.int (1 : Int32)), .val (.ref b_43), .val (.ref b_47), .val (.ref b_50), .val (.ref b_53), .val (.ref b54), .val (.ref b_43), .val (.ref b_64), .unset] [])) t ∧ _
      refine own_go (fun _ => XS.aload X70.here hx rfl (hb hby at_183) rfl rfl) ?_
      show ∃ t o, Steps p.tables e below (T70.setTop (mkF m 185 #[.val (.int f1), .val (.int x1), .val (.int y1), .val (.int z1), .val (.int (1 : Int32)), .val (.ref b_43), .val (.ref b_47), .val (.ref b_50), .val (.ref b_53), .val (.ref b54), .val (.ref b_43), .val (.ref b_64), .unset] [(.ref b_43)])) t ∧ _
      refine own_go (fun _ => XS.iload X70.here hx rfl (hb hby at_185) rfl) ?_
      show ∃ t o, Steps p.tables e below (T70.setTop (mkF m 187 #[.val (.int f1), .val (.int x1), .val (.int y1), .val (.int z1), .val (.int (1 : Int32)), .val (.ref b_43), .val (.ref b_47), .val (.ref b_50), .val (.ref b_53), .val (.ref b54), .val (.ref b_43), .val (.ref b_64), .unset] [(.int (1 : Int32)), (.ref b_43)])) t ∧ _
      have F73 : Exa Z h70 b_43 "java/lang/Integer" := (Exa.wr W70 (Exa.keep F63 Kp64))
      have F74 : Old Z n0 h70 := (Old.wr (Old.keep F60 Kp64 all0) W70 ge71)
      have zl75 : n0 ≤ h70.size := by omega
      obtain ⟨_, _, ⟨T76, L76, k76, n76⟩, -, X76, ⟨Lc76, hQ76, l76, y76, z76⟩, st76⟩ := Jvm.LawKit.callS X70 hx (y := (⟨"com/example/planwright/planwright/plan/Key", "values", "(Ljava/lang/Object;I)[Ljava/lang/Object;"⟩ : MethodName)) hown (mvT hZ (hw _ (List.mem_of_getElem? (i := 37) rfl))) (mvT hZ (hw _ (List.mem_of_getElem? (i := 38) rfl))) (mvT hZ (hw _ (List.mem_of_getElem? (i := 19) rfl))) (mvT hZ (hw _ (List.mem_of_getElem? (i := 39) rfl))) (by decide) (backOf (W := 0) (rmVals1 l Z a0 hw [] b_43 h70 n0 zl75 F73 F74) hZ (hw _ (List.mem_of_getElem? (i := 39) rfl)) (hw _ (List.mem_of_getElem? (i := 19) rfl)) (by decide) (by decide)) (g := (mkF m 187 #[.val (.int f1), .val (.int x1), .val (.int y1), .val (.int z1), .val (.int (1 : Int32)), .val (.ref b_43), .val (.ref b_47), .val (.ref b_50), .val (.ref b_53), .val (.ref b54), .val (.ref b_43), .val (.ref b_64), .unset] [(.int (1 : Int32)), (.ref b_43)])) rfl (by rw [hml]; rfl) (argsL := [(.ref b_43), (.int (1 : Int32))]) (rest := []) (lenOf pd_h9d814d6e rfl) rfl (by show 2 * 0 + _ ≤ _; exact Nat.le_of_eq rfl) (hb hby at_187) (fun _ _ => ⟨rfl, e70, (by decide : 6 + 1 ≤ _), (by decide : 6 + 1 ≤ _)⟩)
      dsimp only [Pt.U, Pt.locs, Pt.cells, Pt.slots] at X76 l76 y76 z76 st76 hQ76
      subst l76 y76 z76
      obtain ⟨b_76, kq_76, rfl, Nq76, Kp76, G76_0, H76_0, H76_1⟩ := hQ76
      have N76 := Fr.app N70 Nq76
      refine own_go st76 ?_
      have le_76 : h70.size ≤ T76.heap.size := Kp76.1
      have K76 : Keep h0 T76.heap [] := Keep.trans K70 Kp76 all0
      have lt_b_76 : b_76 < T76.heap.size := (G76_0).lt
      show ∃ t o, Steps p.tables e below (T76.setTop (mkF m 190 #[.val (.int f1), .val (.int x1), .val (.int y1), .val (.int z1), .val (.int (1 : Int32)), .val (.ref b_43), .val (.ref b_47), .val (.ref b_50), .val (.ref b_53), .val (.ref b54), .val (.ref b_43), .val (.ref b_64), .unset] [(.ref b_76)])) t ∧ _
      refine own_go (fun _ => XS.astore X76.here hx rfl (hb hby at_190) rfl rfl (l' := #[.val (.int f1), .val (.int x1), .val (.int y1), .val (.int z1), .val (.int (1 : Int32)), .val (.ref b_43), .val (.ref b_47), .val (.ref b_50), .val (.ref b_53), .val (.ref b54), .val (.ref b_43), .val (.ref b_64), .val (.ref b_76)]) rfl) ?_
      show ∃ t o, Steps p.tables e below (T76.setTop (mkF m 192 #[.val (.int f1), .val (.int x1), .val (.int y1), .val (.int z1), .val (.int (1 : Int32)), .val (.ref b_43), .val (.ref b_47), .val (.ref b_50), .val (.ref b_53), .val (.ref b54), .val (.ref b_43), .val (.ref b_64), .val (.ref b_76)] [])) t ∧ _
      refine own_go (fun _ => XS.aload X76.here hx rfl (hb hby at_192) rfl rfl) ?_
      show ∃ t o, Steps p.tables e below (T76.setTop (mkF m 194 #[.val (.int f1), .val (.int x1), .val (.int y1), .val (.int z1), .val (.int (1 : Int32)), .val (.ref b_43), .val (.ref b_47), .val (.ref b_50), .val (.ref b_53), .val (.ref b54), .val (.ref b_43), .val (.ref b_64), .val (.ref b_76)] [(.ref b_76)])) t ∧ _
      refine own_go (fun _ => XS.ifnullNo X76.here hx rfl (hb hby at_194) rfl) ?_
      show ∃ t o, Steps p.tables e below (T76.setTop (mkF m 197 #[.val (.int f1), .val (.int x1), .val (.int y1), .val (.int z1), .val (.int (1 : Int32)), .val (.ref b_43), .val (.ref b_47), .val (.ref b_50), .val (.ref b_53), .val (.ref b54), .val (.ref b_43), .val (.ref b_64), .val (.ref b_76)] [])) t ∧ _
      refine own_go (fun _ => XS.aload X76.here hx rfl (hb hby at_197) rfl rfl) ?_
      show ∃ t o, Steps p.tables e below (T76.setTop (mkF m 199 #[.val (.int f1), .val (.int x1), .val (.int y1), .val (.int z1), .val (.int (1 : Int32)), .val (.ref b_43), .val (.ref b_47), .val (.ref b_50), .val (.ref b_53), .val (.ref b54), .val (.ref b_43), .val (.ref b_64), .val (.ref b_76)] [(.ref b_76)])) t ∧ _
      refine own_go (fun _ => XS.aload X76.here hx rfl (hb hby at_199) rfl rfl) ?_
      show ∃ t o, Steps p.tables e below (T76.setTop (mkF m 201 #[.val (.int f1), .val (.int x1), .val (.int y1), .val (.int z1), .val (.int (1 : Int32)), .val (.ref b_43), .val (.ref b_47), .val (.ref b_50), .val (.ref b_53), .val (.ref b54), .val (.ref b_43), .val (.ref b_64), .val (.ref b_76)] [(.ref b_64), (.ref b_76)])) t ∧ _
      have ne77 : b_76 ≠ b_64 := own_ne (by omega)
      refine own_go (fun _ => Jvm.RoadKit.acmp (g := (mkF m 201 #[.val (.int f1), .val (.int x1), .val (.int y1), .val (.int z1), .val (.int (1 : Int32)), .val (.ref b_43), .val (.ref b_47), .val (.ref b_50), .val (.ref b_53), .val (.ref b54), .val (.ref b_43), .val (.ref b_64), .val (.ref b_76)] [(.ref b_64), (.ref b_76)])) X76 hx rfl rfl rfl (pc0 := 201) (pc' := 204) (same := false) rfl (hb hby at_201) rfl (decide_eq_false fun q => ne77 (Value.ref.inj q)) (by decide) (by decide)) ?_
      show ∃ t o, Steps p.tables e below (T76.setTop (mkF m 204 #[.val (.int f1), .val (.int x1), .val (.int y1), .val (.int z1), .val (.int (1 : Int32)), .val (.ref b_43), .val (.ref b_47), .val (.ref b_50), .val (.ref b_53), .val (.ref b54), .val (.ref b_43), .val (.ref b_64), .val (.ref b_76)] [])) t ∧ _
      refine own_go (fun _ => XS.aload X76.here hx rfl (hb hby at_204) rfl rfl) ?_
      show ∃ t o, Steps p.tables e below (T76.setTop (mkF m 206 #[.val (.int f1), .val (.int x1), .val (.int y1), .val (.int z1), .val (.int (1 : Int32)), .val (.ref b_43), .val (.ref b_47), .val (.ref b_50), .val (.ref b_53), .val (.ref b54), .val (.ref b_43), .val (.ref b_64), .val (.ref b_76)] [(.ref b_76)])) t ∧ _
      obtain ⟨cl78, Ar78, q78, S78, N78, H78, G78⟩ := id G76_0
      have ln78 : cl78.slots.size.toInt32 = (1 : Int32) := len_of S78 N78
      have al78 := X76.arraylength hx Ar78.1 (State.isArrayOf_alike hZ.alike Ar78.2.1) (g := (mkF m 206 #[.val (.int f1), .val (.int x1), .val (.int y1), .val (.int z1), .val (.int (1 : Int32)), .val (.ref b_43), .val (.ref b_47), .val (.ref b_50), .val (.ref b_53), .val (.ref b54), .val (.ref b_43), .val (.ref b_64), .val (.ref b_76)] [(.ref b_76)])) rfl rfl (hb hby at_206)
      rw [ln78] at al78
      refine own_go al78 ?_
      show ∃ t o, Steps p.tables e below (T76.setTop (mkF m 207 #[.val (.int f1), .val (.int x1), .val (.int y1), .val (.int z1), .val (.int (1 : Int32)), .val (.ref b_43), .val (.ref b_47), .val (.ref b_50), .val (.ref b_53), .val (.ref b54), .val (.ref b_43), .val (.ref b_64), .val (.ref b_76)] [(.int (1 : Int32))])) t ∧ _
      refine own_go (fun _ => XS.iload X76.here hx rfl (hb hby at_207) rfl) ?_
      show ∃ t o, Steps p.tables e below (T76.setTop (mkF m 209 #[.val (.int f1), .val (.int x1), .val (.int y1), .val (.int z1), .val (.int (1 : Int32)), .val (.ref b_43), .val (.ref b_47), .val (.ref b_50), .val (.ref b_53), .val (.ref b54), .val (.ref b_43), .val (.ref b_64), .val (.ref b_76)] [(.int (1 : Int32)), (.int (1 : Int32))])) t ∧ _
      refine own_go (fun _ => XS.icmpYes X76.here hx rfl (pc0 := 209) (pc' := 214) rfl (hb hby at_209) rfl (teq (by decide : (1 : Int32) = (1 : Int32))).1 (by decide) (by decide)) ?_
      show ∃ t o, Steps p.tables e below (T76.setTop (mkF m 214 #[.val (.int f1), .val (.int x1), .val (.int y1), .val (.int z1), .val (.int (1 : Int32)), .val (.ref b_43), .val (.ref b_47), .val (.ref b_50), .val (.ref b_53), .val (.ref b54), .val (.ref b_43), .val (.ref b_64), .val (.ref b_76)] [])) t ∧ _
      refine own_go (fun _ => XS.aload X76.here hx rfl (hb hby at_214) rfl rfl) ?_
      show ∃ t o, Steps p.tables e below (T76.setTop (mkF m 216 #[.val (.int f1), .val (.int x1), .val (.int y1), .val (.int z1), .val (.int (1 : Int32)), .val (.ref b_43), .val (.ref b_47), .val (.ref b_50), .val (.ref b_53), .val (.ref b54), .val (.ref b_43), .val (.ref b_64), .val (.ref b_76)] [(.ref b_76)])) t ∧ _
      refine own_go (fun _ => XS.iconst X76.here hx rfl (hb hby at_216)) ?_
      show ∃ t o, Steps p.tables e below (T76.setTop (mkF m 217 #[.val (.int f1), .val (.int x1), .val (.int y1), .val (.int z1), .val (.int (1 : Int32)), .val (.ref b_43), .val (.ref b_47), .val (.ref b_50), .val (.ref b_53), .val (.ref b54), .val (.ref b_43), .val (.ref b_64), .val (.ref b_76)] [(.int (0 : Int32)), (.ref b_76)])) t ∧ _
      obtain ⟨cl79, Ar79, q79, S79, N79, H79, G79⟩ := id G76_0
      have hin79 : ¬ ((0 : Int32) < 0 ∨ cl79.slots.size ≤ ((0 : Int32)).toNatClampNeg) := inb_of S79 ⟨by decide, by decide⟩
      have hat79 : cl79.slots[((0 : Int32)).toNatClampNeg]? = some (.ref b_43) := Has.at H79 hin79 rfl
      refine own_go (fun _ => X76.aaload hx (j := (0 : Int32)) (v := (.ref b_43)) Ar79.1 (State.isArrayOf_alike hZ.alike Ar79.2.1) rfl Ar79.2.2 hin79 hat79 (g := (mkF m 217 #[.val (.int f1), .val (.int x1), .val (.int y1), .val (.int z1), .val (.int (1 : Int32)), .val (.ref b_43), .val (.ref b_47), .val (.ref b_50), .val (.ref b_53), .val (.ref b54), .val (.ref b_43), .val (.ref b_64), .val (.ref b_76)] [(.int (0 : Int32)), (.ref b_76)])) rfl rfl (hb hby at_217) _) ?_
      show ∃ t o, Steps p.tables e below (T76.setTop (mkF m 218 #[.val (.int f1), .val (.int x1), .val (.int y1), .val (.int z1), .val (.int (1 : Int32)), .val (.ref b_43), .val (.ref b_47), .val (.ref b_50), .val (.ref b_53), .val (.ref b54), .val (.ref b_43), .val (.ref b_64), .val (.ref b_76)] [(.ref b_43)])) t ∧ _
      refine own_go (fun _ => XS.aload X76.here hx rfl (hb hby at_218) rfl rfl) ?_
      show ∃ t o, Steps p.tables e below (T76.setTop (mkF m 220 #[.val (.int f1), .val (.int x1), .val (.int y1), .val (.int z1), .val (.int (1 : Int32)), .val (.ref b_43), .val (.ref b_47), .val (.ref b_50), .val (.ref b_53), .val (.ref b54), .val (.ref b_43), .val (.ref b_64), .val (.ref b_76)] [(.ref b_43), (.ref b_43)])) t ∧ _
      refine own_go (fun _ => Jvm.RoadKit.acmp (g := (mkF m 220 #[.val (.int f1), .val (.int x1), .val (.int y1), .val (.int z1), .val (.int (1 : Int32)), .val (.ref b_43), .val (.ref b_47), .val (.ref b_50), .val (.ref b_53), .val (.ref b54), .val (.ref b_43), .val (.ref b_64), .val (.ref b_76)] [(.ref b_43), (.ref b_43)])) X76 hx rfl rfl rfl (pc0 := 220) (pc' := 225) (same := true) rfl (hb hby at_220) rfl (decide_eq_true rfl) (by decide) (by decide)) ?_
      show ∃ t o, Steps p.tables e below (T76.setTop (mkF m 225 #[.val (.int f1), .val (.int x1), .val (.int y1), .val (.int z1), .val (.int (1 : Int32)), .val (.ref b_43), .val (.ref b_47), .val (.ref b_50), .val (.ref b_53), .val (.ref b54), .val (.ref b_43), .val (.ref b_64), .val (.ref b_76)] [])) t ∧ _
      refine own_go (fun _ => XS.iload X76.here hx rfl (hb hby at_225) rfl) ?_
      show ∃ t o, Steps p.tables e below (T76.setTop (mkF m 227 #[.val (.int f1), .val (.int x1), .val (.int y1), .val (.int z1), .val (.int (1 : Int32)), .val (.ref b_43), .val (.ref b_47), .val (.ref b_50), .val (.ref b_53), .val (.ref b54), .val (.ref b_43), .val (.ref b_64), .val (.ref b_76)] [(.int (1 : Int32))])) t ∧ _
      refine own_go (fun _ => XS.iconst X76.here hx rfl (hb hby at_227)) ?_
      show ∃ t o, Steps p.tables e below (T76.setTop (mkF m 228 #[.val (.int f1), .val (.int x1), .val (.int y1), .val (.int z1), .val (.int (1 : Int32)), .val (.ref b_43), .val (.ref b_47), .val (.ref b_50), .val (.ref b_53), .val (.ref b54), .val (.ref b_43), .val (.ref b_64), .val (.ref b_76)] [(.int (1 : Int32)), (.int (1 : Int32))])) t ∧ _
      refine own_go (fun _ => XS.icmpYes X76.here hx rfl (pc0 := 228) (pc' := 242) rfl (hb hby at_228) rfl (flt (by decide : ¬ ((1 : Int32) < (1 : Int32)))).2.2.2 (by decide) (by decide)) ?_
      show ∃ t o, Steps p.tables e below (T76.setTop (mkF m 242 #[.val (.int f1), .val (.int x1), .val (.int y1), .val (.int z1), .val (.int (1 : Int32)), .val (.ref b_43), .val (.ref b_47), .val (.ref b_50), .val (.ref b_53), .val (.ref b54), .val (.ref b_43), .val (.ref b_64), .val (.ref b_76)] [])) t ∧ _
      refine own_go (fun _ => XS.iload X76.here hx rfl (hb hby at_242) rfl) ?_
      show ∃ t o, Steps p.tables e below (T76.setTop (mkF m 244 #[.val (.int f1), .val (.int x1), .val (.int y1), .val (.int z1), .val (.int (1 : Int32)), .val (.ref b_43), .val (.ref b_47), .val (.ref b_50), .val (.ref b_53), .val (.ref b54), .val (.ref b_43), .val (.ref b_64), .val (.ref b_76)] [(.int (1 : Int32))])) t ∧ _
      refine own_go (fun _ => XS.iconst X76.here hx rfl (hb hby at_244)) ?_
      show ∃ t o, Steps p.tables e below (T76.setTop (mkF m 245 #[.val (.int f1), .val (.int x1), .val (.int y1), .val (.int z1), .val (.int (1 : Int32)), .val (.ref b_43), .val (.ref b_47), .val (.ref b_50), .val (.ref b_53), .val (.ref b54), .val (.ref b_43), .val (.ref b_64), .val (.ref b_76)] [(.int (2 : Int32)), (.int (1 : Int32))])) t ∧ _
      refine own_go (fun _ => XS.icmpYes X76.here hx rfl (pc0 := 245) (pc' := 259) rfl (hb hby at_245) rfl (flt (by decide : ¬ ((2 : Int32) < (1 : Int32)))).2.2.2 (by decide) (by decide)) ?_
      show ∃ t o, Steps p.tables e below (T76.setTop (mkF m 259 #[.val (.int f1), .val (.int x1), .val (.int y1), .val (.int z1), .val (.int (1 : Int32)), .val (.ref b_43), .val (.ref b_47), .val (.ref b_50), .val (.ref b_53), .val (.ref b54), .val (.ref b_43), .val (.ref b_64), .val (.ref b_76)] [])) t ∧ _
      refine own_go (fun _ => XS.iconst X76.here hx rfl (hb hby at_259)) ?_
      show ∃ t o, Steps p.tables e below (T76.setTop (mkF m 260 #[.val (.int f1), .val (.int x1), .val (.int y1), .val (.int z1), .val (.int (1 : Int32)), .val (.ref b_43), .val (.ref b_47), .val (.ref b_50), .val (.ref b_53), .val (.ref b54), .val (.ref b_43), .val (.ref b_64), .val (.ref b_76)] [(.int (1 : Int32))])) t ∧ _
      obtain ⟨fs, hr, hrun, hended, hW, hsame⟩ := X76.leave (v := some (.int (1 : Int32))) (fun h => by rw [Bd.returns] at h; cases h)
      refine ⟨_, _, ?_, hrun, hended, _, _, rfl, ?_, ⟨_, rfl⟩, hW, hsame.mono (by decide) (by decide)⟩
      · exact retN X76 hx (t := .boolean) Bd.returns (by simp) (hb hby at_260) hr
      · show Q_rm0 Z f1 x1 y1 z1 caI ccI caL ccL h0 n0 _ T76.heap _
        exact ⟨rfl, N76, K76⟩
    · refine own_go (fun _ => XS.ifNo X43.here hx rfl (hb hby at_14) rfl ((if0 _ _).trans (feq hc44).1)) ?_
      show ∃ t o, Steps p.tables e below (T43.setTop (mkF m 17 #[.val (.int f1), .val (.int x1), .val (.int y1), .val (.int z1), .val (.int (1 : Int32)), .val (.ref b_43), .unset, .unset, .unset, .unset, .unset, .unset, .unset] [])) t ∧ _
      refine own_go (fun _ => XS.aconstNull X43.here hx rfl (hb hby at_17)) ?_
      show ∃ t o, Steps p.tables e below (T43.setTop (mkF m 18 #[.val (.int f1), .val (.int x1), .val (.int y1), .val (.int z1), .val (.int (1 : Int32)), .val (.ref b_43), .unset, .unset, .unset, .unset, .unset, .unset, .unset] [.null])) t ∧ _
      refine own_go (fun _ => XS.goto X43.here hx rfl (pc0 := 18) (pc' := 25) rfl (hb hby at_18) (by decide) (by decide)) ?_
      show ∃ t o, Steps p.tables e below (T43.setTop (mkF m 25 #[.val (.int f1), .val (.int x1), .val (.int y1), .val (.int z1), .val (.int (1 : Int32)), .val (.ref b_43), .unset, .unset, .unset, .unset, .unset, .unset, .unset] [.null])) t ∧ _
      refine own_go (fun _ => XS.astore X43.here hx rfl (hb hby at_25) rfl rfl (l' := #[.val (.int f1), .val (.int x1), .val (.int y1), .val (.int z1), .val (.int (1 : Int32)), .val (.ref b_43), .val .null, .unset, .unset, .unset, .unset, .unset, .unset]) rfl) ?_
      show ∃ t o, Steps p.tables e below (T43.setTop (mkF m 27 #[.val (.int f1), .val (.int x1), .val (.int y1), .val (.int z1), .val (.int (1 : Int32)), .val (.ref b_43), .val .null, .unset, .unset, .unset, .unset, .unset, .unset] [])) t ∧ _
      refine own_go (fun _ => XS.iloadN X43.here hx rfl (hb hby at_27) rfl) ?_
      show ∃ t o, Steps p.tables e below (T43.setTop (mkF m 28 #[.val (.int f1), .val (.int x1), .val (.int y1), .val (.int z1), .val (.int (1 : Int32)), .val (.ref b_43), .val .null, .unset, .unset, .unset, .unset, .unset, .unset] [(.int z1)])) t ∧ _
      refine own_go (fun _ => XS.i2l X43.here hx rfl (hb hby at_28) rfl) ?_
      show ∃ t o, Steps p.tables e below (T43.setTop (mkF m 29 #[.val (.int f1), .val (.int x1), .val (.int y1), .val (.int z1), .val (.int (1 : Int32)), .val (.ref b_43), .val .null, .unset, .unset, .unset, .unset, .unset, .unset] [(.long (z1.toInt64))])) t ∧ _
      have F80 : Old Z n0 T43.heap := (Old.keep OLD Kp43 all0)
      have zl81 : n0 ≤ T43.heap.size := by omega
      obtain ⟨_, _, ⟨T82, L82, k82, n82⟩, -, X82, ⟨Lc82, hQ82, l82, y82, z82⟩, st82⟩ := Jvm.LawKit.callS X43 hx (y := (⟨"java/lang/Long", "valueOf", "(J)Ljava/lang/Long;"⟩ : MethodName)) hown (mvT hZ (hw _ (List.mem_of_getElem? (i := 7) rfl))) (mvT hZ (hw _ (List.mem_of_getElem? (i := 8) rfl))) (mvT hZ (hw _ (List.mem_of_getElem? (i := 9) rfl))) (mvT hZ (hw _ (List.mem_of_getElem? (i := 10) rfl))) (by decide) (backOf (W := 0) (rmLongOf l Z a0 hw [] (z1.toInt64) caL ccL T43.heap n0 zl81 F80 P3 (BXL : Bxs Z caL ccL "java/lang/Long" "J" (256 : Int32) own_lval)) hZ (hw _ (List.mem_of_getElem? (i := 10) rfl)) (hw _ (List.mem_of_getElem? (i := 9) rfl)) (by decide) (by decide)) (g := (mkF m 29 #[.val (.int f1), .val (.int x1), .val (.int y1), .val (.int z1), .val (.int (1 : Int32)), .val (.ref b_43), .val .null, .unset, .unset, .unset, .unset, .unset, .unset] [(.long (z1.toInt64))])) rfl (by rw [hml]; rfl) (argsL := [(.long (z1.toInt64))]) (rest := []) (lenOf pd__28J_29Ljava_2flang_2fLong_3b rfl) rfl (by show 2 * 0 + _ ≤ _; exact Nat.le_of_eq rfl) (hb hby at_29) (fun _ _ => ⟨rfl, rfl, (by decide : 1 + 1 ≤ _), (by decide : 1 + 1 ≤ _)⟩)
      dsimp only [Pt.U, Pt.locs, Pt.cells, Pt.slots] at X82 l82 y82 z82 st82 hQ82
      subst l82 y82 z82
      obtain ⟨b_82, rv_82, rfl, Nq82, Kp82, G82_0, G82_1⟩ := hQ82
      have N82 := Fr.app N43 Nq82
      refine own_go st82 ?_
      have le_82 : T43.heap.size ≤ T82.heap.size := Kp82.1
      have K82 : Keep h0 T82.heap [] := Keep.trans K43 Kp82 all0
      have lt_b_82 : b_82 < T82.heap.size := (G82_0).lt
      show ∃ t o, Steps p.tables e below (T82.setTop (mkF m 32 #[.val (.int f1), .val (.int x1), .val (.int y1), .val (.int z1), .val (.int (1 : Int32)), .val (.ref b_43), .val .null, .unset, .unset, .unset, .unset, .unset, .unset] [(.ref b_82)])) t ∧ _
      refine own_go (fun _ => XS.astore X82.here hx rfl (hb hby at_32) rfl rfl (l' := #[.val (.int f1), .val (.int x1), .val (.int y1), .val (.int z1), .val (.int (1 : Int32)), .val (.ref b_43), .val .null, .val (.ref b_82), .unset, .unset, .unset, .unset, .unset]) rfl) ?_
      show ∃ t o, Steps p.tables e below (T82.setTop (mkF m 34 #[.val (.int f1), .val (.int x1), .val (.int y1), .val (.int z1), .val (.int (1 : Int32)), .val (.ref b_43), .val .null, .val (.ref b_82), .unset, .unset, .unset, .unset, .unset] [])) t ∧ _
      refine own_go (fun _ => XS.iloadN X82.here hx rfl (hb hby at_34) rfl) ?_
      show ∃ t o, Steps p.tables e below (T82.setTop (mkF m 35 #[.val (.int f1), .val (.int x1), .val (.int y1), .val (.int z1), .val (.int (1 : Int32)), .val (.ref b_43), .val .null, .val (.ref b_82), .unset, .unset, .unset, .unset, .unset] [(.int x1)])) t ∧ _
      refine own_go (fun _ => XS.iconst X82.here hx rfl (hb hby at_35)) ?_
      show ∃ t o, Steps p.tables e below (T82.setTop (mkF m 36 #[.val (.int f1), .val (.int x1), .val (.int y1), .val (.int z1), .val (.int (1 : Int32)), .val (.ref b_43), .val .null, .val (.ref b_82), .unset, .unset, .unset, .unset, .unset] [(.int (1 : Int32)), (.int x1)])) t ∧ _
      refine own_go (fun _ => XS.ixor X82.here hx rfl (hb hby at_36) rfl) ?_
      show ∃ t o, Steps p.tables e below (T82.setTop (mkF m 37 #[.val (.int f1), .val (.int x1), .val (.int y1), .val (.int z1), .val (.int (1 : Int32)), .val (.ref b_43), .val .null, .val (.ref b_82), .unset, .unset, .unset, .unset, .unset] [(.int (x1 ^^^ (1 : Int32)))])) t ∧ _
      have F83 : Old Z n0 T82.heap := (Old.keep F80 Kp82 all0)
      have zl84 : n0 ≤ T82.heap.size := by omega
      obtain ⟨_, _, ⟨T85, L85, k85, n85⟩, -, X85, ⟨Lc85, hQ85, l85, y85, z85⟩, st85⟩ := Jvm.LawKit.callS X82 hx (y := (⟨"java/lang/Integer", "valueOf", "(I)Ljava/lang/Integer;"⟩ : MethodName)) hown (mvT hZ (hw _ (List.mem_of_getElem? (i := 0) rfl))) (mvT hZ (hw _ (List.mem_of_getElem? (i := 1) rfl))) (mvT hZ (hw _ (List.mem_of_getElem? (i := 2) rfl))) (mvT hZ (hw _ (List.mem_of_getElem? (i := 3) rfl))) (by decide) (backOf (W := 0) (rmIntOf l Z a0 hw [] ((x1 ^^^ (1 : Int32))) caI ccI T82.heap n0 zl84 F83 P1 P2 (BXI : Bxs Z caI ccI "java/lang/Integer" "I" (256 : Int32) own_ival)) hZ (hw _ (List.mem_of_getElem? (i := 3) rfl)) (hw _ (List.mem_of_getElem? (i := 2) rfl)) (by decide) (by decide)) (g := (mkF m 37 #[.val (.int f1), .val (.int x1), .val (.int y1), .val (.int z1), .val (.int (1 : Int32)), .val (.ref b_43), .val .null, .val (.ref b_82), .unset, .unset, .unset, .unset, .unset] [(.int (x1 ^^^ (1 : Int32)))])) rfl (by rw [hml]; rfl) (argsL := [(.int (x1 ^^^ (1 : Int32)))]) (rest := []) (lenOf pd__28I_29Ljava_2flang_2fInteger_3b rfl) rfl (by show 2 * 0 + _ ≤ _; exact Nat.le_of_eq rfl) (hb hby at_37) (fun _ _ => ⟨rfl, rfl, (by decide : 2 + 1 ≤ _), (by decide : 2 + 1 ≤ _)⟩)
      dsimp only [Pt.U, Pt.locs, Pt.cells, Pt.slots] at X85 l85 y85 z85 st85 hQ85
      subst l85 y85 z85
      obtain ⟨b_85, rv_85, rfl, Nq85, Kp85, G85_0, G85_1⟩ := hQ85
      have N85 := Fr.app N82 Nq85
      refine own_go st85 ?_
      have le_85 : T82.heap.size ≤ T85.heap.size := Kp85.1
      have K85 : Keep h0 T85.heap [] := Keep.trans K82 Kp85 all0
      have lt_b_85 : b_85 < T85.heap.size := (G85_0).lt
      show ∃ t o, Steps p.tables e below (T85.setTop (mkF m 40 #[.val (.int f1), .val (.int x1), .val (.int y1), .val (.int z1), .val (.int (1 : Int32)), .val (.ref b_43), .val .null, .val (.ref b_82), .unset, .unset, .unset, .unset, .unset] [(.ref b_85)])) t ∧ _
      refine own_go (fun _ => XS.astore X85.here hx rfl (hb hby at_40) rfl rfl (l' := #[.val (.int f1), .val (.int x1), .val (.int y1), .val (.int z1), .val (.int (1 : Int32)), .val (.ref b_43), .val .null, .val (.ref b_82), .val (.ref b_85), .unset, .unset, .unset, .unset]) rfl) ?_
      show ∃ t o, Steps p.tables e below (T85.setTop (mkF m 42 #[.val (.int f1), .val (.int x1), .val (.int y1), .val (.int z1), .val (.int (1 : Int32)), .val (.ref b_43), .val .null, .val (.ref b_82), .val (.ref b_85), .unset, .unset, .unset, .unset] [])) t ∧ _
      refine own_go (fun _ => XS.iload X85.here hx rfl (hb hby at_42) rfl) ?_
      show ∃ t o, Steps p.tables e below (T85.setTop (mkF m 44 #[.val (.int f1), .val (.int x1), .val (.int y1), .val (.int z1), .val (.int (1 : Int32)), .val (.ref b_43), .val .null, .val (.ref b_82), .val (.ref b_85), .unset, .unset, .unset, .unset] [(.int (1 : Int32))])) t ∧ _
      obtain ⟨T86, h86, k86, X86, e86, E86, A86, Q86, O86, st86⟩ := newRE X85 hx hZ hown (hw _ (List.mem_of_getElem? (i := 15) rfl)) (hw _ (List.mem_of_getElem? (i := 16) rfl)) rfl (g := (mkF m 44 #[.val (.int f1), .val (.int x1), .val (.int y1), .val (.int z1), .val (.int (1 : Int32)), .val (.ref b_43), .val .null, .val (.ref b_82), .val (.ref b_85), .unset, .unset, .unset, .unset] [(.int (1 : Int32))])) rfl (hb hby at_44) rfl (by decide) (cap := 1) (by decide) (by decide) (by decide) (by decide) (ad := "[Ljava/lang/Object;") rfl
      obtain ⟨b86, g86⟩ : ∃ z, z = T85.heap.size := ⟨_, rfl⟩
      rw [← g86] at A86 Q86 st86
      refine own_go st86 ?_
      have le_86 : T85.heap.size ≤ h86.size := E86.1
      have lt_b86 : b86 < h86.size := A86.lt
      have V_b86 : Arv Z h86 b86 k86 (.object "java/lang/Object") (1 : Int32) [.null] .null := (Arv.new A86 (by decide)).pad (pad_rep [] .null 1)
      have K86 : Keep h0 h86 [] := Keep.ext K85 E86
      show ∃ t o, Steps p.tables e below (T86.setTop (mkF m 47 #[.val (.int f1), .val (.int x1), .val (.int y1), .val (.int z1), .val (.int (1 : Int32)), .val (.ref b_43), .val .null, .val (.ref b_82), .val (.ref b_85), .unset, .unset, .unset, .unset] [(.ref b86)])) t ∧ _
      refine own_go (fun _ => XS.astore X86.here hx rfl (hb hby at_47) rfl rfl (l' := #[.val (.int f1), .val (.int x1), .val (.int y1), .val (.int z1), .val (.int (1 : Int32)), .val (.ref b_43), .val .null, .val (.ref b_82), .val (.ref b_85), .val (.ref b86), .unset, .unset, .unset]) rfl) ?_
      show ∃ t o, Steps p.tables e below (T86.setTop (mkF m 49 #[.val (.int f1), .val (.int x1), .val (.int y1), .val (.int z1), .val (.int (1 : Int32)), .val (.ref b_43), .val .null, .val (.ref b_82), .val (.ref b_85), .val (.ref b86), .unset, .unset, .unset] [])) t ∧ _
      refine own_go (fun _ => XS.iload X86.here hx rfl (hb hby at_49) rfl) ?_
      show ∃ t o, Steps p.tables e below (T86.setTop (mkF m 51 #[.val (.int f1), .val (.int x1), .val (.int y1), .val (.int z1), .val (.int (1 : Int32)), .val (.ref b_43), .val .null, .val (.ref b_82), .val (.ref b_85), .val (.ref b86), .unset, .unset, .unset] [(.int (1 : Int32))])) t ∧ _
      refine own_go (fun _ => XS.ifNo X86.here hx rfl (hb hby at_51) rfl ((if0 _ _).trans (tlt (by decide : (0 : Int32) < (1 : Int32))).2.2.2)) ?_
      show ∃ t o, Steps p.tables e below (T86.setTop (mkF m 54 #[.val (.int f1), .val (.int x1), .val (.int y1), .val (.int z1), .val (.int (1 : Int32)), .val (.ref b_43), .val .null, .val (.ref b_82), .val (.ref b_85), .val (.ref b86), .unset, .unset, .unset] [])) t ∧ _
      refine own_go (fun _ => XS.aload X86.here hx rfl (hb hby at_54) rfl rfl) ?_
      show ∃ t o, Steps p.tables e below (T86.setTop (mkF m 56 #[.val (.int f1), .val (.int x1), .val (.int y1), .val (.int z1), .val (.int (1 : Int32)), .val (.ref b_43), .val .null, .val (.ref b_82), .val (.ref b_85), .val (.ref b86), .unset, .unset, .unset] [(.ref b86)])) t ∧ _
      refine own_go (fun _ => XS.iconst X86.here hx rfl (hb hby at_56)) ?_
      show ∃ t o, Steps p.tables e below (T86.setTop (mkF m 57 #[.val (.int f1), .val (.int x1), .val (.int y1), .val (.int z1), .val (.int (1 : Int32)), .val (.ref b_43), .val .null, .val (.ref b_82), .val (.ref b_85), .val (.ref b86), .unset, .unset, .unset] [(.int (0 : Int32)), (.ref b86)])) t ∧ _
      refine own_go (fun _ => XS.aload X86.here hx rfl (hb hby at_57) rfl rfl) ?_
      show ∃ t o, Steps p.tables e below (T86.setTop (mkF m 59 #[.val (.int f1), .val (.int x1), .val (.int y1), .val (.int z1), .val (.int (1 : Int32)), .val (.ref b_43), .val .null, .val (.ref b_82), .val (.ref b_85), .val (.ref b86), .unset, .unset, .unset] [(.ref b_43), (.int (0 : Int32)), (.ref b86)])) t ∧ _
      obtain ⟨cl87, Ar87, q87, S87, N87, H87, G87⟩ := id V_b86
      have hin87 : ¬ ((0 : Int32) < 0 ∨ cl87.slots.size ≤ ((0 : Int32)).toNatClampNeg) := inb_of S87 ⟨by decide, by decide⟩
      have F88 : Exa Z h86 b_43 "java/lang/Integer" := (Exa.ext E86 (Exa.keep (Exa.keep G43_0 Kp82) Kp85))
      obtain ⟨T89, h89, X89, e89, W89, st89⟩ := stR X86 hx hZ e86 Ar87 (j := (0 : Int32)) hin87 rfl (Sto.ofV Ar87 q87 O86 (Ins.of_exa F88 (hw _ (List.mem_of_getElem? (i := 75) rfl)))) (g := (mkF m 59 #[.val (.int f1), .val (.int x1), .val (.int y1), .val (.int z1), .val (.int (1 : Int32)), .val (.ref b_43), .val .null, .val (.ref b_82), .val (.ref b_85), .val (.ref b86), .unset, .unset, .unset] [(.ref b_43), (.int (0 : Int32)), (.ref b86)])) rfl rfl (hb hby at_59)
      refine own_go st89 ?_
      have ge90 : n0 ≤ b86 := by omega
      have le_89 : h86.size ≤ h89.size := Nat.le_of_eq W89.size.symm
      have sz91 : h0.size ≤ b86 := by omega
      have K89 : Keep h0 h89 [] := Keep.wr K86 W89 (Or.inr sz91)
      have N89 := Fr.snoc X89 N85 ge90
      have V89 : Arv Z h89 b86 k86 (.object "java/lang/Object") (1 : Int32) [(.ref b_43)] .null := Arv.set Ar87 q87 S87 N87 H87 G87 rfl W89 0 rfl (Nat.le_of_ble_eq_true rfl)
      show ∃ t o, Steps p.tables e below (T89.setTop (mkF m 60 #[.val (.int f1), .val (.int x1), .val (.int y1), .val (.int z1), .val (.int (1 : Int32)), .val (.ref b_43), .val .null, .val (.ref b_82), .val (.ref b_85), .val (.ref b86), .unset, .unset, .unset] [])) t ∧ _
      refine own_go (fun _ => XS.iload X89.here hx rfl (hb hby at_60) rfl) ?_
      show ∃ t o, Steps p.tables e below (T89.setTop (mkF m 62 #[.val (.int f1), .val (.int x1), .val (.int y1), .val (.int z1), .val (.int (1 : Int32)), .val (.ref b_43), .val .null, .val (.ref b_82), .val (.ref b_85), .val (.ref b86), .unset, .unset, .unset] [(.int (1 : Int32))])) t ∧ _
      refine own_go (fun _ => XS.iconst X89.here hx rfl (hb hby at_62)) ?_
      show ∃ t o, Steps p.tables e below (T89.setTop (mkF m 63 #[.val (.int f1), .val (.int x1), .val (.int y1), .val (.int z1), .val (.int (1 : Int32)), .val (.ref b_43), .val .null, .val (.ref b_82), .val (.ref b_85), .val (.ref b86), .unset, .unset, .unset] [(.int (1 : Int32)), (.int (1 : Int32))])) t ∧ _
      refine own_go (fun _ => XS.icmpYes X89.here hx rfl (pc0 := 63) (pc' := 72) rfl (hb hby at_63) rfl (flt (by decide : ¬ ((1 : Int32) < (1 : Int32)))).2.2.2 (by decide) (by decide)) ?_
      show ∃ t o, Steps p.tables e below (T89.setTop (mkF m 72 #[.val (.int f1), .val (.int x1), .val (.int y1), .val (.int z1), .val (.int (1 : Int32)), .val (.ref b_43), .val .null, .val (.ref b_82), .val (.ref b_85), .val (.ref b86), .unset, .unset, .unset] [])) t ∧ _
      refine own_go (fun _ => XS.iload X89.here hx rfl (hb hby at_72) rfl) ?_
      show ∃ t o, Steps p.tables e below (T89.setTop (mkF m 74 #[.val (.int f1), .val (.int x1), .val (.int y1), .val (.int z1), .val (.int (1 : Int32)), .val (.ref b_43), .val .null, .val (.ref b_82), .val (.ref b_85), .val (.ref b86), .unset, .unset, .unset] [(.int (1 : Int32))])) t ∧ _
      refine own_go (fun _ => XS.iconst X89.here hx rfl (hb hby at_74)) ?_
      show ∃ t o, Steps p.tables e below (T89.setTop (mkF m 75 #[.val (.int f1), .val (.int x1), .val (.int y1), .val (.int z1), .val (.int (1 : Int32)), .val (.ref b_43), .val .null, .val (.ref b_82), .val (.ref b_85), .val (.ref b86), .unset, .unset, .unset] [(.int (2 : Int32)), (.int (1 : Int32))])) t ∧ _
      refine own_go (fun _ => XS.icmpYes X89.here hx rfl (pc0 := 75) (pc' := 84) rfl (hb hby at_75) rfl (flt (by decide : ¬ ((2 : Int32) < (1 : Int32)))).2.2.2 (by decide) (by decide)) ?_
      show ∃ t o, Steps p.tables e below (T89.setTop (mkF m 84 #[.val (.int f1), .val (.int x1), .val (.int y1), .val (.int z1), .val (.int (1 : Int32)), .val (.ref b_43), .val .null, .val (.ref b_82), .val (.ref b_85), .val (.ref b86), .unset, .unset, .unset] [])) t ∧ _
      refine own_go (fun _ => XS.aload X89.here hx rfl (hb hby at_84) rfl rfl) ?_
      show ∃ t o, Steps p.tables e below (T89.setTop (mkF m 86 #[.val (.int f1), .val (.int x1), .val (.int y1), .val (.int z1), .val (.int (1 : Int32)), .val (.ref b_43), .val .null, .val (.ref b_82), .val (.ref b_85), .val (.ref b86), .unset, .unset, .unset] [(.ref b86)])) t ∧ _
      have F92 : Old Z n0 h89 := (Old.wr ((Old.keep F83 Kp85 all0).ext E86) W89 ge90)
      have zl93 : n0 ≤ h89.size := by omega
      obtain ⟨_, _, ⟨T94, L94, k94, n94⟩, -, X94, ⟨Lc94, hQ94, l94, y94, z94⟩, st94⟩ := Jvm.LawKit.callS X89 hx (y := (⟨"com/example/planwright/planwright/plan/Key", "of", "([Ljava/lang/Object;)Ljava/lang/Object;"⟩ : MethodName)) hown (mvT hZ (hw _ (List.mem_of_getElem? (i := 17) rfl))) (mvT hZ (hw _ (List.mem_of_getElem? (i := 18) rfl))) (mvT hZ (hw _ (List.mem_of_getElem? (i := 19) rfl))) (mvT hZ (hw _ (List.mem_of_getElem? (i := 20) rfl))) (by decide) (backOf (W := 0) (rmOf1 l Z a0 hw [] b86 k86 b_43 h89 n0 zl93 V89 F92) hZ (hw _ (List.mem_of_getElem? (i := 20) rfl)) (hw _ (List.mem_of_getElem? (i := 19) rfl)) (by decide) (by decide)) (g := (mkF m 86 #[.val (.int f1), .val (.int x1), .val (.int y1), .val (.int z1), .val (.int (1 : Int32)), .val (.ref b_43), .val .null, .val (.ref b_82), .val (.ref b_85), .val (.ref b86), .unset, .unset, .unset] [(.ref b86)])) rfl (by rw [hml]; rfl) (argsL := [(.ref b86)]) (rest := []) (lenOf pd_hefb3f20f rfl) rfl (by show 2 * 0 + _ ≤ _; exact Nat.le_of_eq rfl) (hb hby at_86) (fun _ _ => ⟨rfl, e89, (by decide : 4 + 0 ≤ _), (by decide : 4 + 0 ≤ _)⟩)
      dsimp only [Pt.U, Pt.locs, Pt.cells, Pt.slots] at X94 l94 y94 z94 st94 hQ94
      subst l94 y94 z94
      obtain ⟨rfl, Nq94, e94⟩ := hQ94
      have N94 := Fr.app N89 Nq94
      refine own_go st94 ?_
      show ∃ t o, Steps p.tables e below (T94.setTop (mkF m 89 #[.val (.int f1), .val (.int x1), .val (.int y1), .val (.int z1), .val (.int (1 : Int32)), .val (.ref b_43), .val .null, .val (.ref b_82), .val (.ref b_85), .val (.ref b86), .unset, .unset, .unset] [(.ref b_43)])) t ∧ _
      refine own_go (fun _ => XS.astore X94.here hx rfl (hb hby at_89) rfl rfl (l' := #[.val (.int f1), .val (.int x1), .val (.int y1), .val (.int z1), .val (.int (1 : Int32)), .val (.ref b_43), .val .null, .val (.ref b_82), .val (.ref b_85), .val (.ref b86), .val (.ref b_43), .unset, .unset]) rfl) ?_
      show ∃ t o, Steps p.tables e below (T94.setTop (mkF m 91 #[.val (.int f1), .val (.int x1), .val (.int y1), .val (.int z1), .val (.int (1 : Int32)), .val (.ref b_43), .val .null, .val (.ref b_82), .val (.ref b_85), .val (.ref b86), .val (.ref b_43), .unset, .unset] [])) t ∧ _
      refine own_go (fun _ => XS.aload X94.here hx rfl (hb hby at_91) rfl rfl) ?_
      show ∃ t o, Steps p.tables e below (T94.setTop (mkF m 93 #[.val (.int f1), .val (.int x1), .val (.int y1), .val (.int z1), .val (.int (1 : Int32)), .val (.ref b_43), .val .null, .val (.ref b_82), .val (.ref b_85), .val (.ref b86), .val (.ref b_43), .unset, .unset] [(.ref b_43)])) t ∧ _
      refine own_go (fun _ => XS.iload X94.here hx rfl (hb hby at_93) rfl) ?_
      show ∃ t o, Steps p.tables e below (T94.setTop (mkF m 95 #[.val (.int f1), .val (.int x1), .val (.int y1), .val (.int z1), .val (.int (1 : Int32)), .val (.ref b_43), .val .null, .val (.ref b_82), .val (.ref b_85), .val (.ref b86), .val (.ref b_43), .unset, .unset] [(.int (1 : Int32)), (.ref b_43)])) t ∧ _
      have F95 : Exa Z h89 b_43 "java/lang/Integer" := (Exa.wr W89 F88)
      obtain ⟨_, _, ⟨T96, L96, k96, n96⟩, -, X96, ⟨Lc96, hQ96, l96, y96, z96⟩, st96⟩ := Jvm.LawKit.callS X94 hx (y := (⟨"com/example/planwright/planwright/plan/Key", "values", "(Ljava/lang/Object;I)[Ljava/lang/Object;"⟩ : MethodName)) hown (mvT hZ (hw _ (List.mem_of_getElem? (i := 37) rfl))) (mvT hZ (hw _ (List.mem_of_getElem? (i := 38) rfl))) (mvT hZ (hw _ (List.mem_of_getElem? (i := 19) rfl))) (mvT hZ (hw _ (List.mem_of_getElem? (i := 39) rfl))) (by decide) (backOf (W := 0) (rmVals1 l Z a0 hw [] b_43 h89 n0 zl93 F95 F92) hZ (hw _ (List.mem_of_getElem? (i := 39) rfl)) (hw _ (List.mem_of_getElem? (i := 19) rfl)) (by decide) (by decide)) (g := (mkF m 95 #[.val (.int f1), .val (.int x1), .val (.int y1), .val (.int z1), .val (.int (1 : Int32)), .val (.ref b_43), .val .null, .val (.ref b_82), .val (.ref b_85), .val (.ref b86), .val (.ref b_43), .unset, .unset] [(.int (1 : Int32)), (.ref b_43)])) rfl (by rw [hml]; rfl) (argsL := [(.ref b_43), (.int (1 : Int32))]) (rest := []) (lenOf pd_h9d814d6e rfl) rfl (by show 2 * 0 + _ ≤ _; exact Nat.le_of_eq rfl) (hb hby at_95) (fun _ _ => ⟨rfl, e94, (by decide : 4 + 1 ≤ _), (by decide : 4 + 1 ≤ _)⟩)
      dsimp only [Pt.U, Pt.locs, Pt.cells, Pt.slots] at X96 l96 y96 z96 st96 hQ96
      subst l96 y96 z96
      obtain ⟨b_96, kq_96, rfl, Nq96, Kp96, G96_0, H96_0, H96_1⟩ := hQ96
      have N96 := Fr.app N94 Nq96
      refine own_go st96 ?_
      have le_96 : h89.size ≤ T96.heap.size := Kp96.1
      have K96 : Keep h0 T96.heap [] := Keep.trans K89 Kp96 all0
      have lt_b_96 : b_96 < T96.heap.size := (G96_0).lt
      show ∃ t o, Steps p.tables e below (T96.setTop (mkF m 98 #[.val (.int f1), .val (.int x1), .val (.int y1), .val (.int z1), .val (.int (1 : Int32)), .val (.ref b_43), .val .null, .val (.ref b_82), .val (.ref b_85), .val (.ref b86), .val (.ref b_43), .unset, .unset] [(.ref b_96)])) t ∧ _
      refine own_go (fun _ => XS.astore X96.here hx rfl (hb hby at_98) rfl rfl (l' := #[.val (.int f1), .val (.int x1), .val (.int y1), .val (.int z1), .val (.int (1 : Int32)), .val (.ref b_43), .val .null, .val (.ref b_82), .val (.ref b_85), .val (.ref b86), .val (.ref b_43), .val (.ref b_96), .unset]) rfl) ?_
      show ∃ t o, Steps p.tables e below (T96.setTop (mkF m 100 #[.val (.int f1), .val (.int x1), .val (.int y1), .val (.int z1), .val (.int (1 : Int32)), .val (.ref b_43), .val .null, .val (.ref b_82), .val (.ref b_85), .val (.ref b86), .val (.ref b_43), .val (.ref b_96), .unset] [])) t ∧ _
      refine own_go (fun _ => XS.aload X96.here hx rfl (hb hby at_100) rfl rfl) ?_
      show ∃ t o, Steps p.tables e below (T96.setTop (mkF m 102 #[.val (.int f1), .val (.int x1), .val (.int y1), .val (.int z1), .val (.int (1 : Int32)), .val (.ref b_43), .val .null, .val (.ref b_82), .val (.ref b_85), .val (.ref b86), .val (.ref b_43), .val (.ref b_96), .unset] [(.ref b_96)])) t ∧ _
      refine own_go (fun _ => XS.ifnullNo X96.here hx rfl (hb hby at_102) rfl) ?_
      show ∃ t o, Steps p.tables e below (T96.setTop (mkF m 105 #[.val (.int f1), .val (.int x1), .val (.int y1), .val (.int z1), .val (.int (1 : Int32)), .val (.ref b_43), .val .null, .val (.ref b_82), .val (.ref b_85), .val (.ref b86), .val (.ref b_43), .val (.ref b_96), .unset] [])) t ∧ _
      refine own_go (fun _ => XS.aload X96.here hx rfl (hb hby at_105) rfl rfl) ?_
      show ∃ t o, Steps p.tables e below (T96.setTop (mkF m 107 #[.val (.int f1), .val (.int x1), .val (.int y1), .val (.int z1), .val (.int (1 : Int32)), .val (.ref b_43), .val .null, .val (.ref b_82), .val (.ref b_85), .val (.ref b86), .val (.ref b_43), .val (.ref b_96), .unset] [(.ref b_96)])) t ∧ _
      refine own_go (fun _ => XS.aload X96.here hx rfl (hb hby at_107) rfl rfl) ?_
      show ∃ t o, Steps p.tables e below (T96.setTop (mkF m 109 #[.val (.int f1), .val (.int x1), .val (.int y1), .val (.int z1), .val (.int (1 : Int32)), .val (.ref b_43), .val .null, .val (.ref b_82), .val (.ref b_85), .val (.ref b86), .val (.ref b_43), .val (.ref b_96), .unset] [(.ref b86), (.ref b_96)])) t ∧ _
      have ne97 : b_96 ≠ b86 := own_ne (by omega)
      refine own_go (fun _ => Jvm.RoadKit.acmp (g := (mkF m 109 #[.val (.int f1), .val (.int x1), .val (.int y1), .val (.int z1), .val (.int (1 : Int32)), .val (.ref b_43), .val .null, .val (.ref b_82), .val (.ref b_85), .val (.ref b86), .val (.ref b_43), .val (.ref b_96), .unset] [(.ref b86), (.ref b_96)])) X96 hx rfl rfl rfl (pc0 := 109) (pc' := 112) (same := false) rfl (hb hby at_109) rfl (decide_eq_false fun q => ne97 (Value.ref.inj q)) (by decide) (by decide)) ?_
      show ∃ t o, Steps p.tables e below (T96.setTop (mkF m 112 #[.val (.int f1), .val (.int x1), .val (.int y1), .val (.int z1), .val (.int (1 : Int32)), .val (.ref b_43), .val .null, .val (.ref b_82), .val (.ref b_85), .val (.ref b86), .val (.ref b_43), .val (.ref b_96), .unset] [])) t ∧ _
      refine own_go (fun _ => XS.aload X96.here hx rfl (hb hby at_112) rfl rfl) ?_
      show ∃ t o, Steps p.tables e below (T96.setTop (mkF m 114 #[.val (.int f1), .val (.int x1), .val (.int y1), .val (.int z1), .val (.int (1 : Int32)), .val (.ref b_43), .val .null, .val (.ref b_82), .val (.ref b_85), .val (.ref b86), .val (.ref b_43), .val (.ref b_96), .unset] [(.ref b_96)])) t ∧ _
      obtain ⟨cl98, Ar98, q98, S98, N98, H98, G98⟩ := id G96_0
      have ln98 : cl98.slots.size.toInt32 = (1 : Int32) := len_of S98 N98
      have al98 := X96.arraylength hx Ar98.1 (State.isArrayOf_alike hZ.alike Ar98.2.1) (g := (mkF m 114 #[.val (.int f1), .val (.int x1), .val (.int y1), .val (.int z1), .val (.int (1 : Int32)), .val (.ref b_43), .val .null, .val (.ref b_82), .val (.ref b_85), .val (.ref b86), .val (.ref b_43), .val (.ref b_96), .unset] [(.ref b_96)])) rfl rfl (hb hby at_114)
      rw [ln98] at al98
      refine own_go al98 ?_
      show ∃ t o, Steps p.tables e below (T96.setTop (mkF m 115 #[.val (.int f1), .val (.int x1), .val (.int y1), .val (.int z1), .val (.int (1 : Int32)), .val (.ref b_43), .val .null, .val (.ref b_82), .val (.ref b_85), .val (.ref b86), .val (.ref b_43), .val (.ref b_96), .unset] [(.int (1 : Int32))])) t ∧ _
      refine own_go (fun _ => XS.iload X96.here hx rfl (hb hby at_115) rfl) ?_
      show ∃ t o, Steps p.tables e below (T96.setTop (mkF m 117 #[.val (.int f1), .val (.int x1), .val (.int y1), .val (.int z1), .val (.int (1 : Int32)), .val (.ref b_43), .val .null, .val (.ref b_82), .val (.ref b_85), .val (.ref b86), .val (.ref b_43), .val (.ref b_96), .unset] [(.int (1 : Int32)), (.int (1 : Int32))])) t ∧ _
      refine own_go (fun _ => XS.icmpYes X96.here hx rfl (pc0 := 117) (pc' := 122) rfl (hb hby at_117) rfl (teq (by decide : (1 : Int32) = (1 : Int32))).1 (by decide) (by decide)) ?_
      show ∃ t o, Steps p.tables e below (T96.setTop (mkF m 122 #[.val (.int f1), .val (.int x1), .val (.int y1), .val (.int z1), .val (.int (1 : Int32)), .val (.ref b_43), .val .null, .val (.ref b_82), .val (.ref b_85), .val (.ref b86), .val (.ref b_43), .val (.ref b_96), .unset] [])) t ∧ _
      refine own_go (fun _ => XS.iload X96.here hx rfl (hb hby at_122) rfl) ?_
      show ∃ t o, Steps p.tables e below (T96.setTop (mkF m 124 #[.val (.int f1), .val (.int x1), .val (.int y1), .val (.int z1), .val (.int (1 : Int32)), .val (.ref b_43), .val .null, .val (.ref b_82), .val (.ref b_85), .val (.ref b86), .val (.ref b_43), .val (.ref b_96), .unset] [(.int (1 : Int32))])) t ∧ _
      refine own_go (fun _ => XS.ifNo X96.here hx rfl (hb hby at_124) rfl ((if0 _ _).trans (tlt (by decide : (0 : Int32) < (1 : Int32))).2.2.2)) ?_
      show ∃ t o, Steps p.tables e below (T96.setTop (mkF m 127 #[.val (.int f1), .val (.int x1), .val (.int y1), .val (.int z1), .val (.int (1 : Int32)), .val (.ref b_43), .val .null, .val (.ref b_82), .val (.ref b_85), .val (.ref b86), .val (.ref b_43), .val (.ref b_96), .unset] [])) t ∧ _
      refine own_go (fun _ => XS.aload X96.here hx rfl (hb hby at_127) rfl rfl) ?_
      show ∃ t o, Steps p.tables e below (T96.setTop (mkF m 129 #[.val (.int f1), .val (.int x1), .val (.int y1), .val (.int z1), .val (.int (1 : Int32)), .val (.ref b_43), .val .null, .val (.ref b_82), .val (.ref b_85), .val (.ref b86), .val (.ref b_43), .val (.ref b_96), .unset] [(.ref b_96)])) t ∧ _
      refine own_go (fun _ => XS.iconst X96.here hx rfl (hb hby at_129)) ?_
      show ∃ t o, Steps p.tables e below (T96.setTop (mkF m 130 #[.val (.int f1), .val (.int x1), .val (.int y1), .val (.int z1), .val (.int (1 : Int32)), .val (.ref b_43), .val .null, .val (.ref b_82), .val (.ref b_85), .val (.ref b86), .val (.ref b_43), .val (.ref b_96), .unset] [(.int (0 : Int32)), (.ref b_96)])) t ∧ _
      obtain ⟨cl99, Ar99, q99, S99, N99, H99, G99⟩ := id G96_0
      have hin99 : ¬ ((0 : Int32) < 0 ∨ cl99.slots.size ≤ ((0 : Int32)).toNatClampNeg) := inb_of S99 ⟨by decide, by decide⟩
      have hat99 : cl99.slots[((0 : Int32)).toNatClampNeg]? = some (.ref b_43) := Has.at H99 hin99 rfl
      refine own_go (fun _ => X96.aaload hx (j := (0 : Int32)) (v := (.ref b_43)) Ar99.1 (State.isArrayOf_alike hZ.alike Ar99.2.1) rfl Ar99.2.2 hin99 hat99 (g := (mkF m 130 #[.val (.int f1), .val (.int x1), .val (.int y1), .val (.int z1), .val (.int (1 : Int32)), .val (.ref b_43), .val .null, .val (.ref b_82), .val (.ref b_85), .val (.ref b86), .val (.ref b_43), .val (.ref b_96), .unset] [(.int (0 : Int32)), (.ref b_96)])) rfl rfl (hb hby at_130) _) ?_
      show ∃ t o, Steps p.tables e below (T96.setTop (mkF m 131 #[.val (.int f1), .val (.int x1), .val (.int y1), .val (.int z1), .val (.int (1 : Int32)), .val (.ref b_43), .val .null, .val (.ref b_82), .val (.ref b_85), .val (.ref b86), .val (.ref b_43), .val (.ref b_96), .unset] [(.ref b_43)])) t ∧ _
      refine own_go (fun _ => XS.aload X96.here hx rfl (hb hby at_131) rfl rfl) ?_
      show ∃ t o, Steps p.tables e below (T96.setTop (mkF m 133 #[.val (.int f1), .val (.int x1), .val (.int y1), .val (.int z1), .val (.int (1 : Int32)), .val (.ref b_43), .val .null, .val (.ref b_82), .val (.ref b_85), .val (.ref b86), .val (.ref b_43), .val (.ref b_96), .unset] [(.ref b_43), (.ref b_43)])) t ∧ _
      refine own_go (fun _ => Jvm.RoadKit.acmp (g := (mkF m 133 #[.val (.int f1), .val (.int x1), .val (.int y1), .val (.int z1), .val (.int (1 : Int32)), .val (.ref b_43), .val .null, .val (.ref b_82), .val (.ref b_85), .val (.ref b86), .val (.ref b_43), .val (.ref b_96), .unset] [(.ref b_43), (.ref b_43)])) X96 hx rfl rfl rfl (pc0 := 133) (pc' := 138) (same := true) rfl (hb hby at_133) rfl (decide_eq_true rfl) (by decide) (by decide)) ?_
      show ∃ t o, Steps p.tables e below (T96.setTop (mkF m 138 #[.val (.int f1), .val (.int x1), .val (.int y1), .val (.int z1), .val (.int (1 : Int32)), .val (.ref b_43), .val .null, .val (.ref b_82), .val (.ref b_85), .val (.ref b86), .val (.ref b_43), .val (.ref b_96), .unset] [])) t ∧ _
      refine own_go (fun _ => XS.iload X96.here hx rfl (hb hby at_138) rfl) ?_
      show ∃ t o, Steps p.tables e below (T96.setTop (mkF m 140 #[.val (.int f1), .val (.int x1), .val (.int y1), .val (.int z1), .val (.int (1 : Int32)), .val (.ref b_43), .val .null, .val (.ref b_82), .val (.ref b_85), .val (.ref b86), .val (.ref b_43), .val (.ref b_96), .unset] [(.int (1 : Int32))])) t ∧ _
      refine own_go (fun _ => XS.iconst X96.here hx rfl (hb hby at_140)) ?_
      show ∃ t o, Steps p.tables e below (T96.setTop (mkF m 141 #[.val (.int f1), .val (.int x1), .val (.int y1), .val (.int z1), .val (.int (1 : Int32)), .val (.ref b_43), .val .null, .val (.ref b_82), .val (.ref b_85), .val (.ref b86), .val (.ref b_43), .val (.ref b_96), .unset] [(.int (1 : Int32)), (.int (1 : Int32))])) t ∧ _
      refine own_go (fun _ => XS.icmpYes X96.here hx rfl (pc0 := 141) (pc' := 155) rfl (hb hby at_141) rfl (flt (by decide : ¬ ((1 : Int32) < (1 : Int32)))).2.2.2 (by decide) (by decide)) ?_
      show ∃ t o, Steps p.tables e below (T96.setTop (mkF m 155 #[.val (.int f1), .val (.int x1), .val (.int y1), .val (.int z1), .val (.int (1 : Int32)), .val (.ref b_43), .val .null, .val (.ref b_82), .val (.ref b_85), .val (.ref b86), .val (.ref b_43), .val (.ref b_96), .unset] [])) t ∧ _
      refine own_go (fun _ => XS.iload X96.here hx rfl (hb hby at_155) rfl) ?_
      show ∃ t o, Steps p.tables e below (T96.setTop (mkF m 157 #[.val (.int f1), .val (.int x1), .val (.int y1), .val (.int z1), .val (.int (1 : Int32)), .val (.ref b_43), .val .null, .val (.ref b_82), .val (.ref b_85), .val (.ref b86), .val (.ref b_43), .val (.ref b_96), .unset] [(.int (1 : Int32))])) t ∧ _
      refine own_go (fun _ => XS.iconst X96.here hx rfl (hb hby at_157)) ?_
      show ∃ t o, Steps p.tables e below (T96.setTop (mkF m 158 #[.val (.int f1), .val (.int x1), .val (.int y1), .val (.int z1), .val (.int (1 : Int32)), .val (.ref b_43), .val .null, .val (.ref b_82), .val (.ref b_85), .val (.ref b86), .val (.ref b_43), .val (.ref b_96), .unset] [(.int (2 : Int32)), (.int (1 : Int32))])) t ∧ _
      refine own_go (fun _ => XS.icmpYes X96.here hx rfl (pc0 := 158) (pc' := 172) rfl (hb hby at_158) rfl (flt (by decide : ¬ ((2 : Int32) < (1 : Int32)))).2.2.2 (by decide) (by decide)) ?_
      show ∃ t o, Steps p.tables e below (T96.setTop (mkF m 172 #[.val (.int f1), .val (.int x1), .val (.int y1), .val (.int z1), .val (.int (1 : Int32)), .val (.ref b_43), .val .null, .val (.ref b_82), .val (.ref b_85), .val (.ref b86), .val (.ref b_43), .val (.ref b_96), .unset] [])) t ∧ _
      refine own_go (fun _ => XS.iload X96.here hx rfl (hb hby at_172) rfl) ?_
      show ∃ t o, Steps p.tables e below (T96.setTop (mkF m 174 #[.val (.int f1), .val (.int x1), .val (.int y1), .val (.int z1), .val (.int (1 : Int32)), .val (.ref b_43), .val .null, .val (.ref b_82), .val (.ref b_85), .val (.ref b86), .val (.ref b_43), .val (.ref b_96), .unset] [(.int (1 : Int32))])) t ∧ _
      refine own_go (fun _ => XS.ifNo X96.here hx rfl (hb hby at_174) rfl ((if0 _ _).trans (tlt (by decide : (0 : Int32) < (1 : Int32))).2.2.2)) ?_
      show ∃ t o, Steps p.tables e below (T96.setTop (mkF m 177 #[.val (.int f1), .val (.int x1), .val (.int y1), .val (.int z1), .val (.int (1 : Int32)), .val (.ref b_43), .val .null, .val (.ref b_82), .val (.ref b_85), .val (.ref b86), .val (.ref b_43), .val (.ref b_96), .unset] [])) t ∧ _
      refine own_go (fun _ => XS.aload X96.here hx rfl (hb hby at_177) rfl rfl) ?_
      show ∃ t o, Steps p.tables e below (T96.setTop (mkF m 179 #[.val (.int f1), .val (.int x1), .val (.int y1), .val (.int z1), .val (.int (1 : Int32)), .val (.ref b_43), .val .null, .val (.ref b_82), .val (.ref b_85), .val (.ref b86), .val (.ref b_43), .val (.ref b_96), .unset] [(.ref b_96)])) t ∧ _
      refine own_go (fun _ => XS.iconst X96.here hx rfl (hb hby at_179)) ?_
      show ∃ t o, Steps p.tables e below (T96.setTop (mkF m 180 #[.val (.int f1), .val (.int x1), .val (.int y1), .val (.int z1), .val (.int (1 : Int32)), .val (.ref b_43), .val .null, .val (.ref b_82), .val (.ref b_85), .val (.ref b86), .val (.ref b_43), .val (.ref b_96), .unset] [(.int (0 : Int32)), (.ref b_96)])) t ∧ _
      refine own_go (fun _ => XS.aload X96.here hx rfl (hb hby at_180) rfl rfl) ?_
      show ∃ t o, Steps p.tables e below (T96.setTop (mkF m 182 #[.val (.int f1), .val (.int x1), .val (.int y1), .val (.int z1), .val (.int (1 : Int32)), .val (.ref b_43), .val .null, .val (.ref b_82), .val (.ref b_85), .val (.ref b86), .val (.ref b_43), .val (.ref b_96), .unset] [(.ref b_85), (.int (0 : Int32)), (.ref b_96)])) t ∧ _
      obtain ⟨cl100, Ar100, q100, S100, N100, H100, G100⟩ := id G96_0
      have hin100 : ¬ ((0 : Int32) < 0 ∨ cl100.slots.size ≤ ((0 : Int32)).toNatClampNeg) := inb_of S100 ⟨by decide, by decide⟩
      have F101 : Exa Z T96.heap b_85 "java/lang/Integer" := (Exa.keep (Exa.wr W89 (Exa.ext E86 G85_0)) Kp96)
      obtain ⟨T102, h102, X102, e102, W102, st102⟩ := stR X96 hx hZ rfl Ar100 (j := (0 : Int32)) hin100 rfl (Sto.ofV Ar100 q100 H96_1 (Ins.of_exa F101 (hw _ (List.mem_of_getElem? (i := 75) rfl)))) (g := (mkF m 182 #[.val (.int f1), .val (.int x1), .val (.int y1), .val (.int z1), .val (.int (1 : Int32)), .val (.ref b_43), .val .null, .val (.ref b_82), .val (.ref b_85), .val (.ref b86), .val (.ref b_43), .val (.ref b_96), .unset] [(.ref b_85), (.int (0 : Int32)), (.ref b_96)])) rfl rfl (hb hby at_182)
      refine own_go st102 ?_
      have ge103 : n0 ≤ b_96 := by omega
      have le_102 : T96.heap.size ≤ h102.size := Nat.le_of_eq W102.size.symm
      have sz104 : h0.size ≤ b_96 := by omega
      have K102 : Keep h0 h102 [] := Keep.wr K96 W102 (Or.inr sz104)
      have N102 := Fr.snoc X102 N96 ge103
      have V102 : Arv Z h102 b_96 kq_96 (.object "java/lang/Object") (1 : Int32) [(.ref b_85)] .null := Arv.set Ar100 q100 S100 N100 H100 G100 rfl W102 0 rfl (Nat.le_of_ble_eq_true rfl)
      show ∃ t o, Steps p.tables e below (T102.setTop (mkF m 183 #[.val (.int f1), .val (.int x1), .val (.int y1), .val (.int z1), .val (.int (1 : Int32)), .val (.ref b_43), .val .null, .val (.ref b_82), .val (.ref b_85), .val (.ref b86), .val (.ref b_43), .val (.ref b_96), .unset] [])) t ∧ _
      refine own_go (fun _ => XS.aload X102.here hx rfl (hb hby at_183) rfl rfl) ?_
      show ∃ t o, Steps p.tables e below (T102.setTop (mkF m 185 #[.val (.int f1), .val (.int x1), .val (.int y1), .val (.int z1), .val (.int (1 : Int32)), .val (.ref b_43), .val .null, .val (.ref b_82), .val (.ref b_85), .val (.ref b86), .val (.ref b_43), .val (.ref b_96), .unset] [(.ref b_43)])) t ∧ _
      refine own_go (fun _ => XS.iload X102.here hx rfl (hb hby at_185) rfl) ?_
      show ∃ t o, Steps p.tables e below (T102.setTop (mkF m 187 #[.val (.int f1), .val (.int x1), .val (.int y1), .val (.int z1), .val (.int (1 : Int32)), .val (.ref b_43), .val .null, .val (.ref b_82), .val (.ref b_85), .val (.ref b86), .val (.ref b_43), .val (.ref b_96), .unset] [(.int (1 : Int32)), (.ref b_43)])) t ∧ _
      have F105 : Exa Z h102 b_43 "java/lang/Integer" := (Exa.wr W102 (Exa.keep F95 Kp96))
      have F106 : Old Z n0 h102 := (Old.wr (Old.keep F92 Kp96 all0) W102 ge103)
      have zl107 : n0 ≤ h102.size := by omega
      obtain ⟨_, _, ⟨T108, L108, k108, n108⟩, -, X108, ⟨Lc108, hQ108, l108, y108, z108⟩, st108⟩ := Jvm.LawKit.callS X102 hx (y := (⟨"com/example/planwright/planwright/plan/Key", "values", "(Ljava/lang/Object;I)[Ljava/lang/Object;"⟩ : MethodName)) hown (mvT hZ (hw _ (List.mem_of_getElem? (i := 37) rfl))) (mvT hZ (hw _ (List.mem_of_getElem? (i := 38) rfl))) (mvT hZ (hw _ (List.mem_of_getElem? (i := 19) rfl))) (mvT hZ (hw _ (List.mem_of_getElem? (i := 39) rfl))) (by decide) (backOf (W := 0) (rmVals1 l Z a0 hw [] b_43 h102 n0 zl107 F105 F106) hZ (hw _ (List.mem_of_getElem? (i := 39) rfl)) (hw _ (List.mem_of_getElem? (i := 19) rfl)) (by decide) (by decide)) (g := (mkF m 187 #[.val (.int f1), .val (.int x1), .val (.int y1), .val (.int z1), .val (.int (1 : Int32)), .val (.ref b_43), .val .null, .val (.ref b_82), .val (.ref b_85), .val (.ref b86), .val (.ref b_43), .val (.ref b_96), .unset] [(.int (1 : Int32)), (.ref b_43)])) rfl (by rw [hml]; rfl) (argsL := [(.ref b_43), (.int (1 : Int32))]) (rest := []) (lenOf pd_h9d814d6e rfl) rfl (by show 2 * 0 + _ ≤ _; exact Nat.le_of_eq rfl) (hb hby at_187) (fun _ _ => ⟨rfl, e102, (by decide : 5 + 1 ≤ _), (by decide : 5 + 1 ≤ _)⟩)
      dsimp only [Pt.U, Pt.locs, Pt.cells, Pt.slots] at X108 l108 y108 z108 st108 hQ108
      subst l108 y108 z108
      obtain ⟨b_108, kq_108, rfl, Nq108, Kp108, G108_0, H108_0, H108_1⟩ := hQ108
      have N108 := Fr.app N102 Nq108
      refine own_go st108 ?_
      have le_108 : h102.size ≤ T108.heap.size := Kp108.1
      have K108 : Keep h0 T108.heap [] := Keep.trans K102 Kp108 all0
      have lt_b_108 : b_108 < T108.heap.size := (G108_0).lt
      show ∃ t o, Steps p.tables e below (T108.setTop (mkF m 190 #[.val (.int f1), .val (.int x1), .val (.int y1), .val (.int z1), .val (.int (1 : Int32)), .val (.ref b_43), .val .null, .val (.ref b_82), .val (.ref b_85), .val (.ref b86), .val (.ref b_43), .val (.ref b_96), .unset] [(.ref b_108)])) t ∧ _
      refine own_go (fun _ => XS.astore X108.here hx rfl (hb hby at_190) rfl rfl (l' := #[.val (.int f1), .val (.int x1), .val (.int y1), .val (.int z1), .val (.int (1 : Int32)), .val (.ref b_43), .val .null, .val (.ref b_82), .val (.ref b_85), .val (.ref b86), .val (.ref b_43), .val (.ref b_96), .val (.ref b_108)]) rfl) ?_
      show ∃ t o, Steps p.tables e below (T108.setTop (mkF m 192 #[.val (.int f1), .val (.int x1), .val (.int y1), .val (.int z1), .val (.int (1 : Int32)), .val (.ref b_43), .val .null, .val (.ref b_82), .val (.ref b_85), .val (.ref b86), .val (.ref b_43), .val (.ref b_96), .val (.ref b_108)] [])) t ∧ _
      refine own_go (fun _ => XS.aload X108.here hx rfl (hb hby at_192) rfl rfl) ?_
      show ∃ t o, Steps p.tables e below (T108.setTop (mkF m 194 #[.val (.int f1), .val (.int x1), .val (.int y1), .val (.int z1), .val (.int (1 : Int32)), .val (.ref b_43), .val .null, .val (.ref b_82), .val (.ref b_85), .val (.ref b86), .val (.ref b_43), .val (.ref b_96), .val (.ref b_108)] [(.ref b_108)])) t ∧ _
      refine own_go (fun _ => XS.ifnullNo X108.here hx rfl (hb hby at_194) rfl) ?_
      show ∃ t o, Steps p.tables e below (T108.setTop (mkF m 197 #[.val (.int f1), .val (.int x1), .val (.int y1), .val (.int z1), .val (.int (1 : Int32)), .val (.ref b_43), .val .null, .val (.ref b_82), .val (.ref b_85), .val (.ref b86), .val (.ref b_43), .val (.ref b_96), .val (.ref b_108)] [])) t ∧ _
      refine own_go (fun _ => XS.aload X108.here hx rfl (hb hby at_197) rfl rfl) ?_
      show ∃ t o, Steps p.tables e below (T108.setTop (mkF m 199 #[.val (.int f1), .val (.int x1), .val (.int y1), .val (.int z1), .val (.int (1 : Int32)), .val (.ref b_43), .val .null, .val (.ref b_82), .val (.ref b_85), .val (.ref b86), .val (.ref b_43), .val (.ref b_96), .val (.ref b_108)] [(.ref b_108)])) t ∧ _
      refine own_go (fun _ => XS.aload X108.here hx rfl (hb hby at_199) rfl rfl) ?_
      show ∃ t o, Steps p.tables e below (T108.setTop (mkF m 201 #[.val (.int f1), .val (.int x1), .val (.int y1), .val (.int z1), .val (.int (1 : Int32)), .val (.ref b_43), .val .null, .val (.ref b_82), .val (.ref b_85), .val (.ref b86), .val (.ref b_43), .val (.ref b_96), .val (.ref b_108)] [(.ref b_96), (.ref b_108)])) t ∧ _
      have ne109 : b_108 ≠ b_96 := own_ne (by omega)
      refine own_go (fun _ => Jvm.RoadKit.acmp (g := (mkF m 201 #[.val (.int f1), .val (.int x1), .val (.int y1), .val (.int z1), .val (.int (1 : Int32)), .val (.ref b_43), .val .null, .val (.ref b_82), .val (.ref b_85), .val (.ref b86), .val (.ref b_43), .val (.ref b_96), .val (.ref b_108)] [(.ref b_96), (.ref b_108)])) X108 hx rfl rfl rfl (pc0 := 201) (pc' := 204) (same := false) rfl (hb hby at_201) rfl (decide_eq_false fun q => ne109 (Value.ref.inj q)) (by decide) (by decide)) ?_
      show ∃ t o, Steps p.tables e below (T108.setTop (mkF m 204 #[.val (.int f1), .val (.int x1), .val (.int y1), .val (.int z1), .val (.int (1 : Int32)), .val (.ref b_43), .val .null, .val (.ref b_82), .val (.ref b_85), .val (.ref b86), .val (.ref b_43), .val (.ref b_96), .val (.ref b_108)] [])) t ∧ _
      refine own_go (fun _ => XS.aload X108.here hx rfl (hb hby at_204) rfl rfl) ?_
      show ∃ t o, Steps p.tables e below (T108.setTop (mkF m 206 #[.val (.int f1), .val (.int x1), .val (.int y1), .val (.int z1), .val (.int (1 : Int32)), .val (.ref b_43), .val .null, .val (.ref b_82), .val (.ref b_85), .val (.ref b86), .val (.ref b_43), .val (.ref b_96), .val (.ref b_108)] [(.ref b_108)])) t ∧ _
      obtain ⟨cl110, Ar110, q110, S110, N110, H110, G110⟩ := id G108_0
      have ln110 : cl110.slots.size.toInt32 = (1 : Int32) := len_of S110 N110
      have al110 := X108.arraylength hx Ar110.1 (State.isArrayOf_alike hZ.alike Ar110.2.1) (g := (mkF m 206 #[.val (.int f1), .val (.int x1), .val (.int y1), .val (.int z1), .val (.int (1 : Int32)), .val (.ref b_43), .val .null, .val (.ref b_82), .val (.ref b_85), .val (.ref b86), .val (.ref b_43), .val (.ref b_96), .val (.ref b_108)] [(.ref b_108)])) rfl rfl (hb hby at_206)
      rw [ln110] at al110
      refine own_go al110 ?_
      show ∃ t o, Steps p.tables e below (T108.setTop (mkF m 207 #[.val (.int f1), .val (.int x1), .val (.int y1), .val (.int z1), .val (.int (1 : Int32)), .val (.ref b_43), .val .null, .val (.ref b_82), .val (.ref b_85), .val (.ref b86), .val (.ref b_43), .val (.ref b_96), .val (.ref b_108)] [(.int (1 : Int32))])) t ∧ _
      refine own_go (fun _ => XS.iload X108.here hx rfl (hb hby at_207) rfl) ?_
      show ∃ t o, Steps p.tables e below (T108.setTop (mkF m 209 #[.val (.int f1), .val (.int x1), .val (.int y1), .val (.int z1), .val (.int (1 : Int32)), .val (.ref b_43), .val .null, .val (.ref b_82), .val (.ref b_85), .val (.ref b86), .val (.ref b_43), .val (.ref b_96), .val (.ref b_108)] [(.int (1 : Int32)), (.int (1 : Int32))])) t ∧ _
      refine own_go (fun _ => XS.icmpYes X108.here hx rfl (pc0 := 209) (pc' := 214) rfl (hb hby at_209) rfl (teq (by decide : (1 : Int32) = (1 : Int32))).1 (by decide) (by decide)) ?_
      show ∃ t o, Steps p.tables e below (T108.setTop (mkF m 214 #[.val (.int f1), .val (.int x1), .val (.int y1), .val (.int z1), .val (.int (1 : Int32)), .val (.ref b_43), .val .null, .val (.ref b_82), .val (.ref b_85), .val (.ref b86), .val (.ref b_43), .val (.ref b_96), .val (.ref b_108)] [])) t ∧ _
      refine own_go (fun _ => XS.aload X108.here hx rfl (hb hby at_214) rfl rfl) ?_
      show ∃ t o, Steps p.tables e below (T108.setTop (mkF m 216 #[.val (.int f1), .val (.int x1), .val (.int y1), .val (.int z1), .val (.int (1 : Int32)), .val (.ref b_43), .val .null, .val (.ref b_82), .val (.ref b_85), .val (.ref b86), .val (.ref b_43), .val (.ref b_96), .val (.ref b_108)] [(.ref b_108)])) t ∧ _
      refine own_go (fun _ => XS.iconst X108.here hx rfl (hb hby at_216)) ?_
      show ∃ t o, Steps p.tables e below (T108.setTop (mkF m 217 #[.val (.int f1), .val (.int x1), .val (.int y1), .val (.int z1), .val (.int (1 : Int32)), .val (.ref b_43), .val .null, .val (.ref b_82), .val (.ref b_85), .val (.ref b86), .val (.ref b_43), .val (.ref b_96), .val (.ref b_108)] [(.int (0 : Int32)), (.ref b_108)])) t ∧ _
      obtain ⟨cl111, Ar111, q111, S111, N111, H111, G111⟩ := id G108_0
      have hin111 : ¬ ((0 : Int32) < 0 ∨ cl111.slots.size ≤ ((0 : Int32)).toNatClampNeg) := inb_of S111 ⟨by decide, by decide⟩
      have hat111 : cl111.slots[((0 : Int32)).toNatClampNeg]? = some (.ref b_43) := Has.at H111 hin111 rfl
      refine own_go (fun _ => X108.aaload hx (j := (0 : Int32)) (v := (.ref b_43)) Ar111.1 (State.isArrayOf_alike hZ.alike Ar111.2.1) rfl Ar111.2.2 hin111 hat111 (g := (mkF m 217 #[.val (.int f1), .val (.int x1), .val (.int y1), .val (.int z1), .val (.int (1 : Int32)), .val (.ref b_43), .val .null, .val (.ref b_82), .val (.ref b_85), .val (.ref b86), .val (.ref b_43), .val (.ref b_96), .val (.ref b_108)] [(.int (0 : Int32)), (.ref b_108)])) rfl rfl (hb hby at_217) _) ?_
      show ∃ t o, Steps p.tables e below (T108.setTop (mkF m 218 #[.val (.int f1), .val (.int x1), .val (.int y1), .val (.int z1), .val (.int (1 : Int32)), .val (.ref b_43), .val .null, .val (.ref b_82), .val (.ref b_85), .val (.ref b86), .val (.ref b_43), .val (.ref b_96), .val (.ref b_108)] [(.ref b_43)])) t ∧ _
      refine own_go (fun _ => XS.aload X108.here hx rfl (hb hby at_218) rfl rfl) ?_
      show ∃ t o, Steps p.tables e below (T108.setTop (mkF m 220 #[.val (.int f1), .val (.int x1), .val (.int y1), .val (.int z1), .val (.int (1 : Int32)), .val (.ref b_43), .val .null, .val (.ref b_82), .val (.ref b_85), .val (.ref b86), .val (.ref b_43), .val (.ref b_96), .val (.ref b_108)] [(.ref b_43), (.ref b_43)])) t ∧ _
      refine own_go (fun _ => Jvm.RoadKit.acmp (g := (mkF m 220 #[.val (.int f1), .val (.int x1), .val (.int y1), .val (.int z1), .val (.int (1 : Int32)), .val (.ref b_43), .val .null, .val (.ref b_82), .val (.ref b_85), .val (.ref b86), .val (.ref b_43), .val (.ref b_96), .val (.ref b_108)] [(.ref b_43), (.ref b_43)])) X108 hx rfl rfl rfl (pc0 := 220) (pc' := 225) (same := true) rfl (hb hby at_220) rfl (decide_eq_true rfl) (by decide) (by decide)) ?_
      show ∃ t o, Steps p.tables e below (T108.setTop (mkF m 225 #[.val (.int f1), .val (.int x1), .val (.int y1), .val (.int z1), .val (.int (1 : Int32)), .val (.ref b_43), .val .null, .val (.ref b_82), .val (.ref b_85), .val (.ref b86), .val (.ref b_43), .val (.ref b_96), .val (.ref b_108)] [])) t ∧ _
      refine own_go (fun _ => XS.iload X108.here hx rfl (hb hby at_225) rfl) ?_
      show ∃ t o, Steps p.tables e below (T108.setTop (mkF m 227 #[.val (.int f1), .val (.int x1), .val (.int y1), .val (.int z1), .val (.int (1 : Int32)), .val (.ref b_43), .val .null, .val (.ref b_82), .val (.ref b_85), .val (.ref b86), .val (.ref b_43), .val (.ref b_96), .val (.ref b_108)] [(.int (1 : Int32))])) t ∧ _
      refine own_go (fun _ => XS.iconst X108.here hx rfl (hb hby at_227)) ?_
      show ∃ t o, Steps p.tables e below (T108.setTop (mkF m 228 #[.val (.int f1), .val (.int x1), .val (.int y1), .val (.int z1), .val (.int (1 : Int32)), .val (.ref b_43), .val .null, .val (.ref b_82), .val (.ref b_85), .val (.ref b86), .val (.ref b_43), .val (.ref b_96), .val (.ref b_108)] [(.int (1 : Int32)), (.int (1 : Int32))])) t ∧ _
      refine own_go (fun _ => XS.icmpYes X108.here hx rfl (pc0 := 228) (pc' := 242) rfl (hb hby at_228) rfl (flt (by decide : ¬ ((1 : Int32) < (1 : Int32)))).2.2.2 (by decide) (by decide)) ?_
      show ∃ t o, Steps p.tables e below (T108.setTop (mkF m 242 #[.val (.int f1), .val (.int x1), .val (.int y1), .val (.int z1), .val (.int (1 : Int32)), .val (.ref b_43), .val .null, .val (.ref b_82), .val (.ref b_85), .val (.ref b86), .val (.ref b_43), .val (.ref b_96), .val (.ref b_108)] [])) t ∧ _
      refine own_go (fun _ => XS.iload X108.here hx rfl (hb hby at_242) rfl) ?_
      show ∃ t o, Steps p.tables e below (T108.setTop (mkF m 244 #[.val (.int f1), .val (.int x1), .val (.int y1), .val (.int z1), .val (.int (1 : Int32)), .val (.ref b_43), .val .null, .val (.ref b_82), .val (.ref b_85), .val (.ref b86), .val (.ref b_43), .val (.ref b_96), .val (.ref b_108)] [(.int (1 : Int32))])) t ∧ _
      refine own_go (fun _ => XS.iconst X108.here hx rfl (hb hby at_244)) ?_
      show ∃ t o, Steps p.tables e below (T108.setTop (mkF m 245 #[.val (.int f1), .val (.int x1), .val (.int y1), .val (.int z1), .val (.int (1 : Int32)), .val (.ref b_43), .val .null, .val (.ref b_82), .val (.ref b_85), .val (.ref b86), .val (.ref b_43), .val (.ref b_96), .val (.ref b_108)] [(.int (2 : Int32)), (.int (1 : Int32))])) t ∧ _
      refine own_go (fun _ => XS.icmpYes X108.here hx rfl (pc0 := 245) (pc' := 259) rfl (hb hby at_245) rfl (flt (by decide : ¬ ((2 : Int32) < (1 : Int32)))).2.2.2 (by decide) (by decide)) ?_
      show ∃ t o, Steps p.tables e below (T108.setTop (mkF m 259 #[.val (.int f1), .val (.int x1), .val (.int y1), .val (.int z1), .val (.int (1 : Int32)), .val (.ref b_43), .val .null, .val (.ref b_82), .val (.ref b_85), .val (.ref b86), .val (.ref b_43), .val (.ref b_96), .val (.ref b_108)] [])) t ∧ _
      refine own_go (fun _ => XS.iconst X108.here hx rfl (hb hby at_259)) ?_
      show ∃ t o, Steps p.tables e below (T108.setTop (mkF m 260 #[.val (.int f1), .val (.int x1), .val (.int y1), .val (.int z1), .val (.int (1 : Int32)), .val (.ref b_43), .val .null, .val (.ref b_82), .val (.ref b_85), .val (.ref b86), .val (.ref b_43), .val (.ref b_96), .val (.ref b_108)] [(.int (1 : Int32))])) t ∧ _
      obtain ⟨fs, hr, hrun, hended, hW, hsame⟩ := X108.leave (v := some (.int (1 : Int32))) (fun h => by rw [Bd.returns] at h; cases h)
      refine ⟨_, _, ?_, hrun, hended, _, _, rfl, ?_, ⟨_, rfl⟩, hW, hsame.mono (by decide) (by decide)⟩
      · exact retN X108 hx (t := .boolean) Bd.returns (by simp) (hb hby at_260) hr
      · show Q_rm0 Z f1 x1 y1 z1 caI ccI caL ccL h0 n0 _ T108.heap _
        exact ⟨rfl, N108, K108⟩
  · rw [hk]
    show ∃ t o, Steps p.tables e below (s₁.setTop (mkF m 5 #[.val (.int f1), .val (.int x1), .val (.int y1), .val (.int z1), .val (.int (2 : Int32)), .unset, .unset, .unset, .unset, .unset, .unset, .unset, .unset] [])) t ∧ _
    refine own_go (fun _ => XS.iloadN X0.here hx rfl (hb hby at_5) rfl) ?_
    show ∃ t o, Steps p.tables e below (s₁.setTop (mkF m 6 #[.val (.int f1), .val (.int x1), .val (.int y1), .val (.int z1), .val (.int (2 : Int32)), .unset, .unset, .unset, .unset, .unset, .unset, .unset, .unset] [(.int x1)])) t ∧ _
    obtain ⟨_, _, ⟨T112, L112, k112, n112⟩, -, X112, ⟨Lc112, hQ112, l112, y112, z112⟩, st112⟩ := Jvm.LawKit.callS X0 hx (y := (⟨"java/lang/Integer", "valueOf", "(I)Ljava/lang/Integer;"⟩ : MethodName)) hown (mvT hZ (hw _ (List.mem_of_getElem? (i := 0) rfl))) (mvT hZ (hw _ (List.mem_of_getElem? (i := 1) rfl))) (mvT hZ (hw _ (List.mem_of_getElem? (i := 2) rfl))) (mvT hZ (hw _ (List.mem_of_getElem? (i := 3) rfl))) (by decide) (backOf (W := 0) (rmIntOf l Z a0 hw [] x1 caI ccI h0 n0 Z0 OLD P1 P2 (BXI : Bxs Z caI ccI "java/lang/Integer" "I" (256 : Int32) own_ival)) hZ (hw _ (List.mem_of_getElem? (i := 3) rfl)) (hw _ (List.mem_of_getElem? (i := 2) rfl)) (by decide) (by decide)) (g := (mkF m 6 #[.val (.int f1), .val (.int x1), .val (.int y1), .val (.int z1), .val (.int (2 : Int32)), .unset, .unset, .unset, .unset, .unset, .unset, .unset, .unset] [(.int x1)])) rfl (by rw [hml]; rfl) (argsL := [(.int x1)]) (rest := []) (lenOf pd__28I_29Ljava_2flang_2fInteger_3b rfl) rfl (by show 2 * 0 + _ ≤ _; exact Nat.le_of_eq rfl) (hb hby at_6) (fun _ _ => ⟨rfl, e0, (by decide : 0 + 1 ≤ _), (by decide : 0 + 1 ≤ _)⟩)
    dsimp only [Pt.U, Pt.locs, Pt.cells, Pt.slots] at X112 l112 y112 z112 st112 hQ112
    subst l112 y112 z112
    obtain ⟨b_112, rv_112, rfl, Nq112, Kp112, G112_0, G112_1⟩ := hQ112
    have N112 := Fr.app N0 Nq112
    refine own_go st112 ?_
    have le_112 : h0.size ≤ T112.heap.size := Kp112.1
    have K112 : Keep h0 T112.heap [] := Keep.trans (Keep.refl h0 []) Kp112 all0
    have lt_b_112 : b_112 < T112.heap.size := (G112_0).lt
    show ∃ t o, Steps p.tables e below (T112.setTop (mkF m 9 #[.val (.int f1), .val (.int x1), .val (.int y1), .val (.int z1), .val (.int (2 : Int32)), .unset, .unset, .unset, .unset, .unset, .unset, .unset, .unset] [(.ref b_112)])) t ∧ _
    refine own_go (fun _ => XS.astore X112.here hx rfl (hb hby at_9) rfl rfl (l' := #[.val (.int f1), .val (.int x1), .val (.int y1), .val (.int z1), .val (.int (2 : Int32)), .val (.ref b_112), .unset, .unset, .unset, .unset, .unset, .unset, .unset]) rfl) ?_
    show ∃ t o, Steps p.tables e below (T112.setTop (mkF m 11 #[.val (.int f1), .val (.int x1), .val (.int y1), .val (.int z1), .val (.int (2 : Int32)), .val (.ref b_112), .unset, .unset, .unset, .unset, .unset, .unset, .unset] [])) t ∧ _
    refine own_go (fun _ => XS.iloadN X112.here hx rfl (hb hby at_11) rfl) ?_
    show ∃ t o, Steps p.tables e below (T112.setTop (mkF m 12 #[.val (.int f1), .val (.int x1), .val (.int y1), .val (.int z1), .val (.int (2 : Int32)), .val (.ref b_112), .unset, .unset, .unset, .unset, .unset, .unset, .unset] [(.int f1)])) t ∧ _
    refine own_go (fun _ => XS.iconst X112.here hx rfl (hb hby at_12)) ?_
    show ∃ t o, Steps p.tables e below (T112.setTop (mkF m 13 #[.val (.int f1), .val (.int x1), .val (.int y1), .val (.int z1), .val (.int (2 : Int32)), .val (.ref b_112), .unset, .unset, .unset, .unset, .unset, .unset, .unset] [(.int (4 : Int32)), (.int f1)])) t ∧ _
    refine own_go (fun _ => XS.iand X112.here hx rfl (hb hby at_13) rfl) ?_
    show ∃ t o, Steps p.tables e below (T112.setTop (mkF m 14 #[.val (.int f1), .val (.int x1), .val (.int y1), .val (.int z1), .val (.int (2 : Int32)), .val (.ref b_112), .unset, .unset, .unset, .unset, .unset, .unset, .unset] [(.int (f1 &&& (4 : Int32)))])) t ∧ _
    by_cases hc113 : (f1 &&& (4 : Int32)) = (0 : Int32)
    · refine own_go (fun _ => XS.ifYes X112.here hx rfl (pc0 := 14) (pc' := 21) rfl (hb hby at_14) rfl ((if0 _ _).trans (teq hc113).1) (by decide) (by decide)) ?_
      show ∃ t o, Steps p.tables e below (T112.setTop (mkF m 21 #[.val (.int f1), .val (.int x1), .val (.int y1), .val (.int z1), .val (.int (2 : Int32)), .val (.ref b_112), .unset, .unset, .unset, .unset, .unset, .unset, .unset] [])) t ∧ _
      refine own_go (fun _ => XS.iloadN X112.here hx rfl (hb hby at_21) rfl) ?_
      show ∃ t o, Steps p.tables e below (T112.setTop (mkF m 22 #[.val (.int f1), .val (.int x1), .val (.int y1), .val (.int z1), .val (.int (2 : Int32)), .val (.ref b_112), .unset, .unset, .unset, .unset, .unset, .unset, .unset] [(.int y1)])) t ∧ _
      have F114 : Old Z n0 T112.heap := (Old.keep OLD Kp112 all0)
      have zl115 : n0 ≤ T112.heap.size := by omega
      obtain ⟨_, _, ⟨T116, L116, k116, n116⟩, -, X116, ⟨Lc116, hQ116, l116, y116, z116⟩, st116⟩ := Jvm.LawKit.callS X112 hx (y := (⟨"java/lang/Integer", "valueOf", "(I)Ljava/lang/Integer;"⟩ : MethodName)) hown (mvT hZ (hw _ (List.mem_of_getElem? (i := 0) rfl))) (mvT hZ (hw _ (List.mem_of_getElem? (i := 1) rfl))) (mvT hZ (hw _ (List.mem_of_getElem? (i := 2) rfl))) (mvT hZ (hw _ (List.mem_of_getElem? (i := 3) rfl))) (by decide) (backOf (W := 0) (rmIntOf l Z a0 hw [] y1 caI ccI T112.heap n0 zl115 F114 P1 P2 (BXI : Bxs Z caI ccI "java/lang/Integer" "I" (256 : Int32) own_ival)) hZ (hw _ (List.mem_of_getElem? (i := 3) rfl)) (hw _ (List.mem_of_getElem? (i := 2) rfl)) (by decide) (by decide)) (g := (mkF m 22 #[.val (.int f1), .val (.int x1), .val (.int y1), .val (.int z1), .val (.int (2 : Int32)), .val (.ref b_112), .unset, .unset, .unset, .unset, .unset, .unset, .unset] [(.int y1)])) rfl (by rw [hml]; rfl) (argsL := [(.int y1)]) (rest := []) (lenOf pd__28I_29Ljava_2flang_2fInteger_3b rfl) rfl (by show 2 * 0 + _ ≤ _; exact Nat.le_of_eq rfl) (hb hby at_22) (fun _ _ => ⟨rfl, rfl, (by decide : 1 + 1 ≤ _), (by decide : 1 + 1 ≤ _)⟩)
      dsimp only [Pt.U, Pt.locs, Pt.cells, Pt.slots] at X116 l116 y116 z116 st116 hQ116
      subst l116 y116 z116
      obtain ⟨b_116, rv_116, rfl, Nq116, Kp116, G116_0, G116_1⟩ := hQ116
      have N116 := Fr.app N112 Nq116
      refine own_go st116 ?_
      have le_116 : T112.heap.size ≤ T116.heap.size := Kp116.1
      have K116 : Keep h0 T116.heap [] := Keep.trans K112 Kp116 all0
      have lt_b_116 : b_116 < T116.heap.size := (G116_0).lt
      show ∃ t o, Steps p.tables e below (T116.setTop (mkF m 25 #[.val (.int f1), .val (.int x1), .val (.int y1), .val (.int z1), .val (.int (2 : Int32)), .val (.ref b_112), .unset, .unset, .unset, .unset, .unset, .unset, .unset] [(.ref b_116)])) t ∧ _
      refine own_go (fun _ => XS.astore X116.here hx rfl (hb hby at_25) rfl rfl (l' := #[.val (.int f1), .val (.int x1), .val (.int y1), .val (.int z1), .val (.int (2 : Int32)), .val (.ref b_112), .val (.ref b_116), .unset, .unset, .unset, .unset, .unset, .unset]) rfl) ?_
      show ∃ t o, Steps p.tables e below (T116.setTop (mkF m 27 #[.val (.int f1), .val (.int x1), .val (.int y1), .val (.int z1), .val (.int (2 : Int32)), .val (.ref b_112), .val (.ref b_116), .unset, .unset, .unset, .unset, .unset, .unset] [])) t ∧ _
      refine own_go (fun _ => XS.iloadN X116.here hx rfl (hb hby at_27) rfl) ?_
      show ∃ t o, Steps p.tables e below (T116.setTop (mkF m 28 #[.val (.int f1), .val (.int x1), .val (.int y1), .val (.int z1), .val (.int (2 : Int32)), .val (.ref b_112), .val (.ref b_116), .unset, .unset, .unset, .unset, .unset, .unset] [(.int z1)])) t ∧ _
      refine own_go (fun _ => XS.i2l X116.here hx rfl (hb hby at_28) rfl) ?_
      show ∃ t o, Steps p.tables e below (T116.setTop (mkF m 29 #[.val (.int f1), .val (.int x1), .val (.int y1), .val (.int z1), .val (.int (2 : Int32)), .val (.ref b_112), .val (.ref b_116), .unset, .unset, .unset, .unset, .unset, .unset] [(.long (z1.toInt64))])) t ∧ _
      have F117 : Old Z n0 T116.heap := (Old.keep F114 Kp116 all0)
      have zl118 : n0 ≤ T116.heap.size := by omega
      obtain ⟨_, _, ⟨T119, L119, k119, n119⟩, -, X119, ⟨Lc119, hQ119, l119, y119, z119⟩, st119⟩ := Jvm.LawKit.callS X116 hx (y := (⟨"java/lang/Long", "valueOf", "(J)Ljava/lang/Long;"⟩ : MethodName)) hown (mvT hZ (hw _ (List.mem_of_getElem? (i := 7) rfl))) (mvT hZ (hw _ (List.mem_of_getElem? (i := 8) rfl))) (mvT hZ (hw _ (List.mem_of_getElem? (i := 9) rfl))) (mvT hZ (hw _ (List.mem_of_getElem? (i := 10) rfl))) (by decide) (backOf (W := 0) (rmLongOf l Z a0 hw [] (z1.toInt64) caL ccL T116.heap n0 zl118 F117 P3 (BXL : Bxs Z caL ccL "java/lang/Long" "J" (256 : Int32) own_lval)) hZ (hw _ (List.mem_of_getElem? (i := 10) rfl)) (hw _ (List.mem_of_getElem? (i := 9) rfl)) (by decide) (by decide)) (g := (mkF m 29 #[.val (.int f1), .val (.int x1), .val (.int y1), .val (.int z1), .val (.int (2 : Int32)), .val (.ref b_112), .val (.ref b_116), .unset, .unset, .unset, .unset, .unset, .unset] [(.long (z1.toInt64))])) rfl (by rw [hml]; rfl) (argsL := [(.long (z1.toInt64))]) (rest := []) (lenOf pd__28J_29Ljava_2flang_2fLong_3b rfl) rfl (by show 2 * 0 + _ ≤ _; exact Nat.le_of_eq rfl) (hb hby at_29) (fun _ _ => ⟨rfl, rfl, (by decide : 2 + 1 ≤ _), (by decide : 2 + 1 ≤ _)⟩)
      dsimp only [Pt.U, Pt.locs, Pt.cells, Pt.slots] at X119 l119 y119 z119 st119 hQ119
      subst l119 y119 z119
      obtain ⟨b_119, rv_119, rfl, Nq119, Kp119, G119_0, G119_1⟩ := hQ119
      have N119 := Fr.app N116 Nq119
      refine own_go st119 ?_
      have le_119 : T116.heap.size ≤ T119.heap.size := Kp119.1
      have K119 : Keep h0 T119.heap [] := Keep.trans K116 Kp119 all0
      have lt_b_119 : b_119 < T119.heap.size := (G119_0).lt
      show ∃ t o, Steps p.tables e below (T119.setTop (mkF m 32 #[.val (.int f1), .val (.int x1), .val (.int y1), .val (.int z1), .val (.int (2 : Int32)), .val (.ref b_112), .val (.ref b_116), .unset, .unset, .unset, .unset, .unset, .unset] [(.ref b_119)])) t ∧ _
      refine own_go (fun _ => XS.astore X119.here hx rfl (hb hby at_32) rfl rfl (l' := #[.val (.int f1), .val (.int x1), .val (.int y1), .val (.int z1), .val (.int (2 : Int32)), .val (.ref b_112), .val (.ref b_116), .val (.ref b_119), .unset, .unset, .unset, .unset, .unset]) rfl) ?_
      show ∃ t o, Steps p.tables e below (T119.setTop (mkF m 34 #[.val (.int f1), .val (.int x1), .val (.int y1), .val (.int z1), .val (.int (2 : Int32)), .val (.ref b_112), .val (.ref b_116), .val (.ref b_119), .unset, .unset, .unset, .unset, .unset] [])) t ∧ _
      refine own_go (fun _ => XS.iloadN X119.here hx rfl (hb hby at_34) rfl) ?_
      show ∃ t o, Steps p.tables e below (T119.setTop (mkF m 35 #[.val (.int f1), .val (.int x1), .val (.int y1), .val (.int z1), .val (.int (2 : Int32)), .val (.ref b_112), .val (.ref b_116), .val (.ref b_119), .unset, .unset, .unset, .unset, .unset] [(.int x1)])) t ∧ _
      refine own_go (fun _ => XS.iconst X119.here hx rfl (hb hby at_35)) ?_
      show ∃ t o, Steps p.tables e below (T119.setTop (mkF m 36 #[.val (.int f1), .val (.int x1), .val (.int y1), .val (.int z1), .val (.int (2 : Int32)), .val (.ref b_112), .val (.ref b_116), .val (.ref b_119), .unset, .unset, .unset, .unset, .unset] [(.int (1 : Int32)), (.int x1)])) t ∧ _
      refine own_go (fun _ => XS.ixor X119.here hx rfl (hb hby at_36) rfl) ?_
      show ∃ t o, Steps p.tables e below (T119.setTop (mkF m 37 #[.val (.int f1), .val (.int x1), .val (.int y1), .val (.int z1), .val (.int (2 : Int32)), .val (.ref b_112), .val (.ref b_116), .val (.ref b_119), .unset, .unset, .unset, .unset, .unset] [(.int (x1 ^^^ (1 : Int32)))])) t ∧ _
      have F120 : Old Z n0 T119.heap := (Old.keep F117 Kp119 all0)
      have zl121 : n0 ≤ T119.heap.size := by omega
      obtain ⟨_, _, ⟨T122, L122, k122, n122⟩, -, X122, ⟨Lc122, hQ122, l122, y122, z122⟩, st122⟩ := Jvm.LawKit.callS X119 hx (y := (⟨"java/lang/Integer", "valueOf", "(I)Ljava/lang/Integer;"⟩ : MethodName)) hown (mvT hZ (hw _ (List.mem_of_getElem? (i := 0) rfl))) (mvT hZ (hw _ (List.mem_of_getElem? (i := 1) rfl))) (mvT hZ (hw _ (List.mem_of_getElem? (i := 2) rfl))) (mvT hZ (hw _ (List.mem_of_getElem? (i := 3) rfl))) (by decide) (backOf (W := 0) (rmIntOf l Z a0 hw [] ((x1 ^^^ (1 : Int32))) caI ccI T119.heap n0 zl121 F120 P1 P2 (BXI : Bxs Z caI ccI "java/lang/Integer" "I" (256 : Int32) own_ival)) hZ (hw _ (List.mem_of_getElem? (i := 3) rfl)) (hw _ (List.mem_of_getElem? (i := 2) rfl)) (by decide) (by decide)) (g := (mkF m 37 #[.val (.int f1), .val (.int x1), .val (.int y1), .val (.int z1), .val (.int (2 : Int32)), .val (.ref b_112), .val (.ref b_116), .val (.ref b_119), .unset, .unset, .unset, .unset, .unset] [(.int (x1 ^^^ (1 : Int32)))])) rfl (by rw [hml]; rfl) (argsL := [(.int (x1 ^^^ (1 : Int32)))]) (rest := []) (lenOf pd__28I_29Ljava_2flang_2fInteger_3b rfl) rfl (by show 2 * 0 + _ ≤ _; exact Nat.le_of_eq rfl) (hb hby at_37) (fun _ _ => ⟨rfl, rfl, (by decide : 3 + 1 ≤ _), (by decide : 3 + 1 ≤ _)⟩)
      dsimp only [Pt.U, Pt.locs, Pt.cells, Pt.slots] at X122 l122 y122 z122 st122 hQ122
      subst l122 y122 z122
      obtain ⟨b_122, rv_122, rfl, Nq122, Kp122, G122_0, G122_1⟩ := hQ122
      have N122 := Fr.app N119 Nq122
      refine own_go st122 ?_
      have le_122 : T119.heap.size ≤ T122.heap.size := Kp122.1
      have K122 : Keep h0 T122.heap [] := Keep.trans K119 Kp122 all0
      have lt_b_122 : b_122 < T122.heap.size := (G122_0).lt
      show ∃ t o, Steps p.tables e below (T122.setTop (mkF m 40 #[.val (.int f1), .val (.int x1), .val (.int y1), .val (.int z1), .val (.int (2 : Int32)), .val (.ref b_112), .val (.ref b_116), .val (.ref b_119), .unset, .unset, .unset, .unset, .unset] [(.ref b_122)])) t ∧ _
      refine own_go (fun _ => XS.astore X122.here hx rfl (hb hby at_40) rfl rfl (l' := #[.val (.int f1), .val (.int x1), .val (.int y1), .val (.int z1), .val (.int (2 : Int32)), .val (.ref b_112), .val (.ref b_116), .val (.ref b_119), .val (.ref b_122), .unset, .unset, .unset, .unset]) rfl) ?_
      show ∃ t o, Steps p.tables e below (T122.setTop (mkF m 42 #[.val (.int f1), .val (.int x1), .val (.int y1), .val (.int z1), .val (.int (2 : Int32)), .val (.ref b_112), .val (.ref b_116), .val (.ref b_119), .val (.ref b_122), .unset, .unset, .unset, .unset] [])) t ∧ _
      refine own_go (fun _ => XS.iload X122.here hx rfl (hb hby at_42) rfl) ?_
      show ∃ t o, Steps p.tables e below (T122.setTop (mkF m 44 #[.val (.int f1), .val (.int x1), .val (.int y1), .val (.int z1), .val (.int (2 : Int32)), .val (.ref b_112), .val (.ref b_116), .val (.ref b_119), .val (.ref b_122), .unset, .unset, .unset, .unset] [(.int (2 : Int32))])) t ∧ _
      obtain ⟨T123, h123, k123, X123, e123, E123, A123, Q123, O123, st123⟩ := newRE X122 hx hZ hown (hw _ (List.mem_of_getElem? (i := 15) rfl)) (hw _ (List.mem_of_getElem? (i := 16) rfl)) rfl (g := (mkF m 44 #[.val (.int f1), .val (.int x1), .val (.int y1), .val (.int z1), .val (.int (2 : Int32)), .val (.ref b_112), .val (.ref b_116), .val (.ref b_119), .val (.ref b_122), .unset, .unset, .unset, .unset] [(.int (2 : Int32))])) rfl (hb hby at_44) rfl (by decide) (cap := 2) (by decide) (by decide) (by decide) (by decide) (ad := "[Ljava/lang/Object;") rfl
      obtain ⟨b123, g123⟩ : ∃ z, z = T122.heap.size := ⟨_, rfl⟩
      rw [← g123] at A123 Q123 st123
      refine own_go st123 ?_
      have le_123 : T122.heap.size ≤ h123.size := E123.1
      have lt_b123 : b123 < h123.size := A123.lt
      have V_b123 : Arv Z h123 b123 k123 (.object "java/lang/Object") (2 : Int32) [.null, .null] .null := (Arv.new A123 (by decide)).pad (pad_rep [] .null 2)
      have K123 : Keep h0 h123 [] := Keep.ext K122 E123
      show ∃ t o, Steps p.tables e below (T123.setTop (mkF m 47 #[.val (.int f1), .val (.int x1), .val (.int y1), .val (.int z1), .val (.int (2 : Int32)), .val (.ref b_112), .val (.ref b_116), .val (.ref b_119), .val (.ref b_122), .unset, .unset, .unset, .unset] [(.ref b123)])) t ∧ _
      refine own_go (fun _ => XS.astore X123.here hx rfl (hb hby at_47) rfl rfl (l' := #[.val (.int f1), .val (.int x1), .val (.int y1), .val (.int z1), .val (.int (2 : Int32)), .val (.ref b_112), .val (.ref b_116), .val (.ref b_119), .val (.ref b_122), .val (.ref b123), .unset, .unset, .unset]) rfl) ?_
      show ∃ t o, Steps p.tables e below (T123.setTop (mkF m 49 #[.val (.int f1), .val (.int x1), .val (.int y1), .val (.int z1), .val (.int (2 : Int32)), .val (.ref b_112), .val (.ref b_116), .val (.ref b_119), .val (.ref b_122), .val (.ref b123), .unset, .unset, .unset] [])) t ∧ _
      refine own_go (fun _ => XS.iload X123.here hx rfl (hb hby at_49) rfl) ?_
      show ∃ t o, Steps p.tables e below (T123.setTop (mkF m 51 #[.val (.int f1), .val (.int x1), .val (.int y1), .val (.int z1), .val (.int (2 : Int32)), .val (.ref b_112), .val (.ref b_116), .val (.ref b_119), .val (.ref b_122), .val (.ref b123), .unset, .unset, .unset] [(.int (2 : Int32))])) t ∧ _
      refine own_go (fun _ => XS.ifNo X123.here hx rfl (hb hby at_51) rfl ((if0 _ _).trans (tlt (by decide : (0 : Int32) < (2 : Int32))).2.2.2)) ?_
      show ∃ t o, Steps p.tables e below (T123.setTop (mkF m 54 #[.val (.int f1), .val (.int x1), .val (.int y1), .val (.int z1), .val (.int (2 : Int32)), .val (.ref b_112), .val (.ref b_116), .val (.ref b_119), .val (.ref b_122), .val (.ref b123), .unset, .unset, .unset] [])) t ∧ _
      refine own_go (fun _ => XS.aload X123.here hx rfl (hb hby at_54) rfl rfl) ?_
      show ∃ t o, Steps p.tables e below (T123.setTop (mkF m 56 #[.val (.int f1), .val (.int x1), .val (.int y1), .val (.int z1), .val (.int (2 : Int32)), .val (.ref b_112), .val (.ref b_116), .val (.ref b_119), .val (.ref b_122), .val (.ref b123), .unset, .unset, .unset] [(.ref b123)])) t ∧ _
      refine own_go (fun _ => XS.iconst X123.here hx rfl (hb hby at_56)) ?_
      show ∃ t o, Steps p.tables e below (T123.setTop (mkF m 57 #[.val (.int f1), .val (.int x1), .val (.int y1), .val (.int z1), .val (.int (2 : Int32)), .val (.ref b_112), .val (.ref b_116), .val (.ref b_119), .val (.ref b_122), .val (.ref b123), .unset, .unset, .unset] [(.int (0 : Int32)), (.ref b123)])) t ∧ _
      refine own_go (fun _ => XS.aload X123.here hx rfl (hb hby at_57) rfl rfl) ?_
      show ∃ t o, Steps p.tables e below (T123.setTop (mkF m 59 #[.val (.int f1), .val (.int x1), .val (.int y1), .val (.int z1), .val (.int (2 : Int32)), .val (.ref b_112), .val (.ref b_116), .val (.ref b_119), .val (.ref b_122), .val (.ref b123), .unset, .unset, .unset] [(.ref b_112), (.int (0 : Int32)), (.ref b123)])) t ∧ _
      obtain ⟨cl124, Ar124, q124, S124, N124, H124, G124⟩ := id V_b123
      have hin124 : ¬ ((0 : Int32) < 0 ∨ cl124.slots.size ≤ ((0 : Int32)).toNatClampNeg) := inb_of S124 ⟨by decide, by decide⟩
      have F125 : Exa Z h123 b_112 "java/lang/Integer" := (Exa.ext E123 (Exa.keep (Exa.keep (Exa.keep G112_0 Kp116) Kp119) Kp122))
      obtain ⟨T126, h126, X126, e126, W126, st126⟩ := stR X123 hx hZ e123 Ar124 (j := (0 : Int32)) hin124 rfl (Sto.ofV Ar124 q124 O123 (Ins.of_exa F125 (hw _ (List.mem_of_getElem? (i := 75) rfl)))) (g := (mkF m 59 #[.val (.int f1), .val (.int x1), .val (.int y1), .val (.int z1), .val (.int (2 : Int32)), .val (.ref b_112), .val (.ref b_116), .val (.ref b_119), .val (.ref b_122), .val (.ref b123), .unset, .unset, .unset] [(.ref b_112), (.int (0 : Int32)), (.ref b123)])) rfl rfl (hb hby at_59)
      refine own_go st126 ?_
      have ge127 : n0 ≤ b123 := by omega
      have le_126 : h123.size ≤ h126.size := Nat.le_of_eq W126.size.symm
      have sz128 : h0.size ≤ b123 := by omega
      have K126 : Keep h0 h126 [] := Keep.wr K123 W126 (Or.inr sz128)
      have N126 := Fr.snoc X126 N122 ge127
      have V126 : Arv Z h126 b123 k123 (.object "java/lang/Object") (2 : Int32) [(.ref b_112), .null] .null := Arv.set Ar124 q124 S124 N124 H124 G124 rfl W126 0 rfl (Nat.le_of_ble_eq_true rfl)
      show ∃ t o, Steps p.tables e below (T126.setTop (mkF m 60 #[.val (.int f1), .val (.int x1), .val (.int y1), .val (.int z1), .val (.int (2 : Int32)), .val (.ref b_112), .val (.ref b_116), .val (.ref b_119), .val (.ref b_122), .val (.ref b123), .unset, .unset, .unset] [])) t ∧ _
      refine own_go (fun _ => XS.iload X126.here hx rfl (hb hby at_60) rfl) ?_
      show ∃ t o, Steps p.tables e below (T126.setTop (mkF m 62 #[.val (.int f1), .val (.int x1), .val (.int y1), .val (.int z1), .val (.int (2 : Int32)), .val (.ref b_112), .val (.ref b_116), .val (.ref b_119), .val (.ref b_122), .val (.ref b123), .unset, .unset, .unset] [(.int (2 : Int32))])) t ∧ _
      refine own_go (fun _ => XS.iconst X126.here hx rfl (hb hby at_62)) ?_
      show ∃ t o, Steps p.tables e below (T126.setTop (mkF m 63 #[.val (.int f1), .val (.int x1), .val (.int y1), .val (.int z1), .val (.int (2 : Int32)), .val (.ref b_112), .val (.ref b_116), .val (.ref b_119), .val (.ref b_122), .val (.ref b123), .unset, .unset, .unset] [(.int (1 : Int32)), (.int (2 : Int32))])) t ∧ _
      refine own_go (fun _ => XS.icmpNo X126.here hx rfl (hb hby at_63) rfl (tlt (by decide : (1 : Int32) < (2 : Int32))).2.2.2) ?_
      show ∃ t o, Steps p.tables e below (T126.setTop (mkF m 66 #[.val (.int f1), .val (.int x1), .val (.int y1), .val (.int z1), .val (.int (2 : Int32)), .val (.ref b_112), .val (.ref b_116), .val (.ref b_119), .val (.ref b_122), .val (.ref b123), .unset, .unset, .unset] [])) t ∧ _
      refine own_go (fun _ => XS.aload X126.here hx rfl (hb hby at_66) rfl rfl) ?_
      show ∃ t o, Steps p.tables e below (T126.setTop (mkF m 68 #[.val (.int f1), .val (.int x1), .val (.int y1), .val (.int z1), .val (.int (2 : Int32)), .val (.ref b_112), .val (.ref b_116), .val (.ref b_119), .val (.ref b_122), .val (.ref b123), .unset, .unset, .unset] [(.ref b123)])) t ∧ _
      refine own_go (fun _ => XS.iconst X126.here hx rfl (hb hby at_68)) ?_
      show ∃ t o, Steps p.tables e below (T126.setTop (mkF m 69 #[.val (.int f1), .val (.int x1), .val (.int y1), .val (.int z1), .val (.int (2 : Int32)), .val (.ref b_112), .val (.ref b_116), .val (.ref b_119), .val (.ref b_122), .val (.ref b123), .unset, .unset, .unset] [(.int (1 : Int32)), (.ref b123)])) t ∧ _
      refine own_go (fun _ => XS.aload X126.here hx rfl (hb hby at_69) rfl rfl) ?_
      show ∃ t o, Steps p.tables e below (T126.setTop (mkF m 71 #[.val (.int f1), .val (.int x1), .val (.int y1), .val (.int z1), .val (.int (2 : Int32)), .val (.ref b_112), .val (.ref b_116), .val (.ref b_119), .val (.ref b_122), .val (.ref b123), .unset, .unset, .unset] [(.ref b_116), (.int (1 : Int32)), (.ref b123)])) t ∧ _
      obtain ⟨cl129, Ar129, q129, S129, N129, H129, G129⟩ := id V126
      have hin129 : ¬ ((1 : Int32) < 0 ∨ cl129.slots.size ≤ ((1 : Int32)).toNatClampNeg) := inb_of S129 ⟨by decide, by decide⟩
      have F130 : Exa Z h126 b_116 "java/lang/Integer" := (Exa.wr W126 (Exa.ext E123 (Exa.keep (Exa.keep G116_0 Kp119) Kp122)))
      obtain ⟨T131, h131, X131, e131, W131, st131⟩ := stR X126 hx hZ e126 Ar129 (j := (1 : Int32)) hin129 rfl (Sto.ofV Ar129 q129 O123 (Ins.of_exa F130 (hw _ (List.mem_of_getElem? (i := 75) rfl)))) (g := (mkF m 71 #[.val (.int f1), .val (.int x1), .val (.int y1), .val (.int z1), .val (.int (2 : Int32)), .val (.ref b_112), .val (.ref b_116), .val (.ref b_119), .val (.ref b_122), .val (.ref b123), .unset, .unset, .unset] [(.ref b_116), (.int (1 : Int32)), (.ref b123)])) rfl rfl (hb hby at_71)
      refine own_go st131 ?_
      have le_131 : h126.size ≤ h131.size := Nat.le_of_eq W131.size.symm
      have K131 : Keep h0 h131 [] := Keep.wr K126 W131 (Or.inr sz128)
      have N131 := Fr.snoc X131 N126 ge127
      have V131 : Arv Z h131 b123 k123 (.object "java/lang/Object") (2 : Int32) [(.ref b_112), (.ref b_116)] .null := Arv.set Ar129 q129 S129 N129 H129 G129 rfl W131 1 rfl (Nat.le_of_ble_eq_true rfl)
      show ∃ t o, Steps p.tables e below (T131.setTop (mkF m 72 #[.val (.int f1), .val (.int x1), .val (.int y1), .val (.int z1), .val (.int (2 : Int32)), .val (.ref b_112), .val (.ref b_116), .val (.ref b_119), .val (.ref b_122), .val (.ref b123), .unset, .unset, .unset] [])) t ∧ _
      refine own_go (fun _ => XS.iload X131.here hx rfl (hb hby at_72) rfl) ?_
      show ∃ t o, Steps p.tables e below (T131.setTop (mkF m 74 #[.val (.int f1), .val (.int x1), .val (.int y1), .val (.int z1), .val (.int (2 : Int32)), .val (.ref b_112), .val (.ref b_116), .val (.ref b_119), .val (.ref b_122), .val (.ref b123), .unset, .unset, .unset] [(.int (2 : Int32))])) t ∧ _
      refine own_go (fun _ => XS.iconst X131.here hx rfl (hb hby at_74)) ?_
      show ∃ t o, Steps p.tables e below (T131.setTop (mkF m 75 #[.val (.int f1), .val (.int x1), .val (.int y1), .val (.int z1), .val (.int (2 : Int32)), .val (.ref b_112), .val (.ref b_116), .val (.ref b_119), .val (.ref b_122), .val (.ref b123), .unset, .unset, .unset] [(.int (2 : Int32)), (.int (2 : Int32))])) t ∧ _
      refine own_go (fun _ => XS.icmpYes X131.here hx rfl (pc0 := 75) (pc' := 84) rfl (hb hby at_75) rfl (flt (by decide : ¬ ((2 : Int32) < (2 : Int32)))).2.2.2 (by decide) (by decide)) ?_
      show ∃ t o, Steps p.tables e below (T131.setTop (mkF m 84 #[.val (.int f1), .val (.int x1), .val (.int y1), .val (.int z1), .val (.int (2 : Int32)), .val (.ref b_112), .val (.ref b_116), .val (.ref b_119), .val (.ref b_122), .val (.ref b123), .unset, .unset, .unset] [])) t ∧ _
      refine own_go (fun _ => XS.aload X131.here hx rfl (hb hby at_84) rfl rfl) ?_
      show ∃ t o, Steps p.tables e below (T131.setTop (mkF m 86 #[.val (.int f1), .val (.int x1), .val (.int y1), .val (.int z1), .val (.int (2 : Int32)), .val (.ref b_112), .val (.ref b_116), .val (.ref b_119), .val (.ref b_122), .val (.ref b123), .unset, .unset, .unset] [(.ref b123)])) t ∧ _
      have F132 : Exa Z h131 b_112 "java/lang/Integer" := (Exa.wr W131 (Exa.wr W126 F125))
      have ne133 : b_112 ≠ b123 := own_ne (by omega)
      have F134 : Fld Z h131 b_112 "java/lang/Integer" "value" "I" (.int rv_112) := (Fld.other W131 (Fld.other W126 (Fld.ext E123 (Fld.keep (Fld.keep (Fld.keep G112_1 Kp116 nin0) Kp119 nin0) Kp122 nin0)) (Or.inl ne133)) (Or.inl ne133))
      have F135 : Exa Z h131 b_116 "java/lang/Integer" := (Exa.wr W131 F130)
      have ne136 : b_116 ≠ b123 := own_ne (by omega)
      have F137 : Fld Z h131 b_116 "java/lang/Integer" "value" "I" (.int rv_116) := (Fld.other W131 (Fld.other W126 (Fld.ext E123 (Fld.keep (Fld.keep G116_1 Kp119 nin0) Kp122 nin0)) (Or.inl ne136)) (Or.inl ne136))
      have F138 : Old Z n0 h131 := (Old.wr (Old.wr ((Old.keep F120 Kp122 all0).ext E123) W126 ge127) W131 ge127)
      have zl139 : n0 ≤ h131.size := by omega
      obtain ⟨_, _, ⟨T140, L140, k140, n140⟩, -, X140, ⟨Lc140, hQ140, l140, y140, z140⟩, st140⟩ := Jvm.LawKit.callS X131 hx (y := (⟨"com/example/planwright/planwright/plan/Key", "of", "([Ljava/lang/Object;)Ljava/lang/Object;"⟩ : MethodName)) hown (mvT hZ (hw _ (List.mem_of_getElem? (i := 17) rfl))) (mvT hZ (hw _ (List.mem_of_getElem? (i := 18) rfl))) (mvT hZ (hw _ (List.mem_of_getElem? (i := 19) rfl))) (mvT hZ (hw _ (List.mem_of_getElem? (i := 20) rfl))) (by decide) (backOf (W := 0) (rmOf2 l Z a0 hw [] b123 k123 b_112 rv_112 b_116 rv_116 h131 n0 zl139 V131 F132 F134 F135 F137 F138) hZ (hw _ (List.mem_of_getElem? (i := 20) rfl)) (hw _ (List.mem_of_getElem? (i := 19) rfl)) (by decide) (by decide)) (g := (mkF m 86 #[.val (.int f1), .val (.int x1), .val (.int y1), .val (.int z1), .val (.int (2 : Int32)), .val (.ref b_112), .val (.ref b_116), .val (.ref b_119), .val (.ref b_122), .val (.ref b123), .unset, .unset, .unset] [(.ref b123)])) rfl (by rw [hml]; rfl) (argsL := [(.ref b123)]) (rest := []) (lenOf pd_hefb3f20f rfl) rfl (by show 2 * 0 + _ ≤ _; exact Nat.le_of_eq rfl) (hb hby at_86) (fun _ _ => ⟨rfl, e131, (by decide : 5 + 1 ≤ _), (by decide : 6 + 2 ≤ _)⟩)
      dsimp only [Pt.U, Pt.locs, Pt.cells, Pt.slots] at X140 l140 y140 z140 st140 hQ140
      subst l140 y140 z140
      obtain ⟨b_140, rfl, Nq140, Kp140, G140_0, G140_1, H140_0⟩ := hQ140
      have N140 := Fr.app N131 Nq140
      refine own_go st140 ?_
      have le_140 : h131.size ≤ T140.heap.size := Kp140.1
      have K140 : Keep h0 T140.heap [] := Keep.trans K131 Kp140 all0
      have lt_b_140 : b_140 < T140.heap.size := (G140_0).lt
      show ∃ t o, Steps p.tables e below (T140.setTop (mkF m 89 #[.val (.int f1), .val (.int x1), .val (.int y1), .val (.int z1), .val (.int (2 : Int32)), .val (.ref b_112), .val (.ref b_116), .val (.ref b_119), .val (.ref b_122), .val (.ref b123), .unset, .unset, .unset] [(.ref b_140)])) t ∧ _
      refine own_go (fun _ => XS.astore X140.here hx rfl (hb hby at_89) rfl rfl (l' := #[.val (.int f1), .val (.int x1), .val (.int y1), .val (.int z1), .val (.int (2 : Int32)), .val (.ref b_112), .val (.ref b_116), .val (.ref b_119), .val (.ref b_122), .val (.ref b123), .val (.ref b_140), .unset, .unset]) rfl) ?_
      show ∃ t o, Steps p.tables e below (T140.setTop (mkF m 91 #[.val (.int f1), .val (.int x1), .val (.int y1), .val (.int z1), .val (.int (2 : Int32)), .val (.ref b_112), .val (.ref b_116), .val (.ref b_119), .val (.ref b_122), .val (.ref b123), .val (.ref b_140), .unset, .unset] [])) t ∧ _
      refine own_go (fun _ => XS.aload X140.here hx rfl (hb hby at_91) rfl rfl) ?_
      show ∃ t o, Steps p.tables e below (T140.setTop (mkF m 93 #[.val (.int f1), .val (.int x1), .val (.int y1), .val (.int z1), .val (.int (2 : Int32)), .val (.ref b_112), .val (.ref b_116), .val (.ref b_119), .val (.ref b_122), .val (.ref b123), .val (.ref b_140), .unset, .unset] [(.ref b_140)])) t ∧ _
      refine own_go (fun _ => XS.iload X140.here hx rfl (hb hby at_93) rfl) ?_
      show ∃ t o, Steps p.tables e below (T140.setTop (mkF m 95 #[.val (.int f1), .val (.int x1), .val (.int y1), .val (.int z1), .val (.int (2 : Int32)), .val (.ref b_112), .val (.ref b_116), .val (.ref b_119), .val (.ref b_122), .val (.ref b123), .val (.ref b_140), .unset, .unset] [(.int (2 : Int32)), (.ref b_140)])) t ∧ _
      have F141 : Arv Z T140.heap b123 k123 (.object "java/lang/Object") (2 : Int32) [(.ref b_112), (.ref b_116)] .null := (Arv.keep V131 Kp140 nin0)
      have F142 : Exa Z T140.heap b123 "[Ljava/lang/Object;" := (Exa.keep (Exa.wr W131 (Exa.wr W126 Q123)) Kp140)
      have F143 : Old Z n0 T140.heap := (Old.keep F138 Kp140 all0)
      have zl144 : n0 ≤ T140.heap.size := by omega
      obtain ⟨_, _, ⟨T145, L145, k145, n145⟩, -, X145, ⟨Lc145, hQ145, l145, y145, z145⟩, st145⟩ := Jvm.LawKit.callS X140 hx (y := (⟨"com/example/planwright/planwright/plan/Key", "values", "(Ljava/lang/Object;I)[Ljava/lang/Object;"⟩ : MethodName)) hown (mvT hZ (hw _ (List.mem_of_getElem? (i := 37) rfl))) (mvT hZ (hw _ (List.mem_of_getElem? (i := 38) rfl))) (mvT hZ (hw _ (List.mem_of_getElem? (i := 19) rfl))) (mvT hZ (hw _ (List.mem_of_getElem? (i := 39) rfl))) (by decide) (backOf (W := 0) (rmVals2 l Z a0 hw [] b_140 b123 k123 b_112 b_116 T140.heap n0 zl144 G140_0 G140_1 F141 F142 F143) hZ (hw _ (List.mem_of_getElem? (i := 39) rfl)) (hw _ (List.mem_of_getElem? (i := 19) rfl)) (by decide) (by decide)) (g := (mkF m 95 #[.val (.int f1), .val (.int x1), .val (.int y1), .val (.int z1), .val (.int (2 : Int32)), .val (.ref b_112), .val (.ref b_116), .val (.ref b_119), .val (.ref b_122), .val (.ref b123), .val (.ref b_140), .unset, .unset] [(.int (2 : Int32)), (.ref b_140)])) rfl (by rw [hml]; rfl) (argsL := [(.ref b_140), (.int (2 : Int32))]) (rest := []) (lenOf pd_h9d814d6e rfl) rfl (by show 2 * 0 + _ ≤ _; exact Nat.le_of_eq rfl) (hb hby at_95) (fun _ _ => ⟨rfl, rfl, (by decide : 6 + 1 ≤ _), (by decide : 8 + 2 ≤ _)⟩)
      dsimp only [Pt.U, Pt.locs, Pt.cells, Pt.slots] at X145 l145 y145 z145 st145 hQ145
      subst l145 y145 z145
      obtain ⟨b_145, rfl, Nq145, Kp145, G145_0, H145_0⟩ := hQ145
      have N145 := Fr.app N140 Nq145
      refine own_go st145 ?_
      have le_145 : T140.heap.size ≤ T145.heap.size := Kp145.1
      have K145 : Keep h0 T145.heap [] := Keep.trans K140 Kp145 all0
      have lt_b_145 : b_145 < T145.heap.size := (G145_0).lt
      show ∃ t o, Steps p.tables e below (T145.setTop (mkF m 98 #[.val (.int f1), .val (.int x1), .val (.int y1), .val (.int z1), .val (.int (2 : Int32)), .val (.ref b_112), .val (.ref b_116), .val (.ref b_119), .val (.ref b_122), .val (.ref b123), .val (.ref b_140), .unset, .unset] [(.ref b_145)])) t ∧ _
      refine own_go (fun _ => XS.astore X145.here hx rfl (hb hby at_98) rfl rfl (l' := #[.val (.int f1), .val (.int x1), .val (.int y1), .val (.int z1), .val (.int (2 : Int32)), .val (.ref b_112), .val (.ref b_116), .val (.ref b_119), .val (.ref b_122), .val (.ref b123), .val (.ref b_140), .val (.ref b_145), .unset]) rfl) ?_
      show ∃ t o, Steps p.tables e below (T145.setTop (mkF m 100 #[.val (.int f1), .val (.int x1), .val (.int y1), .val (.int z1), .val (.int (2 : Int32)), .val (.ref b_112), .val (.ref b_116), .val (.ref b_119), .val (.ref b_122), .val (.ref b123), .val (.ref b_140), .val (.ref b_145), .unset] [])) t ∧ _
      refine own_go (fun _ => XS.aload X145.here hx rfl (hb hby at_100) rfl rfl) ?_
      show ∃ t o, Steps p.tables e below (T145.setTop (mkF m 102 #[.val (.int f1), .val (.int x1), .val (.int y1), .val (.int z1), .val (.int (2 : Int32)), .val (.ref b_112), .val (.ref b_116), .val (.ref b_119), .val (.ref b_122), .val (.ref b123), .val (.ref b_140), .val (.ref b_145), .unset] [(.ref b_145)])) t ∧ _
      refine own_go (fun _ => XS.ifnullNo X145.here hx rfl (hb hby at_102) rfl) ?_
      show ∃ t o, Steps p.tables e below (T145.setTop (mkF m 105 #[.val (.int f1), .val (.int x1), .val (.int y1), .val (.int z1), .val (.int (2 : Int32)), .val (.ref b_112), .val (.ref b_116), .val (.ref b_119), .val (.ref b_122), .val (.ref b123), .val (.ref b_140), .val (.ref b_145), .unset] [])) t ∧ _
      refine own_go (fun _ => XS.aload X145.here hx rfl (hb hby at_105) rfl rfl) ?_
      show ∃ t o, Steps p.tables e below (T145.setTop (mkF m 107 #[.val (.int f1), .val (.int x1), .val (.int y1), .val (.int z1), .val (.int (2 : Int32)), .val (.ref b_112), .val (.ref b_116), .val (.ref b_119), .val (.ref b_122), .val (.ref b123), .val (.ref b_140), .val (.ref b_145), .unset] [(.ref b_145)])) t ∧ _
      refine own_go (fun _ => XS.aload X145.here hx rfl (hb hby at_107) rfl rfl) ?_
      show ∃ t o, Steps p.tables e below (T145.setTop (mkF m 109 #[.val (.int f1), .val (.int x1), .val (.int y1), .val (.int z1), .val (.int (2 : Int32)), .val (.ref b_112), .val (.ref b_116), .val (.ref b_119), .val (.ref b_122), .val (.ref b123), .val (.ref b_140), .val (.ref b_145), .unset] [(.ref b123), (.ref b_145)])) t ∧ _
      have ne146 : b_145 ≠ b123 := own_ne (by omega)
      refine own_go (fun _ => Jvm.RoadKit.acmp (g := (mkF m 109 #[.val (.int f1), .val (.int x1), .val (.int y1), .val (.int z1), .val (.int (2 : Int32)), .val (.ref b_112), .val (.ref b_116), .val (.ref b_119), .val (.ref b_122), .val (.ref b123), .val (.ref b_140), .val (.ref b_145), .unset] [(.ref b123), (.ref b_145)])) X145 hx rfl rfl rfl (pc0 := 109) (pc' := 112) (same := false) rfl (hb hby at_109) rfl (decide_eq_false fun q => ne146 (Value.ref.inj q)) (by decide) (by decide)) ?_
      show ∃ t o, Steps p.tables e below (T145.setTop (mkF m 112 #[.val (.int f1), .val (.int x1), .val (.int y1), .val (.int z1), .val (.int (2 : Int32)), .val (.ref b_112), .val (.ref b_116), .val (.ref b_119), .val (.ref b_122), .val (.ref b123), .val (.ref b_140), .val (.ref b_145), .unset] [])) t ∧ _
      refine own_go (fun _ => XS.aload X145.here hx rfl (hb hby at_112) rfl rfl) ?_
      show ∃ t o, Steps p.tables e below (T145.setTop (mkF m 114 #[.val (.int f1), .val (.int x1), .val (.int y1), .val (.int z1), .val (.int (2 : Int32)), .val (.ref b_112), .val (.ref b_116), .val (.ref b_119), .val (.ref b_122), .val (.ref b123), .val (.ref b_140), .val (.ref b_145), .unset] [(.ref b_145)])) t ∧ _
      obtain ⟨cl147, Ar147, q147, S147, N147, H147, G147⟩ := id G145_0
      have ln147 : cl147.slots.size.toInt32 = (2 : Int32) := len_of S147 N147
      have al147 := X145.arraylength hx Ar147.1 (State.isArrayOf_alike hZ.alike Ar147.2.1) (g := (mkF m 114 #[.val (.int f1), .val (.int x1), .val (.int y1), .val (.int z1), .val (.int (2 : Int32)), .val (.ref b_112), .val (.ref b_116), .val (.ref b_119), .val (.ref b_122), .val (.ref b123), .val (.ref b_140), .val (.ref b_145), .unset] [(.ref b_145)])) rfl rfl (hb hby at_114)
      rw [ln147] at al147
      refine own_go al147 ?_
      show ∃ t o, Steps p.tables e below (T145.setTop (mkF m 115 #[.val (.int f1), .val (.int x1), .val (.int y1), .val (.int z1), .val (.int (2 : Int32)), .val (.ref b_112), .val (.ref b_116), .val (.ref b_119), .val (.ref b_122), .val (.ref b123), .val (.ref b_140), .val (.ref b_145), .unset] [(.int (2 : Int32))])) t ∧ _
      refine own_go (fun _ => XS.iload X145.here hx rfl (hb hby at_115) rfl) ?_
      show ∃ t o, Steps p.tables e below (T145.setTop (mkF m 117 #[.val (.int f1), .val (.int x1), .val (.int y1), .val (.int z1), .val (.int (2 : Int32)), .val (.ref b_112), .val (.ref b_116), .val (.ref b_119), .val (.ref b_122), .val (.ref b123), .val (.ref b_140), .val (.ref b_145), .unset] [(.int (2 : Int32)), (.int (2 : Int32))])) t ∧ _
      refine own_go (fun _ => XS.icmpYes X145.here hx rfl (pc0 := 117) (pc' := 122) rfl (hb hby at_117) rfl (teq (by decide : (2 : Int32) = (2 : Int32))).1 (by decide) (by decide)) ?_
      show ∃ t o, Steps p.tables e below (T145.setTop (mkF m 122 #[.val (.int f1), .val (.int x1), .val (.int y1), .val (.int z1), .val (.int (2 : Int32)), .val (.ref b_112), .val (.ref b_116), .val (.ref b_119), .val (.ref b_122), .val (.ref b123), .val (.ref b_140), .val (.ref b_145), .unset] [])) t ∧ _
      refine own_go (fun _ => XS.iload X145.here hx rfl (hb hby at_122) rfl) ?_
      show ∃ t o, Steps p.tables e below (T145.setTop (mkF m 124 #[.val (.int f1), .val (.int x1), .val (.int y1), .val (.int z1), .val (.int (2 : Int32)), .val (.ref b_112), .val (.ref b_116), .val (.ref b_119), .val (.ref b_122), .val (.ref b123), .val (.ref b_140), .val (.ref b_145), .unset] [(.int (2 : Int32))])) t ∧ _
      refine own_go (fun _ => XS.ifNo X145.here hx rfl (hb hby at_124) rfl ((if0 _ _).trans (tlt (by decide : (0 : Int32) < (2 : Int32))).2.2.2)) ?_
      show ∃ t o, Steps p.tables e below (T145.setTop (mkF m 127 #[.val (.int f1), .val (.int x1), .val (.int y1), .val (.int z1), .val (.int (2 : Int32)), .val (.ref b_112), .val (.ref b_116), .val (.ref b_119), .val (.ref b_122), .val (.ref b123), .val (.ref b_140), .val (.ref b_145), .unset] [])) t ∧ _
      refine own_go (fun _ => XS.aload X145.here hx rfl (hb hby at_127) rfl rfl) ?_
      show ∃ t o, Steps p.tables e below (T145.setTop (mkF m 129 #[.val (.int f1), .val (.int x1), .val (.int y1), .val (.int z1), .val (.int (2 : Int32)), .val (.ref b_112), .val (.ref b_116), .val (.ref b_119), .val (.ref b_122), .val (.ref b123), .val (.ref b_140), .val (.ref b_145), .unset] [(.ref b_145)])) t ∧ _
      refine own_go (fun _ => XS.iconst X145.here hx rfl (hb hby at_129)) ?_
      show ∃ t o, Steps p.tables e below (T145.setTop (mkF m 130 #[.val (.int f1), .val (.int x1), .val (.int y1), .val (.int z1), .val (.int (2 : Int32)), .val (.ref b_112), .val (.ref b_116), .val (.ref b_119), .val (.ref b_122), .val (.ref b123), .val (.ref b_140), .val (.ref b_145), .unset] [(.int (0 : Int32)), (.ref b_145)])) t ∧ _
      obtain ⟨cl148, Ar148, q148, S148, N148, H148, G148⟩ := id G145_0
      have hin148 : ¬ ((0 : Int32) < 0 ∨ cl148.slots.size ≤ ((0 : Int32)).toNatClampNeg) := inb_of S148 ⟨by decide, by decide⟩
      have hat148 : cl148.slots[((0 : Int32)).toNatClampNeg]? = some (.ref b_112) := Has.at H148 hin148 rfl
      refine own_go (fun _ => X145.aaload hx (j := (0 : Int32)) (v := (.ref b_112)) Ar148.1 (State.isArrayOf_alike hZ.alike Ar148.2.1) rfl Ar148.2.2 hin148 hat148 (g := (mkF m 130 #[.val (.int f1), .val (.int x1), .val (.int y1), .val (.int z1), .val (.int (2 : Int32)), .val (.ref b_112), .val (.ref b_116), .val (.ref b_119), .val (.ref b_122), .val (.ref b123), .val (.ref b_140), .val (.ref b_145), .unset] [(.int (0 : Int32)), (.ref b_145)])) rfl rfl (hb hby at_130) _) ?_
      show ∃ t o, Steps p.tables e below (T145.setTop (mkF m 131 #[.val (.int f1), .val (.int x1), .val (.int y1), .val (.int z1), .val (.int (2 : Int32)), .val (.ref b_112), .val (.ref b_116), .val (.ref b_119), .val (.ref b_122), .val (.ref b123), .val (.ref b_140), .val (.ref b_145), .unset] [(.ref b_112)])) t ∧ _
      refine own_go (fun _ => XS.aload X145.here hx rfl (hb hby at_131) rfl rfl) ?_
      show ∃ t o, Steps p.tables e below (T145.setTop (mkF m 133 #[.val (.int f1), .val (.int x1), .val (.int y1), .val (.int z1), .val (.int (2 : Int32)), .val (.ref b_112), .val (.ref b_116), .val (.ref b_119), .val (.ref b_122), .val (.ref b123), .val (.ref b_140), .val (.ref b_145), .unset] [(.ref b_112), (.ref b_112)])) t ∧ _
      refine own_go (fun _ => Jvm.RoadKit.acmp (g := (mkF m 133 #[.val (.int f1), .val (.int x1), .val (.int y1), .val (.int z1), .val (.int (2 : Int32)), .val (.ref b_112), .val (.ref b_116), .val (.ref b_119), .val (.ref b_122), .val (.ref b123), .val (.ref b_140), .val (.ref b_145), .unset] [(.ref b_112), (.ref b_112)])) X145 hx rfl rfl rfl (pc0 := 133) (pc' := 138) (same := true) rfl (hb hby at_133) rfl (decide_eq_true rfl) (by decide) (by decide)) ?_
      show ∃ t o, Steps p.tables e below (T145.setTop (mkF m 138 #[.val (.int f1), .val (.int x1), .val (.int y1), .val (.int z1), .val (.int (2 : Int32)), .val (.ref b_112), .val (.ref b_116), .val (.ref b_119), .val (.ref b_122), .val (.ref b123), .val (.ref b_140), .val (.ref b_145), .unset] [])) t ∧ _
      refine own_go (fun _ => XS.iload X145.here hx rfl (hb hby at_138) rfl) ?_
      show ∃ t o, Steps p.tables e below (T145.setTop (mkF m 140 #[.val (.int f1), .val (.int x1), .val (.int y1), .val (.int z1), .val (.int (2 : Int32)), .val (.ref b_112), .val (.ref b_116), .val (.ref b_119), .val (.ref b_122), .val (.ref b123), .val (.ref b_140), .val (.ref b_145), .unset] [(.int (2 : Int32))])) t ∧ _
      refine own_go (fun _ => XS.iconst X145.here hx rfl (hb hby at_140)) ?_
      show ∃ t o, Steps p.tables e below (T145.setTop (mkF m 141 #[.val (.int f1), .val (.int x1), .val (.int y1), .val (.int z1), .val (.int (2 : Int32)), .val (.ref b_112), .val (.ref b_116), .val (.ref b_119), .val (.ref b_122), .val (.ref b123), .val (.ref b_140), .val (.ref b_145), .unset] [(.int (1 : Int32)), (.int (2 : Int32))])) t ∧ _
      refine own_go (fun _ => XS.icmpNo X145.here hx rfl (hb hby at_141) rfl (tlt (by decide : (1 : Int32) < (2 : Int32))).2.2.2) ?_
      show ∃ t o, Steps p.tables e below (T145.setTop (mkF m 144 #[.val (.int f1), .val (.int x1), .val (.int y1), .val (.int z1), .val (.int (2 : Int32)), .val (.ref b_112), .val (.ref b_116), .val (.ref b_119), .val (.ref b_122), .val (.ref b123), .val (.ref b_140), .val (.ref b_145), .unset] [])) t ∧ _
      refine own_go (fun _ => XS.aload X145.here hx rfl (hb hby at_144) rfl rfl) ?_
      show ∃ t o, Steps p.tables e below (T145.setTop (mkF m 146 #[.val (.int f1), .val (.int x1), .val (.int y1), .val (.int z1), .val (.int (2 : Int32)), .val (.ref b_112), .val (.ref b_116), .val (.ref b_119), .val (.ref b_122), .val (.ref b123), .val (.ref b_140), .val (.ref b_145), .unset] [(.ref b_145)])) t ∧ _
      refine own_go (fun _ => XS.iconst X145.here hx rfl (hb hby at_146)) ?_
      show ∃ t o, Steps p.tables e below (T145.setTop (mkF m 147 #[.val (.int f1), .val (.int x1), .val (.int y1), .val (.int z1), .val (.int (2 : Int32)), .val (.ref b_112), .val (.ref b_116), .val (.ref b_119), .val (.ref b_122), .val (.ref b123), .val (.ref b_140), .val (.ref b_145), .unset] [(.int (1 : Int32)), (.ref b_145)])) t ∧ _
      obtain ⟨cl149, Ar149, q149, S149, N149, H149, G149⟩ := id G145_0
      have hin149 : ¬ ((1 : Int32) < 0 ∨ cl149.slots.size ≤ ((1 : Int32)).toNatClampNeg) := inb_of S149 ⟨by decide, by decide⟩
      have hat149 : cl149.slots[((1 : Int32)).toNatClampNeg]? = some (.ref b_116) := Has.at H149 hin149 rfl
      refine own_go (fun _ => X145.aaload hx (j := (1 : Int32)) (v := (.ref b_116)) Ar149.1 (State.isArrayOf_alike hZ.alike Ar149.2.1) rfl Ar149.2.2 hin149 hat149 (g := (mkF m 147 #[.val (.int f1), .val (.int x1), .val (.int y1), .val (.int z1), .val (.int (2 : Int32)), .val (.ref b_112), .val (.ref b_116), .val (.ref b_119), .val (.ref b_122), .val (.ref b123), .val (.ref b_140), .val (.ref b_145), .unset] [(.int (1 : Int32)), (.ref b_145)])) rfl rfl (hb hby at_147) _) ?_
      show ∃ t o, Steps p.tables e below (T145.setTop (mkF m 148 #[.val (.int f1), .val (.int x1), .val (.int y1), .val (.int z1), .val (.int (2 : Int32)), .val (.ref b_112), .val (.ref b_116), .val (.ref b_119), .val (.ref b_122), .val (.ref b123), .val (.ref b_140), .val (.ref b_145), .unset] [(.ref b_116)])) t ∧ _
      refine own_go (fun _ => XS.aload X145.here hx rfl (hb hby at_148) rfl rfl) ?_
      show ∃ t o, Steps p.tables e below (T145.setTop (mkF m 150 #[.val (.int f1), .val (.int x1), .val (.int y1), .val (.int z1), .val (.int (2 : Int32)), .val (.ref b_112), .val (.ref b_116), .val (.ref b_119), .val (.ref b_122), .val (.ref b123), .val (.ref b_140), .val (.ref b_145), .unset] [(.ref b_116), (.ref b_116)])) t ∧ _
      refine own_go (fun _ => Jvm.RoadKit.acmp (g := (mkF m 150 #[.val (.int f1), .val (.int x1), .val (.int y1), .val (.int z1), .val (.int (2 : Int32)), .val (.ref b_112), .val (.ref b_116), .val (.ref b_119), .val (.ref b_122), .val (.ref b123), .val (.ref b_140), .val (.ref b_145), .unset] [(.ref b_116), (.ref b_116)])) X145 hx rfl rfl rfl (pc0 := 150) (pc' := 155) (same := true) rfl (hb hby at_150) rfl (decide_eq_true rfl) (by decide) (by decide)) ?_
      show ∃ t o, Steps p.tables e below (T145.setTop (mkF m 155 #[.val (.int f1), .val (.int x1), .val (.int y1), .val (.int z1), .val (.int (2 : Int32)), .val (.ref b_112), .val (.ref b_116), .val (.ref b_119), .val (.ref b_122), .val (.ref b123), .val (.ref b_140), .val (.ref b_145), .unset] [])) t ∧ _
      refine own_go (fun _ => XS.iload X145.here hx rfl (hb hby at_155) rfl) ?_
      show ∃ t o, Steps p.tables e below (T145.setTop (mkF m 157 #[.val (.int f1), .val (.int x1), .val (.int y1), .val (.int z1), .val (.int (2 : Int32)), .val (.ref b_112), .val (.ref b_116), .val (.ref b_119), .val (.ref b_122), .val (.ref b123), .val (.ref b_140), .val (.ref b_145), .unset] [(.int (2 : Int32))])) t ∧ _
      refine own_go (fun _ => XS.iconst X145.here hx rfl (hb hby at_157)) ?_
      show ∃ t o, Steps p.tables e below (T145.setTop (mkF m 158 #[.val (.int f1), .val (.int x1), .val (.int y1), .val (.int z1), .val (.int (2 : Int32)), .val (.ref b_112), .val (.ref b_116), .val (.ref b_119), .val (.ref b_122), .val (.ref b123), .val (.ref b_140), .val (.ref b_145), .unset] [(.int (2 : Int32)), (.int (2 : Int32))])) t ∧ _
      refine own_go (fun _ => XS.icmpYes X145.here hx rfl (pc0 := 158) (pc' := 172) rfl (hb hby at_158) rfl (flt (by decide : ¬ ((2 : Int32) < (2 : Int32)))).2.2.2 (by decide) (by decide)) ?_
      show ∃ t o, Steps p.tables e below (T145.setTop (mkF m 172 #[.val (.int f1), .val (.int x1), .val (.int y1), .val (.int z1), .val (.int (2 : Int32)), .val (.ref b_112), .val (.ref b_116), .val (.ref b_119), .val (.ref b_122), .val (.ref b123), .val (.ref b_140), .val (.ref b_145), .unset] [])) t ∧ _
      refine own_go (fun _ => XS.iload X145.here hx rfl (hb hby at_172) rfl) ?_
      show ∃ t o, Steps p.tables e below (T145.setTop (mkF m 174 #[.val (.int f1), .val (.int x1), .val (.int y1), .val (.int z1), .val (.int (2 : Int32)), .val (.ref b_112), .val (.ref b_116), .val (.ref b_119), .val (.ref b_122), .val (.ref b123), .val (.ref b_140), .val (.ref b_145), .unset] [(.int (2 : Int32))])) t ∧ _
      refine own_go (fun _ => XS.ifNo X145.here hx rfl (hb hby at_174) rfl ((if0 _ _).trans (tlt (by decide : (0 : Int32) < (2 : Int32))).2.2.2)) ?_
      show ∃ t o, Steps p.tables e below (T145.setTop (mkF m 177 #[.val (.int f1), .val (.int x1), .val (.int y1), .val (.int z1), .val (.int (2 : Int32)), .val (.ref b_112), .val (.ref b_116), .val (.ref b_119), .val (.ref b_122), .val (.ref b123), .val (.ref b_140), .val (.ref b_145), .unset] [])) t ∧ _
      refine own_go (fun _ => XS.aload X145.here hx rfl (hb hby at_177) rfl rfl) ?_
      show ∃ t o, Steps p.tables e below (T145.setTop (mkF m 179 #[.val (.int f1), .val (.int x1), .val (.int y1), .val (.int z1), .val (.int (2 : Int32)), .val (.ref b_112), .val (.ref b_116), .val (.ref b_119), .val (.ref b_122), .val (.ref b123), .val (.ref b_140), .val (.ref b_145), .unset] [(.ref b_145)])) t ∧ _
      refine own_go (fun _ => XS.iconst X145.here hx rfl (hb hby at_179)) ?_
      show ∃ t o, Steps p.tables e below (T145.setTop (mkF m 180 #[.val (.int f1), .val (.int x1), .val (.int y1), .val (.int z1), .val (.int (2 : Int32)), .val (.ref b_112), .val (.ref b_116), .val (.ref b_119), .val (.ref b_122), .val (.ref b123), .val (.ref b_140), .val (.ref b_145), .unset] [(.int (0 : Int32)), (.ref b_145)])) t ∧ _
      refine own_go (fun _ => XS.aload X145.here hx rfl (hb hby at_180) rfl rfl) ?_
      show ∃ t o, Steps p.tables e below (T145.setTop (mkF m 182 #[.val (.int f1), .val (.int x1), .val (.int y1), .val (.int z1), .val (.int (2 : Int32)), .val (.ref b_112), .val (.ref b_116), .val (.ref b_119), .val (.ref b_122), .val (.ref b123), .val (.ref b_140), .val (.ref b_145), .unset] [(.ref b_122), (.int (0 : Int32)), (.ref b_145)])) t ∧ _
      obtain ⟨cl150, Ar150, q150, S150, N150, H150, G150⟩ := id G145_0
      have hin150 : ¬ ((0 : Int32) < 0 ∨ cl150.slots.size ≤ ((0 : Int32)).toNatClampNeg) := inb_of S150 ⟨by decide, by decide⟩
      have F151 : Exa Z T145.heap b_122 "java/lang/Integer" := (Exa.keep (Exa.keep (Exa.wr W131 (Exa.wr W126 (Exa.ext E123 G122_0))) Kp140) Kp145)
      obtain ⟨T152, h152, X152, e152, W152, st152⟩ := stR X145 hx hZ rfl Ar150 (j := (0 : Int32)) hin150 rfl (Sto.ofV Ar150 q150 O123 (Ins.of_exa F151 (hw _ (List.mem_of_getElem? (i := 75) rfl)))) (g := (mkF m 182 #[.val (.int f1), .val (.int x1), .val (.int y1), .val (.int z1), .val (.int (2 : Int32)), .val (.ref b_112), .val (.ref b_116), .val (.ref b_119), .val (.ref b_122), .val (.ref b123), .val (.ref b_140), .val (.ref b_145), .unset] [(.ref b_122), (.int (0 : Int32)), (.ref b_145)])) rfl rfl (hb hby at_182)
      refine own_go st152 ?_
      have ge153 : n0 ≤ b_145 := by omega
      have le_152 : T145.heap.size ≤ h152.size := Nat.le_of_eq W152.size.symm
      have sz154 : h0.size ≤ b_145 := by omega
      have K152 : Keep h0 h152 [] := Keep.wr K145 W152 (Or.inr sz154)
      have N152 := Fr.snoc X152 N145 ge153
      have V152 : Arv Z h152 b_145 k123 (.object "java/lang/Object") (2 : Int32) [(.ref b_122), (.ref b_116)] .null := Arv.set Ar150 q150 S150 N150 H150 G150 rfl W152 0 rfl (Nat.le_of_ble_eq_true rfl)
      show ∃ t o, Steps p.tables e below (T152.setTop (mkF m 183 #[.val (.int f1), .val (.int x1), .val (.int y1), .val (.int z1), .val (.int (2 : Int32)), .val (.ref b_112), .val (.ref b_116), .val (.ref b_119), .val (.ref b_122), .val (.ref b123), .val (.ref b_140), .val (.ref b_145), .unset] [])) t ∧ _
      refine own_go (fun _ => XS.aload X152.here hx rfl (hb hby at_183) rfl rfl) ?_
      show ∃ t o, Steps p.tables e below (T152.setTop (mkF m 185 #[.val (.int f1), .val (.int x1), .val (.int y1), .val (.int z1), .val (.int (2 : Int32)), .val (.ref b_112), .val (.ref b_116), .val (.ref b_119), .val (.ref b_122), .val (.ref b123), .val (.ref b_140), .val (.ref b_145), .unset] [(.ref b_140)])) t ∧ _
      refine own_go (fun _ => XS.iload X152.here hx rfl (hb hby at_185) rfl) ?_
      show ∃ t o, Steps p.tables e below (T152.setTop (mkF m 187 #[.val (.int f1), .val (.int x1), .val (.int y1), .val (.int z1), .val (.int (2 : Int32)), .val (.ref b_112), .val (.ref b_116), .val (.ref b_119), .val (.ref b_122), .val (.ref b123), .val (.ref b_140), .val (.ref b_145), .unset] [(.int (2 : Int32)), (.ref b_140)])) t ∧ _
      have F155 : Exa Z h152 b_140 "com/example/planwright/planwright/plan/Key" := (Exa.wr W152 (Exa.keep G140_0 Kp145))
      have ne156 : b_140 ≠ b_145 := own_ne (by omega)
      have F157 : Fld Z h152 b_140 "com/example/planwright/planwright/plan/Key" "values" "[Ljava/lang/Object;" (.ref b123) := (Fld.other W152 (Fld.keep G140_1 Kp145 nin0) (Or.inl ne156))
      have ne158 : b123 ≠ b_145 := own_ne (by omega)
      have F159 : Arv Z h152 b123 k123 (.object "java/lang/Object") (2 : Int32) [(.ref b_112), (.ref b_116)] .null := (Arv.other (Arv.keep F141 Kp145 nin0) W152 ne158)
      have F160 : Exa Z h152 b123 "[Ljava/lang/Object;" := (Exa.wr W152 (Exa.keep F142 Kp145))
      have F161 : Old Z n0 h152 := (Old.wr (Old.keep F143 Kp145 all0) W152 ge153)
      have zl162 : n0 ≤ h152.size := by omega
      obtain ⟨_, _, ⟨T163, L163, k163, n163⟩, -, X163, ⟨Lc163, hQ163, l163, y163, z163⟩, st163⟩ := Jvm.LawKit.callS X152 hx (y := (⟨"com/example/planwright/planwright/plan/Key", "values", "(Ljava/lang/Object;I)[Ljava/lang/Object;"⟩ : MethodName)) hown (mvT hZ (hw _ (List.mem_of_getElem? (i := 37) rfl))) (mvT hZ (hw _ (List.mem_of_getElem? (i := 38) rfl))) (mvT hZ (hw _ (List.mem_of_getElem? (i := 19) rfl))) (mvT hZ (hw _ (List.mem_of_getElem? (i := 39) rfl))) (by decide) (backOf (W := 0) (rmVals2 l Z a0 hw [] b_140 b123 k123 b_112 b_116 h152 n0 zl162 F155 F157 F159 F160 F161) hZ (hw _ (List.mem_of_getElem? (i := 39) rfl)) (hw _ (List.mem_of_getElem? (i := 19) rfl)) (by decide) (by decide)) (g := (mkF m 187 #[.val (.int f1), .val (.int x1), .val (.int y1), .val (.int z1), .val (.int (2 : Int32)), .val (.ref b_112), .val (.ref b_116), .val (.ref b_119), .val (.ref b_122), .val (.ref b123), .val (.ref b_140), .val (.ref b_145), .unset] [(.int (2 : Int32)), (.ref b_140)])) rfl (by rw [hml]; rfl) (argsL := [(.ref b_140), (.int (2 : Int32))]) (rest := []) (lenOf pd_h9d814d6e rfl) rfl (by show 2 * 0 + _ ≤ _; exact Nat.le_of_eq rfl) (hb hby at_187) (fun _ _ => ⟨rfl, e152, (by decide : 7 + 1 ≤ _), (by decide : 10 + 2 ≤ _)⟩)
      dsimp only [Pt.U, Pt.locs, Pt.cells, Pt.slots] at X163 l163 y163 z163 st163 hQ163
      subst l163 y163 z163
      obtain ⟨b_163, rfl, Nq163, Kp163, G163_0, H163_0⟩ := hQ163
      have N163 := Fr.app N152 Nq163
      refine own_go st163 ?_
      have le_163 : h152.size ≤ T163.heap.size := Kp163.1
      have K163 : Keep h0 T163.heap [] := Keep.trans K152 Kp163 all0
      have lt_b_163 : b_163 < T163.heap.size := (G163_0).lt
      show ∃ t o, Steps p.tables e below (T163.setTop (mkF m 190 #[.val (.int f1), .val (.int x1), .val (.int y1), .val (.int z1), .val (.int (2 : Int32)), .val (.ref b_112), .val (.ref b_116), .val (.ref b_119), .val (.ref b_122), .val (.ref b123), .val (.ref b_140), .val (.ref b_145), .unset] [(.ref b_163)])) t ∧ _
      refine own_go (fun _ => XS.astore X163.here hx rfl (hb hby at_190) rfl rfl (l' := #[.val (.int f1), .val (.int x1), .val (.int y1), .val (.int z1), .val (.int (2 : Int32)), .val (.ref b_112), .val (.ref b_116), .val (.ref b_119), .val (.ref b_122), .val (.ref b123), .val (.ref b_140), .val (.ref b_145), .val (.ref b_163)]) rfl) ?_
      show ∃ t o, Steps p.tables e below (T163.setTop (mkF m 192 #[.val (.int f1), .val (.int x1), .val (.int y1), .val (.int z1), .val (.int (2 : Int32)), .val (.ref b_112), .val (.ref b_116), .val (.ref b_119), .val (.ref b_122), .val (.ref b123), .val (.ref b_140), .val (.ref b_145), .val (.ref b_163)] [])) t ∧ _
      refine own_go (fun _ => XS.aload X163.here hx rfl (hb hby at_192) rfl rfl) ?_
      show ∃ t o, Steps p.tables e below (T163.setTop (mkF m 194 #[.val (.int f1), .val (.int x1), .val (.int y1), .val (.int z1), .val (.int (2 : Int32)), .val (.ref b_112), .val (.ref b_116), .val (.ref b_119), .val (.ref b_122), .val (.ref b123), .val (.ref b_140), .val (.ref b_145), .val (.ref b_163)] [(.ref b_163)])) t ∧ _
      refine own_go (fun _ => XS.ifnullNo X163.here hx rfl (hb hby at_194) rfl) ?_
      show ∃ t o, Steps p.tables e below (T163.setTop (mkF m 197 #[.val (.int f1), .val (.int x1), .val (.int y1), .val (.int z1), .val (.int (2 : Int32)), .val (.ref b_112), .val (.ref b_116), .val (.ref b_119), .val (.ref b_122), .val (.ref b123), .val (.ref b_140), .val (.ref b_145), .val (.ref b_163)] [])) t ∧ _
      refine own_go (fun _ => XS.aload X163.here hx rfl (hb hby at_197) rfl rfl) ?_
      show ∃ t o, Steps p.tables e below (T163.setTop (mkF m 199 #[.val (.int f1), .val (.int x1), .val (.int y1), .val (.int z1), .val (.int (2 : Int32)), .val (.ref b_112), .val (.ref b_116), .val (.ref b_119), .val (.ref b_122), .val (.ref b123), .val (.ref b_140), .val (.ref b_145), .val (.ref b_163)] [(.ref b_163)])) t ∧ _
      refine own_go (fun _ => XS.aload X163.here hx rfl (hb hby at_199) rfl rfl) ?_
      show ∃ t o, Steps p.tables e below (T163.setTop (mkF m 201 #[.val (.int f1), .val (.int x1), .val (.int y1), .val (.int z1), .val (.int (2 : Int32)), .val (.ref b_112), .val (.ref b_116), .val (.ref b_119), .val (.ref b_122), .val (.ref b123), .val (.ref b_140), .val (.ref b_145), .val (.ref b_163)] [(.ref b_145), (.ref b_163)])) t ∧ _
      have ne164 : b_163 ≠ b_145 := own_ne (by omega)
      refine own_go (fun _ => Jvm.RoadKit.acmp (g := (mkF m 201 #[.val (.int f1), .val (.int x1), .val (.int y1), .val (.int z1), .val (.int (2 : Int32)), .val (.ref b_112), .val (.ref b_116), .val (.ref b_119), .val (.ref b_122), .val (.ref b123), .val (.ref b_140), .val (.ref b_145), .val (.ref b_163)] [(.ref b_145), (.ref b_163)])) X163 hx rfl rfl rfl (pc0 := 201) (pc' := 204) (same := false) rfl (hb hby at_201) rfl (decide_eq_false fun q => ne164 (Value.ref.inj q)) (by decide) (by decide)) ?_
      show ∃ t o, Steps p.tables e below (T163.setTop (mkF m 204 #[.val (.int f1), .val (.int x1), .val (.int y1), .val (.int z1), .val (.int (2 : Int32)), .val (.ref b_112), .val (.ref b_116), .val (.ref b_119), .val (.ref b_122), .val (.ref b123), .val (.ref b_140), .val (.ref b_145), .val (.ref b_163)] [])) t ∧ _
      refine own_go (fun _ => XS.aload X163.here hx rfl (hb hby at_204) rfl rfl) ?_
      show ∃ t o, Steps p.tables e below (T163.setTop (mkF m 206 #[.val (.int f1), .val (.int x1), .val (.int y1), .val (.int z1), .val (.int (2 : Int32)), .val (.ref b_112), .val (.ref b_116), .val (.ref b_119), .val (.ref b_122), .val (.ref b123), .val (.ref b_140), .val (.ref b_145), .val (.ref b_163)] [(.ref b_163)])) t ∧ _
      obtain ⟨cl165, Ar165, q165, S165, N165, H165, G165⟩ := id G163_0
      have ln165 : cl165.slots.size.toInt32 = (2 : Int32) := len_of S165 N165
      have al165 := X163.arraylength hx Ar165.1 (State.isArrayOf_alike hZ.alike Ar165.2.1) (g := (mkF m 206 #[.val (.int f1), .val (.int x1), .val (.int y1), .val (.int z1), .val (.int (2 : Int32)), .val (.ref b_112), .val (.ref b_116), .val (.ref b_119), .val (.ref b_122), .val (.ref b123), .val (.ref b_140), .val (.ref b_145), .val (.ref b_163)] [(.ref b_163)])) rfl rfl (hb hby at_206)
      rw [ln165] at al165
      refine own_go al165 ?_
      show ∃ t o, Steps p.tables e below (T163.setTop (mkF m 207 #[.val (.int f1), .val (.int x1), .val (.int y1), .val (.int z1), .val (.int (2 : Int32)), .val (.ref b_112), .val (.ref b_116), .val (.ref b_119), .val (.ref b_122), .val (.ref b123), .val (.ref b_140), .val (.ref b_145), .val (.ref b_163)] [(.int (2 : Int32))])) t ∧ _
      refine own_go (fun _ => XS.iload X163.here hx rfl (hb hby at_207) rfl) ?_
      show ∃ t o, Steps p.tables e below (T163.setTop (mkF m 209 #[.val (.int f1), .val (.int x1), .val (.int y1), .val (.int z1), .val (.int (2 : Int32)), .val (.ref b_112), .val (.ref b_116), .val (.ref b_119), .val (.ref b_122), .val (.ref b123), .val (.ref b_140), .val (.ref b_145), .val (.ref b_163)] [(.int (2 : Int32)), (.int (2 : Int32))])) t ∧ _
      refine own_go (fun _ => XS.icmpYes X163.here hx rfl (pc0 := 209) (pc' := 214) rfl (hb hby at_209) rfl (teq (by decide : (2 : Int32) = (2 : Int32))).1 (by decide) (by decide)) ?_
      show ∃ t o, Steps p.tables e below (T163.setTop (mkF m 214 #[.val (.int f1), .val (.int x1), .val (.int y1), .val (.int z1), .val (.int (2 : Int32)), .val (.ref b_112), .val (.ref b_116), .val (.ref b_119), .val (.ref b_122), .val (.ref b123), .val (.ref b_140), .val (.ref b_145), .val (.ref b_163)] [])) t ∧ _
      refine own_go (fun _ => XS.aload X163.here hx rfl (hb hby at_214) rfl rfl) ?_
      show ∃ t o, Steps p.tables e below (T163.setTop (mkF m 216 #[.val (.int f1), .val (.int x1), .val (.int y1), .val (.int z1), .val (.int (2 : Int32)), .val (.ref b_112), .val (.ref b_116), .val (.ref b_119), .val (.ref b_122), .val (.ref b123), .val (.ref b_140), .val (.ref b_145), .val (.ref b_163)] [(.ref b_163)])) t ∧ _
      refine own_go (fun _ => XS.iconst X163.here hx rfl (hb hby at_216)) ?_
      show ∃ t o, Steps p.tables e below (T163.setTop (mkF m 217 #[.val (.int f1), .val (.int x1), .val (.int y1), .val (.int z1), .val (.int (2 : Int32)), .val (.ref b_112), .val (.ref b_116), .val (.ref b_119), .val (.ref b_122), .val (.ref b123), .val (.ref b_140), .val (.ref b_145), .val (.ref b_163)] [(.int (0 : Int32)), (.ref b_163)])) t ∧ _
      obtain ⟨cl166, Ar166, q166, S166, N166, H166, G166⟩ := id G163_0
      have hin166 : ¬ ((0 : Int32) < 0 ∨ cl166.slots.size ≤ ((0 : Int32)).toNatClampNeg) := inb_of S166 ⟨by decide, by decide⟩
      have hat166 : cl166.slots[((0 : Int32)).toNatClampNeg]? = some (.ref b_112) := Has.at H166 hin166 rfl
      refine own_go (fun _ => X163.aaload hx (j := (0 : Int32)) (v := (.ref b_112)) Ar166.1 (State.isArrayOf_alike hZ.alike Ar166.2.1) rfl Ar166.2.2 hin166 hat166 (g := (mkF m 217 #[.val (.int f1), .val (.int x1), .val (.int y1), .val (.int z1), .val (.int (2 : Int32)), .val (.ref b_112), .val (.ref b_116), .val (.ref b_119), .val (.ref b_122), .val (.ref b123), .val (.ref b_140), .val (.ref b_145), .val (.ref b_163)] [(.int (0 : Int32)), (.ref b_163)])) rfl rfl (hb hby at_217) _) ?_
      show ∃ t o, Steps p.tables e below (T163.setTop (mkF m 218 #[.val (.int f1), .val (.int x1), .val (.int y1), .val (.int z1), .val (.int (2 : Int32)), .val (.ref b_112), .val (.ref b_116), .val (.ref b_119), .val (.ref b_122), .val (.ref b123), .val (.ref b_140), .val (.ref b_145), .val (.ref b_163)] [(.ref b_112)])) t ∧ _
      refine own_go (fun _ => XS.aload X163.here hx rfl (hb hby at_218) rfl rfl) ?_
      show ∃ t o, Steps p.tables e below (T163.setTop (mkF m 220 #[.val (.int f1), .val (.int x1), .val (.int y1), .val (.int z1), .val (.int (2 : Int32)), .val (.ref b_112), .val (.ref b_116), .val (.ref b_119), .val (.ref b_122), .val (.ref b123), .val (.ref b_140), .val (.ref b_145), .val (.ref b_163)] [(.ref b_112), (.ref b_112)])) t ∧ _
      refine own_go (fun _ => Jvm.RoadKit.acmp (g := (mkF m 220 #[.val (.int f1), .val (.int x1), .val (.int y1), .val (.int z1), .val (.int (2 : Int32)), .val (.ref b_112), .val (.ref b_116), .val (.ref b_119), .val (.ref b_122), .val (.ref b123), .val (.ref b_140), .val (.ref b_145), .val (.ref b_163)] [(.ref b_112), (.ref b_112)])) X163 hx rfl rfl rfl (pc0 := 220) (pc' := 225) (same := true) rfl (hb hby at_220) rfl (decide_eq_true rfl) (by decide) (by decide)) ?_
      show ∃ t o, Steps p.tables e below (T163.setTop (mkF m 225 #[.val (.int f1), .val (.int x1), .val (.int y1), .val (.int z1), .val (.int (2 : Int32)), .val (.ref b_112), .val (.ref b_116), .val (.ref b_119), .val (.ref b_122), .val (.ref b123), .val (.ref b_140), .val (.ref b_145), .val (.ref b_163)] [])) t ∧ _
      refine own_go (fun _ => XS.iload X163.here hx rfl (hb hby at_225) rfl) ?_
      show ∃ t o, Steps p.tables e below (T163.setTop (mkF m 227 #[.val (.int f1), .val (.int x1), .val (.int y1), .val (.int z1), .val (.int (2 : Int32)), .val (.ref b_112), .val (.ref b_116), .val (.ref b_119), .val (.ref b_122), .val (.ref b123), .val (.ref b_140), .val (.ref b_145), .val (.ref b_163)] [(.int (2 : Int32))])) t ∧ _
      refine own_go (fun _ => XS.iconst X163.here hx rfl (hb hby at_227)) ?_
      show ∃ t o, Steps p.tables e below (T163.setTop (mkF m 228 #[.val (.int f1), .val (.int x1), .val (.int y1), .val (.int z1), .val (.int (2 : Int32)), .val (.ref b_112), .val (.ref b_116), .val (.ref b_119), .val (.ref b_122), .val (.ref b123), .val (.ref b_140), .val (.ref b_145), .val (.ref b_163)] [(.int (1 : Int32)), (.int (2 : Int32))])) t ∧ _
      refine own_go (fun _ => XS.icmpNo X163.here hx rfl (hb hby at_228) rfl (tlt (by decide : (1 : Int32) < (2 : Int32))).2.2.2) ?_
      show ∃ t o, Steps p.tables e below (T163.setTop (mkF m 231 #[.val (.int f1), .val (.int x1), .val (.int y1), .val (.int z1), .val (.int (2 : Int32)), .val (.ref b_112), .val (.ref b_116), .val (.ref b_119), .val (.ref b_122), .val (.ref b123), .val (.ref b_140), .val (.ref b_145), .val (.ref b_163)] [])) t ∧ _
      refine own_go (fun _ => XS.aload X163.here hx rfl (hb hby at_231) rfl rfl) ?_
      show ∃ t o, Steps p.tables e below (T163.setTop (mkF m 233 #[.val (.int f1), .val (.int x1), .val (.int y1), .val (.int z1), .val (.int (2 : Int32)), .val (.ref b_112), .val (.ref b_116), .val (.ref b_119), .val (.ref b_122), .val (.ref b123), .val (.ref b_140), .val (.ref b_145), .val (.ref b_163)] [(.ref b_163)])) t ∧ _
      refine own_go (fun _ => XS.iconst X163.here hx rfl (hb hby at_233)) ?_
      show ∃ t o, Steps p.tables e below (T163.setTop (mkF m 234 #[.val (.int f1), .val (.int x1), .val (.int y1), .val (.int z1), .val (.int (2 : Int32)), .val (.ref b_112), .val (.ref b_116), .val (.ref b_119), .val (.ref b_122), .val (.ref b123), .val (.ref b_140), .val (.ref b_145), .val (.ref b_163)] [(.int (1 : Int32)), (.ref b_163)])) t ∧ _
      obtain ⟨cl167, Ar167, q167, S167, N167, H167, G167⟩ := id G163_0
      have hin167 : ¬ ((1 : Int32) < 0 ∨ cl167.slots.size ≤ ((1 : Int32)).toNatClampNeg) := inb_of S167 ⟨by decide, by decide⟩
      have hat167 : cl167.slots[((1 : Int32)).toNatClampNeg]? = some (.ref b_116) := Has.at H167 hin167 rfl
      refine own_go (fun _ => X163.aaload hx (j := (1 : Int32)) (v := (.ref b_116)) Ar167.1 (State.isArrayOf_alike hZ.alike Ar167.2.1) rfl Ar167.2.2 hin167 hat167 (g := (mkF m 234 #[.val (.int f1), .val (.int x1), .val (.int y1), .val (.int z1), .val (.int (2 : Int32)), .val (.ref b_112), .val (.ref b_116), .val (.ref b_119), .val (.ref b_122), .val (.ref b123), .val (.ref b_140), .val (.ref b_145), .val (.ref b_163)] [(.int (1 : Int32)), (.ref b_163)])) rfl rfl (hb hby at_234) _) ?_
      show ∃ t o, Steps p.tables e below (T163.setTop (mkF m 235 #[.val (.int f1), .val (.int x1), .val (.int y1), .val (.int z1), .val (.int (2 : Int32)), .val (.ref b_112), .val (.ref b_116), .val (.ref b_119), .val (.ref b_122), .val (.ref b123), .val (.ref b_140), .val (.ref b_145), .val (.ref b_163)] [(.ref b_116)])) t ∧ _
      refine own_go (fun _ => XS.aload X163.here hx rfl (hb hby at_235) rfl rfl) ?_
      show ∃ t o, Steps p.tables e below (T163.setTop (mkF m 237 #[.val (.int f1), .val (.int x1), .val (.int y1), .val (.int z1), .val (.int (2 : Int32)), .val (.ref b_112), .val (.ref b_116), .val (.ref b_119), .val (.ref b_122), .val (.ref b123), .val (.ref b_140), .val (.ref b_145), .val (.ref b_163)] [(.ref b_116), (.ref b_116)])) t ∧ _
      refine own_go (fun _ => Jvm.RoadKit.acmp (g := (mkF m 237 #[.val (.int f1), .val (.int x1), .val (.int y1), .val (.int z1), .val (.int (2 : Int32)), .val (.ref b_112), .val (.ref b_116), .val (.ref b_119), .val (.ref b_122), .val (.ref b123), .val (.ref b_140), .val (.ref b_145), .val (.ref b_163)] [(.ref b_116), (.ref b_116)])) X163 hx rfl rfl rfl (pc0 := 237) (pc' := 242) (same := true) rfl (hb hby at_237) rfl (decide_eq_true rfl) (by decide) (by decide)) ?_
      show ∃ t o, Steps p.tables e below (T163.setTop (mkF m 242 #[.val (.int f1), .val (.int x1), .val (.int y1), .val (.int z1), .val (.int (2 : Int32)), .val (.ref b_112), .val (.ref b_116), .val (.ref b_119), .val (.ref b_122), .val (.ref b123), .val (.ref b_140), .val (.ref b_145), .val (.ref b_163)] [])) t ∧ _
      refine own_go (fun _ => XS.iload X163.here hx rfl (hb hby at_242) rfl) ?_
      show ∃ t o, Steps p.tables e below (T163.setTop (mkF m 244 #[.val (.int f1), .val (.int x1), .val (.int y1), .val (.int z1), .val (.int (2 : Int32)), .val (.ref b_112), .val (.ref b_116), .val (.ref b_119), .val (.ref b_122), .val (.ref b123), .val (.ref b_140), .val (.ref b_145), .val (.ref b_163)] [(.int (2 : Int32))])) t ∧ _
      refine own_go (fun _ => XS.iconst X163.here hx rfl (hb hby at_244)) ?_
      show ∃ t o, Steps p.tables e below (T163.setTop (mkF m 245 #[.val (.int f1), .val (.int x1), .val (.int y1), .val (.int z1), .val (.int (2 : Int32)), .val (.ref b_112), .val (.ref b_116), .val (.ref b_119), .val (.ref b_122), .val (.ref b123), .val (.ref b_140), .val (.ref b_145), .val (.ref b_163)] [(.int (2 : Int32)), (.int (2 : Int32))])) t ∧ _
      refine own_go (fun _ => XS.icmpYes X163.here hx rfl (pc0 := 245) (pc' := 259) rfl (hb hby at_245) rfl (flt (by decide : ¬ ((2 : Int32) < (2 : Int32)))).2.2.2 (by decide) (by decide)) ?_
      show ∃ t o, Steps p.tables e below (T163.setTop (mkF m 259 #[.val (.int f1), .val (.int x1), .val (.int y1), .val (.int z1), .val (.int (2 : Int32)), .val (.ref b_112), .val (.ref b_116), .val (.ref b_119), .val (.ref b_122), .val (.ref b123), .val (.ref b_140), .val (.ref b_145), .val (.ref b_163)] [])) t ∧ _
      refine own_go (fun _ => XS.iconst X163.here hx rfl (hb hby at_259)) ?_
      show ∃ t o, Steps p.tables e below (T163.setTop (mkF m 260 #[.val (.int f1), .val (.int x1), .val (.int y1), .val (.int z1), .val (.int (2 : Int32)), .val (.ref b_112), .val (.ref b_116), .val (.ref b_119), .val (.ref b_122), .val (.ref b123), .val (.ref b_140), .val (.ref b_145), .val (.ref b_163)] [(.int (1 : Int32))])) t ∧ _
      obtain ⟨fs, hr, hrun, hended, hW, hsame⟩ := X163.leave (v := some (.int (1 : Int32))) (fun h => by rw [Bd.returns] at h; cases h)
      refine ⟨_, _, ?_, hrun, hended, _, _, rfl, ?_, ⟨_, rfl⟩, hW, hsame.mono (by decide) (by decide)⟩
      · exact retN X163 hx (t := .boolean) Bd.returns (by simp) (hb hby at_260) hr
      · show Q_rm0 Z f1 x1 y1 z1 caI ccI caL ccL h0 n0 _ T163.heap _
        exact ⟨rfl, N163, K163⟩
    · refine own_go (fun _ => XS.ifNo X112.here hx rfl (hb hby at_14) rfl ((if0 _ _).trans (feq hc113).1)) ?_
      show ∃ t o, Steps p.tables e below (T112.setTop (mkF m 17 #[.val (.int f1), .val (.int x1), .val (.int y1), .val (.int z1), .val (.int (2 : Int32)), .val (.ref b_112), .unset, .unset, .unset, .unset, .unset, .unset, .unset] [])) t ∧ _
      refine own_go (fun _ => XS.aconstNull X112.here hx rfl (hb hby at_17)) ?_
      show ∃ t o, Steps p.tables e below (T112.setTop (mkF m 18 #[.val (.int f1), .val (.int x1), .val (.int y1), .val (.int z1), .val (.int (2 : Int32)), .val (.ref b_112), .unset, .unset, .unset, .unset, .unset, .unset, .unset] [.null])) t ∧ _
      refine own_go (fun _ => XS.goto X112.here hx rfl (pc0 := 18) (pc' := 25) rfl (hb hby at_18) (by decide) (by decide)) ?_
      show ∃ t o, Steps p.tables e below (T112.setTop (mkF m 25 #[.val (.int f1), .val (.int x1), .val (.int y1), .val (.int z1), .val (.int (2 : Int32)), .val (.ref b_112), .unset, .unset, .unset, .unset, .unset, .unset, .unset] [.null])) t ∧ _
      refine own_go (fun _ => XS.astore X112.here hx rfl (hb hby at_25) rfl rfl (l' := #[.val (.int f1), .val (.int x1), .val (.int y1), .val (.int z1), .val (.int (2 : Int32)), .val (.ref b_112), .val .null, .unset, .unset, .unset, .unset, .unset, .unset]) rfl) ?_
      show ∃ t o, Steps p.tables e below (T112.setTop (mkF m 27 #[.val (.int f1), .val (.int x1), .val (.int y1), .val (.int z1), .val (.int (2 : Int32)), .val (.ref b_112), .val .null, .unset, .unset, .unset, .unset, .unset, .unset] [])) t ∧ _
      refine own_go (fun _ => XS.iloadN X112.here hx rfl (hb hby at_27) rfl) ?_
      show ∃ t o, Steps p.tables e below (T112.setTop (mkF m 28 #[.val (.int f1), .val (.int x1), .val (.int y1), .val (.int z1), .val (.int (2 : Int32)), .val (.ref b_112), .val .null, .unset, .unset, .unset, .unset, .unset, .unset] [(.int z1)])) t ∧ _
      refine own_go (fun _ => XS.i2l X112.here hx rfl (hb hby at_28) rfl) ?_
      show ∃ t o, Steps p.tables e below (T112.setTop (mkF m 29 #[.val (.int f1), .val (.int x1), .val (.int y1), .val (.int z1), .val (.int (2 : Int32)), .val (.ref b_112), .val .null, .unset, .unset, .unset, .unset, .unset, .unset] [(.long (z1.toInt64))])) t ∧ _
      have F168 : Old Z n0 T112.heap := (Old.keep OLD Kp112 all0)
      have zl169 : n0 ≤ T112.heap.size := by omega
      obtain ⟨_, _, ⟨T170, L170, k170, n170⟩, -, X170, ⟨Lc170, hQ170, l170, y170, z170⟩, st170⟩ := Jvm.LawKit.callS X112 hx (y := (⟨"java/lang/Long", "valueOf", "(J)Ljava/lang/Long;"⟩ : MethodName)) hown (mvT hZ (hw _ (List.mem_of_getElem? (i := 7) rfl))) (mvT hZ (hw _ (List.mem_of_getElem? (i := 8) rfl))) (mvT hZ (hw _ (List.mem_of_getElem? (i := 9) rfl))) (mvT hZ (hw _ (List.mem_of_getElem? (i := 10) rfl))) (by decide) (backOf (W := 0) (rmLongOf l Z a0 hw [] (z1.toInt64) caL ccL T112.heap n0 zl169 F168 P3 (BXL : Bxs Z caL ccL "java/lang/Long" "J" (256 : Int32) own_lval)) hZ (hw _ (List.mem_of_getElem? (i := 10) rfl)) (hw _ (List.mem_of_getElem? (i := 9) rfl)) (by decide) (by decide)) (g := (mkF m 29 #[.val (.int f1), .val (.int x1), .val (.int y1), .val (.int z1), .val (.int (2 : Int32)), .val (.ref b_112), .val .null, .unset, .unset, .unset, .unset, .unset, .unset] [(.long (z1.toInt64))])) rfl (by rw [hml]; rfl) (argsL := [(.long (z1.toInt64))]) (rest := []) (lenOf pd__28J_29Ljava_2flang_2fLong_3b rfl) rfl (by show 2 * 0 + _ ≤ _; exact Nat.le_of_eq rfl) (hb hby at_29) (fun _ _ => ⟨rfl, rfl, (by decide : 1 + 1 ≤ _), (by decide : 1 + 1 ≤ _)⟩)
      dsimp only [Pt.U, Pt.locs, Pt.cells, Pt.slots] at X170 l170 y170 z170 st170 hQ170
      subst l170 y170 z170
      obtain ⟨b_170, rv_170, rfl, Nq170, Kp170, G170_0, G170_1⟩ := hQ170
      have N170 := Fr.app N112 Nq170
      refine own_go st170 ?_
      have le_170 : T112.heap.size ≤ T170.heap.size := Kp170.1
      have K170 : Keep h0 T170.heap [] := Keep.trans K112 Kp170 all0
      have lt_b_170 : b_170 < T170.heap.size := (G170_0).lt
      show ∃ t o, Steps p.tables e below (T170.setTop (mkF m 32 #[.val (.int f1), .val (.int x1), .val (.int y1), .val (.int z1), .val (.int (2 : Int32)), .val (.ref b_112), .val .null, .unset, .unset, .unset, .unset, .unset, .unset] [(.ref b_170)])) t ∧ _
      refine own_go (fun _ => XS.astore X170.here hx rfl (hb hby at_32) rfl rfl (l' := #[.val (.int f1), .val (.int x1), .val (.int y1), .val (.int z1), .val (.int (2 : Int32)), .val (.ref b_112), .val .null, .val (.ref b_170), .unset, .unset, .unset, .unset, .unset]) rfl) ?_
      show ∃ t o, Steps p.tables e below (T170.setTop (mkF m 34 #[.val (.int f1), .val (.int x1), .val (.int y1), .val (.int z1), .val (.int (2 : Int32)), .val (.ref b_112), .val .null, .val (.ref b_170), .unset, .unset, .unset, .unset, .unset] [])) t ∧ _
      refine own_go (fun _ => XS.iloadN X170.here hx rfl (hb hby at_34) rfl) ?_
      show ∃ t o, Steps p.tables e below (T170.setTop (mkF m 35 #[.val (.int f1), .val (.int x1), .val (.int y1), .val (.int z1), .val (.int (2 : Int32)), .val (.ref b_112), .val .null, .val (.ref b_170), .unset, .unset, .unset, .unset, .unset] [(.int x1)])) t ∧ _
      refine own_go (fun _ => XS.iconst X170.here hx rfl (hb hby at_35)) ?_
      show ∃ t o, Steps p.tables e below (T170.setTop (mkF m 36 #[.val (.int f1), .val (.int x1), .val (.int y1), .val (.int z1), .val (.int (2 : Int32)), .val (.ref b_112), .val .null, .val (.ref b_170), .unset, .unset, .unset, .unset, .unset] [(.int (1 : Int32)), (.int x1)])) t ∧ _
      refine own_go (fun _ => XS.ixor X170.here hx rfl (hb hby at_36) rfl) ?_
      show ∃ t o, Steps p.tables e below (T170.setTop (mkF m 37 #[.val (.int f1), .val (.int x1), .val (.int y1), .val (.int z1), .val (.int (2 : Int32)), .val (.ref b_112), .val .null, .val (.ref b_170), .unset, .unset, .unset, .unset, .unset] [(.int (x1 ^^^ (1 : Int32)))])) t ∧ _
      have F171 : Old Z n0 T170.heap := (Old.keep F168 Kp170 all0)
      have zl172 : n0 ≤ T170.heap.size := by omega
      obtain ⟨_, _, ⟨T173, L173, k173, n173⟩, -, X173, ⟨Lc173, hQ173, l173, y173, z173⟩, st173⟩ := Jvm.LawKit.callS X170 hx (y := (⟨"java/lang/Integer", "valueOf", "(I)Ljava/lang/Integer;"⟩ : MethodName)) hown (mvT hZ (hw _ (List.mem_of_getElem? (i := 0) rfl))) (mvT hZ (hw _ (List.mem_of_getElem? (i := 1) rfl))) (mvT hZ (hw _ (List.mem_of_getElem? (i := 2) rfl))) (mvT hZ (hw _ (List.mem_of_getElem? (i := 3) rfl))) (by decide) (backOf (W := 0) (rmIntOf l Z a0 hw [] ((x1 ^^^ (1 : Int32))) caI ccI T170.heap n0 zl172 F171 P1 P2 (BXI : Bxs Z caI ccI "java/lang/Integer" "I" (256 : Int32) own_ival)) hZ (hw _ (List.mem_of_getElem? (i := 3) rfl)) (hw _ (List.mem_of_getElem? (i := 2) rfl)) (by decide) (by decide)) (g := (mkF m 37 #[.val (.int f1), .val (.int x1), .val (.int y1), .val (.int z1), .val (.int (2 : Int32)), .val (.ref b_112), .val .null, .val (.ref b_170), .unset, .unset, .unset, .unset, .unset] [(.int (x1 ^^^ (1 : Int32)))])) rfl (by rw [hml]; rfl) (argsL := [(.int (x1 ^^^ (1 : Int32)))]) (rest := []) (lenOf pd__28I_29Ljava_2flang_2fInteger_3b rfl) rfl (by show 2 * 0 + _ ≤ _; exact Nat.le_of_eq rfl) (hb hby at_37) (fun _ _ => ⟨rfl, rfl, (by decide : 2 + 1 ≤ _), (by decide : 2 + 1 ≤ _)⟩)
      dsimp only [Pt.U, Pt.locs, Pt.cells, Pt.slots] at X173 l173 y173 z173 st173 hQ173
      subst l173 y173 z173
      obtain ⟨b_173, rv_173, rfl, Nq173, Kp173, G173_0, G173_1⟩ := hQ173
      have N173 := Fr.app N170 Nq173
      refine own_go st173 ?_
      have le_173 : T170.heap.size ≤ T173.heap.size := Kp173.1
      have K173 : Keep h0 T173.heap [] := Keep.trans K170 Kp173 all0
      have lt_b_173 : b_173 < T173.heap.size := (G173_0).lt
      show ∃ t o, Steps p.tables e below (T173.setTop (mkF m 40 #[.val (.int f1), .val (.int x1), .val (.int y1), .val (.int z1), .val (.int (2 : Int32)), .val (.ref b_112), .val .null, .val (.ref b_170), .unset, .unset, .unset, .unset, .unset] [(.ref b_173)])) t ∧ _
      refine own_go (fun _ => XS.astore X173.here hx rfl (hb hby at_40) rfl rfl (l' := #[.val (.int f1), .val (.int x1), .val (.int y1), .val (.int z1), .val (.int (2 : Int32)), .val (.ref b_112), .val .null, .val (.ref b_170), .val (.ref b_173), .unset, .unset, .unset, .unset]) rfl) ?_
      show ∃ t o, Steps p.tables e below (T173.setTop (mkF m 42 #[.val (.int f1), .val (.int x1), .val (.int y1), .val (.int z1), .val (.int (2 : Int32)), .val (.ref b_112), .val .null, .val (.ref b_170), .val (.ref b_173), .unset, .unset, .unset, .unset] [])) t ∧ _
      refine own_go (fun _ => XS.iload X173.here hx rfl (hb hby at_42) rfl) ?_
      show ∃ t o, Steps p.tables e below (T173.setTop (mkF m 44 #[.val (.int f1), .val (.int x1), .val (.int y1), .val (.int z1), .val (.int (2 : Int32)), .val (.ref b_112), .val .null, .val (.ref b_170), .val (.ref b_173), .unset, .unset, .unset, .unset] [(.int (2 : Int32))])) t ∧ _
      obtain ⟨T174, h174, k174, X174, e174, E174, A174, Q174, O174, st174⟩ := newRE X173 hx hZ hown (hw _ (List.mem_of_getElem? (i := 15) rfl)) (hw _ (List.mem_of_getElem? (i := 16) rfl)) rfl (g := (mkF m 44 #[.val (.int f1), .val (.int x1), .val (.int y1), .val (.int z1), .val (.int (2 : Int32)), .val (.ref b_112), .val .null, .val (.ref b_170), .val (.ref b_173), .unset, .unset, .unset, .unset] [(.int (2 : Int32))])) rfl (hb hby at_44) rfl (by decide) (cap := 2) (by decide) (by decide) (by decide) (by decide) (ad := "[Ljava/lang/Object;") rfl
      obtain ⟨b174, g174⟩ : ∃ z, z = T173.heap.size := ⟨_, rfl⟩
      rw [← g174] at A174 Q174 st174
      refine own_go st174 ?_
      have le_174 : T173.heap.size ≤ h174.size := E174.1
      have lt_b174 : b174 < h174.size := A174.lt
      have V_b174 : Arv Z h174 b174 k174 (.object "java/lang/Object") (2 : Int32) [.null, .null] .null := (Arv.new A174 (by decide)).pad (pad_rep [] .null 2)
      have K174 : Keep h0 h174 [] := Keep.ext K173 E174
      show ∃ t o, Steps p.tables e below (T174.setTop (mkF m 47 #[.val (.int f1), .val (.int x1), .val (.int y1), .val (.int z1), .val (.int (2 : Int32)), .val (.ref b_112), .val .null, .val (.ref b_170), .val (.ref b_173), .unset, .unset, .unset, .unset] [(.ref b174)])) t ∧ _
      refine own_go (fun _ => XS.astore X174.here hx rfl (hb hby at_47) rfl rfl (l' := #[.val (.int f1), .val (.int x1), .val (.int y1), .val (.int z1), .val (.int (2 : Int32)), .val (.ref b_112), .val .null, .val (.ref b_170), .val (.ref b_173), .val (.ref b174), .unset, .unset, .unset]) rfl) ?_
      show ∃ t o, Steps p.tables e below (T174.setTop (mkF m 49 #[.val (.int f1), .val (.int x1), .val (.int y1), .val (.int z1), .val (.int (2 : Int32)), .val (.ref b_112), .val .null, .val (.ref b_170), .val (.ref b_173), .val (.ref b174), .unset, .unset, .unset] [])) t ∧ _
      refine own_go (fun _ => XS.iload X174.here hx rfl (hb hby at_49) rfl) ?_
      show ∃ t o, Steps p.tables e below (T174.setTop (mkF m 51 #[.val (.int f1), .val (.int x1), .val (.int y1), .val (.int z1), .val (.int (2 : Int32)), .val (.ref b_112), .val .null, .val (.ref b_170), .val (.ref b_173), .val (.ref b174), .unset, .unset, .unset] [(.int (2 : Int32))])) t ∧ _
      refine own_go (fun _ => XS.ifNo X174.here hx rfl (hb hby at_51) rfl ((if0 _ _).trans (tlt (by decide : (0 : Int32) < (2 : Int32))).2.2.2)) ?_
      show ∃ t o, Steps p.tables e below (T174.setTop (mkF m 54 #[.val (.int f1), .val (.int x1), .val (.int y1), .val (.int z1), .val (.int (2 : Int32)), .val (.ref b_112), .val .null, .val (.ref b_170), .val (.ref b_173), .val (.ref b174), .unset, .unset, .unset] [])) t ∧ _
      refine own_go (fun _ => XS.aload X174.here hx rfl (hb hby at_54) rfl rfl) ?_
      show ∃ t o, Steps p.tables e below (T174.setTop (mkF m 56 #[.val (.int f1), .val (.int x1), .val (.int y1), .val (.int z1), .val (.int (2 : Int32)), .val (.ref b_112), .val .null, .val (.ref b_170), .val (.ref b_173), .val (.ref b174), .unset, .unset, .unset] [(.ref b174)])) t ∧ _
      refine own_go (fun _ => XS.iconst X174.here hx rfl (hb hby at_56)) ?_
      show ∃ t o, Steps p.tables e below (T174.setTop (mkF m 57 #[.val (.int f1), .val (.int x1), .val (.int y1), .val (.int z1), .val (.int (2 : Int32)), .val (.ref b_112), .val .null, .val (.ref b_170), .val (.ref b_173), .val (.ref b174), .unset, .unset, .unset] [(.int (0 : Int32)), (.ref b174)])) t ∧ _
      refine own_go (fun _ => XS.aload X174.here hx rfl (hb hby at_57) rfl rfl) ?_
      show ∃ t o, Steps p.tables e below (T174.setTop (mkF m 59 #[.val (.int f1), .val (.int x1), .val (.int y1), .val (.int z1), .val (.int (2 : Int32)), .val (.ref b_112), .val .null, .val (.ref b_170), .val (.ref b_173), .val (.ref b174), .unset, .unset, .unset] [(.ref b_112), (.int (0 : Int32)), (.ref b174)])) t ∧ _
      obtain ⟨cl175, Ar175, q175, S175, N175, H175, G175⟩ := id V_b174
      have hin175 : ¬ ((0 : Int32) < 0 ∨ cl175.slots.size ≤ ((0 : Int32)).toNatClampNeg) := inb_of S175 ⟨by decide, by decide⟩
      have F176 : Exa Z h174 b_112 "java/lang/Integer" := (Exa.ext E174 (Exa.keep (Exa.keep G112_0 Kp170) Kp173))
      obtain ⟨T177, h177, X177, e177, W177, st177⟩ := stR X174 hx hZ e174 Ar175 (j := (0 : Int32)) hin175 rfl (Sto.ofV Ar175 q175 O174 (Ins.of_exa F176 (hw _ (List.mem_of_getElem? (i := 75) rfl)))) (g := (mkF m 59 #[.val (.int f1), .val (.int x1), .val (.int y1), .val (.int z1), .val (.int (2 : Int32)), .val (.ref b_112), .val .null, .val (.ref b_170), .val (.ref b_173), .val (.ref b174), .unset, .unset, .unset] [(.ref b_112), (.int (0 : Int32)), (.ref b174)])) rfl rfl (hb hby at_59)
      refine own_go st177 ?_
      have ge178 : n0 ≤ b174 := by omega
      have le_177 : h174.size ≤ h177.size := Nat.le_of_eq W177.size.symm
      have sz179 : h0.size ≤ b174 := by omega
      have K177 : Keep h0 h177 [] := Keep.wr K174 W177 (Or.inr sz179)
      have N177 := Fr.snoc X177 N173 ge178
      have V177 : Arv Z h177 b174 k174 (.object "java/lang/Object") (2 : Int32) [(.ref b_112), .null] .null := Arv.set Ar175 q175 S175 N175 H175 G175 rfl W177 0 rfl (Nat.le_of_ble_eq_true rfl)
      show ∃ t o, Steps p.tables e below (T177.setTop (mkF m 60 #[.val (.int f1), .val (.int x1), .val (.int y1), .val (.int z1), .val (.int (2 : Int32)), .val (.ref b_112), .val .null, .val (.ref b_170), .val (.ref b_173), .val (.ref b174), .unset, .unset, .unset] [])) t ∧ _
      refine own_go (fun _ => XS.iload X177.here hx rfl (hb hby at_60) rfl) ?_
      show ∃ t o, Steps p.tables e below (T177.setTop (mkF m 62 #[.val (.int f1), .val (.int x1), .val (.int y1), .val (.int z1), .val (.int (2 : Int32)), .val (.ref b_112), .val .null, .val (.ref b_170), .val (.ref b_173), .val (.ref b174), .unset, .unset, .unset] [(.int (2 : Int32))])) t ∧ _
      refine own_go (fun _ => XS.iconst X177.here hx rfl (hb hby at_62)) ?_
      show ∃ t o, Steps p.tables e below (T177.setTop (mkF m 63 #[.val (.int f1), .val (.int x1), .val (.int y1), .val (.int z1), .val (.int (2 : Int32)), .val (.ref b_112), .val .null, .val (.ref b_170), .val (.ref b_173), .val (.ref b174), .unset, .unset, .unset] [(.int (1 : Int32)), (.int (2 : Int32))])) t ∧ _
      refine own_go (fun _ => XS.icmpNo X177.here hx rfl (hb hby at_63) rfl (tlt (by decide : (1 : Int32) < (2 : Int32))).2.2.2) ?_
      show ∃ t o, Steps p.tables e below (T177.setTop (mkF m 66 #[.val (.int f1), .val (.int x1), .val (.int y1), .val (.int z1), .val (.int (2 : Int32)), .val (.ref b_112), .val .null, .val (.ref b_170), .val (.ref b_173), .val (.ref b174), .unset, .unset, .unset] [])) t ∧ _
      refine own_go (fun _ => XS.aload X177.here hx rfl (hb hby at_66) rfl rfl) ?_
      show ∃ t o, Steps p.tables e below (T177.setTop (mkF m 68 #[.val (.int f1), .val (.int x1), .val (.int y1), .val (.int z1), .val (.int (2 : Int32)), .val (.ref b_112), .val .null, .val (.ref b_170), .val (.ref b_173), .val (.ref b174), .unset, .unset, .unset] [(.ref b174)])) t ∧ _
      refine own_go (fun _ => XS.iconst X177.here hx rfl (hb hby at_68)) ?_
      show ∃ t o, Steps p.tables e below (T177.setTop (mkF m 69 #[.val (.int f1), .val (.int x1), .val (.int y1), .val (.int z1), .val (.int (2 : Int32)), .val (.ref b_112), .val .null, .val (.ref b_170), .val (.ref b_173), .val (.ref b174), .unset, .unset, .unset] [(.int (1 : Int32)), (.ref b174)])) t ∧ _
      refine own_go (fun _ => XS.aload X177.here hx rfl (hb hby at_69) rfl rfl) ?_
      show ∃ t o, Steps p.tables e below (T177.setTop (mkF m 71 #[.val (.int f1), .val (.int x1), .val (.int y1), .val (.int z1), .val (.int (2 : Int32)), .val (.ref b_112), .val .null, .val (.ref b_170), .val (.ref b_173), .val (.ref b174), .unset, .unset, .unset] [.null, (.int (1 : Int32)), (.ref b174)])) t ∧ _
      obtain ⟨cl180, Ar180, q180, S180, N180, H180, G180⟩ := id V177
      have hin180 : ¬ ((1 : Int32) < 0 ∨ cl180.slots.size ≤ ((1 : Int32)).toNatClampNeg) := inb_of S180 ⟨by decide, by decide⟩
      obtain ⟨T181, h181, X181, e181, W181, st181⟩ := stR X177 hx hZ e177 Ar180 (j := (1 : Int32)) hin180 rfl (Or.inl rfl) (g := (mkF m 71 #[.val (.int f1), .val (.int x1), .val (.int y1), .val (.int z1), .val (.int (2 : Int32)), .val (.ref b_112), .val .null, .val (.ref b_170), .val (.ref b_173), .val (.ref b174), .unset, .unset, .unset] [.null, (.int (1 : Int32)), (.ref b174)])) rfl rfl (hb hby at_71)
      refine own_go st181 ?_
      have le_181 : h177.size ≤ h181.size := Nat.le_of_eq W181.size.symm
      have K181 : Keep h0 h181 [] := Keep.wr K177 W181 (Or.inr sz179)
      have N181 := Fr.snoc X181 N177 ge178
      have V181 : Arv Z h181 b174 k174 (.object "java/lang/Object") (2 : Int32) [(.ref b_112), .null] .null := Arv.set Ar180 q180 S180 N180 H180 G180 rfl W181 1 rfl (Nat.le_of_ble_eq_true rfl)
      show ∃ t o, Steps p.tables e below (T181.setTop (mkF m 72 #[.val (.int f1), .val (.int x1), .val (.int y1), .val (.int z1), .val (.int (2 : Int32)), .val (.ref b_112), .val .null, .val (.ref b_170), .val (.ref b_173), .val (.ref b174), .unset, .unset, .unset] [])) t ∧ _
      refine own_go (fun _ => XS.iload X181.here hx rfl (hb hby at_72) rfl) ?_
      show ∃ t o, Steps p.tables e below (T181.setTop (mkF m 74 #[.val (.int f1), .val (.int x1), .val (.int y1), .val (.int z1), .val (.int (2 : Int32)), .val (.ref b_112), .val .null, .val (.ref b_170), .val (.ref b_173), .val (.ref b174), .unset, .unset, .unset] [(.int (2 : Int32))])) t ∧ _
      refine own_go (fun _ => XS.iconst X181.here hx rfl (hb hby at_74)) ?_
      show ∃ t o, Steps p.tables e below (T181.setTop (mkF m 75 #[.val (.int f1), .val (.int x1), .val (.int y1), .val (.int z1), .val (.int (2 : Int32)), .val (.ref b_112), .val .null, .val (.ref b_170), .val (.ref b_173), .val (.ref b174), .unset, .unset, .unset] [(.int (2 : Int32)), (.int (2 : Int32))])) t ∧ _
      refine own_go (fun _ => XS.icmpYes X181.here hx rfl (pc0 := 75) (pc' := 84) rfl (hb hby at_75) rfl (flt (by decide : ¬ ((2 : Int32) < (2 : Int32)))).2.2.2 (by decide) (by decide)) ?_
      show ∃ t o, Steps p.tables e below (T181.setTop (mkF m 84 #[.val (.int f1), .val (.int x1), .val (.int y1), .val (.int z1), .val (.int (2 : Int32)), .val (.ref b_112), .val .null, .val (.ref b_170), .val (.ref b_173), .val (.ref b174), .unset, .unset, .unset] [])) t ∧ _
      refine own_go (fun _ => XS.aload X181.here hx rfl (hb hby at_84) rfl rfl) ?_
      show ∃ t o, Steps p.tables e below (T181.setTop (mkF m 86 #[.val (.int f1), .val (.int x1), .val (.int y1), .val (.int z1), .val (.int (2 : Int32)), .val (.ref b_112), .val .null, .val (.ref b_170), .val (.ref b_173), .val (.ref b174), .unset, .unset, .unset] [(.ref b174)])) t ∧ _
      have F182 : Exa Z h181 b_112 "java/lang/Integer" := (Exa.wr W181 (Exa.wr W177 F176))
      have ne183 : b_112 ≠ b174 := own_ne (by omega)
      have F184 : Fld Z h181 b_112 "java/lang/Integer" "value" "I" (.int rv_112) := (Fld.other W181 (Fld.other W177 (Fld.ext E174 (Fld.keep (Fld.keep G112_1 Kp170 nin0) Kp173 nin0)) (Or.inl ne183)) (Or.inl ne183))
      have F185 : Old Z n0 h181 := (Old.wr (Old.wr ((Old.keep F171 Kp173 all0).ext E174) W177 ge178) W181 ge178)
      have zl186 : n0 ≤ h181.size := by omega
      obtain ⟨_, _, ⟨T187, L187, k187, n187⟩, -, X187, ⟨Lc187, hQ187, l187, y187, z187⟩, st187⟩ := Jvm.LawKit.callS X181 hx (y := (⟨"com/example/planwright/planwright/plan/Key", "of", "([Ljava/lang/Object;)Ljava/lang/Object;"⟩ : MethodName)) hown (mvT hZ (hw _ (List.mem_of_getElem? (i := 17) rfl))) (mvT hZ (hw _ (List.mem_of_getElem? (i := 18) rfl))) (mvT hZ (hw _ (List.mem_of_getElem? (i := 19) rfl))) (mvT hZ (hw _ (List.mem_of_getElem? (i := 20) rfl))) (by decide) (backOf (W := 0) (rmOf2n l Z a0 hw [] b174 k174 b_112 rv_112 h181 n0 zl186 V181 F182 F184 F185) hZ (hw _ (List.mem_of_getElem? (i := 20) rfl)) (hw _ (List.mem_of_getElem? (i := 19) rfl)) (by decide) (by decide)) (g := (mkF m 86 #[.val (.int f1), .val (.int x1), .val (.int y1), .val (.int z1), .val (.int (2 : Int32)), .val (.ref b_112), .val .null, .val (.ref b_170), .val (.ref b_173), .val (.ref b174), .unset, .unset, .unset] [(.ref b174)])) rfl (by rw [hml]; rfl) (argsL := [(.ref b174)]) (rest := []) (lenOf pd_hefb3f20f rfl) rfl (by show 2 * 0 + _ ≤ _; exact Nat.le_of_eq rfl) (hb hby at_86) (fun _ _ => ⟨rfl, e181, (by decide : 4 + 1 ≤ _), (by decide : 5 + 2 ≤ _)⟩)
      dsimp only [Pt.U, Pt.locs, Pt.cells, Pt.slots] at X187 l187 y187 z187 st187 hQ187
      subst l187 y187 z187
      obtain ⟨b_187, rfl, Nq187, Kp187, G187_0, G187_1, H187_0⟩ := hQ187
      have N187 := Fr.app N181 Nq187
      refine own_go st187 ?_
      have le_187 : h181.size ≤ T187.heap.size := Kp187.1
      have K187 : Keep h0 T187.heap [] := Keep.trans K181 Kp187 all0
      have lt_b_187 : b_187 < T187.heap.size := (G187_0).lt
      show ∃ t o, Steps p.tables e below (T187.setTop (mkF m 89 #[.val (.int f1), .val (.int x1), .val (.int y1), .val (.int z1), .val (.int (2 : Int32)), .val (.ref b_112), .val .null, .val (.ref b_170), .val (.ref b_173), .val (.ref b174), .unset, .unset, .unset] [(.ref b_187)])) t ∧ _
      refine own_go (fun _ => XS.astore X187.here hx rfl (hb hby at_89) rfl rfl (l' := #[.val (.int f1), .val (.int x1), .val (.int y1), .val (.int z1), .val (.int (2 : Int32)), .val (.ref b_112), .val .null, .val (.ref b_170), .val (.ref b_173), .val (.ref b174), .val (.ref b_187), .unset, .unset]) rfl) ?_
      show ∃ t o, Steps p.tables e below (T187.setTop (mkF m 91 #[.val (.int f1), .val (.int x1), .val (.int y1), .val (.int z1), .val (.int (2 : Int32)), .val (.ref b_112), .val .null, .val (.ref b_170), .val (.ref b_173), .val (.ref b174), .val (.ref b_187), .unset, .unset] [])) t ∧ _
      refine own_go (fun _ => XS.aload X187.here hx rfl (hb hby at_91) rfl rfl) ?_
      show ∃ t o, Steps p.tables e below (T187.setTop (mkF m 93 #[.val (.int f1), .val (.int x1), .val (.int y1), .val (.int z1), .val (.int (2 : Int32)), .val (.ref b_112), .val .null, .val (.ref b_170), .val (.ref b_173), .val (.ref b174), .val (.ref b_187), .unset, .unset] [(.ref b_187)])) t ∧ _
      refine own_go (fun _ => XS.iload X187.here hx rfl (hb hby at_93) rfl) ?_
      show ∃ t o, Steps p.tables e below (T187.setTop (mkF m 95 #[.val (.int f1), .val (.int x1), .val (.int y1), .val (.int z1), .val (.int (2 : Int32)), .val (.ref b_112), .val .null, .val (.ref b_170), .val (.ref b_173), .val (.ref b174), .val (.ref b_187), .unset, .unset] [(.int (2 : Int32)), (.ref b_187)])) t ∧ _
      have F188 : Arv Z T187.heap b174 k174 (.object "java/lang/Object") (2 : Int32) [(.ref b_112), .null] .null := (Arv.keep V181 Kp187 nin0)
      have F189 : Exa Z T187.heap b174 "[Ljava/lang/Object;" := (Exa.keep (Exa.wr W181 (Exa.wr W177 Q174)) Kp187)
      have F190 : Old Z n0 T187.heap := (Old.keep F185 Kp187 all0)
      have zl191 : n0 ≤ T187.heap.size := by omega
      obtain ⟨_, _, ⟨T192, L192, k192, n192⟩, -, X192, ⟨Lc192, hQ192, l192, y192, z192⟩, st192⟩ := Jvm.LawKit.callS X187 hx (y := (⟨"com/example/planwright/planwright/plan/Key", "values", "(Ljava/lang/Object;I)[Ljava/lang/Object;"⟩ : MethodName)) hown (mvT hZ (hw _ (List.mem_of_getElem? (i := 37) rfl))) (mvT hZ (hw _ (List.mem_of_getElem? (i := 38) rfl))) (mvT hZ (hw _ (List.mem_of_getElem? (i := 19) rfl))) (mvT hZ (hw _ (List.mem_of_getElem? (i := 39) rfl))) (by decide) (backOf (W := 0) (rmVals2n l Z a0 hw [] b_187 b174 k174 b_112 T187.heap n0 zl191 G187_0 G187_1 F188 F189 F190) hZ (hw _ (List.mem_of_getElem? (i := 39) rfl)) (hw _ (List.mem_of_getElem? (i := 19) rfl)) (by decide) (by decide)) (g := (mkF m 95 #[.val (.int f1), .val (.int x1), .val (.int y1), .val (.int z1), .val (.int (2 : Int32)), .val (.ref b_112), .val .null, .val (.ref b_170), .val (.ref b_173), .val (.ref b174), .val (.ref b_187), .unset, .unset] [(.int (2 : Int32)), (.ref b_187)])) rfl (by rw [hml]; rfl) (argsL := [(.ref b_187), (.int (2 : Int32))]) (rest := []) (lenOf pd_h9d814d6e rfl) rfl (by show 2 * 0 + _ ≤ _; exact Nat.le_of_eq rfl) (hb hby at_95) (fun _ _ => ⟨rfl, rfl, (by decide : 5 + 1 ≤ _), (by decide : 7 + 2 ≤ _)⟩)
      dsimp only [Pt.U, Pt.locs, Pt.cells, Pt.slots] at X192 l192 y192 z192 st192 hQ192
      subst l192 y192 z192
      obtain ⟨b_192, rfl, Nq192, Kp192, G192_0, H192_0⟩ := hQ192
      have N192 := Fr.app N187 Nq192
      refine own_go st192 ?_
      have le_192 : T187.heap.size ≤ T192.heap.size := Kp192.1
      have K192 : Keep h0 T192.heap [] := Keep.trans K187 Kp192 all0
      have lt_b_192 : b_192 < T192.heap.size := (G192_0).lt
      show ∃ t o, Steps p.tables e below (T192.setTop (mkF m 98 #[.val (.int f1), .val (.int x1), .val (.int y1), .val (.int z1), .val (.int (2 : Int32)), .val (.ref b_112), .val .null, .val (.ref b_170), .val (.ref b_173), .val (.ref b174), .val (.ref b_187), .unset, .unset] [(.ref b_192)])) t ∧ _
      refine own_go (fun _ => XS.astore X192.here hx rfl (hb hby at_98) rfl rfl (l' := #[.val (.int f1), .val (.int x1), .val (.int y1), .val (.int z1), .val (.int (2 : Int32)), .val (.ref b_112), .val .null, .val (.ref b_170), .val (.ref b_173), .val (.ref b174), .val (.ref b_187), .val (.ref b_192), .unset]) rfl) ?_
      show ∃ t o, Steps p.tables e below (T192.setTop (mkF m 100 #[.val (.int f1), .val (.int x1), .val (.int y1), .val (.int z1), .val (.int (2 : Int32)), .val (.ref b_112), .val .null, .val (.ref b_170), .val (.ref b_173), .val (.ref b174), .val (.ref b_187), .val (.ref b_192), .unset] [])) t ∧ _
      refine own_go (fun _ => XS.aload X192.here hx rfl (hb hby at_100) rfl rfl) ?_
      show ∃ t o, Steps p.tables e below (T192.setTop (mkF m 102 #[.val (.int f1), .val (.int x1), .val (.int y1), .val (.int z1), .val (.int (2 : Int32)), .val (.ref b_112), .val .null, .val (.ref b_170), .val (.ref b_173), .val (.ref b174), .val (.ref b_187), .val (.ref b_192), .unset] [(.ref b_192)])) t ∧ _
      refine own_go (fun _ => XS.ifnullNo X192.here hx rfl (hb hby at_102) rfl) ?_
      show ∃ t o, Steps p.tables e below (T192.setTop (mkF m 105 #[.val (.int f1), .val (.int x1), .val (.int y1), .val (.int z1), .val (.int (2 : Int32)), .val (.ref b_112), .val .null, .val (.ref b_170), .val (.ref b_173), .val (.ref b174), .val (.ref b_187), .val (.ref b_192), .unset] [])) t ∧ _
      refine own_go (fun _ => XS.aload X192.here hx rfl (hb hby at_105) rfl rfl) ?_
      show ∃ t o, Steps p.tables e below (T192.setTop (mkF m 107 #[.val (.int f1), .val (.int x1), .val (.int y1), .val (.int z1), .val (.int (2 : Int32)), .val (.ref b_112), .val .null, .val (.ref b_170), .val (.ref b_173), .val (.ref b174), .val (.ref b_187), .val (.ref b_192), .unset] [(.ref b_192)])) t ∧ _
      refine own_go (fun _ => XS.aload X192.here hx rfl (hb hby at_107) rfl rfl) ?_
      show ∃ t o, Steps p.tables e below (T192.setTop (mkF m 109 #[.val (.int f1), .val (.int x1), .val (.int y1), .val (.int z1), .val (.int (2 : Int32)), .val (.ref b_112), .val .null, .val (.ref b_170), .val (.ref b_173), .val (.ref b174), .val (.ref b_187), .val (.ref b_192), .unset] [(.ref b174), (.ref b_192)])) t ∧ _
      have ne193 : b_192 ≠ b174 := own_ne (by omega)
      refine own_go (fun _ => Jvm.RoadKit.acmp (g := (mkF m 109 #[.val (.int f1), .val (.int x1), .val (.int y1), .val (.int z1), .val (.int (2 : Int32)), .val (.ref b_112), .val .null, .val (.ref b_170), .val (.ref b_173), .val (.ref b174), .val (.ref b_187), .val (.ref b_192), .unset] [(.ref b174), (.ref b_192)])) X192 hx rfl rfl rfl (pc0 := 109) (pc' := 112) (same := false) rfl (hb hby at_109) rfl (decide_eq_false fun q => ne193 (Value.ref.inj q)) (by decide) (by decide)) ?_
      show ∃ t o, Steps p.tables e below (T192.setTop (mkF m 112 #[.val (.int f1), .val (.int x1), .val (.int y1), .val (.int z1), .val (.int (2 : Int32)), .val (.ref b_112), .val .null, .val (.ref b_170), .val (.ref b_173), .val (.ref b174), .val (.ref b_187), .val (.ref b_192), .unset] [])) t ∧ _
      refine own_go (fun _ => XS.aload X192.here hx rfl (hb hby at_112) rfl rfl) ?_
      show ∃ t o, Steps p.tables e below (T192.setTop (mkF m 114 #[.val (.int f1), .val (.int x1), .val (.int y1), .val (.int z1), .val (.int (2 : Int32)), .val (.ref b_112), .val .null, .val (.ref b_170), .val (.ref b_173), .val (.ref b174), .val (.ref b_187), .val (.ref b_192), .unset] [(.ref b_192)])) t ∧ _
      obtain ⟨cl194, Ar194, q194, S194, N194, H194, G194⟩ := id G192_0
      have ln194 : cl194.slots.size.toInt32 = (2 : Int32) := len_of S194 N194
      have al194 := X192.arraylength hx Ar194.1 (State.isArrayOf_alike hZ.alike Ar194.2.1) (g := (mkF m 114 #[.val (.int f1), .val (.int x1), .val (.int y1), .val (.int z1), .val (.int (2 : Int32)), .val (.ref b_112), .val .null, .val (.ref b_170), .val (.ref b_173), .val (.ref b174), .val (.ref b_187), .val (.ref b_192), .unset] [(.ref b_192)])) rfl rfl (hb hby at_114)
      rw [ln194] at al194
      refine own_go al194 ?_
      show ∃ t o, Steps p.tables e below (T192.setTop (mkF m 115 #[.val (.int f1), .val (.int x1), .val (.int y1), .val (.int z1), .val (.int (2 : Int32)), .val (.ref b_112), .val .null, .val (.ref b_170), .val (.ref b_173), .val (.ref b174), .val (.ref b_187), .val (.ref b_192), .unset] [(.int (2 : Int32))])) t ∧ _
      refine own_go (fun _ => XS.iload X192.here hx rfl (hb hby at_115) rfl) ?_
      show ∃ t o, Steps p.tables e below (T192.setTop (mkF m 117 #[.val (.int f1), .val (.int x1), .val (.int y1), .val (.int z1), .val (.int (2 : Int32)), .val (.ref b_112), .val .null, .val (.ref b_170), .val (.ref b_173), .val (.ref b174), .val (.ref b_187), .val (.ref b_192), .unset] [(.int (2 : Int32)), (.int (2 : Int32))])) t ∧ _
      refine own_go (fun _ => XS.icmpYes X192.here hx rfl (pc0 := 117) (pc' := 122) rfl (hb hby at_117) rfl (teq (by decide : (2 : Int32) = (2 : Int32))).1 (by decide) (by decide)) ?_
      show ∃ t o, Steps p.tables e below (T192.setTop (mkF m 122 #[.val (.int f1), .val (.int x1), .val (.int y1), .val (.int z1), .val (.int (2 : Int32)), .val (.ref b_112), .val .null, .val (.ref b_170), .val (.ref b_173), .val (.ref b174), .val (.ref b_187), .val (.ref b_192), .unset] [])) t ∧ _
      refine own_go (fun _ => XS.iload X192.here hx rfl (hb hby at_122) rfl) ?_
      show ∃ t o, Steps p.tables e below (T192.setTop (mkF m 124 #[.val (.int f1), .val (.int x1), .val (.int y1), .val (.int z1), .val (.int (2 : Int32)), .val (.ref b_112), .val .null, .val (.ref b_170), .val (.ref b_173), .val (.ref b174), .val (.ref b_187), .val (.ref b_192), .unset] [(.int (2 : Int32))])) t ∧ _
      refine own_go (fun _ => XS.ifNo X192.here hx rfl (hb hby at_124) rfl ((if0 _ _).trans (tlt (by decide : (0 : Int32) < (2 : Int32))).2.2.2)) ?_
      show ∃ t o, Steps p.tables e below (T192.setTop (mkF m 127 #[.val (.int f1), .val (.int x1), .val (.int y1), .val (.int z1), .val (.int (2 : Int32)), .val (.ref b_112), .val .null, .val (.ref b_170), .val (.ref b_173), .val (.ref b174), .val (.ref b_187), .val (.ref b_192), .unset] [])) t ∧ _
      refine own_go (fun _ => XS.aload X192.here hx rfl (hb hby at_127) rfl rfl) ?_
      show ∃ t o, Steps p.tables e below (T192.setTop (mkF m 129 #[.val (.int f1), .val (.int x1), .val (.int y1), .val (.int z1), .val (.int (2 : Int32)), .val (.ref b_112), .val .null, .val (.ref b_170), .val (.ref b_173), .val (.ref b174), .val (.ref b_187), .val (.ref b_192), .unset] [(.ref b_192)])) t ∧ _
      refine own_go (fun _ => XS.iconst X192.here hx rfl (hb hby at_129)) ?_
      show ∃ t o, Steps p.tables e below (T192.setTop (mkF m 130 #[.val (.int f1), .val (.int x1), .val (.int y1), .val (.int z1), .val (.int (2 : Int32)), .val (.ref b_112), .val .null, .val (.ref b_170), .val (.ref b_173), .val (.ref b174), .val (.ref b_187), .val (.ref b_192), .unset] [(.int (0 : Int32)), (.ref b_192)])) t ∧ _
      obtain ⟨cl195, Ar195, q195, S195, N195, H195, G195⟩ := id G192_0
      have hin195 : ¬ ((0 : Int32) < 0 ∨ cl195.slots.size ≤ ((0 : Int32)).toNatClampNeg) := inb_of S195 ⟨by decide, by decide⟩
      have hat195 : cl195.slots[((0 : Int32)).toNatClampNeg]? = some (.ref b_112) := Has.at H195 hin195 rfl
      refine own_go (fun _ => X192.aaload hx (j := (0 : Int32)) (v := (.ref b_112)) Ar195.1 (State.isArrayOf_alike hZ.alike Ar195.2.1) rfl Ar195.2.2 hin195 hat195 (g := (mkF m 130 #[.val (.int f1), .val (.int x1), .val (.int y1), .val (.int z1), .val (.int (2 : Int32)), .val (.ref b_112), .val .null, .val (.ref b_170), .val (.ref b_173), .val (.ref b174), .val (.ref b_187), .val (.ref b_192), .unset] [(.int (0 : Int32)), (.ref b_192)])) rfl rfl (hb hby at_130) _) ?_
      show ∃ t o, Steps p.tables e below (T192.setTop (mkF m 131 #[.val (.int f1), .val (.int x1), .val (.int y1), .val (.int z1), .val (.int (2 : Int32)), .val (.ref b_112), .val .null, .val (.ref b_170), .val (.ref b_173), .val (.ref b174), .val (.ref b_187), .val (.ref b_192), .unset] [(.ref b_112)])) t ∧ _
      refine own_go (fun _ => XS.aload X192.here hx rfl (hb hby at_131) rfl rfl) ?_
      show ∃ t o, Steps p.tables e below (T192.setTop (mkF m 133 #[.val (.int f1), .val (.int x1), .val (.int y1), .val (.int z1), .val (.int (2 : Int32)), .val (.ref b_112), .val .null, .val (.ref b_170), .val (.ref b_173), .val (.ref b174), .val (.ref b_187), .val (.ref b_192), .unset] [(.ref b_112), (.ref b_112)])) t ∧ _
      refine own_go (fun _ => Jvm.RoadKit.acmp (g := (mkF m 133 #[.val (.int f1), .val (.int x1), .val (.int y1), .val (.int z1), .val (.int (2 : Int32)), .val (.ref b_112), .val .null, .val (.ref b_170), .val (.ref b_173), .val (.ref b174), .val (.ref b_187), .val (.ref b_192), .unset] [(.ref b_112), (.ref b_112)])) X192 hx rfl rfl rfl (pc0 := 133) (pc' := 138) (same := true) rfl (hb hby at_133) rfl (decide_eq_true rfl) (by decide) (by decide)) ?_
      show ∃ t o, Steps p.tables e below (T192.setTop (mkF m 138 #[.val (.int f1), .val (.int x1), .val (.int y1), .val (.int z1), .val (.int (2 : Int32)), .val (.ref b_112), .val .null, .val (.ref b_170), .val (.ref b_173), .val (.ref b174), .val (.ref b_187), .val (.ref b_192), .unset] [])) t ∧ _
      refine own_go (fun _ => XS.iload X192.here hx rfl (hb hby at_138) rfl) ?_
      show ∃ t o, Steps p.tables e below (T192.setTop (mkF m 140 #[.val (.int f1), .val (.int x1), .val (.int y1), .val (.int z1), .val (.int (2 : Int32)), .val (.ref b_112), .val .null, .val (.ref b_170), .val (.ref b_173), .val (.ref b174), .val (.ref b_187), .val (.ref b_192), .unset] [(.int (2 : Int32))])) t ∧ _
      refine own_go (fun _ => XS.iconst X192.here hx rfl (hb hby at_140)) ?_
      show ∃ t o, Steps p.tables e below (T192.setTop (mkF m 141 #[.val (.int f1), .val (.int x1), .val (.int y1), .val (.int z1), .val (.int (2 : Int32)), .val (.ref b_112), .val .null, .val (.ref b_170), .val (.ref b_173), .val (.ref b174), .val (.ref b_187), .val (.ref b_192), .unset] [(.int (1 : Int32)), (.int (2 : Int32))])) t ∧ _
      refine own_go (fun _ => XS.icmpNo X192.here hx rfl (hb hby at_141) rfl (tlt (by decide : (1 : Int32) < (2 : Int32))).2.2.2) ?_
      show ∃ t o, Steps p.tables e below (T192.setTop (mkF m 144 #[.val (.int f1), .val (.int x1), .val (.int y1), .val (.int z1), .val (.int (2 : Int32)), .val (.ref b_112), .val .null, .val (.ref b_170), .val (.ref b_173), .val (.ref b174), .val (.ref b_187), .val (.ref b_192), .unset] [])) t ∧ _
      refine own_go (fun _ => XS.aload X192.here hx rfl (hb hby at_144) rfl rfl) ?_
      show ∃ t o, Steps p.tables e below (T192.setTop (mkF m 146 #[.val (.int f1), .val (.int x1), .val (.int y1), .val (.int z1), .val (.int (2 : Int32)), .val (.ref b_112), .val .null, .val (.ref b_170), .val (.ref b_173), .val (.ref b174), .val (.ref b_187), .val (.ref b_192), .unset] [(.ref b_192)])) t ∧ _
      refine own_go (fun _ => XS.iconst X192.here hx rfl (hb hby at_146)) ?_
      show ∃ t o, Steps p.tables e below (T192.setTop (mkF m 147 #[.val (.int f1), .val (.int x1), .val (.int y1), .val (.int z1), .val (.int (2 : Int32)), .val (.ref b_112), .val .null, .val (.ref b_170), .val (.ref b_173), .val (.ref b174), .val (.ref b_187), .val (.ref b_192), .unset] [(.int (1 : Int32)), (.ref b_192)])) t ∧ _
      obtain ⟨cl196, Ar196, q196, S196, N196, H196, G196⟩ := id G192_0
      have hin196 : ¬ ((1 : Int32) < 0 ∨ cl196.slots.size ≤ ((1 : Int32)).toNatClampNeg) := inb_of S196 ⟨by decide, by decide⟩
      have hat196 : cl196.slots[((1 : Int32)).toNatClampNeg]? = some .null := Has.at H196 hin196 rfl
      refine own_go (fun _ => X192.aaload hx (j := (1 : Int32)) (v := .null) Ar196.1 (State.isArrayOf_alike hZ.alike Ar196.2.1) rfl Ar196.2.2 hin196 hat196 (g := (mkF m 147 #[.val (.int f1), .val (.int x1), .val (.int y1), .val (.int z1), .val (.int (2 : Int32)), .val (.ref b_112), .val .null, .val (.ref b_170), .val (.ref b_173), .val (.ref b174), .val (.ref b_187), .val (.ref b_192), .unset] [(.int (1 : Int32)), (.ref b_192)])) rfl rfl (hb hby at_147) _) ?_
      show ∃ t o, Steps p.tables e below (T192.setTop (mkF m 148 #[.val (.int f1), .val (.int x1), .val (.int y1), .val (.int z1), .val (.int (2 : Int32)), .val (.ref b_112), .val .null, .val (.ref b_170), .val (.ref b_173), .val (.ref b174), .val (.ref b_187), .val (.ref b_192), .unset] [.null])) t ∧ _
      refine own_go (fun _ => XS.aload X192.here hx rfl (hb hby at_148) rfl rfl) ?_
      show ∃ t o, Steps p.tables e below (T192.setTop (mkF m 150 #[.val (.int f1), .val (.int x1), .val (.int y1), .val (.int z1), .val (.int (2 : Int32)), .val (.ref b_112), .val .null, .val (.ref b_170), .val (.ref b_173), .val (.ref b174), .val (.ref b_187), .val (.ref b_192), .unset] [.null, .null])) t ∧ _
      refine own_go (fun _ => Jvm.RoadKit.acmp (g := (mkF m 150 #[.val (.int f1), .val (.int x1), .val (.int y1), .val (.int z1), .val (.int (2 : Int32)), .val (.ref b_112), .val .null, .val (.ref b_170), .val (.ref b_173), .val (.ref b174), .val (.ref b_187), .val (.ref b_192), .unset] [.null, .null])) X192 hx rfl rfl rfl (pc0 := 150) (pc' := 155) (same := true) rfl (hb hby at_150) rfl (decide_eq_true rfl) (by decide) (by decide)) ?_
      show ∃ t o, Steps p.tables e below (T192.setTop (mkF m 155 #[.val (.int f1), .val (.int x1), .val (.int y1), .val (.int z1), .val (.int (2 : Int32)), .val (.ref b_112), .val .null, .val (.ref b_170), .val (.ref b_173), .val (.ref b174), .val (.ref b_187), .val (.ref b_192), .unset] [])) t ∧ _
      refine own_go (fun _ => XS.iload X192.here hx rfl (hb hby at_155) rfl) ?_
      show ∃ t o, Steps p.tables e below (T192.setTop (mkF m 157 #[.val (.int f1), .val (.int x1), .val (.int y1), .val (.int z1), .val (.int (2 : Int32)), .val (.ref b_112), .val .null, .val (.ref b_170), .val (.ref b_173), .val (.ref b174), .val (.ref b_187), .val (.ref b_192), .unset] [(.int (2 : Int32))])) t ∧ _
      refine own_go (fun _ => XS.iconst X192.here hx rfl (hb hby at_157)) ?_
      show ∃ t o, Steps p.tables e below (T192.setTop (mkF m 158 #[.val (.int f1), .val (.int x1), .val (.int y1), .val (.int z1), .val (.int (2 : Int32)), .val (.ref b_112), .val .null, .val (.ref b_170), .val (.ref b_173), .val (.ref b174), .val (.ref b_187), .val (.ref b_192), .unset] [(.int (2 : Int32)), (.int (2 : Int32))])) t ∧ _
      refine own_go (fun _ => XS.icmpYes X192.here hx rfl (pc0 := 158) (pc' := 172) rfl (hb hby at_158) rfl (flt (by decide : ¬ ((2 : Int32) < (2 : Int32)))).2.2.2 (by decide) (by decide)) ?_
      show ∃ t o, Steps p.tables e below (T192.setTop (mkF m 172 #[.val (.int f1), .val (.int x1), .val (.int y1), .val (.int z1), .val (.int (2 : Int32)), .val (.ref b_112), .val .null, .val (.ref b_170), .val (.ref b_173), .val (.ref b174), .val (.ref b_187), .val (.ref b_192), .unset] [])) t ∧ _
      refine own_go (fun _ => XS.iload X192.here hx rfl (hb hby at_172) rfl) ?_
      show ∃ t o, Steps p.tables e below (T192.setTop (mkF m 174 #[.val (.int f1), .val (.int x1), .val (.int y1), .val (.int z1), .val (.int (2 : Int32)), .val (.ref b_112), .val .null, .val (.ref b_170), .val (.ref b_173), .val (.ref b174), .val (.ref b_187), .val (.ref b_192), .unset] [(.int (2 : Int32))])) t ∧ _
      refine own_go (fun _ => XS.ifNo X192.here hx rfl (hb hby at_174) rfl ((if0 _ _).trans (tlt (by decide : (0 : Int32) < (2 : Int32))).2.2.2)) ?_
      show ∃ t o, Steps p.tables e below (T192.setTop (mkF m 177 #[.val (.int f1), .val (.int x1), .val (.int y1), .val (.int z1), .val (.int (2 : Int32)), .val (.ref b_112), .val .null, .val (.ref b_170), .val (.ref b_173), .val (.ref b174), .val (.ref b_187), .val (.ref b_192), .unset] [])) t ∧ _
      refine own_go (fun _ => XS.aload X192.here hx rfl (hb hby at_177) rfl rfl) ?_
      show ∃ t o, Steps p.tables e below (T192.setTop (mkF m 179 #[.val (.int f1), .val (.int x1), .val (.int y1), .val (.int z1), .val (.int (2 : Int32)), .val (.ref b_112), .val .null, .val (.ref b_170), .val (.ref b_173), .val (.ref b174), .val (.ref b_187), .val (.ref b_192), .unset] [(.ref b_192)])) t ∧ _
      refine own_go (fun _ => XS.iconst X192.here hx rfl (hb hby at_179)) ?_
      show ∃ t o, Steps p.tables e below (T192.setTop (mkF m 180 #[.val (.int f1), .val (.int x1), .val (.int y1), .val (.int z1), .val (.int (2 : Int32)), .val (.ref b_112), .val .null, .val (.ref b_170), .val (.ref b_173), .val (.ref b174), .val (.ref b_187), .val (.ref b_192), .unset] [(.int (0 : Int32)), (.ref b_192)])) t ∧ _
      refine own_go (fun _ => XS.aload X192.here hx rfl (hb hby at_180) rfl rfl) ?_
      show ∃ t o, Steps p.tables e below (T192.setTop (mkF m 182 #[.val (.int f1), .val (.int x1), .val (.int y1), .val (.int z1), .val (.int (2 : Int32)), .val (.ref b_112), .val .null, .val (.ref b_170), .val (.ref b_173), .val (.ref b174), .val (.ref b_187), .val (.ref b_192), .unset] [(.ref b_173), (.int (0 : Int32)), (.ref b_192)])) t ∧ _
      obtain ⟨cl197, Ar197, q197, S197, N197, H197, G197⟩ := id G192_0
      have hin197 : ¬ ((0 : Int32) < 0 ∨ cl197.slots.size ≤ ((0 : Int32)).toNatClampNeg) := inb_of S197 ⟨by decide, by decide⟩
      have F198 : Exa Z T192.heap b_173 "java/lang/Integer" := (Exa.keep (Exa.keep (Exa.wr W181 (Exa.wr W177 (Exa.ext E174 G173_0))) Kp187) Kp192)
      obtain ⟨T199, h199, X199, e199, W199, st199⟩ := stR X192 hx hZ rfl Ar197 (j := (0 : Int32)) hin197 rfl (Sto.ofV Ar197 q197 O174 (Ins.of_exa F198 (hw _ (List.mem_of_getElem? (i := 75) rfl)))) (g := (mkF m 182 #[.val (.int f1), .val (.int x1), .val (.int y1), .val (.int z1), .val (.int (2 : Int32)), .val (.ref b_112), .val .null, .val (.ref b_170), .val (.ref b_173), .val (.ref b174), .val (.ref b_187), .val (.ref b_192), .unset] [(.ref b_173), (.int (0 : Int32)), (.ref b_192)])) rfl rfl (hb hby at_182)
      refine own_go st199 ?_
      have ge200 : n0 ≤ b_192 := by omega
      have le_199 : T192.heap.size ≤ h199.size := Nat.le_of_eq W199.size.symm
      have sz201 : h0.size ≤ b_192 := by omega
      have K199 : Keep h0 h199 [] := Keep.wr K192 W199 (Or.inr sz201)
      have N199 := Fr.snoc X199 N192 ge200
      have V199 : Arv Z h199 b_192 k174 (.object "java/lang/Object") (2 : Int32) [(.ref b_173), .null] .null := Arv.set Ar197 q197 S197 N197 H197 G197 rfl W199 0 rfl (Nat.le_of_ble_eq_true rfl)
      show ∃ t o, Steps p.tables e below (T199.setTop (mkF m 183 #[.val (.int f1), .val (.int x1), .val (.int y1), .val (.int z1), .val (.int (2 : Int32)), .val (.ref b_112), .val .null, .val (.ref b_170), .val (.ref b_173), .val (.ref b174), .val (.ref b_187), .val (.ref b_192), .unset] [])) t ∧ _
      refine own_go (fun _ => XS.aload X199.here hx rfl (hb hby at_183) rfl rfl) ?_
      show ∃ t o, Steps p.tables e below (T199.setTop (mkF m 185 #[.val (.int f1), .val (.int x1), .val (.int y1), .val (.int z1), .val (.int (2 : Int32)), .val (.ref b_112), .val .null, .val (.ref b_170), .val (.ref b_173), .val (.ref b174), .val (.ref b_187), .val (.ref b_192), .unset] [(.ref b_187)])) t ∧ _
      refine own_go (fun _ => XS.iload X199.here hx rfl (hb hby at_185) rfl) ?_
      show ∃ t o, Steps p.tables e below (T199.setTop (mkF m 187 #[.val (.int f1), .val (.int x1), .val (.int y1), .val (.int z1), .val (.int (2 : Int32)), .val (.ref b_112), .val .null, .val (.ref b_170), .val (.ref b_173), .val (.ref b174), .val (.ref b_187), .val (.ref b_192), .unset] [(.int (2 : Int32)), (.ref b_187)])) t ∧ _
      have F202 : Exa Z h199 b_187 "com/example/planwright/planwright/plan/Key" := (Exa.wr W199 (Exa.keep G187_0 Kp192))
      have ne203 : b_187 ≠ b_192 := own_ne (by omega)
      have F204 : Fld Z h199 b_187 "com/example/planwright/planwright/plan/Key" "values" "[Ljava/lang/Object;" (.ref b174) := (Fld.other W199 (Fld.keep G187_1 Kp192 nin0) (Or.inl ne203))
      have ne205 : b174 ≠ b_192 := own_ne (by omega)
      have F206 : Arv Z h199 b174 k174 (.object "java/lang/Object") (2 : Int32) [(.ref b_112), .null] .null := (Arv.other (Arv.keep F188 Kp192 nin0) W199 ne205)
      have F207 : Exa Z h199 b174 "[Ljava/lang/Object;" := (Exa.wr W199 (Exa.keep F189 Kp192))
      have F208 : Old Z n0 h199 := (Old.wr (Old.keep F190 Kp192 all0) W199 ge200)
      have zl209 : n0 ≤ h199.size := by omega
      obtain ⟨_, _, ⟨T210, L210, k210, n210⟩, -, X210, ⟨Lc210, hQ210, l210, y210, z210⟩, st210⟩ := Jvm.LawKit.callS X199 hx (y := (⟨"com/example/planwright/planwright/plan/Key", "values", "(Ljava/lang/Object;I)[Ljava/lang/Object;"⟩ : MethodName)) hown (mvT hZ (hw _ (List.mem_of_getElem? (i := 37) rfl))) (mvT hZ (hw _ (List.mem_of_getElem? (i := 38) rfl))) (mvT hZ (hw _ (List.mem_of_getElem? (i := 19) rfl))) (mvT hZ (hw _ (List.mem_of_getElem? (i := 39) rfl))) (by decide) (backOf (W := 0) (rmVals2n l Z a0 hw [] b_187 b174 k174 b_112 h199 n0 zl209 F202 F204 F206 F207 F208) hZ (hw _ (List.mem_of_getElem? (i := 39) rfl)) (hw _ (List.mem_of_getElem? (i := 19) rfl)) (by decide) (by decide)) (g := (mkF m 187 #[.val (.int f1), .val (.int x1), .val (.int y1), .val (.int z1), .val (.int (2 : Int32)), .val (.ref b_112), .val .null, .val (.ref b_170), .val (.ref b_173), .val (.ref b174), .val (.ref b_187), .val (.ref b_192), .unset] [(.int (2 : Int32)), (.ref b_187)])) rfl (by rw [hml]; rfl) (argsL := [(.ref b_187), (.int (2 : Int32))]) (rest := []) (lenOf pd_h9d814d6e rfl) rfl (by show 2 * 0 + _ ≤ _; exact Nat.le_of_eq rfl) (hb hby at_187) (fun _ _ => ⟨rfl, e199, (by decide : 6 + 1 ≤ _), (by decide : 9 + 2 ≤ _)⟩)
      dsimp only [Pt.U, Pt.locs, Pt.cells, Pt.slots] at X210 l210 y210 z210 st210 hQ210
      subst l210 y210 z210
      obtain ⟨b_210, rfl, Nq210, Kp210, G210_0, H210_0⟩ := hQ210
      have N210 := Fr.app N199 Nq210
      refine own_go st210 ?_
      have le_210 : h199.size ≤ T210.heap.size := Kp210.1
      have K210 : Keep h0 T210.heap [] := Keep.trans K199 Kp210 all0
      have lt_b_210 : b_210 < T210.heap.size := (G210_0).lt
      show ∃ t o, Steps p.tables e below (T210.setTop (mkF m 190 #[.val (.int f1), .val (.int x1), .val (.int y1), .val (.int z1), .val (.int (2 : Int32)), .val (.ref b_112), .val .null, .val (.ref b_170), .val (.ref b_173), .val (.ref b174), .val (.ref b_187), .val (.ref b_192), .unset] [(.ref b_210)])) t ∧ _
      refine own_go (fun _ => XS.astore X210.here hx rfl (hb hby at_190) rfl rfl (l' := #[.val (.int f1), .val (.int x1), .val (.int y1), .val (.int z1), .val (.int (2 : Int32)), .val (.ref b_112), .val .null, .val (.ref b_170), .val (.ref b_173), .val (.ref b174), .val (.ref b_187), .val (.ref b_192), .val (.ref b_210)]) rfl) ?_
      show ∃ t o, Steps p.tables e below (T210.setTop (mkF m 192 #[.val (.int f1), .val (.int x1), .val (.int y1), .val (.int z1), .val (.int (2 : Int32)), .val (.ref b_112), .val .null, .val (.ref b_170), .val (.ref b_173), .val (.ref b174), .val (.ref b_187), .val (.ref b_192), .val (.ref b_210)] [])) t ∧ _
      refine own_go (fun _ => XS.aload X210.here hx rfl (hb hby at_192) rfl rfl) ?_
      show ∃ t o, Steps p.tables e below (T210.setTop (mkF m 194 #[.val (.int f1), .val (.int x1), .val (.int y1), .val (.int z1), .val (.int (2 : Int32)), .val (.ref b_112), .val .null, .val (.ref b_170), .val (.ref b_173), .val (.ref b174), .val (.ref b_187), .val (.ref b_192), .val (.ref b_210)] [(.ref b_210)])) t ∧ _
      refine own_go (fun _ => XS.ifnullNo X210.here hx rfl (hb hby at_194) rfl) ?_
      show ∃ t o, Steps p.tables e below (T210.setTop (mkF m 197 #[.val (.int f1), .val (.int x1), .val (.int y1), .val (.int z1), .val (.int (2 : Int32)), .val (.ref b_112), .val .null, .val (.ref b_170), .val (.ref b_173), .val (.ref b174), .val (.ref b_187), .val (.ref b_192), .val (.ref b_210)] [])) t ∧ _
      refine own_go (fun _ => XS.aload X210.here hx rfl (hb hby at_197) rfl rfl) ?_
      show ∃ t o, Steps p.tables e below (T210.setTop (mkF m 199 #[.val (.int f1), .val (.int x1), .val (.int y1), .val (.int z1), .val (.int (2 : Int32)), .val (.ref b_112), .val .null, .val (.ref b_170), .val (.ref b_173), .val (.ref b174), .val (.ref b_187), .val (.ref b_192), .val (.ref b_210)] [(.ref b_210)])) t ∧ _
      refine own_go (fun _ => XS.aload X210.here hx rfl (hb hby at_199) rfl rfl) ?_
      show ∃ t o, Steps p.tables e below (T210.setTop (mkF m 201 #[.val (.int f1), .val (.int x1), .val (.int y1), .val (.int z1), .val (.int (2 : Int32)), .val (.ref b_112), .val .null, .val (.ref b_170), .val (.ref b_173), .val (.ref b174), .val (.ref b_187), .val (.ref b_192), .val (.ref b_210)] [(.ref b_192), (.ref b_210)])) t ∧ _
      have ne211 : b_210 ≠ b_192 := own_ne (by omega)
      refine own_go (fun _ => Jvm.RoadKit.acmp (g := (mkF m 201 #[.val (.int f1), .val (.int x1), .val (.int y1), .val (.int z1), .val (.int (2 : Int32)), .val (.ref b_112), .val .null, .val (.ref b_170), .val (.ref b_173), .val (.ref b174), .val (.ref b_187), .val (.ref b_192), .val (.ref b_210)] [(.ref b_192), (.ref b_210)])) X210 hx rfl rfl rfl (pc0 := 201) (pc' := 204) (same := false) rfl (hb hby at_201) rfl (decide_eq_false fun q => ne211 (Value.ref.inj q)) (by decide) (by decide)) ?_
      show ∃ t o, Steps p.tables e below (T210.setTop (mkF m 204 #[.val (.int f1), .val (.int x1), .val (.int y1), .val (.int z1), .val (.int (2 : Int32)), .val (.ref b_112), .val .null, .val (.ref b_170), .val (.ref b_173), .val (.ref b174), .val (.ref b_187), .val (.ref b_192), .val (.ref b_210)] [])) t ∧ _
      refine own_go (fun _ => XS.aload X210.here hx rfl (hb hby at_204) rfl rfl) ?_
      show ∃ t o, Steps p.tables e below (T210.setTop (mkF m 206 #[.val (.int f1), .val (.int x1), .val (.int y1), .val (.int z1), .val (.int (2 : Int32)), .val (.ref b_112), .val .null, .val (.ref b_170), .val (.ref b_173), .val (.ref b174), .val (.ref b_187), .val (.ref b_192), .val (.ref b_210)] [(.ref b_210)])) t ∧ _
      obtain ⟨cl212, Ar212, q212, S212, N212, H212, G212⟩ := id G210_0
      have ln212 : cl212.slots.size.toInt32 = (2 : Int32) := len_of S212 N212
      have al212 := X210.arraylength hx Ar212.1 (State.isArrayOf_alike hZ.alike Ar212.2.1) (g := (mkF m 206 #[.val (.int f1), .val (.int x1), .val (.int y1), .val (.int z1), .val (.int (2 : Int32)), .val (.ref b_112), .val .null, .val (.ref b_170), .val (.ref b_173), .val (.ref b174), .val (.ref b_187), .val (.ref b_192), .val (.ref b_210)] [(.ref b_210)])) rfl rfl (hb hby at_206)
      rw [ln212] at al212
      refine own_go al212 ?_
      show ∃ t o, Steps p.tables e below (T210.setTop (mkF m 207 #[.val (.int f1), .val (.int x1), .val (.int y1), .val (.int z1), .val (.int (2 : Int32)), .val (.ref b_112), .val .null, .val (.ref b_170), .val (.ref b_173), .val (.ref b174), .val (.ref b_187), .val (.ref b_192), .val (.ref b_210)] [(.int (2 : Int32))])) t ∧ _
      refine own_go (fun _ => XS.iload X210.here hx rfl (hb hby at_207) rfl) ?_
      show ∃ t o, Steps p.tables e below (T210.setTop (mkF m 209 #[.val (.int f1), .val (.int x1), .val (.int y1), .val (.int z1), .val (.int (2 : Int32)), .val (.ref b_112), .val .null, .val (.ref b_170), .val (.ref b_173), .val (.ref b174), .val (.ref b_187), .val (.ref b_192), .val (.ref b_210)] [(.int (2 : Int32)), (.int (2 : Int32))])) t ∧ _
      refine own_go (fun _ => XS.icmpYes X210.here hx rfl (pc0 := 209) (pc' := 214) rfl (hb hby at_209) rfl (teq (by decide : (2 : Int32) = (2 : Int32))).1 (by decide) (by decide)) ?_
      show ∃ t o, Steps p.tables e below (T210.setTop (mkF m 214 #[.val (.int f1), .val (.int x1), .val (.int y1), .val (.int z1), .val (.int (2 : Int32)), .val (.ref b_112), .val .null, .val (.ref b_170), .val (.ref b_173), .val (.ref b174), .val (.ref b_187), .val (.ref b_192), .val (.ref b_210)] [])) t ∧ _
      refine own_go (fun _ => XS.aload X210.here hx rfl (hb hby at_214) rfl rfl) ?_
      show ∃ t o, Steps p.tables e below (T210.setTop (mkF m 216 #[.val (.int f1), .val (.int x1), .val (.int y1), .val (.int z1), .val (.int (2 : Int32)), .val (.ref b_112), .val .null, .val (.ref b_170), .val (.ref b_173), .val (.ref b174), .val (.ref b_187), .val (.ref b_192), .val (.ref b_210)] [(.ref b_210)])) t ∧ _
      refine own_go (fun _ => XS.iconst X210.here hx rfl (hb hby at_216)) ?_
      show ∃ t o, Steps p.tables e below (T210.setTop (mkF m 217 #[.val (.int f1), .val (.int x1), .val (.int y1), .val (.int z1), .val (.int (2 : Int32)), .val (.ref b_112), .val .null, .val (.ref b_170), .val (.ref b_173), .val (.ref b174), .val (.ref b_187), .val (.ref b_192), .val (.ref b_210)] [(.int (0 : Int32)), (.ref b_210)])) t ∧ _
      obtain ⟨cl213, Ar213, q213, S213, N213, H213, G213⟩ := id G210_0
      have hin213 : ¬ ((0 : Int32) < 0 ∨ cl213.slots.size ≤ ((0 : Int32)).toNatClampNeg) := inb_of S213 ⟨by decide, by decide⟩
      have hat213 : cl213.slots[((0 : Int32)).toNatClampNeg]? = some (.ref b_112) := Has.at H213 hin213 rfl
      refine own_go (fun _ => X210.aaload hx (j := (0 : Int32)) (v := (.ref b_112)) Ar213.1 (State.isArrayOf_alike hZ.alike Ar213.2.1) rfl Ar213.2.2 hin213 hat213 (g := (mkF m 217 #[.val (.int f1), .val (.int x1), .val (.int y1), .val (.int z1), .val (.int (2 : Int32)), .val (.ref b_112), .val .null, .val (.ref b_170), .val (.ref b_173), .val (.ref b174), .val (.ref b_187), .val (.ref b_192), .val (.ref b_210)] [(.int (0 : Int32)), (.ref b_210)])) rfl rfl (hb hby at_217) _) ?_
      show ∃ t o, Steps p.tables e below (T210.setTop (mkF m 218 #[.val (.int f1), .val (.int x1), .val (.int y1), .val (.int z1), .val (.int (2 : Int32)), .val (.ref b_112), .val .null, .val (.ref b_170), .val (.ref b_173), .val (.ref b174), .val (.ref b_187), .val (.ref b_192), .val (.ref b_210)] [(.ref b_112)])) t ∧ _
      refine own_go (fun _ => XS.aload X210.here hx rfl (hb hby at_218) rfl rfl) ?_
      show ∃ t o, Steps p.tables e below (T210.setTop (mkF m 220 #[.val (.int f1), .val (.int x1), .val (.int y1), .val (.int z1), .val (.int (2 : Int32)), .val (.ref b_112), .val .null, .val (.ref b_170), .val (.ref b_173), .val (.ref b174), .val (.ref b_187), .val (.ref b_192), .val (.ref b_210)] [(.ref b_112), (.ref b_112)])) t ∧ _
      refine own_go (fun _ => Jvm.RoadKit.acmp (g := (mkF m 220 #[.val (.int f1), .val (.int x1), .val (.int y1), .val (.int z1), .val (.int (2 : Int32)), .val (.ref b_112), .val .null, .val (.ref b_170), .val (.ref b_173), .val (.ref b174), .val (.ref b_187), .val (.ref b_192), .val (.ref b_210)] [(.ref b_112), (.ref b_112)])) X210 hx rfl rfl rfl (pc0 := 220) (pc' := 225) (same := true) rfl (hb hby at_220) rfl (decide_eq_true rfl) (by decide) (by decide)) ?_
      show ∃ t o, Steps p.tables e below (T210.setTop (mkF m 225 #[.val (.int f1), .val (.int x1), .val (.int y1), .val (.int z1), .val (.int (2 : Int32)), .val (.ref b_112), .val .null, .val (.ref b_170), .val (.ref b_173), .val (.ref b174), .val (.ref b_187), .val (.ref b_192), .val (.ref b_210)] [])) t ∧ _
      refine own_go (fun _ => XS.iload X210.here hx rfl (hb hby at_225) rfl) ?_
      show ∃ t o, Steps p.tables e below (T210.setTop (mkF m 227 #[.val (.int f1), .val (.int x1), .val (.int y1), .val (.int z1), .val (.int (2 : Int32)), .val (.ref b_112), .val .null, .val (.ref b_170), .val (.ref b_173), .val (.ref b174), .val (.ref b_187), .val (.ref b_192), .val (.ref b_210)] [(.int (2 : Int32))])) t ∧ _
      refine own_go (fun _ => XS.iconst X210.here hx rfl (hb hby at_227)) ?_
      show ∃ t o, Steps p.tables e below (T210.setTop (mkF m 228 #[.val (.int f1), .val (.int x1), .val (.int y1), .val (.int z1), .val (.int (2 : Int32)), .val (.ref b_112), .val .null, .val (.ref b_170), .val (.ref b_173), .val (.ref b174), .val (.ref b_187), .val (.ref b_192), .val (.ref b_210)] [(.int (1 : Int32)), (.int (2 : Int32))])) t ∧ _
      refine own_go (fun _ => XS.icmpNo X210.here hx rfl (hb hby at_228) rfl (tlt (by decide : (1 : Int32) < (2 : Int32))).2.2.2) ?_
      show ∃ t o, Steps p.tables e below (T210.setTop (mkF m 231 #[.val (.int f1), .val (.int x1), .val (.int y1), .val (.int z1), .val (.int (2 : Int32)), .val (.ref b_112), .val .null, .val (.ref b_170), .val (.ref b_173), .val (.ref b174), .val (.ref b_187), .val (.ref b_192), .val (.ref b_210)] [])) t ∧ _
      refine own_go (fun _ => XS.aload X210.here hx rfl (hb hby at_231) rfl rfl) ?_
      show ∃ t o, Steps p.tables e below (T210.setTop (mkF m 233 #[.val (.int f1), .val (.int x1), .val (.int y1), .val (.int z1), .val (.int (2 : Int32)), .val (.ref b_112), .val .null, .val (.ref b_170), .val (.ref b_173), .val (.ref b174), .val (.ref b_187), .val (.ref b_192), .val (.ref b_210)] [(.ref b_210)])) t ∧ _
      refine own_go (fun _ => XS.iconst X210.here hx rfl (hb hby at_233)) ?_
      show ∃ t o, Steps p.tables e below (T210.setTop (mkF m 234 #[.val (.int f1), .val (.int x1), .val (.int y1), .val (.int z1), .val (.int (2 : Int32)), .val (.ref b_112), .val .null, .val (.ref b_170), .val (.ref b_173), .val (.ref b174), .val (.ref b_187), .val (.ref b_192), .val (.ref b_210)] [(.int (1 : Int32)), (.ref b_210)])) t ∧ _
      obtain ⟨cl214, Ar214, q214, S214, N214, H214, G214⟩ := id G210_0
      have hin214 : ¬ ((1 : Int32) < 0 ∨ cl214.slots.size ≤ ((1 : Int32)).toNatClampNeg) := inb_of S214 ⟨by decide, by decide⟩
      have hat214 : cl214.slots[((1 : Int32)).toNatClampNeg]? = some .null := Has.at H214 hin214 rfl
      refine own_go (fun _ => X210.aaload hx (j := (1 : Int32)) (v := .null) Ar214.1 (State.isArrayOf_alike hZ.alike Ar214.2.1) rfl Ar214.2.2 hin214 hat214 (g := (mkF m 234 #[.val (.int f1), .val (.int x1), .val (.int y1), .val (.int z1), .val (.int (2 : Int32)), .val (.ref b_112), .val .null, .val (.ref b_170), .val (.ref b_173), .val (.ref b174), .val (.ref b_187), .val (.ref b_192), .val (.ref b_210)] [(.int (1 : Int32)), (.ref b_210)])) rfl rfl (hb hby at_234) _) ?_
      show ∃ t o, Steps p.tables e below (T210.setTop (mkF m 235 #[.val (.int f1), .val (.int x1), .val (.int y1), .val (.int z1), .val (.int (2 : Int32)), .val (.ref b_112), .val .null, .val (.ref b_170), .val (.ref b_173), .val (.ref b174), .val (.ref b_187), .val (.ref b_192), .val (.ref b_210)] [.null])) t ∧ _
      refine own_go (fun _ => XS.aload X210.here hx rfl (hb hby at_235) rfl rfl) ?_
      show ∃ t o, Steps p.tables e below (T210.setTop (mkF m 237 #[.val (.int f1), .val (.int x1), .val (.int y1), .val (.int z1), .val (.int (2 : Int32)), .val (.ref b_112), .val .null, .val (.ref b_170), .val (.ref b_173), .val (.ref b174), .val (.ref b_187), .val (.ref b_192), .val (.ref b_210)] [.null, .null])) t ∧ _
      refine own_go (fun _ => Jvm.RoadKit.acmp (g := (mkF m 237 #[.val (.int f1), .val (.int x1), .val (.int y1), .val (.int z1), .val (.int (2 : Int32)), .val (.ref b_112), .val .null, .val (.ref b_170), .val (.ref b_173), .val (.ref b174), .val (.ref b_187), .val (.ref b_192), .val (.ref b_210)] [.null, .null])) X210 hx rfl rfl rfl (pc0 := 237) (pc' := 242) (same := true) rfl (hb hby at_237) rfl (decide_eq_true rfl) (by decide) (by decide)) ?_
      show ∃ t o, Steps p.tables e below (T210.setTop (mkF m 242 #[.val (.int f1), .val (.int x1), .val (.int y1), .val (.int z1), .val (.int (2 : Int32)), .val (.ref b_112), .val .null, .val (.ref b_170), .val (.ref b_173), .val (.ref b174), .val (.ref b_187), .val (.ref b_192), .val (.ref b_210)] [])) t ∧ _
      refine own_go (fun _ => XS.iload X210.here hx rfl (hb hby at_242) rfl) ?_
      show ∃ t o, Steps p.tables e below (T210.setTop (mkF m 244 #[.val (.int f1), .val (.int x1), .val (.int y1), .val (.int z1), .val (.int (2 : Int32)), .val (.ref b_112), .val .null, .val (.ref b_170), .val (.ref b_173), .val (.ref b174), .val (.ref b_187), .val (.ref b_192), .val (.ref b_210)] [(.int (2 : Int32))])) t ∧ _
      refine own_go (fun _ => XS.iconst X210.here hx rfl (hb hby at_244)) ?_
      show ∃ t o, Steps p.tables e below (T210.setTop (mkF m 245 #[.val (.int f1), .val (.int x1), .val (.int y1), .val (.int z1), .val (.int (2 : Int32)), .val (.ref b_112), .val .null, .val (.ref b_170), .val (.ref b_173), .val (.ref b174), .val (.ref b_187), .val (.ref b_192), .val (.ref b_210)] [(.int (2 : Int32)), (.int (2 : Int32))])) t ∧ _
      refine own_go (fun _ => XS.icmpYes X210.here hx rfl (pc0 := 245) (pc' := 259) rfl (hb hby at_245) rfl (flt (by decide : ¬ ((2 : Int32) < (2 : Int32)))).2.2.2 (by decide) (by decide)) ?_
      show ∃ t o, Steps p.tables e below (T210.setTop (mkF m 259 #[.val (.int f1), .val (.int x1), .val (.int y1), .val (.int z1), .val (.int (2 : Int32)), .val (.ref b_112), .val .null, .val (.ref b_170), .val (.ref b_173), .val (.ref b174), .val (.ref b_187), .val (.ref b_192), .val (.ref b_210)] [])) t ∧ _
      refine own_go (fun _ => XS.iconst X210.here hx rfl (hb hby at_259)) ?_
      show ∃ t o, Steps p.tables e below (T210.setTop (mkF m 260 #[.val (.int f1), .val (.int x1), .val (.int y1), .val (.int z1), .val (.int (2 : Int32)), .val (.ref b_112), .val .null, .val (.ref b_170), .val (.ref b_173), .val (.ref b174), .val (.ref b_187), .val (.ref b_192), .val (.ref b_210)] [(.int (1 : Int32))])) t ∧ _
      obtain ⟨fs, hr, hrun, hended, hW, hsame⟩ := X210.leave (v := some (.int (1 : Int32))) (fun h => by rw [Bd.returns] at h; cases h)
      refine ⟨_, _, ?_, hrun, hended, _, _, rfl, ?_, ⟨_, rfl⟩, hW, hsame.mono (by decide) (by decide)⟩
      · exact retN X210 hx (t := .boolean) Bd.returns (by simp) (hb hby at_260) hr
      · show Q_rm0 Z f1 x1 y1 z1 caI ccI caL ccL h0 n0 _ T210.heap _
        exact ⟨rfl, N210, K210⟩
  · rw [hk]
    show ∃ t o, Steps p.tables e below (s₁.setTop (mkF m 5 #[.val (.int f1), .val (.int x1), .val (.int y1), .val (.int z1), .val (.int (3 : Int32)), .unset, .unset, .unset, .unset, .unset, .unset, .unset, .unset] [])) t ∧ _
    refine own_go (fun _ => XS.iloadN X0.here hx rfl (hb hby at_5) rfl) ?_
    show ∃ t o, Steps p.tables e below (s₁.setTop (mkF m 6 #[.val (.int f1), .val (.int x1), .val (.int y1), .val (.int z1), .val (.int (3 : Int32)), .unset, .unset, .unset, .unset, .unset, .unset, .unset, .unset] [(.int x1)])) t ∧ _
    obtain ⟨_, _, ⟨T215, L215, k215, n215⟩, -, X215, ⟨Lc215, hQ215, l215, y215, z215⟩, st215⟩ := Jvm.LawKit.callS X0 hx (y := (⟨"java/lang/Integer", "valueOf", "(I)Ljava/lang/Integer;"⟩ : MethodName)) hown (mvT hZ (hw _ (List.mem_of_getElem? (i := 0) rfl))) (mvT hZ (hw _ (List.mem_of_getElem? (i := 1) rfl))) (mvT hZ (hw _ (List.mem_of_getElem? (i := 2) rfl))) (mvT hZ (hw _ (List.mem_of_getElem? (i := 3) rfl))) (by decide) (backOf (W := 0) (rmIntOf l Z a0 hw [] x1 caI ccI h0 n0 Z0 OLD P1 P2 (BXI : Bxs Z caI ccI "java/lang/Integer" "I" (256 : Int32) own_ival)) hZ (hw _ (List.mem_of_getElem? (i := 3) rfl)) (hw _ (List.mem_of_getElem? (i := 2) rfl)) (by decide) (by decide)) (g := (mkF m 6 #[.val (.int f1), .val (.int x1), .val (.int y1), .val (.int z1), .val (.int (3 : Int32)), .unset, .unset, .unset, .unset, .unset, .unset, .unset, .unset] [(.int x1)])) rfl (by rw [hml]; rfl) (argsL := [(.int x1)]) (rest := []) (lenOf pd__28I_29Ljava_2flang_2fInteger_3b rfl) rfl (by show 2 * 0 + _ ≤ _; exact Nat.le_of_eq rfl) (hb hby at_6) (fun _ _ => ⟨rfl, e0, (by decide : 0 + 1 ≤ _), (by decide : 0 + 1 ≤ _)⟩)
    dsimp only [Pt.U, Pt.locs, Pt.cells, Pt.slots] at X215 l215 y215 z215 st215 hQ215
    subst l215 y215 z215
    obtain ⟨b_215, rv_215, rfl, Nq215, Kp215, G215_0, G215_1⟩ := hQ215
    have N215 := Fr.app N0 Nq215
    refine own_go st215 ?_
    have le_215 : h0.size ≤ T215.heap.size := Kp215.1
    have K215 : Keep h0 T215.heap [] := Keep.trans (Keep.refl h0 []) Kp215 all0
    have lt_b_215 : b_215 < T215.heap.size := (G215_0).lt
    show ∃ t o, Steps p.tables e below (T215.setTop (mkF m 9 #[.val (.int f1), .val (.int x1), .val (.int y1), .val (.int z1), .val (.int (3 : Int32)), .unset, .unset, .unset, .unset, .unset, .unset, .unset, .unset] [(.ref b_215)])) t ∧ _
    refine own_go (fun _ => XS.astore X215.here hx rfl (hb hby at_9) rfl rfl (l' := #[.val (.int f1), .val (.int x1), .val (.int y1), .val (.int z1), .val (.int (3 : Int32)), .val (.ref b_215), .unset, .unset, .unset, .unset, .unset, .unset, .unset]) rfl) ?_
    show ∃ t o, Steps p.tables e below (T215.setTop (mkF m 11 #[.val (.int f1), .val (.int x1), .val (.int y1), .val (.int z1), .val (.int (3 : Int32)), .val (.ref b_215), .unset, .unset, .unset, .unset, .unset, .unset, .unset] [])) t ∧ _
    refine own_go (fun _ => XS.iloadN X215.here hx rfl (hb hby at_11) rfl) ?_
    show ∃ t o, Steps p.tables e below (T215.setTop (mkF m 12 #[.val (.int f1), .val (.int x1), .val (.int y1), .val (.int z1), .val (.int (3 : Int32)), .val (.ref b_215), .unset, .unset, .unset, .unset, .unset, .unset, .unset] [(.int f1)])) t ∧ _
    refine own_go (fun _ => XS.iconst X215.here hx rfl (hb hby at_12)) ?_
    show ∃ t o, Steps p.tables e below (T215.setTop (mkF m 13 #[.val (.int f1), .val (.int x1), .val (.int y1), .val (.int z1), .val (.int (3 : Int32)), .val (.ref b_215), .unset, .unset, .unset, .unset, .unset, .unset, .unset] [(.int (4 : Int32)), (.int f1)])) t ∧ _
    refine own_go (fun _ => XS.iand X215.here hx rfl (hb hby at_13) rfl) ?_
    show ∃ t o, Steps p.tables e below (T215.setTop (mkF m 14 #[.val (.int f1), .val (.int x1), .val (.int y1), .val (.int z1), .val (.int (3 : Int32)), .val (.ref b_215), .unset, .unset, .unset, .unset, .unset, .unset, .unset] [(.int (f1 &&& (4 : Int32)))])) t ∧ _
    by_cases hc216 : (f1 &&& (4 : Int32)) = (0 : Int32)
    · refine own_go (fun _ => XS.ifYes X215.here hx rfl (pc0 := 14) (pc' := 21) rfl (hb hby at_14) rfl ((if0 _ _).trans (teq hc216).1) (by decide) (by decide)) ?_
      show ∃ t o, Steps p.tables e below (T215.setTop (mkF m 21 #[.val (.int f1), .val (.int x1), .val (.int y1), .val (.int z1), .val (.int (3 : Int32)), .val (.ref b_215), .unset, .unset, .unset, .unset, .unset, .unset, .unset] [])) t ∧ _
      refine own_go (fun _ => XS.iloadN X215.here hx rfl (hb hby at_21) rfl) ?_
      show ∃ t o, Steps p.tables e below (T215.setTop (mkF m 22 #[.val (.int f1), .val (.int x1), .val (.int y1), .val (.int z1), .val (.int (3 : Int32)), .val (.ref b_215), .unset, .unset, .unset, .unset, .unset, .unset, .unset] [(.int y1)])) t ∧ _
      have F217 : Old Z n0 T215.heap := (Old.keep OLD Kp215 all0)
      have zl218 : n0 ≤ T215.heap.size := by omega
      obtain ⟨_, _, ⟨T219, L219, k219, n219⟩, -, X219, ⟨Lc219, hQ219, l219, y219, z219⟩, st219⟩ := Jvm.LawKit.callS X215 hx (y := (⟨"java/lang/Integer", "valueOf", "(I)Ljava/lang/Integer;"⟩ : MethodName)) hown (mvT hZ (hw _ (List.mem_of_getElem? (i := 0) rfl))) (mvT hZ (hw _ (List.mem_of_getElem? (i := 1) rfl))) (mvT hZ (hw _ (List.mem_of_getElem? (i := 2) rfl))) (mvT hZ (hw _ (List.mem_of_getElem? (i := 3) rfl))) (by decide) (backOf (W := 0) (rmIntOf l Z a0 hw [] y1 caI ccI T215.heap n0 zl218 F217 P1 P2 (BXI : Bxs Z caI ccI "java/lang/Integer" "I" (256 : Int32) own_ival)) hZ (hw _ (List.mem_of_getElem? (i := 3) rfl)) (hw _ (List.mem_of_getElem? (i := 2) rfl)) (by decide) (by decide)) (g := (mkF m 22 #[.val (.int f1), .val (.int x1), .val (.int y1), .val (.int z1), .val (.int (3 : Int32)), .val (.ref b_215), .unset, .unset, .unset, .unset, .unset, .unset, .unset] [(.int y1)])) rfl (by rw [hml]; rfl) (argsL := [(.int y1)]) (rest := []) (lenOf pd__28I_29Ljava_2flang_2fInteger_3b rfl) rfl (by show 2 * 0 + _ ≤ _; exact Nat.le_of_eq rfl) (hb hby at_22) (fun _ _ => ⟨rfl, rfl, (by decide : 1 + 1 ≤ _), (by decide : 1 + 1 ≤ _)⟩)
      dsimp only [Pt.U, Pt.locs, Pt.cells, Pt.slots] at X219 l219 y219 z219 st219 hQ219
      subst l219 y219 z219
      obtain ⟨b_219, rv_219, rfl, Nq219, Kp219, G219_0, G219_1⟩ := hQ219
      have N219 := Fr.app N215 Nq219
      refine own_go st219 ?_
      have le_219 : T215.heap.size ≤ T219.heap.size := Kp219.1
      have K219 : Keep h0 T219.heap [] := Keep.trans K215 Kp219 all0
      have lt_b_219 : b_219 < T219.heap.size := (G219_0).lt
      show ∃ t o, Steps p.tables e below (T219.setTop (mkF m 25 #[.val (.int f1), .val (.int x1), .val (.int y1), .val (.int z1), .val (.int (3 : Int32)), .val (.ref b_215), .unset, .unset, .unset, .unset, .unset, .unset, .unset] [(.ref b_219)])) t ∧ _
      refine own_go (fun _ => XS.astore X219.here hx rfl (hb hby at_25) rfl rfl (l' := #[.val (.int f1), .val (.int x1), .val (.int y1), .val (.int z1), .val (.int (3 : Int32)), .val (.ref b_215), .val (.ref b_219), .unset, .unset, .unset, .unset, .unset, .unset]) rfl) ?_
      show ∃ t o, Steps p.tables e below (T219.setTop (mkF m 27 #[.val (.int f1), .val (.int x1), .val (.int y1), .val (.int z1), .val (.int (3 : Int32)), .val (.ref b_215), .val (.ref b_219), .unset, .unset, .unset, .unset, .unset, .unset] [])) t ∧ _
      refine own_go (fun _ => XS.iloadN X219.here hx rfl (hb hby at_27) rfl) ?_
      show ∃ t o, Steps p.tables e below (T219.setTop (mkF m 28 #[.val (.int f1), .val (.int x1), .val (.int y1), .val (.int z1), .val (.int (3 : Int32)), .val (.ref b_215), .val (.ref b_219), .unset, .unset, .unset, .unset, .unset, .unset] [(.int z1)])) t ∧ _
      refine own_go (fun _ => XS.i2l X219.here hx rfl (hb hby at_28) rfl) ?_
      show ∃ t o, Steps p.tables e below (T219.setTop (mkF m 29 #[.val (.int f1), .val (.int x1), .val (.int y1), .val (.int z1), .val (.int (3 : Int32)), .val (.ref b_215), .val (.ref b_219), .unset, .unset, .unset, .unset, .unset, .unset] [(.long (z1.toInt64))])) t ∧ _
      have F220 : Old Z n0 T219.heap := (Old.keep F217 Kp219 all0)
      have zl221 : n0 ≤ T219.heap.size := by omega
      obtain ⟨_, _, ⟨T222, L222, k222, n222⟩, -, X222, ⟨Lc222, hQ222, l222, y222, z222⟩, st222⟩ := Jvm.LawKit.callS X219 hx (y := (⟨"java/lang/Long", "valueOf", "(J)Ljava/lang/Long;"⟩ : MethodName)) hown (mvT hZ (hw _ (List.mem_of_getElem? (i := 7) rfl))) (mvT hZ (hw _ (List.mem_of_getElem? (i := 8) rfl))) (mvT hZ (hw _ (List.mem_of_getElem? (i := 9) rfl))) (mvT hZ (hw _ (List.mem_of_getElem? (i := 10) rfl))) (by decide) (backOf (W := 0) (rmLongOf l Z a0 hw [] (z1.toInt64) caL ccL T219.heap n0 zl221 F220 P3 (BXL : Bxs Z caL ccL "java/lang/Long" "J" (256 : Int32) own_lval)) hZ (hw _ (List.mem_of_getElem? (i := 10) rfl)) (hw _ (List.mem_of_getElem? (i := 9) rfl)) (by decide) (by decide)) (g := (mkF m 29 #[.val (.int f1), .val (.int x1), .val (.int y1), .val (.int z1), .val (.int (3 : Int32)), .val (.ref b_215), .val (.ref b_219), .unset, .unset, .unset, .unset, .unset, .unset] [(.long (z1.toInt64))])) rfl (by rw [hml]; rfl) (argsL := [(.long (z1.toInt64))]) (rest := []) (lenOf pd__28J_29Ljava_2flang_2fLong_3b rfl) rfl (by show 2 * 0 + _ ≤ _; exact Nat.le_of_eq rfl) (hb hby at_29) (fun _ _ => ⟨rfl, rfl, (by decide : 2 + 1 ≤ _), (by decide : 2 + 1 ≤ _)⟩)
      dsimp only [Pt.U, Pt.locs, Pt.cells, Pt.slots] at X222 l222 y222 z222 st222 hQ222
      subst l222 y222 z222
      obtain ⟨b_222, rv_222, rfl, Nq222, Kp222, G222_0, G222_1⟩ := hQ222
      have N222 := Fr.app N219 Nq222
      refine own_go st222 ?_
      have le_222 : T219.heap.size ≤ T222.heap.size := Kp222.1
      have K222 : Keep h0 T222.heap [] := Keep.trans K219 Kp222 all0
      have lt_b_222 : b_222 < T222.heap.size := (G222_0).lt
      show ∃ t o, Steps p.tables e below (T222.setTop (mkF m 32 #[.val (.int f1), .val (.int x1), .val (.int y1), .val (.int z1), .val (.int (3 : Int32)), .val (.ref b_215), .val (.ref b_219), .unset, .unset, .unset, .unset, .unset, .unset] [(.ref b_222)])) t ∧ _
      refine own_go (fun _ => XS.astore X222.here hx rfl (hb hby at_32) rfl rfl (l' := #[.val (.int f1), .val (.int x1), .val (.int y1), .val (.int z1), .val (.int (3 : Int32)), .val (.ref b_215), .val (.ref b_219), .val (.ref b_222), .unset, .unset, .unset, .unset, .unset]) rfl) ?_
      show ∃ t o, Steps p.tables e below (T222.setTop (mkF m 34 #[.val (.int f1), .val (.int x1), .val (.int y1), .val (.int z1), .val (.int (3 : Int32)), .val (.ref b_215), .val (.ref b_219), .val (.ref b_222), .unset, .unset, .unset, .unset, .unset] [])) t ∧ _
      refine own_go (fun _ => XS.iloadN X222.here hx rfl (hb hby at_34) rfl) ?_
      show ∃ t o, Steps p.tables e below (T222.setTop (mkF m 35 #[.val (.int f1), .val (.int x1), .val (.int y1), .val (.int z1), .val (.int (3 : Int32)), .val (.ref b_215), .val (.ref b_219), .val (.ref b_222), .unset, .unset, .unset, .unset, .unset] [(.int x1)])) t ∧ _
      refine own_go (fun _ => XS.iconst X222.here hx rfl (hb hby at_35)) ?_
      show ∃ t o, Steps p.tables e below (T222.setTop (mkF m 36 #[.val (.int f1), .val (.int x1), .val (.int y1), .val (.int z1), .val (.int (3 : Int32)), .val (.ref b_215), .val (.ref b_219), .val (.ref b_222), .unset, .unset, .unset, .unset, .unset] [(.int (1 : Int32)), (.int x1)])) t ∧ _
      refine own_go (fun _ => XS.ixor X222.here hx rfl (hb hby at_36) rfl) ?_
      show ∃ t o, Steps p.tables e below (T222.setTop (mkF m 37 #[.val (.int f1), .val (.int x1), .val (.int y1), .val (.int z1), .val (.int (3 : Int32)), .val (.ref b_215), .val (.ref b_219), .val (.ref b_222), .unset, .unset, .unset, .unset, .unset] [(.int (x1 ^^^ (1 : Int32)))])) t ∧ _
      have F223 : Old Z n0 T222.heap := (Old.keep F220 Kp222 all0)
      have zl224 : n0 ≤ T222.heap.size := by omega
      obtain ⟨_, _, ⟨T225, L225, k225, n225⟩, -, X225, ⟨Lc225, hQ225, l225, y225, z225⟩, st225⟩ := Jvm.LawKit.callS X222 hx (y := (⟨"java/lang/Integer", "valueOf", "(I)Ljava/lang/Integer;"⟩ : MethodName)) hown (mvT hZ (hw _ (List.mem_of_getElem? (i := 0) rfl))) (mvT hZ (hw _ (List.mem_of_getElem? (i := 1) rfl))) (mvT hZ (hw _ (List.mem_of_getElem? (i := 2) rfl))) (mvT hZ (hw _ (List.mem_of_getElem? (i := 3) rfl))) (by decide) (backOf (W := 0) (rmIntOf l Z a0 hw [] ((x1 ^^^ (1 : Int32))) caI ccI T222.heap n0 zl224 F223 P1 P2 (BXI : Bxs Z caI ccI "java/lang/Integer" "I" (256 : Int32) own_ival)) hZ (hw _ (List.mem_of_getElem? (i := 3) rfl)) (hw _ (List.mem_of_getElem? (i := 2) rfl)) (by decide) (by decide)) (g := (mkF m 37 #[.val (.int f1), .val (.int x1), .val (.int y1), .val (.int z1), .val (.int (3 : Int32)), .val (.ref b_215), .val (.ref b_219), .val (.ref b_222), .unset, .unset, .unset, .unset, .unset] [(.int (x1 ^^^ (1 : Int32)))])) rfl (by rw [hml]; rfl) (argsL := [(.int (x1 ^^^ (1 : Int32)))]) (rest := []) (lenOf pd__28I_29Ljava_2flang_2fInteger_3b rfl) rfl (by show 2 * 0 + _ ≤ _; exact Nat.le_of_eq rfl) (hb hby at_37) (fun _ _ => ⟨rfl, rfl, (by decide : 3 + 1 ≤ _), (by decide : 3 + 1 ≤ _)⟩)
      dsimp only [Pt.U, Pt.locs, Pt.cells, Pt.slots] at X225 l225 y225 z225 st225 hQ225
      subst l225 y225 z225
      obtain ⟨b_225, rv_225, rfl, Nq225, Kp225, G225_0, G225_1⟩ := hQ225
      have N225 := Fr.app N222 Nq225
      refine own_go st225 ?_
      have le_225 : T222.heap.size ≤ T225.heap.size := Kp225.1
      have K225 : Keep h0 T225.heap [] := Keep.trans K222 Kp225 all0
      have lt_b_225 : b_225 < T225.heap.size := (G225_0).lt
      show ∃ t o, Steps p.tables e below (T225.setTop (mkF m 40 #[.val (.int f1), .val (.int x1), .val (.int y1), .val (.int z1), .val (.int (3 : Int32)), .val (.ref b_215), .val (.ref b_219), .val (.ref b_222), .unset, .unset, .unset, .unset, .unset] [(.ref b_225)])) t ∧ _
      refine own_go (fun _ => XS.astore X225.here hx rfl (hb hby at_40) rfl rfl (l' := #[.val (.int f1), .val (.int x1), .val (.int y1), .val (.int z1), .val (.int (3 : Int32)), .val (.ref b_215), .val (.ref b_219), .val (.ref b_222), .val (.ref b_225), .unset, .unset, .unset, .unset]) rfl) ?_
      show ∃ t o, Steps p.tables e below (T225.setTop (mkF m 42 #[.val (.int f1), .val (.int x1), .val (.int y1), .val (.int z1), .val (.int (3 : Int32)), .val (.ref b_215), .val (.ref b_219), .val (.ref b_222), .val (.ref b_225), .unset, .unset, .unset, .unset] [])) t ∧ _
      refine own_go (fun _ => XS.iload X225.here hx rfl (hb hby at_42) rfl) ?_
      show ∃ t o, Steps p.tables e below (T225.setTop (mkF m 44 #[.val (.int f1), .val (.int x1), .val (.int y1), .val (.int z1), .val (.int (3 : Int32)), .val (.ref b_215), .val (.ref b_219), .val (.ref b_222), .val (.ref b_225), .unset, .unset, .unset, .unset] [(.int (3 : Int32))])) t ∧ _
      obtain ⟨T226, h226, k226, X226, e226, E226, A226, Q226, O226, st226⟩ := newRE X225 hx hZ hown (hw _ (List.mem_of_getElem? (i := 15) rfl)) (hw _ (List.mem_of_getElem? (i := 16) rfl)) rfl (g := (mkF m 44 #[.val (.int f1), .val (.int x1), .val (.int y1), .val (.int z1), .val (.int (3 : Int32)), .val (.ref b_215), .val (.ref b_219), .val (.ref b_222), .val (.ref b_225), .unset, .unset, .unset, .unset] [(.int (3 : Int32))])) rfl (hb hby at_44) rfl (by decide) (cap := 3) (by decide) (by decide) (by decide) (by decide) (ad := "[Ljava/lang/Object;") rfl
      obtain ⟨b226, g226⟩ : ∃ z, z = T225.heap.size := ⟨_, rfl⟩
      rw [← g226] at A226 Q226 st226
      refine own_go st226 ?_
      have le_226 : T225.heap.size ≤ h226.size := E226.1
      have lt_b226 : b226 < h226.size := A226.lt
      have V_b226 : Arv Z h226 b226 k226 (.object "java/lang/Object") (3 : Int32) [.null, .null, .null] .null := (Arv.new A226 (by decide)).pad (pad_rep [] .null 3)
      have K226 : Keep h0 h226 [] := Keep.ext K225 E226
      show ∃ t o, Steps p.tables e below (T226.setTop (mkF m 47 #[.val (.int f1), .val (.int x1), .val (.int y1), .val (.int z1), .val (.int (3 : Int32)), .val (.ref b_215), .val (.ref b_219), .val (.ref b_222), .val (.ref b_225), .unset, .unset, .unset, .unset] [(.ref b226)])) t ∧ _
      refine own_go (fun _ => XS.astore X226.here hx rfl (hb hby at_47) rfl rfl (l' := #[.val (.int f1), .val (.int x1), .val (.int y1), .val (.int z1), .val (.int (3 : Int32)), .val (.ref b_215), .val (.ref b_219), .val (.ref b_222), .val (.ref b_225), .val (.ref b226), .unset, .unset, .unset]) rfl) ?_
      show ∃ t o, Steps p.tables e below (T226.setTop (mkF m 49 #[.val (.int f1), .val (.int x1), .val (.int y1), .val (.int z1), .val (.int (3 : Int32)), .val (.ref b_215), .val (.ref b_219), .val (.ref b_222), .val (.ref b_225), .val (.ref b226), .unset, .unset, .unset] [])) t ∧ _
      refine own_go (fun _ => XS.iload X226.here hx rfl (hb hby at_49) rfl) ?_
      show ∃ t o, Steps p.tables e below (T226.setTop (mkF m 51 #[.val (.int f1), .val (.int x1), .val (.int y1), .val (.int z1), .val (.int (3 : Int32)), .val (.ref b_215), .val (.ref b_219), .val (.ref b_222), .val (.ref b_225), .val (.ref b226), .unset, .unset, .unset] [(.int (3 : Int32))])) t ∧ _
      refine own_go (fun _ => XS.ifNo X226.here hx rfl (hb hby at_51) rfl ((if0 _ _).trans (tlt (by decide : (0 : Int32) < (3 : Int32))).2.2.2)) ?_
      show ∃ t o, Steps p.tables e below (T226.setTop (mkF m 54 #[.val (.int f1), .val (.int x1), .val (.int y1), .val (.int z1), .val (.int (3 : Int32)), .val (.ref b_215), .val (.ref b_219), .val (.ref b_222), .val (.ref b_225), .val (.ref b226), .unset, .unset, .unset] [])) t ∧ _
      refine own_go (fun _ => XS.aload X226.here hx rfl (hb hby at_54) rfl rfl) ?_
      show ∃ t o, Steps p.tables e below (T226.setTop (mkF m 56 #[.val (.int f1), .val (.int x1), .val (.int y1), .val (.int z1), .val (.int (3 : Int32)), .val (.ref b_215), .val (.ref b_219), .val (.ref b_222), .val (.ref b_225), .val (.ref b226), .unset, .unset, .unset] [(.ref b226)])) t ∧ _
      refine own_go (fun _ => XS.iconst X226.here hx rfl (hb hby at_56)) ?_
      show ∃ t o, Steps p.tables e below (T226.setTop (mkF m 57 #[.val (.int f1), .val (.int x1), .val (.int y1), .val (.int z1), .val (.int (3 : Int32)), .val (.ref b_215), .val (.ref b_219), .val (.ref b_222), .val (.ref b_225), .val (.ref b226), .unset, .unset, .unset] [(.int (0 : Int32)), (.ref b226)])) t ∧ _
      refine own_go (fun _ => XS.aload X226.here hx rfl (hb hby at_57) rfl rfl) ?_
      show ∃ t o, Steps p.tables e below (T226.setTop (mkF m 59 #[.val (.int f1), .val (.int x1), .val (.int y1), .val (.int z1), .val (.int (3 : Int32)), .val (.ref b_215), .val (.ref b_219), .val (.ref b_222), .val (.ref b_225), .val (.ref b226), .unset, .unset, .unset] [(.ref b_215), (.int (0 : Int32)), (.ref b226)])) t ∧ _
      obtain ⟨cl227, Ar227, q227, S227, N227, H227, G227⟩ := id V_b226
      have hin227 : ¬ ((0 : Int32) < 0 ∨ cl227.slots.size ≤ ((0 : Int32)).toNatClampNeg) := inb_of S227 ⟨by decide, by decide⟩
      have F228 : Exa Z h226 b_215 "java/lang/Integer" := (Exa.ext E226 (Exa.keep (Exa.keep (Exa.keep G215_0 Kp219) Kp222) Kp225))
      obtain ⟨T229, h229, X229, e229, W229, st229⟩ := stR X226 hx hZ e226 Ar227 (j := (0 : Int32)) hin227 rfl (Sto.ofV Ar227 q227 O226 (Ins.of_exa F228 (hw _ (List.mem_of_getElem? (i := 75) rfl)))) (g := (mkF m 59 #[.val (.int f1), .val (.int x1), .val (.int y1), .val (.int z1), .val (.int (3 : Int32)), .val (.ref b_215), .val (.ref b_219), .val (.ref b_222), .val (.ref b_225), .val (.ref b226), .unset, .unset, .unset] [(.ref b_215), (.int (0 : Int32)), (.ref b226)])) rfl rfl (hb hby at_59)
      refine own_go st229 ?_
      have ge230 : n0 ≤ b226 := by omega
      have le_229 : h226.size ≤ h229.size := Nat.le_of_eq W229.size.symm
      have sz231 : h0.size ≤ b226 := by omega
      have K229 : Keep h0 h229 [] := Keep.wr K226 W229 (Or.inr sz231)
      have N229 := Fr.snoc X229 N225 ge230
      have V229 : Arv Z h229 b226 k226 (.object "java/lang/Object") (3 : Int32) [(.ref b_215), .null, .null] .null := Arv.set Ar227 q227 S227 N227 H227 G227 rfl W229 0 rfl (Nat.le_of_ble_eq_true rfl)
      show ∃ t o, Steps p.tables e below (T229.setTop (mkF m 60 #[.val (.int f1), .val (.int x1), .val (.int y1), .val (.int z1), .val (.int (3 : Int32)), .val (.ref b_215), .val (.ref b_219), .val (.ref b_222), .val (.ref b_225), .val (.ref b226), .unset, .unset, .unset] [])) t ∧ _
      refine own_go (fun _ => XS.iload X229.here hx rfl (hb hby at_60) rfl) ?_
      show ∃ t o, Steps p.tables e below (T229.setTop (mkF m 62 #[.val (.int f1), .val (.int x1), .val (.int y1), .val (.int z1), .val (.int (3 : Int32)), .val (.ref b_215), .val (.ref b_219), .val (.ref b_222), .val (.ref b_225), .val (.ref b226), .unset, .unset, .unset] [(.int (3 : Int32))])) t ∧ _
      refine own_go (fun _ => XS.iconst X229.here hx rfl (hb hby at_62)) ?_
      show ∃ t o, Steps p.tables e below (T229.setTop (mkF m 63 #[.val (.int f1), .val (.int x1), .val (.int y1), .val (.int z1), .val (.int (3 : Int32)), .val (.ref b_215), .val (.ref b_219), .val (.ref b_222), .val (.ref b_225), .val (.ref b226), .unset, .unset, .unset] [(.int (1 : Int32)), (.int (3 : Int32))])) t ∧ _
      refine own_go (fun _ => XS.icmpNo X229.here hx rfl (hb hby at_63) rfl (tlt (by decide : (1 : Int32) < (3 : Int32))).2.2.2) ?_
      show ∃ t o, Steps p.tables e below (T229.setTop (mkF m 66 #[.val (.int f1), .val (.int x1), .val (.int y1), .val (.int z1), .val (.int (3 : Int32)), .val (.ref b_215), .val (.ref b_219), .val (.ref b_222), .val (.ref b_225), .val (.ref b226), .unset, .unset, .unset] [])) t ∧ _
      refine own_go (fun _ => XS.aload X229.here hx rfl (hb hby at_66) rfl rfl) ?_
      show ∃ t o, Steps p.tables e below (T229.setTop (mkF m 68 #[.val (.int f1), .val (.int x1), .val (.int y1), .val (.int z1), .val (.int (3 : Int32)), .val (.ref b_215), .val (.ref b_219), .val (.ref b_222), .val (.ref b_225), .val (.ref b226), .unset, .unset, .unset] [(.ref b226)])) t ∧ _
      refine own_go (fun _ => XS.iconst X229.here hx rfl (hb hby at_68)) ?_
      show ∃ t o, Steps p.tables e below (T229.setTop (mkF m 69 #[.val (.int f1), .val (.int x1), .val (.int y1), .val (.int z1), .val (.int (3 : Int32)), .val (.ref b_215), .val (.ref b_219), .val (.ref b_222), .val (.ref b_225), .val (.ref b226), .unset, .unset, .unset] [(.int (1 : Int32)), (.ref b226)])) t ∧ _
      refine own_go (fun _ => XS.aload X229.here hx rfl (hb hby at_69) rfl rfl) ?_
      show ∃ t o, Steps p.tables e below (T229.setTop (mkF m 71 #[.val (.int f1), .val (.int x1), .val (.int y1), .val (.int z1), .val (.int (3 : Int32)), .val (.ref b_215), .val (.ref b_219), .val (.ref b_222), .val (.ref b_225), .val (.ref b226), .unset, .unset, .unset] [(.ref b_219), (.int (1 : Int32)), (.ref b226)])) t ∧ _
      obtain ⟨cl232, Ar232, q232, S232, N232, H232, G232⟩ := id V229
      have hin232 : ¬ ((1 : Int32) < 0 ∨ cl232.slots.size ≤ ((1 : Int32)).toNatClampNeg) := inb_of S232 ⟨by decide, by decide⟩
      have F233 : Exa Z h229 b_219 "java/lang/Integer" := (Exa.wr W229 (Exa.ext E226 (Exa.keep (Exa.keep G219_0 Kp222) Kp225)))
      obtain ⟨T234, h234, X234, e234, W234, st234⟩ := stR X229 hx hZ e229 Ar232 (j := (1 : Int32)) hin232 rfl (Sto.ofV Ar232 q232 O226 (Ins.of_exa F233 (hw _ (List.mem_of_getElem? (i := 75) rfl)))) (g := (mkF m 71 #[.val (.int f1), .val (.int x1), .val (.int y1), .val (.int z1), .val (.int (3 : Int32)), .val (.ref b_215), .val (.ref b_219), .val (.ref b_222), .val (.ref b_225), .val (.ref b226), .unset, .unset, .unset] [(.ref b_219), (.int (1 : Int32)), (.ref b226)])) rfl rfl (hb hby at_71)
      refine own_go st234 ?_
      have le_234 : h229.size ≤ h234.size := Nat.le_of_eq W234.size.symm
      have K234 : Keep h0 h234 [] := Keep.wr K229 W234 (Or.inr sz231)
      have N234 := Fr.snoc X234 N229 ge230
      have V234 : Arv Z h234 b226 k226 (.object "java/lang/Object") (3 : Int32) [(.ref b_215), (.ref b_219), .null] .null := Arv.set Ar232 q232 S232 N232 H232 G232 rfl W234 1 rfl (Nat.le_of_ble_eq_true rfl)
      show ∃ t o, Steps p.tables e below (T234.setTop (mkF m 72 #[.val (.int f1), .val (.int x1), .val (.int y1), .val (.int z1), .val (.int (3 : Int32)), .val (.ref b_215), .val (.ref b_219), .val (.ref b_222), .val (.ref b_225), .val (.ref b226), .unset, .unset, .unset] [])) t ∧ _
      refine own_go (fun _ => XS.iload X234.here hx rfl (hb hby at_72) rfl) ?_
      show ∃ t o, Steps p.tables e below (T234.setTop (mkF m 74 #[.val (.int f1), .val (.int x1), .val (.int y1), .val (.int z1), .val (.int (3 : Int32)), .val (.ref b_215), .val (.ref b_219), .val (.ref b_222), .val (.ref b_225), .val (.ref b226), .unset, .unset, .unset] [(.int (3 : Int32))])) t ∧ _
      refine own_go (fun _ => XS.iconst X234.here hx rfl (hb hby at_74)) ?_
      show ∃ t o, Steps p.tables e below (T234.setTop (mkF m 75 #[.val (.int f1), .val (.int x1), .val (.int y1), .val (.int z1), .val (.int (3 : Int32)), .val (.ref b_215), .val (.ref b_219), .val (.ref b_222), .val (.ref b_225), .val (.ref b226), .unset, .unset, .unset] [(.int (2 : Int32)), (.int (3 : Int32))])) t ∧ _
      refine own_go (fun _ => XS.icmpNo X234.here hx rfl (hb hby at_75) rfl (tlt (by decide : (2 : Int32) < (3 : Int32))).2.2.2) ?_
      show ∃ t o, Steps p.tables e below (T234.setTop (mkF m 78 #[.val (.int f1), .val (.int x1), .val (.int y1), .val (.int z1), .val (.int (3 : Int32)), .val (.ref b_215), .val (.ref b_219), .val (.ref b_222), .val (.ref b_225), .val (.ref b226), .unset, .unset, .unset] [])) t ∧ _
      refine own_go (fun _ => XS.aload X234.here hx rfl (hb hby at_78) rfl rfl) ?_
      show ∃ t o, Steps p.tables e below (T234.setTop (mkF m 80 #[.val (.int f1), .val (.int x1), .val (.int y1), .val (.int z1), .val (.int (3 : Int32)), .val (.ref b_215), .val (.ref b_219), .val (.ref b_222), .val (.ref b_225), .val (.ref b226), .unset, .unset, .unset] [(.ref b226)])) t ∧ _
      refine own_go (fun _ => XS.iconst X234.here hx rfl (hb hby at_80)) ?_
      show ∃ t o, Steps p.tables e below (T234.setTop (mkF m 81 #[.val (.int f1), .val (.int x1), .val (.int y1), .val (.int z1), .val (.int (3 : Int32)), .val (.ref b_215), .val (.ref b_219), .val (.ref b_222), .val (.ref b_225), .val (.ref b226), .unset, .unset, .unset] [(.int (2 : Int32)), (.ref b226)])) t ∧ _
      refine own_go (fun _ => XS.aload X234.here hx rfl (hb hby at_81) rfl rfl) ?_
      show ∃ t o, Steps p.tables e below (T234.setTop (mkF m 83 #[.val (.int f1), .val (.int x1), .val (.int y1), .val (.int z1), .val (.int (3 : Int32)), .val (.ref b_215), .val (.ref b_219), .val (.ref b_222), .val (.ref b_225), .val (.ref b226), .unset, .unset, .unset] [(.ref b_222), (.int (2 : Int32)), (.ref b226)])) t ∧ _
      obtain ⟨cl235, Ar235, q235, S235, N235, H235, G235⟩ := id V234
      have hin235 : ¬ ((2 : Int32) < 0 ∨ cl235.slots.size ≤ ((2 : Int32)).toNatClampNeg) := inb_of S235 ⟨by decide, by decide⟩
      have F236 : Exa Z h234 b_222 "java/lang/Long" := (Exa.wr W234 (Exa.wr W229 (Exa.ext E226 (Exa.keep G222_0 Kp225))))
      obtain ⟨T237, h237, X237, e237, W237, st237⟩ := stR X234 hx hZ e234 Ar235 (j := (2 : Int32)) hin235 rfl (Sto.ofV Ar235 q235 O226 (Ins.of_exa F236 (hw _ (List.mem_of_getElem? (i := 76) rfl)))) (g := (mkF m 83 #[.val (.int f1), .val (.int x1), .val (.int y1), .val (.int z1), .val (.int (3 : Int32)), .val (.ref b_215), .val (.ref b_219), .val (.ref b_222), .val (.ref b_225), .val (.ref b226), .unset, .unset, .unset] [(.ref b_222), (.int (2 : Int32)), (.ref b226)])) rfl rfl (hb hby at_83)
      refine own_go st237 ?_
      have le_237 : h234.size ≤ h237.size := Nat.le_of_eq W237.size.symm
      have K237 : Keep h0 h237 [] := Keep.wr K234 W237 (Or.inr sz231)
      have N237 := Fr.snoc X237 N234 ge230
      have V237 : Arv Z h237 b226 k226 (.object "java/lang/Object") (3 : Int32) [(.ref b_215), (.ref b_219), (.ref b_222)] .null := Arv.set Ar235 q235 S235 N235 H235 G235 rfl W237 2 rfl (Nat.le_of_ble_eq_true rfl)
      show ∃ t o, Steps p.tables e below (T237.setTop (mkF m 84 #[.val (.int f1), .val (.int x1), .val (.int y1), .val (.int z1), .val (.int (3 : Int32)), .val (.ref b_215), .val (.ref b_219), .val (.ref b_222), .val (.ref b_225), .val (.ref b226), .unset, .unset, .unset] [])) t ∧ _
      refine own_go (fun _ => XS.aload X237.here hx rfl (hb hby at_84) rfl rfl) ?_
      show ∃ t o, Steps p.tables e below (T237.setTop (mkF m 86 #[.val (.int f1), .val (.int x1), .val (.int y1), .val (.int z1), .val (.int (3 : Int32)), .val (.ref b_215), .val (.ref b_219), .val (.ref b_222), .val (.ref b_225), .val (.ref b226), .unset, .unset, .unset] [(.ref b226)])) t ∧ _
      have F238 : Exa Z h237 b_215 "java/lang/Integer" := (Exa.wr W237 (Exa.wr W234 (Exa.wr W229 F228)))
      have ne239 : b_215 ≠ b226 := own_ne (by omega)
      have F240 : Fld Z h237 b_215 "java/lang/Integer" "value" "I" (.int rv_215) := (Fld.other W237 (Fld.other W234 (Fld.other W229 (Fld.ext E226 (Fld.keep (Fld.keep (Fld.keep G215_1 Kp219 nin0) Kp222 nin0) Kp225 nin0)) (Or.inl ne239)) (Or.inl ne239)) (Or.inl ne239))
      have F241 : Exa Z h237 b_219 "java/lang/Integer" := (Exa.wr W237 (Exa.wr W234 F233))
      have ne242 : b_219 ≠ b226 := own_ne (by omega)
      have F243 : Fld Z h237 b_219 "java/lang/Integer" "value" "I" (.int rv_219) := (Fld.other W237 (Fld.other W234 (Fld.other W229 (Fld.ext E226 (Fld.keep (Fld.keep G219_1 Kp222 nin0) Kp225 nin0)) (Or.inl ne242)) (Or.inl ne242)) (Or.inl ne242))
      have F244 : Exa Z h237 b_222 "java/lang/Long" := (Exa.wr W237 F236)
      have ne245 : b_222 ≠ b226 := own_ne (by omega)
      have F246 : Fld Z h237 b_222 "java/lang/Long" "value" "J" (.long rv_222) := (Fld.other W237 (Fld.other W234 (Fld.other W229 (Fld.ext E226 (Fld.keep G222_1 Kp225 nin0)) (Or.inl ne245)) (Or.inl ne245)) (Or.inl ne245))
      have F247 : Old Z n0 h237 := (Old.wr (Old.wr (Old.wr ((Old.keep F223 Kp225 all0).ext E226) W229 ge230) W234 ge230) W237 ge230)
      have zl248 : n0 ≤ h237.size := by omega
      obtain ⟨_, _, ⟨T249, L249, k249, n249⟩, -, X249, ⟨Lc249, hQ249, l249, y249, z249⟩, st249⟩ := Jvm.LawKit.callS X237 hx (y := (⟨"com/example/planwright/planwright/plan/Key", "of", "([Ljava/lang/Object;)Ljava/lang/Object;"⟩ : MethodName)) hown (mvT hZ (hw _ (List.mem_of_getElem? (i := 17) rfl))) (mvT hZ (hw _ (List.mem_of_getElem? (i := 18) rfl))) (mvT hZ (hw _ (List.mem_of_getElem? (i := 19) rfl))) (mvT hZ (hw _ (List.mem_of_getElem? (i := 20) rfl))) (by decide) (backOf (W := 0) (rmOf3 l Z a0 hw [] b226 k226 b_215 rv_215 b_219 rv_219 b_222 rv_222 h237 n0 zl248 V237 F238 F240 F241 F243 F244 F246 F247) hZ (hw _ (List.mem_of_getElem? (i := 20) rfl)) (hw _ (List.mem_of_getElem? (i := 19) rfl)) (by decide) (by decide)) (g := (mkF m 86 #[.val (.int f1), .val (.int x1), .val (.int y1), .val (.int z1), .val (.int (3 : Int32)), .val (.ref b_215), .val (.ref b_219), .val (.ref b_222), .val (.ref b_225), .val (.ref b226), .unset, .unset, .unset] [(.ref b226)])) rfl (by rw [hml]; rfl) (argsL := [(.ref b226)]) (rest := []) (lenOf pd_hefb3f20f rfl) rfl (by show 2 * 0 + _ ≤ _; exact Nat.le_of_eq rfl) (hb hby at_86) (fun _ _ => ⟨rfl, e237, (by decide : 5 + 1 ≤ _), (by decide : 7 + 2 ≤ _)⟩)
      dsimp only [Pt.U, Pt.locs, Pt.cells, Pt.slots] at X249 l249 y249 z249 st249 hQ249
      subst l249 y249 z249
      obtain ⟨b_249, rfl, Nq249, Kp249, G249_0, G249_1, H249_0⟩ := hQ249
      have N249 := Fr.app N237 Nq249
      refine own_go st249 ?_
      have le_249 : h237.size ≤ T249.heap.size := Kp249.1
      have K249 : Keep h0 T249.heap [] := Keep.trans K237 Kp249 all0
      have lt_b_249 : b_249 < T249.heap.size := (G249_0).lt
      show ∃ t o, Steps p.tables e below (T249.setTop (mkF m 89 #[.val (.int f1), .val (.int x1), .val (.int y1), .val (.int z1), .val (.int (3 : Int32)), .val (.ref b_215), .val (.ref b_219), .val (.ref b_222), .val (.ref b_225), .val (.ref b226), .unset, .unset, .unset] [(.ref b_249)])) t ∧ _
      refine own_go (fun _ => XS.astore X249.here hx rfl (hb hby at_89) rfl rfl (l' := #[.val (.int f1), .val (.int x1), .val (.int y1), .val (.int z1), .val (.int (3 : Int32)), .val (.ref b_215), .val (.ref b_219), .val (.ref b_222), .val (.ref b_225), .val (.ref b226), .val (.ref b_249), .unset, .unset]) rfl) ?_
      show ∃ t o, Steps p.tables e below (T249.setTop (mkF m 91 #[.val (.int f1), .val (.int x1), .val (.int y1), .val (.int z1), .val (.int (3 : Int32)), .val (.ref b_215), .val (.ref b_219), .val (.ref b_222), .val (.ref b_225), .val (.ref b226), .val (.ref b_249), .unset, .unset] [])) t ∧ _
      refine own_go (fun _ => XS.aload X249.here hx rfl (hb hby at_91) rfl rfl) ?_
      show ∃ t o, Steps p.tables e below (T249.setTop (mkF m 93 #[.val (.int f1), .val (.int x1), .val (.int y1), .val (.int z1), .val (.int (3 : Int32)), .val (.ref b_215), .val (.ref b_219), .val (.ref b_222), .val (.ref b_225), .val (.ref b226), .val (.ref b_249), .unset, .unset] [(.ref b_249)])) t ∧ _
      refine own_go (fun _ => XS.iload X249.here hx rfl (hb hby at_93) rfl) ?_
      show ∃ t o, Steps p.tables e below (T249.setTop (mkF m 95 #[.val (.int f1), .val (.int x1), .val (.int y1), .val (.int z1), .val (.int (3 : Int32)), .val (.ref b_215), .val (.ref b_219), .val (.ref b_222), .val (.ref b_225), .val (.ref b226), .val (.ref b_249), .unset, .unset] [(.int (3 : Int32)), (.ref b_249)])) t ∧ _
      have F250 : Arv Z T249.heap b226 k226 (.object "java/lang/Object") (3 : Int32) [(.ref b_215), (.ref b_219), (.ref b_222)] .null := (Arv.keep V237 Kp249 nin0)
      have F251 : Exa Z T249.heap b226 "[Ljava/lang/Object;" := (Exa.keep (Exa.wr W237 (Exa.wr W234 (Exa.wr W229 Q226))) Kp249)
      have F252 : Old Z n0 T249.heap := (Old.keep F247 Kp249 all0)
      have zl253 : n0 ≤ T249.heap.size := by omega
      obtain ⟨_, _, ⟨T254, L254, k254, n254⟩, -, X254, ⟨Lc254, hQ254, l254, y254, z254⟩, st254⟩ := Jvm.LawKit.callS X249 hx (y := (⟨"com/example/planwright/planwright/plan/Key", "values", "(Ljava/lang/Object;I)[Ljava/lang/Object;"⟩ : MethodName)) hown (mvT hZ (hw _ (List.mem_of_getElem? (i := 37) rfl))) (mvT hZ (hw _ (List.mem_of_getElem? (i := 38) rfl))) (mvT hZ (hw _ (List.mem_of_getElem? (i := 19) rfl))) (mvT hZ (hw _ (List.mem_of_getElem? (i := 39) rfl))) (by decide) (backOf (W := 0) (rmVals3 l Z a0 hw [] b_249 b226 k226 b_215 b_219 b_222 T249.heap n0 zl253 G249_0 G249_1 F250 F251 F252) hZ (hw _ (List.mem_of_getElem? (i := 39) rfl)) (hw _ (List.mem_of_getElem? (i := 19) rfl)) (by decide) (by decide)) (g := (mkF m 95 #[.val (.int f1), .val (.int x1), .val (.int y1), .val (.int z1), .val (.int (3 : Int32)), .val (.ref b_215), .val (.ref b_219), .val (.ref b_222), .val (.ref b_225), .val (.ref b226), .val (.ref b_249), .unset, .unset] [(.int (3 : Int32)), (.ref b_249)])) rfl (by rw [hml]; rfl) (argsL := [(.ref b_249), (.int (3 : Int32))]) (rest := []) (lenOf pd_h9d814d6e rfl) rfl (by show 2 * 0 + _ ≤ _; exact Nat.le_of_eq rfl) (hb hby at_95) (fun _ _ => ⟨rfl, rfl, (by decide : 6 + 1 ≤ _), (by decide : 9 + 3 ≤ _)⟩)
      dsimp only [Pt.U, Pt.locs, Pt.cells, Pt.slots] at X254 l254 y254 z254 st254 hQ254
      subst l254 y254 z254
      obtain ⟨b_254, rfl, Nq254, Kp254, G254_0, H254_0⟩ := hQ254
      have N254 := Fr.app N249 Nq254
      refine own_go st254 ?_
      have le_254 : T249.heap.size ≤ T254.heap.size := Kp254.1
      have K254 : Keep h0 T254.heap [] := Keep.trans K249 Kp254 all0
      have lt_b_254 : b_254 < T254.heap.size := (G254_0).lt
      show ∃ t o, Steps p.tables e below (T254.setTop (mkF m 98 #[.val (.int f1), .val (.int x1), .val (.int y1), .val (.int z1), .val (.int (3 : Int32)), .val (.ref b_215), .val (.ref b_219), .val (.ref b_222), .val (.ref b_225), .val (.ref b226), .val (.ref b_249), .unset, .unset] [(.ref b_254)])) t ∧ _
      refine own_go (fun _ => XS.astore X254.here hx rfl (hb hby at_98) rfl rfl (l' := #[.val (.int f1), .val (.int x1), .val (.int y1), .val (.int z1), .val (.int (3 : Int32)), .val (.ref b_215), .val (.ref b_219), .val (.ref b_222), .val (.ref b_225), .val (.ref b226), .val (.ref b_249), .val (.ref b_254), .unset]) rfl) ?_
      show ∃ t o, Steps p.tables e below (T254.setTop (mkF m 100 #[.val (.int f1), .val (.int x1), .val (.int y1), .val (.int z1), .val (.int (3 : Int32)), .val (.ref b_215), .val (.ref b_219), .val (.ref b_222), .val (.ref b_225), .val (.ref b226), .val (.ref b_249), .val (.ref b_254), .unset] [])) t ∧ _
      refine own_go (fun _ => XS.aload X254.here hx rfl (hb hby at_100) rfl rfl) ?_
      show ∃ t o, Steps p.tables e below (T254.setTop (mkF m 102 #[.val (.int f1), .val (.int x1), .val (.int y1), .val (.int z1), .val (.int (3 : Int32)), .val (.ref b_215), .val (.ref b_219), .val (.ref b_222), .val (.ref b_225), .val (.ref b226), .val (.ref b_249), .val (.ref b_254), .unset] [(.ref b_254)])) t ∧ _
      refine own_go (fun _ => XS.ifnullNo X254.here hx rfl (hb hby at_102) rfl) ?_
      show ∃ t o, Steps p.tables e below (T254.setTop (mkF m 105 #[.val (.int f1), .val (.int x1), .val (.int y1), .val (.int z1), .val (.int (3 : Int32)), .val (.ref b_215), .val (.ref b_219), .val (.ref b_222), .val (.ref b_225), .val (.ref b226), .val (.ref b_249), .val (.ref b_254), .unset] [])) t ∧ _
      refine own_go (fun _ => XS.aload X254.here hx rfl (hb hby at_105) rfl rfl) ?_
      show ∃ t o, Steps p.tables e below (T254.setTop (mkF m 107 #[.val (.int f1), .val (.int x1), .val (.int y1), .val (.int z1), .val (.int (3 : Int32)), .val (.ref b_215), .val (.ref b_219), .val (.ref b_222), .val (.ref b_225), .val (.ref b226), .val (.ref b_249), .val (.ref b_254), .unset] [(.ref b_254)])) t ∧ _
      refine own_go (fun _ => XS.aload X254.here hx rfl (hb hby at_107) rfl rfl) ?_
      show ∃ t o, Steps p.tables e below (T254.setTop (mkF m 109 #[.val (.int f1), .val (.int x1), .val (.int y1), .val (.int z1), .val (.int (3 : Int32)), .val (.ref b_215), .val (.ref b_219), .val (.ref b_222), .val (.ref b_225), .val (.ref b226), .val (.ref b_249), .val (.ref b_254), .unset] [(.ref b226), (.ref b_254)])) t ∧ _
      have ne255 : b_254 ≠ b226 := own_ne (by omega)
      refine own_go (fun _ => Jvm.RoadKit.acmp (g := (mkF m 109 #[.val (.int f1), .val (.int x1), .val (.int y1), .val (.int z1), .val (.int (3 : Int32)), .val (.ref b_215), .val (.ref b_219), .val (.ref b_222), .val (.ref b_225), .val (.ref b226), .val (.ref b_249), .val (.ref b_254), .unset] [(.ref b226), (.ref b_254)])) X254 hx rfl rfl rfl (pc0 := 109) (pc' := 112) (same := false) rfl (hb hby at_109) rfl (decide_eq_false fun q => ne255 (Value.ref.inj q)) (by decide) (by decide)) ?_
      show ∃ t o, Steps p.tables e below (T254.setTop (mkF m 112 #[.val (.int f1), .val (.int x1), .val (.int y1), .val (.int z1), .val (.int (3 : Int32)), .val (.ref b_215), .val (.ref b_219), .val (.ref b_222), .val (.ref b_225), .val (.ref b226), .val (.ref b_249), .val (.ref b_254), .unset] [])) t ∧ _
      refine own_go (fun _ => XS.aload X254.here hx rfl (hb hby at_112) rfl rfl) ?_
      show ∃ t o, Steps p.tables e below (T254.setTop (mkF m 114 #[.val (.int f1), .val (.int x1), .val (.int y1), .val (.int z1), .val (.int (3 : Int32)), .val (.ref b_215), .val (.ref b_219), .val (.ref b_222), .val (.ref b_225), .val (.ref b226), .val (.ref b_249), .val (.ref b_254), .unset] [(.ref b_254)])) t ∧ _
      obtain ⟨cl256, Ar256, q256, S256, N256, H256, G256⟩ := id G254_0
      have ln256 : cl256.slots.size.toInt32 = (3 : Int32) := len_of S256 N256
      have al256 := X254.arraylength hx Ar256.1 (State.isArrayOf_alike hZ.alike Ar256.2.1) (g := (mkF m 114 #[.val (.int f1), .val (.int x1), .val (.int y1), .val (.int z1), .val (.int (3 : Int32)), .val (.ref b_215), .val (.ref b_219), .val (.ref b_222), .val (.ref b_225), .val (.ref b226), .val (.ref b_249), .val (.ref b_254), .unset] [(.ref b_254)])) rfl rfl (hb hby at_114)
      rw [ln256] at al256
      refine own_go al256 ?_
      show ∃ t o, Steps p.tables e below (T254.setTop (mkF m 115 #[.val (.int f1), .val (.int x1), .val (.int y1), .val (.int z1), .val (.int (3 : Int32)), .val (.ref b_215), .val (.ref b_219), .val (.ref b_222), .val (.ref b_225), .val (.ref b226), .val (.ref b_249), .val (.ref b_254), .unset] [(.int (3 : Int32))])) t ∧ _
      refine own_go (fun _ => XS.iload X254.here hx rfl (hb hby at_115) rfl) ?_
      show ∃ t o, Steps p.tables e below (T254.setTop (mkF m 117 #[.val (.int f1), .val (.int x1), .val (.int y1), .val (.int z1), .val (.int (3 : Int32)), .val (.ref b_215), .val (.ref b_219), .val (.ref b_222), .val (.ref b_225), .val (.ref b226), .val (.ref b_249), .val (.ref b_254), .unset] [(.int (3 : Int32)), (.int (3 : Int32))])) t ∧ _
      refine own_go (fun _ => XS.icmpYes X254.here hx rfl (pc0 := 117) (pc' := 122) rfl (hb hby at_117) rfl (teq (by decide : (3 : Int32) = (3 : Int32))).1 (by decide) (by decide)) ?_
      show ∃ t o, Steps p.tables e below (T254.setTop (mkF m 122 #[.val (.int f1), .val (.int x1), .val (.int y1), .val (.int z1), .val (.int (3 : Int32)), .val (.ref b_215), .val (.ref b_219), .val (.ref b_222), .val (.ref b_225), .val (.ref b226), .val (.ref b_249), .val (.ref b_254), .unset] [])) t ∧ _
      refine own_go (fun _ => XS.iload X254.here hx rfl (hb hby at_122) rfl) ?_
      show ∃ t o, Steps p.tables e below (T254.setTop (mkF m 124 #[.val (.int f1), .val (.int x1), .val (.int y1), .val (.int z1), .val (.int (3 : Int32)), .val (.ref b_215), .val (.ref b_219), .val (.ref b_222), .val (.ref b_225), .val (.ref b226), .val (.ref b_249), .val (.ref b_254), .unset] [(.int (3 : Int32))])) t ∧ _
      refine own_go (fun _ => XS.ifNo X254.here hx rfl (hb hby at_124) rfl ((if0 _ _).trans (tlt (by decide : (0 : Int32) < (3 : Int32))).2.2.2)) ?_
      show ∃ t o, Steps p.tables e below (T254.setTop (mkF m 127 #[.val (.int f1), .val (.int x1), .val (.int y1), .val (.int z1), .val (.int (3 : Int32)), .val (.ref b_215), .val (.ref b_219), .val (.ref b_222), .val (.ref b_225), .val (.ref b226), .val (.ref b_249), .val (.ref b_254), .unset] [])) t ∧ _
      refine own_go (fun _ => XS.aload X254.here hx rfl (hb hby at_127) rfl rfl) ?_
      show ∃ t o, Steps p.tables e below (T254.setTop (mkF m 129 #[.val (.int f1), .val (.int x1), .val (.int y1), .val (.int z1), .val (.int (3 : Int32)), .val (.ref b_215), .val (.ref b_219), .val (.ref b_222), .val (.ref b_225), .val (.ref b226), .val (.ref b_249), .val (.ref b_254), .unset] [(.ref b_254)])) t ∧ _
      refine own_go (fun _ => XS.iconst X254.here hx rfl (hb hby at_129)) ?_
      show ∃ t o, Steps p.tables e below (T254.setTop (mkF m 130 #[.val (.int f1), .val (.int x1), .val (.int y1), .val (.int z1), .val (.int (3 : Int32)), .val (.ref b_215), .val (.ref b_219), .val (.ref b_222), .val (.ref b_225), .val (.ref b226), .val (.ref b_249), .val (.ref b_254), .unset] [(.int (0 : Int32)), (.ref b_254)])) t ∧ _
      obtain ⟨cl257, Ar257, q257, S257, N257, H257, G257⟩ := id G254_0
      have hin257 : ¬ ((0 : Int32) < 0 ∨ cl257.slots.size ≤ ((0 : Int32)).toNatClampNeg) := inb_of S257 ⟨by decide, by decide⟩
      have hat257 : cl257.slots[((0 : Int32)).toNatClampNeg]? = some (.ref b_215) := Has.at H257 hin257 rfl
      refine own_go (fun _ => X254.aaload hx (j := (0 : Int32)) (v := (.ref b_215)) Ar257.1 (State.isArrayOf_alike hZ.alike Ar257.2.1) rfl Ar257.2.2 hin257 hat257 (g := (mkF m 130 #[.val (.int f1), .val (.int x1), .val (.int y1), .val (.int z1), .val (.int (3 : Int32)), .val (.ref b_215), .val (.ref b_219), .val (.ref b_222), .val (.ref b_225), .val (.ref b226), .val (.ref b_249), .val (.ref b_254), .unset] [(.int (0 : Int32)), (.ref b_254)])) rfl rfl (hb hby at_130) _) ?_
      show ∃ t o, Steps p.tables e below (T254.setTop (mkF m 131 #[.val (.int f1), .val (.int x1), .val (.int y1), .val (.int z1), .val (.int (3 : Int32)), .val (.ref b_215), .val (.ref b_219), .val (.ref b_222), .val (.ref b_225), .val (.ref b226), .val (.ref b_249), .val (.ref b_254), .unset] [(.ref b_215)])) t ∧ _
      refine own_go (fun _ => XS.aload X254.here hx rfl (hb hby at_131) rfl rfl) ?_
      show ∃ t o, Steps p.tables e below (T254.setTop (mkF m 133 #[.val (.int f1), .val (.int x1), .val (.int y1), .val (.int z1), .val (.int (3 : Int32)), .val (.ref b_215), .val (.ref b_219), .val (.ref b_222), .val (.ref b_225), .val (.ref b226), .val (.ref b_249), .val (.ref b_254), .unset] [(.ref b_215), (.ref b_215)])) t ∧ _
      refine own_go (fun _ => Jvm.RoadKit.acmp (g := (mkF m 133 #[.val (.int f1), .val (.int x1), .val (.int y1), .val (.int z1), .val (.int (3 : Int32)), .val (.ref b_215), .val (.ref b_219), .val (.ref b_222), .val (.ref b_225), .val (.ref b226), .val (.ref b_249), .val (.ref b_254), .unset] [(.ref b_215), (.ref b_215)])) X254 hx rfl rfl rfl (pc0 := 133) (pc' := 138) (same := true) rfl (hb hby at_133) rfl (decide_eq_true rfl) (by decide) (by decide)) ?_
      show ∃ t o, Steps p.tables e below (T254.setTop (mkF m 138 #[.val (.int f1), .val (.int x1), .val (.int y1), .val (.int z1), .val (.int (3 : Int32)), .val (.ref b_215), .val (.ref b_219), .val (.ref b_222), .val (.ref b_225), .val (.ref b226), .val (.ref b_249), .val (.ref b_254), .unset] [])) t ∧ _
      refine own_go (fun _ => XS.iload X254.here hx rfl (hb hby at_138) rfl) ?_
      show ∃ t o, Steps p.tables e below (T254.setTop (mkF m 140 #[.val (.int f1), .val (.int x1), .val (.int y1), .val (.int z1), .val (.int (3 : Int32)), .val (.ref b_215), .val (.ref b_219), .val (.ref b_222), .val (.ref b_225), .val (.ref b226), .val (.ref b_249), .val (.ref b_254), .unset] [(.int (3 : Int32))])) t ∧ _
      refine own_go (fun _ => XS.iconst X254.here hx rfl (hb hby at_140)) ?_
      show ∃ t o, Steps p.tables e below (T254.setTop (mkF m 141 #[.val (.int f1), .val (.int x1), .val (.int y1), .val (.int z1), .val (.int (3 : Int32)), .val (.ref b_215), .val (.ref b_219), .val (.ref b_222), .val (.ref b_225), .val (.ref b226), .val (.ref b_249), .val (.ref b_254), .unset] [(.int (1 : Int32)), (.int (3 : Int32))])) t ∧ _
      refine own_go (fun _ => XS.icmpNo X254.here hx rfl (hb hby at_141) rfl (tlt (by decide : (1 : Int32) < (3 : Int32))).2.2.2) ?_
      show ∃ t o, Steps p.tables e below (T254.setTop (mkF m 144 #[.val (.int f1), .val (.int x1), .val (.int y1), .val (.int z1), .val (.int (3 : Int32)), .val (.ref b_215), .val (.ref b_219), .val (.ref b_222), .val (.ref b_225), .val (.ref b226), .val (.ref b_249), .val (.ref b_254), .unset] [])) t ∧ _
      refine own_go (fun _ => XS.aload X254.here hx rfl (hb hby at_144) rfl rfl) ?_
      show ∃ t o, Steps p.tables e below (T254.setTop (mkF m 146 #[.val (.int f1), .val (.int x1), .val (.int y1), .val (.int z1), .val (.int (3 : Int32)), .val (.ref b_215), .val (.ref b_219), .val (.ref b_222), .val (.ref b_225), .val (.ref b226), .val (.ref b_249), .val (.ref b_254), .unset] [(.ref b_254)])) t ∧ _
      refine own_go (fun _ => XS.iconst X254.here hx rfl (hb hby at_146)) ?_
      show ∃ t o, Steps p.tables e below (T254.setTop (mkF m 147 #[.val (.int f1), .val (.int x1), .val (.int y1), .val (.int z1), .val (.int (3 : Int32)), .val (.ref b_215), .val (.ref b_219), .val (.ref b_222), .val (.ref b_225), .val (.ref b226), .val (.ref b_249), .val (.ref b_254), .unset] [(.int (1 : Int32)), (.ref b_254)])) t ∧ _
      obtain ⟨cl258, Ar258, q258, S258, N258, H258, G258⟩ := id G254_0
      have hin258 : ¬ ((1 : Int32) < 0 ∨ cl258.slots.size ≤ ((1 : Int32)).toNatClampNeg) := inb_of S258 ⟨by decide, by decide⟩
      have hat258 : cl258.slots[((1 : Int32)).toNatClampNeg]? = some (.ref b_219) := Has.at H258 hin258 rfl
      refine own_go (fun _ => X254.aaload hx (j := (1 : Int32)) (v := (.ref b_219)) Ar258.1 (State.isArrayOf_alike hZ.alike Ar258.2.1) rfl Ar258.2.2 hin258 hat258 (g := (mkF m 147 #[.val (.int f1), .val (.int x1), .val (.int y1), .val (.int z1), .val (.int (3 : Int32)), .val (.ref b_215), .val (.ref b_219), .val (.ref b_222), .val (.ref b_225), .val (.ref b226), .val (.ref b_249), .val (.ref b_254), .unset] [(.int (1 : Int32)), (.ref b_254)])) rfl rfl (hb hby at_147) _) ?_
      show ∃ t o, Steps p.tables e below (T254.setTop (mkF m 148 #[.val (.int f1), .val (.int x1), .val (.int y1), .val (.int z1), .val (.int (3 : Int32)), .val (.ref b_215), .val (.ref b_219), .val (.ref b_222), .val (.ref b_225), .val (.ref b226), .val (.ref b_249), .val (.ref b_254), .unset] [(.ref b_219)])) t ∧ _
      refine own_go (fun _ => XS.aload X254.here hx rfl (hb hby at_148) rfl rfl) ?_
      show ∃ t o, Steps p.tables e below (T254.setTop (mkF m 150 #[.val (.int f1), .val (.int x1), .val (.int y1), .val (.int z1), .val (.int (3 : Int32)), .val (.ref b_215), .val (.ref b_219), .val (.ref b_222), .val (.ref b_225), .val (.ref b226), .val (.ref b_249), .val (.ref b_254), .unset] [(.ref b_219), (.ref b_219)])) t ∧ _
      refine own_go (fun _ => Jvm.RoadKit.acmp (g := (mkF m 150 #[.val (.int f1), .val (.int x1), .val (.int y1), .val (.int z1), .val (.int (3 : Int32)), .val (.ref b_215), .val (.ref b_219), .val (.ref b_222), .val (.ref b_225), .val (.ref b226), .val (.ref b_249), .val (.ref b_254), .unset] [(.ref b_219), (.ref b_219)])) X254 hx rfl rfl rfl (pc0 := 150) (pc' := 155) (same := true) rfl (hb hby at_150) rfl (decide_eq_true rfl) (by decide) (by decide)) ?_
      show ∃ t o, Steps p.tables e below (T254.setTop (mkF m 155 #[.val (.int f1), .val (.int x1), .val (.int y1), .val (.int z1), .val (.int (3 : Int32)), .val (.ref b_215), .val (.ref b_219), .val (.ref b_222), .val (.ref b_225), .val (.ref b226), .val (.ref b_249), .val (.ref b_254), .unset] [])) t ∧ _
      refine own_go (fun _ => XS.iload X254.here hx rfl (hb hby at_155) rfl) ?_
      show ∃ t o, Steps p.tables e below (T254.setTop (mkF m 157 #[.val (.int f1), .val (.int x1), .val (.int y1), .val (.int z1), .val (.int (3 : Int32)), .val (.ref b_215), .val (.ref b_219), .val (.ref b_222), .val (.ref b_225), .val (.ref b226), .val (.ref b_249), .val (.ref b_254), .unset] [(.int (3 : Int32))])) t ∧ _
      refine own_go (fun _ => XS.iconst X254.here hx rfl (hb hby at_157)) ?_
      show ∃ t o, Steps p.tables e below (T254.setTop (mkF m 158 #[.val (.int f1), .val (.int x1), .val (.int y1), .val (.int z1), .val (.int (3 : Int32)), .val (.ref b_215), .val (.ref b_219), .val (.ref b_222), .val (.ref b_225), .val (.ref b226), .val (.ref b_249), .val (.ref b_254), .unset] [(.int (2 : Int32)), (.int (3 : Int32))])) t ∧ _
      refine own_go (fun _ => XS.icmpNo X254.here hx rfl (hb hby at_158) rfl (tlt (by decide : (2 : Int32) < (3 : Int32))).2.2.2) ?_
      show ∃ t o, Steps p.tables e below (T254.setTop (mkF m 161 #[.val (.int f1), .val (.int x1), .val (.int y1), .val (.int z1), .val (.int (3 : Int32)), .val (.ref b_215), .val (.ref b_219), .val (.ref b_222), .val (.ref b_225), .val (.ref b226), .val (.ref b_249), .val (.ref b_254), .unset] [])) t ∧ _
      refine own_go (fun _ => XS.aload X254.here hx rfl (hb hby at_161) rfl rfl) ?_
      show ∃ t o, Steps p.tables e below (T254.setTop (mkF m 163 #[.val (.int f1), .val (.int x1), .val (.int y1), .val (.int z1), .val (.int (3 : Int32)), .val (.ref b_215), .val (.ref b_219), .val (.ref b_222), .val (.ref b_225), .val (.ref b226), .val (.ref b_249), .val (.ref b_254), .unset] [(.ref b_254)])) t ∧ _
      refine own_go (fun _ => XS.iconst X254.here hx rfl (hb hby at_163)) ?_
      show ∃ t o, Steps p.tables e below (T254.setTop (mkF m 164 #[.val (.int f1), .val (.int x1), .val (.int y1), .val (.int z1), .val (.int (3 : Int32)), .val (.ref b_215), .val (.ref b_219), .val (.ref b_222), .val (.ref b_225), .val (.ref b226), .val (.ref b_249), .val (.ref b_254), .unset] [(.int (2 : Int32)), (.ref b_254)])) t ∧ _
      obtain ⟨cl259, Ar259, q259, S259, N259, H259, G259⟩ := id G254_0
      have hin259 : ¬ ((2 : Int32) < 0 ∨ cl259.slots.size ≤ ((2 : Int32)).toNatClampNeg) := inb_of S259 ⟨by decide, by decide⟩
      have hat259 : cl259.slots[((2 : Int32)).toNatClampNeg]? = some (.ref b_222) := Has.at H259 hin259 rfl
      refine own_go (fun _ => X254.aaload hx (j := (2 : Int32)) (v := (.ref b_222)) Ar259.1 (State.isArrayOf_alike hZ.alike Ar259.2.1) rfl Ar259.2.2 hin259 hat259 (g := (mkF m 164 #[.val (.int f1), .val (.int x1), .val (.int y1), .val (.int z1), .val (.int (3 : Int32)), .val (.ref b_215), .val (.ref b_219), .val (.ref b_222), .val (.ref b_225), .val (.ref b226), .val (.ref b_249), .val (.ref b_254), .unset] [(.int (2 : Int32)), (.ref b_254)])) rfl rfl (hb hby at_164) _) ?_
      show ∃ t o, Steps p.tables e below (T254.setTop (mkF m 165 #[.val (.int f1), .val (.int x1), .val (.int y1), .val (.int z1), .val (.int (3 : Int32)), .val (.ref b_215), .val (.ref b_219), .val (.ref b_222), .val (.ref b_225), .val (.ref b226), .val (.ref b_249), .val (.ref b_254), .unset] [(.ref b_222)])) t ∧ _
      refine own_go (fun _ => XS.aload X254.here hx rfl (hb hby at_165) rfl rfl) ?_
      show ∃ t o, Steps p.tables e below (T254.setTop (mkF m 167 #[.val (.int f1), .val (.int x1), .val (.int y1), .val (.int z1), .val (.int (3 : Int32)), .val (.ref b_215), .val (.ref b_219), .val (.ref b_222), .val (.ref b_225), .val (.ref b226), .val (.ref b_249), .val (.ref b_254), .unset] [(.ref b_222), (.ref b_222)])) t ∧ _
      refine own_go (fun _ => Jvm.RoadKit.acmp (g := (mkF m 167 #[.val (.int f1), .val (.int x1), .val (.int y1), .val (.int z1), .val (.int (3 : Int32)), .val (.ref b_215), .val (.ref b_219), .val (.ref b_222), .val (.ref b_225), .val (.ref b226), .val (.ref b_249), .val (.ref b_254), .unset] [(.ref b_222), (.ref b_222)])) X254 hx rfl rfl rfl (pc0 := 167) (pc' := 172) (same := true) rfl (hb hby at_167) rfl (decide_eq_true rfl) (by decide) (by decide)) ?_
      show ∃ t o, Steps p.tables e below (T254.setTop (mkF m 172 #[.val (.int f1), .val (.int x1), .val (.int y1), .val (.int z1), .val (.int (3 : Int32)), .val (.ref b_215), .val (.ref b_219), .val (.ref b_222), .val (.ref b_225), .val (.ref b226), .val (.ref b_249), .val (.ref b_254), .unset] [])) t ∧ _
      refine own_go (fun _ => XS.iload X254.here hx rfl (hb hby at_172) rfl) ?_
      show ∃ t o, Steps p.tables e below (T254.setTop (mkF m 174 #[.val (.int f1), .val (.int x1), .val (.int y1), .val (.int z1), .val (.int (3 : Int32)), .val (.ref b_215), .val (.ref b_219), .val (.ref b_222), .val (.ref b_225), .val (.ref b226), .val (.ref b_249), .val (.ref b_254), .unset] [(.int (3 : Int32))])) t ∧ _
      refine own_go (fun _ => XS.ifNo X254.here hx rfl (hb hby at_174) rfl ((if0 _ _).trans (tlt (by decide : (0 : Int32) < (3 : Int32))).2.2.2)) ?_
      show ∃ t o, Steps p.tables e below (T254.setTop (mkF m 177 #[.val (.int f1), .val (.int x1), .val (.int y1), .val (.int z1), .val (.int (3 : Int32)), .val (.ref b_215), .val (.ref b_219), .val (.ref b_222), .val (.ref b_225), .val (.ref b226), .val (.ref b_249), .val (.ref b_254), .unset] [])) t ∧ _
      refine own_go (fun _ => XS.aload X254.here hx rfl (hb hby at_177) rfl rfl) ?_
      show ∃ t o, Steps p.tables e below (T254.setTop (mkF m 179 #[.val (.int f1), .val (.int x1), .val (.int y1), .val (.int z1), .val (.int (3 : Int32)), .val (.ref b_215), .val (.ref b_219), .val (.ref b_222), .val (.ref b_225), .val (.ref b226), .val (.ref b_249), .val (.ref b_254), .unset] [(.ref b_254)])) t ∧ _
      refine own_go (fun _ => XS.iconst X254.here hx rfl (hb hby at_179)) ?_
      show ∃ t o, Steps p.tables e below (T254.setTop (mkF m 180 #[.val (.int f1), .val (.int x1), .val (.int y1), .val (.int z1), .val (.int (3 : Int32)), .val (.ref b_215), .val (.ref b_219), .val (.ref b_222), .val (.ref b_225), .val (.ref b226), .val (.ref b_249), .val (.ref b_254), .unset] [(.int (0 : Int32)), (.ref b_254)])) t ∧ _
      refine own_go (fun _ => XS.aload X254.here hx rfl (hb hby at_180) rfl rfl) ?_
      show ∃ t o, Steps p.tables e below (T254.setTop (mkF m 182 #[.val (.int f1), .val (.int x1), .val (.int y1), .val (.int z1), .val (.int (3 : Int32)), .val (.ref b_215), .val (.ref b_219), .val (.ref b_222), .val (.ref b_225), .val (.ref b226), .val (.ref b_249), .val (.ref b_254), .unset] [(.ref b_225), (.int (0 : Int32)), (.ref b_254)])) t ∧ _
      obtain ⟨cl260, Ar260, q260, S260, N260, H260, G260⟩ := id G254_0
      have hin260 : ¬ ((0 : Int32) < 0 ∨ cl260.slots.size ≤ ((0 : Int32)).toNatClampNeg) := inb_of S260 ⟨by decide, by decide⟩
      have F261 : Exa Z T254.heap b_225 "java/lang/Integer" := (Exa.keep (Exa.keep (Exa.wr W237 (Exa.wr W234 (Exa.wr W229 (Exa.ext E226 G225_0)))) Kp249) Kp254)
      obtain ⟨T262, h262, X262, e262, W262, st262⟩ := stR X254 hx hZ rfl Ar260 (j := (0 : Int32)) hin260 rfl (Sto.ofV Ar260 q260 O226 (Ins.of_exa F261 (hw _ (List.mem_of_getElem? (i := 75) rfl)))) (g := (mkF m 182 #[.val (.int f1), .val (.int x1), .val (.int y1), .val (.int z1), .val (.int (3 : Int32)), .val (.ref b_215), .val (.ref b_219), .val (.ref b_222), .val (.ref b_225), .val (.ref b226), .val (.ref b_249), .val (.ref b_254), .unset] [(.ref b_225), (.int (0 : Int32)), (.ref b_254)])) rfl rfl (hb hby at_182)
      refine own_go st262 ?_
      have ge263 : n0 ≤ b_254 := by omega
      have le_262 : T254.heap.size ≤ h262.size := Nat.le_of_eq W262.size.symm
      have sz264 : h0.size ≤ b_254 := by omega
      have K262 : Keep h0 h262 [] := Keep.wr K254 W262 (Or.inr sz264)
      have N262 := Fr.snoc X262 N254 ge263
      have V262 : Arv Z h262 b_254 k226 (.object "java/lang/Object") (3 : Int32) [(.ref b_225), (.ref b_219), (.ref b_222)] .null := Arv.set Ar260 q260 S260 N260 H260 G260 rfl W262 0 rfl (Nat.le_of_ble_eq_true rfl)
      show ∃ t o, Steps p.tables e below (T262.setTop (mkF m 183 #[.val (.int f1), .val (.int x1), .val (.int y1), .val (.int z1), .val (.int (3 : Int32)), .val (.ref b_215), .val (.ref b_219), .val (.ref b_222), .val (.ref b_225), .val (.ref b226), .val (.ref b_249), .val (.ref b_254), .unset] [])) t ∧ _
      refine own_go (fun _ => XS.aload X262.here hx rfl (hb hby at_183) rfl rfl) ?_
      show ∃ t o, Steps p.tables e below (T262.setTop (mkF m 185 #[.val (.int f1), .val (.int x1), .val (.int y1), .val (.int z1), .val (.int (3 : Int32)), .val (.ref b_215), .val (.ref b_219), .val (.ref b_222), .val (.ref b_225), .val (.ref b226), .val (.ref b_249), .val (.ref b_254), .unset] [(.ref b_249)])) t ∧ _
      refine own_go (fun _ => XS.iload X262.here hx rfl (hb hby at_185) rfl) ?_
      show ∃ t o, Steps p.tables e below (T262.setTop (mkF m 187 #[.val (.int f1), .val (.int x1), .val (.int y1), .val (.int z1), .val (.int (3 : Int32)), .val (.ref b_215), .val (.ref b_219), .val (.ref b_222), .val (.ref b_225), .val (.ref b226), .val (.ref b_249), .val (.ref b_254), .unset] [(.int (3 : Int32)), (.ref b_249)])) t ∧ _
      have F265 : Exa Z h262 b_249 "com/example/planwright/planwright/plan/Key" := (Exa.wr W262 (Exa.keep G249_0 Kp254))
      have ne266 : b_249 ≠ b_254 := own_ne (by omega)
      have F267 : Fld Z h262 b_249 "com/example/planwright/planwright/plan/Key" "values" "[Ljava/lang/Object;" (.ref b226) := (Fld.other W262 (Fld.keep G249_1 Kp254 nin0) (Or.inl ne266))
      have ne268 : b226 ≠ b_254 := own_ne (by omega)
      have F269 : Arv Z h262 b226 k226 (.object "java/lang/Object") (3 : Int32) [(.ref b_215), (.ref b_219), (.ref b_222)] .null := (Arv.other (Arv.keep F250 Kp254 nin0) W262 ne268)
      have F270 : Exa Z h262 b226 "[Ljava/lang/Object;" := (Exa.wr W262 (Exa.keep F251 Kp254))
      have F271 : Old Z n0 h262 := (Old.wr (Old.keep F252 Kp254 all0) W262 ge263)
      have zl272 : n0 ≤ h262.size := by omega
      obtain ⟨_, _, ⟨T273, L273, k273, n273⟩, -, X273, ⟨Lc273, hQ273, l273, y273, z273⟩, st273⟩ := Jvm.LawKit.callS X262 hx (y := (⟨"com/example/planwright/planwright/plan/Key", "values", "(Ljava/lang/Object;I)[Ljava/lang/Object;"⟩ : MethodName)) hown (mvT hZ (hw _ (List.mem_of_getElem? (i := 37) rfl))) (mvT hZ (hw _ (List.mem_of_getElem? (i := 38) rfl))) (mvT hZ (hw _ (List.mem_of_getElem? (i := 19) rfl))) (mvT hZ (hw _ (List.mem_of_getElem? (i := 39) rfl))) (by decide) (backOf (W := 0) (rmVals3 l Z a0 hw [] b_249 b226 k226 b_215 b_219 b_222 h262 n0 zl272 F265 F267 F269 F270 F271) hZ (hw _ (List.mem_of_getElem? (i := 39) rfl)) (hw _ (List.mem_of_getElem? (i := 19) rfl)) (by decide) (by decide)) (g := (mkF m 187 #[.val (.int f1), .val (.int x1), .val (.int y1), .val (.int z1), .val (.int (3 : Int32)), .val (.ref b_215), .val (.ref b_219), .val (.ref b_222), .val (.ref b_225), .val (.ref b226), .val (.ref b_249), .val (.ref b_254), .unset] [(.int (3 : Int32)), (.ref b_249)])) rfl (by rw [hml]; rfl) (argsL := [(.ref b_249), (.int (3 : Int32))]) (rest := []) (lenOf pd_h9d814d6e rfl) rfl (by show 2 * 0 + _ ≤ _; exact Nat.le_of_eq rfl) (hb hby at_187) (fun _ _ => ⟨rfl, e262, (by decide : 7 + 1 ≤ _), (by decide : 12 + 3 ≤ _)⟩)
      dsimp only [Pt.U, Pt.locs, Pt.cells, Pt.slots] at X273 l273 y273 z273 st273 hQ273
      subst l273 y273 z273
      obtain ⟨b_273, rfl, Nq273, Kp273, G273_0, H273_0⟩ := hQ273
      have N273 := Fr.app N262 Nq273
      refine own_go st273 ?_
      have le_273 : h262.size ≤ T273.heap.size := Kp273.1
      have K273 : Keep h0 T273.heap [] := Keep.trans K262 Kp273 all0
      have lt_b_273 : b_273 < T273.heap.size := (G273_0).lt
      show ∃ t o, Steps p.tables e below (T273.setTop (mkF m 190 #[.val (.int f1), .val (.int x1), .val (.int y1), .val (.int z1), .val (.int (3 : Int32)), .val (.ref b_215), .val (.ref b_219), .val (.ref b_222), .val (.ref b_225), .val (.ref b226), .val (.ref b_249), .val (.ref b_254), .unset] [(.ref b_273)])) t ∧ _
      refine own_go (fun _ => XS.astore X273.here hx rfl (hb hby at_190) rfl rfl (l' := #[.val (.int f1), .val (.int x1), .val (.int y1), .val (.int z1), .val (.int (3 : Int32)), .val (.ref b_215), .val (.ref b_219), .val (.ref b_222), .val (.ref b_225), .val (.ref b226), .val (.ref b_249), .val (.ref b_254), .val (.ref b_273)]) rfl) ?_
      show ∃ t o, Steps p.tables e below (T273.setTop (mkF m 192 #[.val (.int f1), .val (.int x1), .val (.int y1), .val (.int z1), .val (.int (3 : Int32)), .val (.ref b_215), .val (.ref b_219), .val (.ref b_222), .val (.ref b_225), .val (.ref b226), .val (.ref b_249), .val (.ref b_254), .val (.ref b_273)] [])) t ∧ _
      refine own_go (fun _ => XS.aload X273.here hx rfl (hb hby at_192) rfl rfl) ?_
      show ∃ t o, Steps p.tables e below (T273.setTop (mkF m 194 #[.val (.int f1), .val (.int x1), .val (.int y1), .val (.int z1), .val (.int (3 : Int32)), .val (.ref b_215), .val (.ref b_219), .val (.ref b_222), .val (.ref b_225), .val (.ref b226), .val (.ref b_249), .val (.ref b_254), .val (.ref b_273)] [(.ref b_273)])) t ∧ _
      refine own_go (fun _ => XS.ifnullNo X273.here hx rfl (hb hby at_194) rfl) ?_
      show ∃ t o, Steps p.tables e below (T273.setTop (mkF m 197 #[.val (.int f1), .val (.int x1), .val (.int y1), .val (.int z1), .val (.int (3 : Int32)), .val (.ref b_215), .val (.ref b_219), .val (.ref b_222), .val (.ref b_225), .val (.ref b226), .val (.ref b_249), .val (.ref b_254), .val (.ref b_273)] [])) t ∧ _
      refine own_go (fun _ => XS.aload X273.here hx rfl (hb hby at_197) rfl rfl) ?_
      show ∃ t o, Steps p.tables e below (T273.setTop (mkF m 199 #[.val (.int f1), .val (.int x1), .val (.int y1), .val (.int z1), .val (.int (3 : Int32)), .val (.ref b_215), .val (.ref b_219), .val (.ref b_222), .val (.ref b_225), .val (.ref b226), .val (.ref b_249), .val (.ref b_254), .val (.ref b_273)] [(.ref b_273)])) t ∧ _
      refine own_go (fun _ => XS.aload X273.here hx rfl (hb hby at_199) rfl rfl) ?_
      show ∃ t o, Steps p.tables e below (T273.setTop (mkF m 201 #[.val (.int f1), .val (.int x1), .val (.int y1), .val (.int z1), .val (.int (3 : Int32)), .val (.ref b_215), .val (.ref b_219), .val (.ref b_222), .val (.ref b_225), .val (.ref b226), .val (.ref b_249), .val (.ref b_254), .val (.ref b_273)] [(.ref b_254), (.ref b_273)])) t ∧ _
      have ne274 : b_273 ≠ b_254 := own_ne (by omega)
      refine own_go (fun _ => Jvm.RoadKit.acmp (g := (mkF m 201 #[.val (.int f1), .val (.int x1), .val (.int y1), .val (.int z1), .val (.int (3 : Int32)), .val (.ref b_215), .val (.ref b_219), .val (.ref b_222), .val (.ref b_225), .val (.ref b226), .val (.ref b_249), .val (.ref b_254), .val (.ref b_273)] [(.ref b_254), (.ref b_273)])) X273 hx rfl rfl rfl (pc0 := 201) (pc' := 204) (same := false) rfl (hb hby at_201) rfl (decide_eq_false fun q => ne274 (Value.ref.inj q)) (by decide) (by decide)) ?_
      show ∃ t o, Steps p.tables e below (T273.setTop (mkF m 204 #[.val (.int f1), .val (.int x1), .val (.int y1), .val (.int z1), .val (.int (3 : Int32)), .val (.ref b_215), .val (.ref b_219), .val (.ref b_222), .val (.ref b_225), .val (.ref b226), .val (.ref b_249), .val (.ref b_254), .val (.ref b_273)] [])) t ∧ _
      refine own_go (fun _ => XS.aload X273.here hx rfl (hb hby at_204) rfl rfl) ?_
      show ∃ t o, Steps p.tables e below (T273.setTop (mkF m 206 #[.val (.int f1), .val (.int x1), .val (.int y1), .val (.int z1), .val (.int (3 : Int32)), .val (.ref b_215), .val (.ref b_219), .val (.ref b_222), .val (.ref b_225), .val (.ref b226), .val (.ref b_249), .val (.ref b_254), .val (.ref b_273)] [(.ref b_273)])) t ∧ _
      obtain ⟨cl275, Ar275, q275, S275, N275, H275, G275⟩ := id G273_0
      have ln275 : cl275.slots.size.toInt32 = (3 : Int32) := len_of S275 N275
      have al275 := X273.arraylength hx Ar275.1 (State.isArrayOf_alike hZ.alike Ar275.2.1) (g := (mkF m 206 #[.val (.int f1), .val (.int x1), .val (.int y1), .val (.int z1), .val (.int (3 : Int32)), .val (.ref b_215), .val (.ref b_219), .val (.ref b_222), .val (.ref b_225), .val (.ref b226), .val (.ref b_249), .val (.ref b_254), .val (.ref b_273)] [(.ref b_273)])) rfl rfl (hb hby at_206)
      rw [ln275] at al275
      refine own_go al275 ?_
      show ∃ t o, Steps p.tables e below (T273.setTop (mkF m 207 #[.val (.int f1), .val (.int x1), .val (.int y1), .val (.int z1), .val (.int (3 : Int32)), .val (.ref b_215), .val (.ref b_219), .val (.ref b_222), .val (.ref b_225), .val (.ref b226), .val (.ref b_249), .val (.ref b_254), .val (.ref b_273)] [(.int (3 : Int32))])) t ∧ _
      refine own_go (fun _ => XS.iload X273.here hx rfl (hb hby at_207) rfl) ?_
      show ∃ t o, Steps p.tables e below (T273.setTop (mkF m 209 #[.val (.int f1), .val (.int x1), .val (.int y1), .val (.int z1), .val (.int (3 : Int32)), .val (.ref b_215), .val (.ref b_219), .val (.ref b_222), .val (.ref b_225), .val (.ref b226), .val (.ref b_249), .val (.ref b_254), .val (.ref b_273)] [(.int (3 : Int32)), (.int (3 : Int32))])) t ∧ _
      refine own_go (fun _ => XS.icmpYes X273.here hx rfl (pc0 := 209) (pc' := 214) rfl (hb hby at_209) rfl (teq (by decide : (3 : Int32) = (3 : Int32))).1 (by decide) (by decide)) ?_
      show ∃ t o, Steps p.tables e below (T273.setTop (mkF m 214 #[.val (.int f1), .val (.int x1), .val (.int y1), .val (.int z1), .val (.int (3 : Int32)), .val (.ref b_215), .val (.ref b_219), .val (.ref b_222), .val (.ref b_225), .val (.ref b226), .val (.ref b_249), .val (.ref b_254), .val (.ref b_273)] [])) t ∧ _
      refine own_go (fun _ => XS.aload X273.here hx rfl (hb hby at_214) rfl rfl) ?_
      show ∃ t o, Steps p.tables e below (T273.setTop (mkF m 216 #[.val (.int f1), .val (.int x1), .val (.int y1), .val (.int z1), .val (.int (3 : Int32)), .val (.ref b_215), .val (.ref b_219), .val (.ref b_222), .val (.ref b_225), .val (.ref b226), .val (.ref b_249), .val (.ref b_254), .val (.ref b_273)] [(.ref b_273)])) t ∧ _
      refine own_go (fun _ => XS.iconst X273.here hx rfl (hb hby at_216)) ?_
      show ∃ t o, Steps p.tables e below (T273.setTop (mkF m 217 #[.val (.int f1), .val (.int x1), .val (.int y1), .val (.int z1), .val (.int (3 : Int32)), .val (.ref b_215), .val (.ref b_219), .val (.ref b_222), .val (.ref b_225), .val (.ref b226), .val (.ref b_249), .val (.ref b_254), .val (.ref b_273)] [(.int (0 : Int32)), (.ref b_273)])) t ∧ _
      obtain ⟨cl276, Ar276, q276, S276, N276, H276, G276⟩ := id G273_0
      have hin276 : ¬ ((0 : Int32) < 0 ∨ cl276.slots.size ≤ ((0 : Int32)).toNatClampNeg) := inb_of S276 ⟨by decide, by decide⟩
      have hat276 : cl276.slots[((0 : Int32)).toNatClampNeg]? = some (.ref b_215) := Has.at H276 hin276 rfl
      refine own_go (fun _ => X273.aaload hx (j := (0 : Int32)) (v := (.ref b_215)) Ar276.1 (State.isArrayOf_alike hZ.alike Ar276.2.1) rfl Ar276.2.2 hin276 hat276 (g := (mkF m 217 #[.val (.int f1), .val (.int x1), .val (.int y1), .val (.int z1), .val (.int (3 : Int32)), .val (.ref b_215), .val (.ref b_219), .val (.ref b_222), .val (.ref b_225), .val (.ref b226), .val (.ref b_249), .val (.ref b_254), .val (.ref b_273)] [(.int (0 : Int32)), (.ref b_273)])) rfl rfl (hb hby at_217) _) ?_
      show ∃ t o, Steps p.tables e below (T273.setTop (mkF m 218 #[.val (.int f1), .val (.int x1), .val (.int y1), .val (.int z1), .val (.int (3 : Int32)), .val (.ref b_215), .val (.ref b_219), .val (.ref b_222), .val (.ref b_225), .val (.ref b226), .val (.ref b_249), .val (.ref b_254), .val (.ref b_273)] [(.ref b_215)])) t ∧ _
      refine own_go (fun _ => XS.aload X273.here hx rfl (hb hby at_218) rfl rfl) ?_
      show ∃ t o, Steps p.tables e below (T273.setTop (mkF m 220 #[.val (.int f1), .val (.int x1), .val (.int y1), .val (.int z1), .val (.int (3 : Int32)), .val (.ref b_215), .val (.ref b_219), .val (.ref b_222), .val (.ref b_225), .val (.ref b226), .val (.ref b_249), .val (.ref b_254), .val (.ref b_273)] [(.ref b_215), (.ref b_215)])) t ∧ _
      refine own_go (fun _ => Jvm.RoadKit.acmp (g := (mkF m 220 #[.val (.int f1), .val (.int x1), .val (.int y1), .val (.int z1), .val (.int (3 : Int32)), .val (.ref b_215), .val (.ref b_219), .val (.ref b_222), .val (.ref b_225), .val (.ref b226), .val (.ref b_249), .val (.ref b_254), .val (.ref b_273)] [(.ref b_215), (.ref b_215)])) X273 hx rfl rfl rfl (pc0 := 220) (pc' := 225) (same := true) rfl (hb hby at_220) rfl (decide_eq_true rfl) (by decide) (by decide)) ?_
      show ∃ t o, Steps p.tables e below (T273.setTop (mkF m 225 #[.val (.int f1), .val (.int x1), .val (.int y1), .val (.int z1), .val (.int (3 : Int32)), .val (.ref b_215), .val (.ref b_219), .val (.ref b_222), .val (.ref b_225), .val (.ref b226), .val (.ref b_249), .val (.ref b_254), .val (.ref b_273)] [])) t ∧ _
      refine own_go (fun _ => XS.iload X273.here hx rfl (hb hby at_225) rfl) ?_
      show ∃ t o, Steps p.tables e below (T273.setTop (mkF m 227 #[.val (.int f1), .val (.int x1), .val (.int y1), .val (.int z1), .val (.int (3 : Int32)), .val (.ref b_215), .val (.ref b_219), .val (.ref b_222), .val (.ref b_225), .val (.ref b226), .val (.ref b_249), .val (.ref b_254), .val (.ref b_273)] [(.int (3 : Int32))])) t ∧ _
      refine own_go (fun _ => XS.iconst X273.here hx rfl (hb hby at_227)) ?_
      show ∃ t o, Steps p.tables e below (T273.setTop (mkF m 228 #[.val (.int f1), .val (.int x1), .val (.int y1), .val (.int z1), .val (.int (3 : Int32)), .val (.ref b_215), .val (.ref b_219), .val (.ref b_222), .val (.ref b_225), .val (.ref b226), .val (.ref b_249), .val (.ref b_254), .val (.ref b_273)] [(.int (1 : Int32)), (.int (3 : Int32))])) t ∧ _
      refine own_go (fun _ => XS.icmpNo X273.here hx rfl (hb hby at_228) rfl (tlt (by decide : (1 : Int32) < (3 : Int32))).2.2.2) ?_
      show ∃ t o, Steps p.tables e below (T273.setTop (mkF m 231 #[.val (.int f1), .val (.int x1), .val (.int y1), .val (.int z1), .val (.int (3 : Int32)), .val (.ref b_215), .val (.ref b_219), .val (.ref b_222), .val (.ref b_225), .val (.ref b226), .val (.ref b_249), .val (.ref b_254), .val (.ref b_273)] [])) t ∧ _
      refine own_go (fun _ => XS.aload X273.here hx rfl (hb hby at_231) rfl rfl) ?_
      show ∃ t o, Steps p.tables e below (T273.setTop (mkF m 233 #[.val (.int f1), .val (.int x1), .val (.int y1), .val (.int z1), .val (.int (3 : Int32)), .val (.ref b_215), .val (.ref b_219), .val (.ref b_222), .val (.ref b_225), .val (.ref b226), .val (.ref b_249), .val (.ref b_254), .val (.ref b_273)] [(.ref b_273)])) t ∧ _
      refine own_go (fun _ => XS.iconst X273.here hx rfl (hb hby at_233)) ?_
      show ∃ t o, Steps p.tables e below (T273.setTop (mkF m 234 #[.val (.int f1), .val (.int x1), .val (.int y1), .val (.int z1), .val (.int (3 : Int32)), .val (.ref b_215), .val (.ref b_219), .val (.ref b_222), .val (.ref b_225), .val (.ref b226), .val (.ref b_249), .val (.ref b_254), .val (.ref b_273)] [(.int (1 : Int32)), (.ref b_273)])) t ∧ _
      obtain ⟨cl277, Ar277, q277, S277, N277, H277, G277⟩ := id G273_0
      have hin277 : ¬ ((1 : Int32) < 0 ∨ cl277.slots.size ≤ ((1 : Int32)).toNatClampNeg) := inb_of S277 ⟨by decide, by decide⟩
      have hat277 : cl277.slots[((1 : Int32)).toNatClampNeg]? = some (.ref b_219) := Has.at H277 hin277 rfl
      refine own_go (fun _ => X273.aaload hx (j := (1 : Int32)) (v := (.ref b_219)) Ar277.1 (State.isArrayOf_alike hZ.alike Ar277.2.1) rfl Ar277.2.2 hin277 hat277 (g := (mkF m 234 #[.val (.int f1), .val (.int x1), .val (.int y1), .val (.int z1), .val (.int (3 : Int32)), .val (.ref b_215), .val (.ref b_219), .val (.ref b_222), .val (.ref b_225), .val (.ref b226), .val (.ref b_249), .val (.ref b_254), .val (.ref b_273)] [(.int (1 : Int32)), (.ref b_273)])) rfl rfl (hb hby at_234) _) ?_
      show ∃ t o, Steps p.tables e below (T273.setTop (mkF m 235 #[.val (.int f1), .val (.int x1), .val (.int y1), .val (.int z1), .val (.int (3 : Int32)), .val (.ref b_215), .val (.ref b_219), .val (.ref b_222), .val (.ref b_225), .val (.ref b226), .val (.ref b_249), .val (.ref b_254), .val (.ref b_273)] [(.ref b_219)])) t ∧ _
      refine own_go (fun _ => XS.aload X273.here hx rfl (hb hby at_235) rfl rfl) ?_
      show ∃ t o, Steps p.tables e below (T273.setTop (mkF m 237 #[.val (.int f1), .val (.int x1), .val (.int y1), .val (.int z1), .val (.int (3 : Int32)), .val (.ref b_215), .val (.ref b_219), .val (.ref b_222), .val (.ref b_225), .val (.ref b226), .val (.ref b_249), .val (.ref b_254), .val (.ref b_273)] [(.ref b_219), (.ref b_219)])) t ∧ _
      refine own_go (fun _ => Jvm.RoadKit.acmp (g := (mkF m 237 #[.val (.int f1), .val (.int x1), .val (.int y1), .val (.int z1), .val (.int (3 : Int32)), .val (.ref b_215), .val (.ref b_219), .val (.ref b_222), .val (.ref b_225), .val (.ref b226), .val (.ref b_249), .val (.ref b_254), .val (.ref b_273)] [(.ref b_219), (.ref b_219)])) X273 hx rfl rfl rfl (pc0 := 237) (pc' := 242) (same := true) rfl (hb hby at_237) rfl (decide_eq_true rfl) (by decide) (by decide)) ?_
      show ∃ t o, Steps p.tables e below (T273.setTop (mkF m 242 #[.val (.int f1), .val (.int x1), .val (.int y1), .val (.int z1), .val (.int (3 : Int32)), .val (.ref b_215), .val (.ref b_219), .val (.ref b_222), .val (.ref b_225), .val (.ref b226), .val (.ref b_249), .val (.ref b_254), .val (.ref b_273)] [])) t ∧ _
      refine own_go (fun _ => XS.iload X273.here hx rfl (hb hby at_242) rfl) ?_
      show ∃ t o, Steps p.tables e below (T273.setTop (mkF m 244 #[.val (.int f1), .val (.int x1), .val (.int y1), .val (.int z1), .val (.int (3 : Int32)), .val (.ref b_215), .val (.ref b_219), .val (.ref b_222), .val (.ref b_225), .val (.ref b226), .val (.ref b_249), .val (.ref b_254), .val (.ref b_273)] [(.int (3 : Int32))])) t ∧ _
      refine own_go (fun _ => XS.iconst X273.here hx rfl (hb hby at_244)) ?_
      show ∃ t o, Steps p.tables e below (T273.setTop (mkF m 245 #[.val (.int f1), .val (.int x1), .val (.int y1), .val (.int z1), .val (.int (3 : Int32)), .val (.ref b_215), .val (.ref b_219), .val (.ref b_222), .val (.ref b_225), .val (.ref b226), .val (.ref b_249), .val (.ref b_254), .val (.ref b_273)] [(.int (2 : Int32)), (.int (3 : Int32))])) t ∧ _
      refine own_go (fun _ => XS.icmpNo X273.here hx rfl (hb hby at_245) rfl (tlt (by decide : (2 : Int32) < (3 : Int32))).2.2.2) ?_
      show ∃ t o, Steps p.tables e below (T273.setTop (mkF m 248 #[.val (.int f1), .val (.int x1), .val (.int y1), .val (.int z1), .val (.int (3 : Int32)), .val (.ref b_215), .val (.ref b_219), .val (.ref b_222), .val (.ref b_225), .val (.ref b226), .val (.ref b_249), .val (.ref b_254), .val (.ref b_273)] [])) t ∧ _
      refine own_go (fun _ => XS.aload X273.here hx rfl (hb hby at_248) rfl rfl) ?_
      show ∃ t o, Steps p.tables e below (T273.setTop (mkF m 250 #[.val (.int f1), .val (.int x1), .val (.int y1), .val (.int z1), .val (.int (3 : Int32)), .val (.ref b_215), .val (.ref b_219), .val (.ref b_222), .val (.ref b_225), .val (.ref b226), .val (.ref b_249), .val (.ref b_254), .val (.ref b_273)] [(.ref b_273)])) t ∧ _
      refine own_go (fun _ => XS.iconst X273.here hx rfl (hb hby at_250)) ?_
      show ∃ t o, Steps p.tables e below (T273.setTop (mkF m 251 #[.val (.int f1), .val (.int x1), .val (.int y1), .val (.int z1), .val (.int (3 : Int32)), .val (.ref b_215), .val (.ref b_219), .val (.ref b_222), .val (.ref b_225), .val (.ref b226), .val (.ref b_249), .val (.ref b_254), .val (.ref b_273)] [(.int (2 : Int32)), (.ref b_273)])) t ∧ _
      obtain ⟨cl278, Ar278, q278, S278, N278, H278, G278⟩ := id G273_0
      have hin278 : ¬ ((2 : Int32) < 0 ∨ cl278.slots.size ≤ ((2 : Int32)).toNatClampNeg) := inb_of S278 ⟨by decide, by decide⟩
      have hat278 : cl278.slots[((2 : Int32)).toNatClampNeg]? = some (.ref b_222) := Has.at H278 hin278 rfl
      refine own_go (fun _ => X273.aaload hx (j := (2 : Int32)) (v := (.ref b_222)) Ar278.1 (State.isArrayOf_alike hZ.alike Ar278.2.1) rfl Ar278.2.2 hin278 hat278 (g := (mkF m 251 #[.val (.int f1), .val (.int x1), .val (.int y1), .val (.int z1), .val (.int (3 : Int32)), .val (.ref b_215), .val (.ref b_219), .val (.ref b_222), .val (.ref b_225), .val (.ref b226), .val (.ref b_249), .val (.ref b_254), .val (.ref b_273)] [(.int (2 : Int32)), (.ref b_273)])) rfl rfl (hb hby at_251) _) ?_
      show ∃ t o, Steps p.tables e below (T273.setTop (mkF m 252 #[.val (.int f1), .val (.int x1), .val (.int y1), .val (.int z1), .val (.int (3 : Int32)), .val (.ref b_215), .val (.ref b_219), .val (.ref b_222), .val (.ref b_225), .val (.ref b226), .val (.ref b_249), .val (.ref b_254), .val (.ref b_273)] [(.ref b_222)])) t ∧ _
      refine own_go (fun _ => XS.aload X273.here hx rfl (hb hby at_252) rfl rfl) ?_
      show ∃ t o, Steps p.tables e below (T273.setTop (mkF m 254 #[.val (.int f1), .val (.int x1), .val (.int y1), .val (.int z1), .val (.int (3 : Int32)), .val (.ref b_215), .val (.ref b_219), .val (.ref b_222), .val (.ref b_225), .val (.ref b226), .val (.ref b_249), .val (.ref b_254), .val (.ref b_273)] [(.ref b_222), (.ref b_222)])) t ∧ _
      refine own_go (fun _ => Jvm.RoadKit.acmp (g := (mkF m 254 #[.val (.int f1), .val (.int x1), .val (.int y1), .val (.int z1), .val (.int (3 : Int32)), .val (.ref b_215), .val (.ref b_219), .val (.ref b_222), .val (.ref b_225), .val (.ref b226), .val (.ref b_249), .val (.ref b_254), .val (.ref b_273)] [(.ref b_222), (.ref b_222)])) X273 hx rfl rfl rfl (pc0 := 254) (pc' := 259) (same := true) rfl (hb hby at_254) rfl (decide_eq_true rfl) (by decide) (by decide)) ?_
      show ∃ t o, Steps p.tables e below (T273.setTop (mkF m 259 #[.val (.int f1), .val (.int x1), .val (.int y1), .val (.int z1), .val (.int (3 : Int32)), .val (.ref b_215), .val (.ref b_219), .val (.ref b_222), .val (.ref b_225), .val (.ref b226), .val (.ref b_249), .val (.ref b_254), .val (.ref b_273)] [])) t ∧ _
      refine own_go (fun _ => XS.iconst X273.here hx rfl (hb hby at_259)) ?_
      show ∃ t o, Steps p.tables e below (T273.setTop (mkF m 260 #[.val (.int f1), .val (.int x1), .val (.int y1), .val (.int z1), .val (.int (3 : Int32)), .val (.ref b_215), .val (.ref b_219), .val (.ref b_222), .val (.ref b_225), .val (.ref b226), .val (.ref b_249), .val (.ref b_254), .val (.ref b_273)] [(.int (1 : Int32))])) t ∧ _
      obtain ⟨fs, hr, hrun, hended, hW, hsame⟩ := X273.leave (v := some (.int (1 : Int32))) (fun h => by rw [Bd.returns] at h; cases h)
      refine ⟨_, _, ?_, hrun, hended, _, _, rfl, ?_, ⟨_, rfl⟩, hW, hsame.mono (by decide) (by decide)⟩
      · exact retN X273 hx (t := .boolean) Bd.returns (by simp) (hb hby at_260) hr
      · show Q_rm0 Z f1 x1 y1 z1 caI ccI caL ccL h0 n0 _ T273.heap _
        exact ⟨rfl, N273, K273⟩
    · refine own_go (fun _ => XS.ifNo X215.here hx rfl (hb hby at_14) rfl ((if0 _ _).trans (feq hc216).1)) ?_
      show ∃ t o, Steps p.tables e below (T215.setTop (mkF m 17 #[.val (.int f1), .val (.int x1), .val (.int y1), .val (.int z1), .val (.int (3 : Int32)), .val (.ref b_215), .unset, .unset, .unset, .unset, .unset, .unset, .unset] [])) t ∧ _
      refine own_go (fun _ => XS.aconstNull X215.here hx rfl (hb hby at_17)) ?_
      show ∃ t o, Steps p.tables e below (T215.setTop (mkF m 18 #[.val (.int f1), .val (.int x1), .val (.int y1), .val (.int z1), .val (.int (3 : Int32)), .val (.ref b_215), .unset, .unset, .unset, .unset, .unset, .unset, .unset] [.null])) t ∧ _
      refine own_go (fun _ => XS.goto X215.here hx rfl (pc0 := 18) (pc' := 25) rfl (hb hby at_18) (by decide) (by decide)) ?_
      show ∃ t o, Steps p.tables e below (T215.setTop (mkF m 25 #[.val (.int f1), .val (.int x1), .val (.int y1), .val (.int z1), .val (.int (3 : Int32)), .val (.ref b_215), .unset, .unset, .unset, .unset, .unset, .unset, .unset] [.null])) t ∧ _
      refine own_go (fun _ => XS.astore X215.here hx rfl (hb hby at_25) rfl rfl (l' := #[.val (.int f1), .val (.int x1), .val (.int y1), .val (.int z1), .val (.int (3 : Int32)), .val (.ref b_215), .val .null, .unset, .unset, .unset, .unset, .unset, .unset]) rfl) ?_
      show ∃ t o, Steps p.tables e below (T215.setTop (mkF m 27 #[.val (.int f1), .val (.int x1), .val (.int y1), .val (.int z1), .val (.int (3 : Int32)), .val (.ref b_215), .val .null, .unset, .unset, .unset, .unset, .unset, .unset] [])) t ∧ _
      refine own_go (fun _ => XS.iloadN X215.here hx rfl (hb hby at_27) rfl) ?_
      show ∃ t o, Steps p.tables e below (T215.setTop (mkF m 28 #[.val (.int f1), .val (.int x1), .val (.int y1), .val (.int z1), .val (.int (3 : Int32)), .val (.ref b_215), .val .null, .unset, .unset, .unset, .unset, .unset, .unset] [(.int z1)])) t ∧ _
      refine own_go (fun _ => XS.i2l X215.here hx rfl (hb hby at_28) rfl) ?_
      show ∃ t o, Steps p.tables e below (T215.setTop (mkF m 29 #[.val (.int f1), .val (.int x1), .val (.int y1), .val (.int z1), .val (.int (3 : Int32)), .val (.ref b_215), .val .null, .unset, .unset, .unset, .unset, .unset, .unset] [(.long (z1.toInt64))])) t ∧ _
      have F279 : Old Z n0 T215.heap := (Old.keep OLD Kp215 all0)
      have zl280 : n0 ≤ T215.heap.size := by omega
      obtain ⟨_, _, ⟨T281, L281, k281, n281⟩, -, X281, ⟨Lc281, hQ281, l281, y281, z281⟩, st281⟩ := Jvm.LawKit.callS X215 hx (y := (⟨"java/lang/Long", "valueOf", "(J)Ljava/lang/Long;"⟩ : MethodName)) hown (mvT hZ (hw _ (List.mem_of_getElem? (i := 7) rfl))) (mvT hZ (hw _ (List.mem_of_getElem? (i := 8) rfl))) (mvT hZ (hw _ (List.mem_of_getElem? (i := 9) rfl))) (mvT hZ (hw _ (List.mem_of_getElem? (i := 10) rfl))) (by decide) (backOf (W := 0) (rmLongOf l Z a0 hw [] (z1.toInt64) caL ccL T215.heap n0 zl280 F279 P3 (BXL : Bxs Z caL ccL "java/lang/Long" "J" (256 : Int32) own_lval)) hZ (hw _ (List.mem_of_getElem? (i := 10) rfl)) (hw _ (List.mem_of_getElem? (i := 9) rfl)) (by decide) (by decide)) (g := (mkF m 29 #[.val (.int f1), .val (.int x1), .val (.int y1), .val (.int z1), .val (.int (3 : Int32)), .val (.ref b_215), .val .null, .unset, .unset, .unset, .unset, .unset, .unset] [(.long (z1.toInt64))])) rfl (by rw [hml]; rfl) (argsL := [(.long (z1.toInt64))]) (rest := []) (lenOf pd__28J_29Ljava_2flang_2fLong_3b rfl) rfl (by show 2 * 0 + _ ≤ _; exact Nat.le_of_eq rfl) (hb hby at_29) (fun _ _ => ⟨rfl, rfl, (by decide : 1 + 1 ≤ _), (by decide : 1 + 1 ≤ _)⟩)
      dsimp only [Pt.U, Pt.locs, Pt.cells, Pt.slots] at X281 l281 y281 z281 st281 hQ281
      subst l281 y281 z281
      obtain ⟨b_281, rv_281, rfl, Nq281, Kp281, G281_0, G281_1⟩ := hQ281
      have N281 := Fr.app N215 Nq281
      refine own_go st281 ?_
      have le_281 : T215.heap.size ≤ T281.heap.size := Kp281.1
      have K281 : Keep h0 T281.heap [] := Keep.trans K215 Kp281 all0
      have lt_b_281 : b_281 < T281.heap.size := (G281_0).lt
      show ∃ t o, Steps p.tables e below (T281.setTop (mkF m 32 #[.val (.int f1), .val (.int x1), .val (.int y1), .val (.int z1), .val (.int (3 : Int32)), .val (.ref b_215), .val .null, .unset, .unset, .unset, .unset, .unset, .unset] [(.ref b_281)])) t ∧ _
      refine own_go (fun _ => XS.astore X281.here hx rfl (hb hby at_32) rfl rfl (l' := #[.val (.int f1), .val (.int x1), .val (.int y1), .val (.int z1), .val (.int (3 : Int32)), .val (.ref b_215), .val .null, .val (.ref b_281), .unset, .unset, .unset, .unset, .unset]) rfl) ?_
      show ∃ t o, Steps p.tables e below (T281.setTop (mkF m 34 #[.val (.int f1), .val (.int x1), .val (.int y1), .val (.int z1), .val (.int (3 : Int32)), .val (.ref b_215), .val .null, .val (.ref b_281), .unset, .unset, .unset, .unset, .unset] [])) t ∧ _
      refine own_go (fun _ => XS.iloadN X281.here hx rfl (hb hby at_34) rfl) ?_
      show ∃ t o, Steps p.tables e below (T281.setTop (mkF m 35 #[.val (.int f1), .val (.int x1), .val (.int y1), .val (.int z1), .val (.int (3 : Int32)), .val (.ref b_215), .val .null, .val (.ref b_281), .unset, .unset, .unset, .unset, .unset] [(.int x1)])) t ∧ _
      refine own_go (fun _ => XS.iconst X281.here hx rfl (hb hby at_35)) ?_
      show ∃ t o, Steps p.tables e below (T281.setTop (mkF m 36 #[.val (.int f1), .val (.int x1), .val (.int y1), .val (.int z1), .val (.int (3 : Int32)), .val (.ref b_215), .val .null, .val (.ref b_281), .unset, .unset, .unset, .unset, .unset] [(.int (1 : Int32)), (.int x1)])) t ∧ _
      refine own_go (fun _ => XS.ixor X281.here hx rfl (hb hby at_36) rfl) ?_
      show ∃ t o, Steps p.tables e below (T281.setTop (mkF m 37 #[.val (.int f1), .val (.int x1), .val (.int y1), .val (.int z1), .val (.int (3 : Int32)), .val (.ref b_215), .val .null, .val (.ref b_281), .unset, .unset, .unset, .unset, .unset] [(.int (x1 ^^^ (1 : Int32)))])) t ∧ _
      have F282 : Old Z n0 T281.heap := (Old.keep F279 Kp281 all0)
      have zl283 : n0 ≤ T281.heap.size := by omega
      obtain ⟨_, _, ⟨T284, L284, k284, n284⟩, -, X284, ⟨Lc284, hQ284, l284, y284, z284⟩, st284⟩ := Jvm.LawKit.callS X281 hx (y := (⟨"java/lang/Integer", "valueOf", "(I)Ljava/lang/Integer;"⟩ : MethodName)) hown (mvT hZ (hw _ (List.mem_of_getElem? (i := 0) rfl))) (mvT hZ (hw _ (List.mem_of_getElem? (i := 1) rfl))) (mvT hZ (hw _ (List.mem_of_getElem? (i := 2) rfl))) (mvT hZ (hw _ (List.mem_of_getElem? (i := 3) rfl))) (by decide) (backOf (W := 0) (rmIntOf l Z a0 hw [] ((x1 ^^^ (1 : Int32))) caI ccI T281.heap n0 zl283 F282 P1 P2 (BXI : Bxs Z caI ccI "java/lang/Integer" "I" (256 : Int32) own_ival)) hZ (hw _ (List.mem_of_getElem? (i := 3) rfl)) (hw _ (List.mem_of_getElem? (i := 2) rfl)) (by decide) (by decide)) (g := (mkF m 37 #[.val (.int f1), .val (.int x1), .val (.int y1), .val (.int z1), .val (.int (3 : Int32)), .val (.ref b_215), .val .null, .val (.ref b_281), .unset, .unset, .unset, .unset, .unset] [(.int (x1 ^^^ (1 : Int32)))])) rfl (by rw [hml]; rfl) (argsL := [(.int (x1 ^^^ (1 : Int32)))]) (rest := []) (lenOf pd__28I_29Ljava_2flang_2fInteger_3b rfl) rfl (by show 2 * 0 + _ ≤ _; exact Nat.le_of_eq rfl) (hb hby at_37) (fun _ _ => ⟨rfl, rfl, (by decide : 2 + 1 ≤ _), (by decide : 2 + 1 ≤ _)⟩)
      dsimp only [Pt.U, Pt.locs, Pt.cells, Pt.slots] at X284 l284 y284 z284 st284 hQ284
      subst l284 y284 z284
      obtain ⟨b_284, rv_284, rfl, Nq284, Kp284, G284_0, G284_1⟩ := hQ284
      have N284 := Fr.app N281 Nq284
      refine own_go st284 ?_
      have le_284 : T281.heap.size ≤ T284.heap.size := Kp284.1
      have K284 : Keep h0 T284.heap [] := Keep.trans K281 Kp284 all0
      have lt_b_284 : b_284 < T284.heap.size := (G284_0).lt
      show ∃ t o, Steps p.tables e below (T284.setTop (mkF m 40 #[.val (.int f1), .val (.int x1), .val (.int y1), .val (.int z1), .val (.int (3 : Int32)), .val (.ref b_215), .val .null, .val (.ref b_281), .unset, .unset, .unset, .unset, .unset] [(.ref b_284)])) t ∧ _
      refine own_go (fun _ => XS.astore X284.here hx rfl (hb hby at_40) rfl rfl (l' := #[.val (.int f1), .val (.int x1), .val (.int y1), .val (.int z1), .val (.int (3 : Int32)), .val (.ref b_215), .val .null, .val (.ref b_281), .val (.ref b_284), .unset, .unset, .unset, .unset]) rfl) ?_
      show ∃ t o, Steps p.tables e below (T284.setTop (mkF m 42 #[.val (.int f1), .val (.int x1), .val (.int y1), .val (.int z1), .val (.int (3 : Int32)), .val (.ref b_215), .val .null, .val (.ref b_281), .val (.ref b_284), .unset, .unset, .unset, .unset] [])) t ∧ _
      refine own_go (fun _ => XS.iload X284.here hx rfl (hb hby at_42) rfl) ?_
      show ∃ t o, Steps p.tables e below (T284.setTop (mkF m 44 #[.val (.int f1), .val (.int x1), .val (.int y1), .val (.int z1), .val (.int (3 : Int32)), .val (.ref b_215), .val .null, .val (.ref b_281), .val (.ref b_284), .unset, .unset, .unset, .unset] [(.int (3 : Int32))])) t ∧ _
      obtain ⟨T285, h285, k285, X285, e285, E285, A285, Q285, O285, st285⟩ := newRE X284 hx hZ hown (hw _ (List.mem_of_getElem? (i := 15) rfl)) (hw _ (List.mem_of_getElem? (i := 16) rfl)) rfl (g := (mkF m 44 #[.val (.int f1), .val (.int x1), .val (.int y1), .val (.int z1), .val (.int (3 : Int32)), .val (.ref b_215), .val .null, .val (.ref b_281), .val (.ref b_284), .unset, .unset, .unset, .unset] [(.int (3 : Int32))])) rfl (hb hby at_44) rfl (by decide) (cap := 3) (by decide) (by decide) (by decide) (by decide) (ad := "[Ljava/lang/Object;") rfl
      obtain ⟨b285, g285⟩ : ∃ z, z = T284.heap.size := ⟨_, rfl⟩
      rw [← g285] at A285 Q285 st285
      refine own_go st285 ?_
      have le_285 : T284.heap.size ≤ h285.size := E285.1
      have lt_b285 : b285 < h285.size := A285.lt
      have V_b285 : Arv Z h285 b285 k285 (.object "java/lang/Object") (3 : Int32) [.null, .null, .null] .null := (Arv.new A285 (by decide)).pad (pad_rep [] .null 3)
      have K285 : Keep h0 h285 [] := Keep.ext K284 E285
      show ∃ t o, Steps p.tables e below (T285.setTop (mkF m 47 #[.val (.int f1), .val (.int x1), .val (.int y1), .val (.int z1), .val (.int (3 : Int32)), .val (.ref b_215), .val .null, .val (.ref b_281), .val (.ref b_284), .unset, .unset, .unset, .unset] [(.ref b285)])) t ∧ _
      refine own_go (fun _ => XS.astore X285.here hx rfl (hb hby at_47) rfl rfl (l' := #[.val (.int f1), .val (.int x1), .val (.int y1), .val (.int z1), .val (.int (3 : Int32)), .val (.ref b_215), .val .null, .val (.ref b_281), .val (.ref b_284), .val (.ref b285), .unset, .unset, .unset]) rfl) ?_
      show ∃ t o, Steps p.tables e below (T285.setTop (mkF m 49 #[.val (.int f1), .val (.int x1), .val (.int y1), .val (.int z1), .val (.int (3 : Int32)), .val (.ref b_215), .val .null, .val (.ref b_281), .val (.ref b_284), .val (.ref b285), .unset, .unset, .unset] [])) t ∧ _
      refine own_go (fun _ => XS.iload X285.here hx rfl (hb hby at_49) rfl) ?_
      show ∃ t o, Steps p.tables e below (T285.setTop (mkF m 51 #[.val (.int f1), .val (.int x1), .val (.int y1), .val (.int z1), .val (.int (3 : Int32)), .val (.ref b_215), .val .null, .val (.ref b_281), .val (.ref b_284), .val (.ref b285), .unset, .unset, .unset] [(.int (3 : Int32))])) t ∧ _
      refine own_go (fun _ => XS.ifNo X285.here hx rfl (hb hby at_51) rfl ((if0 _ _).trans (tlt (by decide : (0 : Int32) < (3 : Int32))).2.2.2)) ?_
      show ∃ t o, Steps p.tables e below (T285.setTop (mkF m 54 #[.val (.int f1), .val (.int x1), .val (.int y1), .val (.int z1), .val (.int (3 : Int32)), .val (.ref b_215), .val .null, .val (.ref b_281), .val (.ref b_284), .val (.ref b285), .unset, .unset, .unset] [])) t ∧ _
      refine own_go (fun _ => XS.aload X285.here hx rfl (hb hby at_54) rfl rfl) ?_
      show ∃ t o, Steps p.tables e below (T285.setTop (mkF m 56 #[.val (.int f1), .val (.int x1), .val (.int y1), .val (.int z1), .val (.int (3 : Int32)), .val (.ref b_215), .val .null, .val (.ref b_281), .val (.ref b_284), .val (.ref b285), .unset, .unset, .unset] [(.ref b285)])) t ∧ _
      refine own_go (fun _ => XS.iconst X285.here hx rfl (hb hby at_56)) ?_
      show ∃ t o, Steps p.tables e below (T285.setTop (mkF m 57 #[.val (.int f1), .val (.int x1), .val (.int y1), .val (.int z1), .val (.int (3 : Int32)), .val (.ref b_215), .val .null, .val (.ref b_281), .val (.ref b_284), .val (.ref b285), .unset, .unset, .unset] [(.int (0 : Int32)), (.ref b285)])) t ∧ _
      refine own_go (fun _ => XS.aload X285.here hx rfl (hb hby at_57) rfl rfl) ?_
      show ∃ t o, Steps p.tables e below (T285.setTop (mkF m 59 #[.val (.int f1), .val (.int x1), .val (.int y1), .val (.int z1), .val (.int (3 : Int32)), .val (.ref b_215), .val .null, .val (.ref b_281), .val (.ref b_284), .val (.ref b285), .unset, .unset, .unset] [(.ref b_215), (.int (0 : Int32)), (.ref b285)])) t ∧ _
      obtain ⟨cl286, Ar286, q286, S286, N286, H286, G286⟩ := id V_b285
      have hin286 : ¬ ((0 : Int32) < 0 ∨ cl286.slots.size ≤ ((0 : Int32)).toNatClampNeg) := inb_of S286 ⟨by decide, by decide⟩
      have F287 : Exa Z h285 b_215 "java/lang/Integer" := (Exa.ext E285 (Exa.keep (Exa.keep G215_0 Kp281) Kp284))
      obtain ⟨T288, h288, X288, e288, W288, st288⟩ := stR X285 hx hZ e285 Ar286 (j := (0 : Int32)) hin286 rfl (Sto.ofV Ar286 q286 O285 (Ins.of_exa F287 (hw _ (List.mem_of_getElem? (i := 75) rfl)))) (g := (mkF m 59 #[.val (.int f1), .val (.int x1), .val (.int y1), .val (.int z1), .val (.int (3 : Int32)), .val (.ref b_215), .val .null, .val (.ref b_281), .val (.ref b_284), .val (.ref b285), .unset, .unset, .unset] [(.ref b_215), (.int (0 : Int32)), (.ref b285)])) rfl rfl (hb hby at_59)
      refine own_go st288 ?_
      have ge289 : n0 ≤ b285 := by omega
      have le_288 : h285.size ≤ h288.size := Nat.le_of_eq W288.size.symm
      have sz290 : h0.size ≤ b285 := by omega
      have K288 : Keep h0 h288 [] := Keep.wr K285 W288 (Or.inr sz290)
      have N288 := Fr.snoc X288 N284 ge289
      have V288 : Arv Z h288 b285 k285 (.object "java/lang/Object") (3 : Int32) [(.ref b_215), .null, .null] .null := Arv.set Ar286 q286 S286 N286 H286 G286 rfl W288 0 rfl (Nat.le_of_ble_eq_true rfl)
      show ∃ t o, Steps p.tables e below (T288.setTop (mkF m 60 #[.val (.int f1), .val (.int x1), .val (.int y1), .val (.int z1), .val (.int (3 : Int32)), .val (.ref b_215), .val .null, .val (.ref b_281), .val (.ref b_284), .val (.ref b285), .unset, .unset, .unset] [])) t ∧ _
      refine own_go (fun _ => XS.iload X288.here hx rfl (hb hby at_60) rfl) ?_
      show ∃ t o, Steps p.tables e below (T288.setTop (mkF m 62 #[.val (.int f1), .val (.int x1), .val (.int y1), .val (.int z1), .val (.int (3 : Int32)), .val (.ref b_215), .val .null, .val (.ref b_281), .val (.ref b_284), .val (.ref b285), .unset, .unset, .unset] [(.int (3 : Int32))])) t ∧ _
      refine own_go (fun _ => XS.iconst X288.here hx rfl (hb hby at_62)) ?_
      show ∃ t o, Steps p.tables e below (T288.setTop (mkF m 63 #[.val (.int f1), .val (.int x1), .val (.int y1), .val (.int z1), .val (.int (3 : Int32)), .val (.ref b_215), .val .null, .val (.ref b_281), .val (.ref b_284), .val (.ref b285), .unset, .unset, .unset] [(.int (1 : Int32)), (.int (3 : Int32))])) t ∧ _
      refine own_go (fun _ => XS.icmpNo X288.here hx rfl (hb hby at_63) rfl (tlt (by decide : (1 : Int32) < (3 : Int32))).2.2.2) ?_
      show ∃ t o, Steps p.tables e below (T288.setTop (mkF m 66 #[.val (.int f1), .val (.int x1), .val (.int y1), .val (.int z1), .val (.int (3 : Int32)), .val (.ref b_215), .val .null, .val (.ref b_281), .val (.ref b_284), .val (.ref b285), .unset, .unset, .unset] [])) t ∧ _
      refine own_go (fun _ => XS.aload X288.here hx rfl (hb hby at_66) rfl rfl) ?_
      show ∃ t o, Steps p.tables e below (T288.setTop (mkF m 68 #[.val (.int f1), .val (.int x1), .val (.int y1), .val (.int z1), .val (.int (3 : Int32)), .val (.ref b_215), .val .null, .val (.ref b_281), .val (.ref b_284), .val (.ref b285), .unset, .unset, .unset] [(.ref b285)])) t ∧ _
      refine own_go (fun _ => XS.iconst X288.here hx rfl (hb hby at_68)) ?_
      show ∃ t o, Steps p.tables e below (T288.setTop (mkF m 69 #[.val (.int f1), .val (.int x1), .val (.int y1), .val (.int z1), .val (.int (3 : Int32)), .val (.ref b_215), .val .null, .val (.ref b_281), .val (.ref b_284), .val (.ref b285), .unset, .unset, .unset] [(.int (1 : Int32)), (.ref b285)])) t ∧ _
      refine own_go (fun _ => XS.aload X288.here hx rfl (hb hby at_69) rfl rfl) ?_
      show ∃ t o, Steps p.tables e below (T288.setTop (mkF m 71 #[.val (.int f1), .val (.int x1), .val (.int y1), .val (.int z1), .val (.int (3 : Int32)), .val (.ref b_215), .val .null, .val (.ref b_281), .val (.ref b_284), .val (.ref b285), .unset, .unset, .unset] [.null, (.int (1 : Int32)), (.ref b285)])) t ∧ _
      obtain ⟨cl291, Ar291, q291, S291, N291, H291, G291⟩ := id V288
      have hin291 : ¬ ((1 : Int32) < 0 ∨ cl291.slots.size ≤ ((1 : Int32)).toNatClampNeg) := inb_of S291 ⟨by decide, by decide⟩
      obtain ⟨T292, h292, X292, e292, W292, st292⟩ := stR X288 hx hZ e288 Ar291 (j := (1 : Int32)) hin291 rfl (Or.inl rfl) (g := (mkF m 71 #[.val (.int f1), .val (.int x1), .val (.int y1), .val (.int z1), .val (.int (3 : Int32)), .val (.ref b_215), .val .null, .val (.ref b_281), .val (.ref b_284), .val (.ref b285), .unset, .unset, .unset] [.null, (.int (1 : Int32)), (.ref b285)])) rfl rfl (hb hby at_71)
      refine own_go st292 ?_
      have le_292 : h288.size ≤ h292.size := Nat.le_of_eq W292.size.symm
      have K292 : Keep h0 h292 [] := Keep.wr K288 W292 (Or.inr sz290)
      have N292 := Fr.snoc X292 N288 ge289
      have V292 : Arv Z h292 b285 k285 (.object "java/lang/Object") (3 : Int32) [(.ref b_215), .null, .null] .null := Arv.set Ar291 q291 S291 N291 H291 G291 rfl W292 1 rfl (Nat.le_of_ble_eq_true rfl)
      show ∃ t o, Steps p.tables e below (T292.setTop (mkF m 72 #[.val (.int f1), .val (.int x1), .val (.int y1), .val (.int z1), .val (.int (3 : Int32)), .val (.ref b_215), .val .null, .val (.ref b_281), .val (.ref b_284), .val (.ref b285), .unset, .unset, .unset] [])) t ∧ _
      refine own_go (fun _ => XS.iload X292.here hx rfl (hb hby at_72) rfl) ?_
      show ∃ t o, Steps p.tables e below (T292.setTop (mkF m 74 #[.val (.int f1), .val (.int x1), .val (.int y1), .val (.int z1), .val (.int (3 : Int32)), .val (.ref b_215), .val .null, .val (.ref b_281), .val (.ref b_284), .val (.ref b285), .unset, .unset, .unset] [(.int (3 : Int32))])) t ∧ _
      refine own_go (fun _ => XS.iconst X292.here hx rfl (hb hby at_74)) ?_
      show ∃ t o, Steps p.tables e below (T292.setTop (mkF m 75 #[.val (.int f1), .val (.int x1), .val (.int y1), .val (.int z1), .val (.int (3 : Int32)), .val (.ref b_215), .val .null, .val (.ref b_281), .val (.ref b_284), .val (.ref b285), .unset, .unset, .unset] [(.int (2 : Int32)), (.int (3 : Int32))])) t ∧ _
      refine own_go (fun _ => XS.icmpNo X292.here hx rfl (hb hby at_75) rfl (tlt (by decide : (2 : Int32) < (3 : Int32))).2.2.2) ?_
      show ∃ t o, Steps p.tables e below (T292.setTop (mkF m 78 #[.val (.int f1), .val (.int x1), .val (.int y1), .val (.int z1), .val (.int (3 : Int32)), .val (.ref b_215), .val .null, .val (.ref b_281), .val (.ref b_284), .val (.ref b285), .unset, .unset, .unset] [])) t ∧ _
      refine own_go (fun _ => XS.aload X292.here hx rfl (hb hby at_78) rfl rfl) ?_
      show ∃ t o, Steps p.tables e below (T292.setTop (mkF m 80 #[.val (.int f1), .val (.int x1), .val (.int y1), .val (.int z1), .val (.int (3 : Int32)), .val (.ref b_215), .val .null, .val (.ref b_281), .val (.ref b_284), .val (.ref b285), .unset, .unset, .unset] [(.ref b285)])) t ∧ _
      refine own_go (fun _ => XS.iconst X292.here hx rfl (hb hby at_80)) ?_
      show ∃ t o, Steps p.tables e below (T292.setTop (mkF m 81 #[.val (.int f1), .val (.int x1), .val (.int y1), .val (.int z1), .val (.int (3 : Int32)), .val (.ref b_215), .val .null, .val (.ref b_281), .val (.ref b_284), .val (.ref b285), .unset, .unset, .unset] [(.int (2 : Int32)), (.ref b285)])) t ∧ _
      refine own_go (fun _ => XS.aload X292.here hx rfl (hb hby at_81) rfl rfl) ?_
      show ∃ t o, Steps p.tables e below (T292.setTop (mkF m 83 #[.val (.int f1), .val (.int x1), .val (.int y1), .val (.int z1), .val (.int (3 : Int32)), .val (.ref b_215), .val .null, .val (.ref b_281), .val (.ref b_284), .val (.ref b285), .unset, .unset, .unset] [(.ref b_281), (.int (2 : Int32)), (.ref b285)])) t ∧ _
      obtain ⟨cl293, Ar293, q293, S293, N293, H293, G293⟩ := id V292
      have hin293 : ¬ ((2 : Int32) < 0 ∨ cl293.slots.size ≤ ((2 : Int32)).toNatClampNeg) := inb_of S293 ⟨by decide, by decide⟩
      have F294 : Exa Z h292 b_281 "java/lang/Long" := (Exa.wr W292 (Exa.wr W288 (Exa.ext E285 (Exa.keep G281_0 Kp284))))
      obtain ⟨T295, h295, X295, e295, W295, st295⟩ := stR X292 hx hZ e292 Ar293 (j := (2 : Int32)) hin293 rfl (Sto.ofV Ar293 q293 O285 (Ins.of_exa F294 (hw _ (List.mem_of_getElem? (i := 76) rfl)))) (g := (mkF m 83 #[.val (.int f1), .val (.int x1), .val (.int y1), .val (.int z1), .val (.int (3 : Int32)), .val (.ref b_215), .val .null, .val (.ref b_281), .val (.ref b_284), .val (.ref b285), .unset, .unset, .unset] [(.ref b_281), (.int (2 : Int32)), (.ref b285)])) rfl rfl (hb hby at_83)
      refine own_go st295 ?_
      have le_295 : h292.size ≤ h295.size := Nat.le_of_eq W295.size.symm
      have K295 : Keep h0 h295 [] := Keep.wr K292 W295 (Or.inr sz290)
      have N295 := Fr.snoc X295 N292 ge289
      have V295 : Arv Z h295 b285 k285 (.object "java/lang/Object") (3 : Int32) [(.ref b_215), .null, (.ref b_281)] .null := Arv.set Ar293 q293 S293 N293 H293 G293 rfl W295 2 rfl (Nat.le_of_ble_eq_true rfl)
      show ∃ t o, Steps p.tables e below (T295.setTop (mkF m 84 #[.val (.int f1), .val (.int x1), .val (.int y1), .val (.int z1), .val (.int (3 : Int32)), .val (.ref b_215), .val .null, .val (.ref b_281), .val (.ref b_284), .val (.ref b285), .unset, .unset, .unset] [])) t ∧ _
      refine own_go (fun _ => XS.aload X295.here hx rfl (hb hby at_84) rfl rfl) ?_
      show ∃ t o, Steps p.tables e below (T295.setTop (mkF m 86 #[.val (.int f1), .val (.int x1), .val (.int y1), .val (.int z1), .val (.int (3 : Int32)), .val (.ref b_215), .val .null, .val (.ref b_281), .val (.ref b_284), .val (.ref b285), .unset, .unset, .unset] [(.ref b285)])) t ∧ _
      have F296 : Exa Z h295 b_215 "java/lang/Integer" := (Exa.wr W295 (Exa.wr W292 (Exa.wr W288 F287)))
      have ne297 : b_215 ≠ b285 := own_ne (by omega)
      have F298 : Fld Z h295 b_215 "java/lang/Integer" "value" "I" (.int rv_215) := (Fld.other W295 (Fld.other W292 (Fld.other W288 (Fld.ext E285 (Fld.keep (Fld.keep G215_1 Kp281 nin0) Kp284 nin0)) (Or.inl ne297)) (Or.inl ne297)) (Or.inl ne297))
      have F299 : Exa Z h295 b_281 "java/lang/Long" := (Exa.wr W295 F294)
      have ne300 : b_281 ≠ b285 := own_ne (by omega)
      have F301 : Fld Z h295 b_281 "java/lang/Long" "value" "J" (.long rv_281) := (Fld.other W295 (Fld.other W292 (Fld.other W288 (Fld.ext E285 (Fld.keep G281_1 Kp284 nin0)) (Or.inl ne300)) (Or.inl ne300)) (Or.inl ne300))
      have F302 : Old Z n0 h295 := (Old.wr (Old.wr (Old.wr ((Old.keep F282 Kp284 all0).ext E285) W288 ge289) W292 ge289) W295 ge289)
      have zl303 : n0 ≤ h295.size := by omega
      obtain ⟨_, _, ⟨T304, L304, k304, n304⟩, -, X304, ⟨Lc304, hQ304, l304, y304, z304⟩, st304⟩ := Jvm.LawKit.callS X295 hx (y := (⟨"com/example/planwright/planwright/plan/Key", "of", "([Ljava/lang/Object;)Ljava/lang/Object;"⟩ : MethodName)) hown (mvT hZ (hw _ (List.mem_of_getElem? (i := 17) rfl))) (mvT hZ (hw _ (List.mem_of_getElem? (i := 18) rfl))) (mvT hZ (hw _ (List.mem_of_getElem? (i := 19) rfl))) (mvT hZ (hw _ (List.mem_of_getElem? (i := 20) rfl))) (by decide) (backOf (W := 0) (rmOf3n l Z a0 hw [] b285 k285 b_215 rv_215 b_281 rv_281 h295 n0 zl303 V295 F296 F298 F299 F301 F302) hZ (hw _ (List.mem_of_getElem? (i := 20) rfl)) (hw _ (List.mem_of_getElem? (i := 19) rfl)) (by decide) (by decide)) (g := (mkF m 86 #[.val (.int f1), .val (.int x1), .val (.int y1), .val (.int z1), .val (.int (3 : Int32)), .val (.ref b_215), .val .null, .val (.ref b_281), .val (.ref b_284), .val (.ref b285), .unset, .unset, .unset] [(.ref b285)])) rfl (by rw [hml]; rfl) (argsL := [(.ref b285)]) (rest := []) (lenOf pd_hefb3f20f rfl) rfl (by show 2 * 0 + _ ≤ _; exact Nat.le_of_eq rfl) (hb hby at_86) (fun _ _ => ⟨rfl, e295, (by decide : 4 + 1 ≤ _), (by decide : 6 + 2 ≤ _)⟩)
      dsimp only [Pt.U, Pt.locs, Pt.cells, Pt.slots] at X304 l304 y304 z304 st304 hQ304
      subst l304 y304 z304
      obtain ⟨b_304, rfl, Nq304, Kp304, G304_0, G304_1, H304_0⟩ := hQ304
      have N304 := Fr.app N295 Nq304
      refine own_go st304 ?_
      have le_304 : h295.size ≤ T304.heap.size := Kp304.1
      have K304 : Keep h0 T304.heap [] := Keep.trans K295 Kp304 all0
      have lt_b_304 : b_304 < T304.heap.size := (G304_0).lt
      show ∃ t o, Steps p.tables e below (T304.setTop (mkF m 89 #[.val (.int f1), .val (.int x1), .val (.int y1), .val (.int z1), .val (.int (3 : Int32)), .val (.ref b_215), .val .null, .val (.ref b_281), .val (.ref b_284), .val (.ref b285), .unset, .unset, .unset] [(.ref b_304)])) t ∧ _
      refine own_go (fun _ => XS.astore X304.here hx rfl (hb hby at_89) rfl rfl (l' := #[.val (.int f1), .val (.int x1), .val (.int y1), .val (.int z1), .val (.int (3 : Int32)), .val (.ref b_215), .val .null, .val (.ref b_281), .val (.ref b_284), .val (.ref b285), .val (.ref b_304), .unset, .unset]) rfl) ?_
      show ∃ t o, Steps p.tables e below (T304.setTop (mkF m 91 #[.val (.int f1), .val (.int x1), .val (.int y1), .val (.int z1), .val (.int (3 : Int32)), .val (.ref b_215), .val .null, .val (.ref b_281), .val (.ref b_284), .val (.ref b285), .val (.ref b_304), .unset, .unset] [])) t ∧ _
      refine own_go (fun _ => XS.aload X304.here hx rfl (hb hby at_91) rfl rfl) ?_
      show ∃ t o, Steps p.tables e below (T304.setTop (mkF m 93 #[.val (.int f1), .val (.int x1), .val (.int y1), .val (.int z1), .val (.int (3 : Int32)), .val (.ref b_215), .val .null, .val (.ref b_281), .val (.ref b_284), .val (.ref b285), .val (.ref b_304), .unset, .unset] [(.ref b_304)])) t ∧ _
      refine own_go (fun _ => XS.iload X304.here hx rfl (hb hby at_93) rfl) ?_
      show ∃ t o, Steps p.tables e below (T304.setTop (mkF m 95 #[.val (.int f1), .val (.int x1), .val (.int y1), .val (.int z1), .val (.int (3 : Int32)), .val (.ref b_215), .val .null, .val (.ref b_281), .val (.ref b_284), .val (.ref b285), .val (.ref b_304), .unset, .unset] [(.int (3 : Int32)), (.ref b_304)])) t ∧ _
      have F305 : Arv Z T304.heap b285 k285 (.object "java/lang/Object") (3 : Int32) [(.ref b_215), .null, (.ref b_281)] .null := (Arv.keep V295 Kp304 nin0)
      have F306 : Exa Z T304.heap b285 "[Ljava/lang/Object;" := (Exa.keep (Exa.wr W295 (Exa.wr W292 (Exa.wr W288 Q285))) Kp304)
      have F307 : Old Z n0 T304.heap := (Old.keep F302 Kp304 all0)
      have zl308 : n0 ≤ T304.heap.size := by omega
      obtain ⟨_, _, ⟨T309, L309, k309, n309⟩, -, X309, ⟨Lc309, hQ309, l309, y309, z309⟩, st309⟩ := Jvm.LawKit.callS X304 hx (y := (⟨"com/example/planwright/planwright/plan/Key", "values", "(Ljava/lang/Object;I)[Ljava/lang/Object;"⟩ : MethodName)) hown (mvT hZ (hw _ (List.mem_of_getElem? (i := 37) rfl))) (mvT hZ (hw _ (List.mem_of_getElem? (i := 38) rfl))) (mvT hZ (hw _ (List.mem_of_getElem? (i := 19) rfl))) (mvT hZ (hw _ (List.mem_of_getElem? (i := 39) rfl))) (by decide) (backOf (W := 0) (rmVals3n l Z a0 hw [] b_304 b285 k285 b_215 b_281 T304.heap n0 zl308 G304_0 G304_1 F305 F306 F307) hZ (hw _ (List.mem_of_getElem? (i := 39) rfl)) (hw _ (List.mem_of_getElem? (i := 19) rfl)) (by decide) (by decide)) (g := (mkF m 95 #[.val (.int f1), .val (.int x1), .val (.int y1), .val (.int z1), .val (.int (3 : Int32)), .val (.ref b_215), .val .null, .val (.ref b_281), .val (.ref b_284), .val (.ref b285), .val (.ref b_304), .unset, .unset] [(.int (3 : Int32)), (.ref b_304)])) rfl (by rw [hml]; rfl) (argsL := [(.ref b_304), (.int (3 : Int32))]) (rest := []) (lenOf pd_h9d814d6e rfl) rfl (by show 2 * 0 + _ ≤ _; exact Nat.le_of_eq rfl) (hb hby at_95) (fun _ _ => ⟨rfl, rfl, (by decide : 5 + 1 ≤ _), (by decide : 8 + 3 ≤ _)⟩)
      dsimp only [Pt.U, Pt.locs, Pt.cells, Pt.slots] at X309 l309 y309 z309 st309 hQ309
      subst l309 y309 z309
      obtain ⟨b_309, rfl, Nq309, Kp309, G309_0, H309_0⟩ := hQ309
      have N309 := Fr.app N304 Nq309
      refine own_go st309 ?_
      have le_309 : T304.heap.size ≤ T309.heap.size := Kp309.1
      have K309 : Keep h0 T309.heap [] := Keep.trans K304 Kp309 all0
      have lt_b_309 : b_309 < T309.heap.size := (G309_0).lt
      show ∃ t o, Steps p.tables e below (T309.setTop (mkF m 98 #[.val (.int f1), .val (.int x1), .val (.int y1), .val (.int z1), .val (.int (3 : Int32)), .val (.ref b_215), .val .null, .val (.ref b_281), .val (.ref b_284), .val (.ref b285), .val (.ref b_304), .unset, .unset] [(.ref b_309)])) t ∧ _
      refine own_go (fun _ => XS.astore X309.here hx rfl (hb hby at_98) rfl rfl (l' := #[.val (.int f1), .val (.int x1), .val (.int y1), .val (.int z1), .val (.int (3 : Int32)), .val (.ref b_215), .val .null, .val (.ref b_281), .val (.ref b_284), .val (.ref b285), .val (.ref b_304), .val (.ref b_309), .unset]) rfl) ?_
      show ∃ t o, Steps p.tables e below (T309.setTop (mkF m 100 #[.val (.int f1), .val (.int x1), .val (.int y1), .val (.int z1), .val (.int (3 : Int32)), .val (.ref b_215), .val .null, .val (.ref b_281), .val (.ref b_284), .val (.ref b285), .val (.ref b_304), .val (.ref b_309), .unset] [])) t ∧ _
      refine own_go (fun _ => XS.aload X309.here hx rfl (hb hby at_100) rfl rfl) ?_
      show ∃ t o, Steps p.tables e below (T309.setTop (mkF m 102 #[.val (.int f1), .val (.int x1), .val (.int y1), .val (.int z1), .val (.int (3 : Int32)), .val (.ref b_215), .val .null, .val (.ref b_281), .val (.ref b_284), .val (.ref b285), .val (.ref b_304), .val (.ref b_309), .unset] [(.ref b_309)])) t ∧ _
      refine own_go (fun _ => XS.ifnullNo X309.here hx rfl (hb hby at_102) rfl) ?_
      show ∃ t o, Steps p.tables e below (T309.setTop (mkF m 105 #[.val (.int f1), .val (.int x1), .val (.int y1), .val (.int z1), .val (.int (3 : Int32)), .val (.ref b_215), .val .null, .val (.ref b_281), .val (.ref b_284), .val (.ref b285), .val (.ref b_304), .val (.ref b_309), .unset] [])) t ∧ _
      refine own_go (fun _ => XS.aload X309.here hx rfl (hb hby at_105) rfl rfl) ?_
      show ∃ t o, Steps p.tables e below (T309.setTop (mkF m 107 #[.val (.int f1), .val (.int x1), .val (.int y1), .val (.int z1), .val (.int (3 : Int32)), .val (.ref b_215), .val .null, .val (.ref b_281), .val (.ref b_284), .val (.ref b285), .val (.ref b_304), .val (.ref b_309), .unset] [(.ref b_309)])) t ∧ _
      refine own_go (fun _ => XS.aload X309.here hx rfl (hb hby at_107) rfl rfl) ?_
      show ∃ t o, Steps p.tables e below (T309.setTop (mkF m 109 #[.val (.int f1), .val (.int x1), .val (.int y1), .val (.int z1), .val (.int (3 : Int32)), .val (.ref b_215), .val .null, .val (.ref b_281), .val (.ref b_284), .val (.ref b285), .val (.ref b_304), .val (.ref b_309), .unset] [(.ref b285), (.ref b_309)])) t ∧ _
      have ne310 : b_309 ≠ b285 := own_ne (by omega)
      refine own_go (fun _ => Jvm.RoadKit.acmp (g := (mkF m 109 #[.val (.int f1), .val (.int x1), .val (.int y1), .val (.int z1), .val (.int (3 : Int32)), .val (.ref b_215), .val .null, .val (.ref b_281), .val (.ref b_284), .val (.ref b285), .val (.ref b_304), .val (.ref b_309), .unset] [(.ref b285), (.ref b_309)])) X309 hx rfl rfl rfl (pc0 := 109) (pc' := 112) (same := false) rfl (hb hby at_109) rfl (decide_eq_false fun q => ne310 (Value.ref.inj q)) (by decide) (by decide)) ?_
      show ∃ t o, Steps p.tables e below (T309.setTop (mkF m 112 #[.val (.int f1), .val (.int x1), .val (.int y1), .val (.int z1), .val (.int (3 : Int32)), .val (.ref b_215), .val .null, .val (.ref b_281), .val (.ref b_284), .val (.ref b285), .val (.ref b_304), .val (.ref b_309), .unset] [])) t ∧ _
      refine own_go (fun _ => XS.aload X309.here hx rfl (hb hby at_112) rfl rfl) ?_
      show ∃ t o, Steps p.tables e below (T309.setTop (mkF m 114 #[.val (.int f1), .val (.int x1), .val (.int y1), .val (.int z1), .val (.int (3 : Int32)), .val (.ref b_215), .val .null, .val (.ref b_281), .val (.ref b_284), .val (.ref b285), .val (.ref b_304), .val (.ref b_309), .unset] [(.ref b_309)])) t ∧ _
      obtain ⟨cl311, Ar311, q311, S311, N311, H311, G311⟩ := id G309_0
      have ln311 : cl311.slots.size.toInt32 = (3 : Int32) := len_of S311 N311
      have al311 := X309.arraylength hx Ar311.1 (State.isArrayOf_alike hZ.alike Ar311.2.1) (g := (mkF m 114 #[.val (.int f1), .val (.int x1), .val (.int y1), .val (.int z1), .val (.int (3 : Int32)), .val (.ref b_215), .val .null, .val (.ref b_281), .val (.ref b_284), .val (.ref b285), .val (.ref b_304), .val (.ref b_309), .unset] [(.ref b_309)])) rfl rfl (hb hby at_114)
      rw [ln311] at al311
      refine own_go al311 ?_
      show ∃ t o, Steps p.tables e below (T309.setTop (mkF m 115 #[.val (.int f1), .val (.int x1), .val (.int y1), .val (.int z1), .val (.int (3 : Int32)), .val (.ref b_215), .val .null, .val (.ref b_281), .val (.ref b_284), .val (.ref b285), .val (.ref b_304), .val (.ref b_309), .unset] [(.int (3 : Int32))])) t ∧ _
      refine own_go (fun _ => XS.iload X309.here hx rfl (hb hby at_115) rfl) ?_
      show ∃ t o, Steps p.tables e below (T309.setTop (mkF m 117 #[.val (.int f1), .val (.int x1), .val (.int y1), .val (.int z1), .val (.int (3 : Int32)), .val (.ref b_215), .val .null, .val (.ref b_281), .val (.ref b_284), .val (.ref b285), .val (.ref b_304), .val (.ref b_309), .unset] [(.int (3 : Int32)), (.int (3 : Int32))])) t ∧ _
      refine own_go (fun _ => XS.icmpYes X309.here hx rfl (pc0 := 117) (pc' := 122) rfl (hb hby at_117) rfl (teq (by decide : (3 : Int32) = (3 : Int32))).1 (by decide) (by decide)) ?_
      show ∃ t o, Steps p.tables e below (T309.setTop (mkF m 122 #[.val (.int f1), .val (.int x1), .val (.int y1), .val (.int z1), .val (.int (3 : Int32)), .val (.ref b_215), .val .null, .val (.ref b_281), .val (.ref b_284), .val (.ref b285), .val (.ref b_304), .val (.ref b_309), .unset] [])) t ∧ _
      refine own_go (fun _ => XS.iload X309.here hx rfl (hb hby at_122) rfl) ?_
      show ∃ t o, Steps p.tables e below (T309.setTop (mkF m 124 #[.val (.int f1), .val (.int x1), .val (.int y1), .val (.int z1), .val (.int (3 : Int32)), .val (.ref b_215), .val .null, .val (.ref b_281), .val (.ref b_284), .val (.ref b285), .val (.ref b_304), .val (.ref b_309), .unset] [(.int (3 : Int32))])) t ∧ _
      refine own_go (fun _ => XS.ifNo X309.here hx rfl (hb hby at_124) rfl ((if0 _ _).trans (tlt (by decide : (0 : Int32) < (3 : Int32))).2.2.2)) ?_
      show ∃ t o, Steps p.tables e below (T309.setTop (mkF m 127 #[.val (.int f1), .val (.int x1), .val (.int y1), .val (.int z1), .val (.int (3 : Int32)), .val (.ref b_215), .val .null, .val (.ref b_281), .val (.ref b_284), .val (.ref b285), .val (.ref b_304), .val (.ref b_309), .unset] [])) t ∧ _
      refine own_go (fun _ => XS.aload X309.here hx rfl (hb hby at_127) rfl rfl) ?_
      show ∃ t o, Steps p.tables e below (T309.setTop (mkF m 129 #[.val (.int f1), .val (.int x1), .val (.int y1), .val (.int z1), .val (.int (3 : Int32)), .val (.ref b_215), .val .null, .val (.ref b_281), .val (.ref b_284), .val (.ref b285), .val (.ref b_304), .val (.ref b_309), .unset] [(.ref b_309)])) t ∧ _
      refine own_go (fun _ => XS.iconst X309.here hx rfl (hb hby at_129)) ?_
      show ∃ t o, Steps p.tables e below (T309.setTop (mkF m 130 #[.val (.int f1), .val (.int x1), .val (.int y1), .val (.int z1), .val (.int (3 : Int32)), .val (.ref b_215), .val .null, .val (.ref b_281), .val (.ref b_284), .val (.ref b285), .val (.ref b_304), .val (.ref b_309), .unset] [(.int (0 : Int32)), (.ref b_309)])) t ∧ _
      obtain ⟨cl312, Ar312, q312, S312, N312, H312, G312⟩ := id G309_0
      have hin312 : ¬ ((0 : Int32) < 0 ∨ cl312.slots.size ≤ ((0 : Int32)).toNatClampNeg) := inb_of S312 ⟨by decide, by decide⟩
      have hat312 : cl312.slots[((0 : Int32)).toNatClampNeg]? = some (.ref b_215) := Has.at H312 hin312 rfl
      refine own_go (fun _ => X309.aaload hx (j := (0 : Int32)) (v := (.ref b_215)) Ar312.1 (State.isArrayOf_alike hZ.alike Ar312.2.1) rfl Ar312.2.2 hin312 hat312 (g := (mkF m 130 #[.val (.int f1), .val (.int x1), .val (.int y1), .val (.int z1), .val (.int (3 : Int32)), .val (.ref b_215), .val .null, .val (.ref b_281), .val (.ref b_284), .val (.ref b285), .val (.ref b_304), .val (.ref b_309), .unset] [(.int (0 : Int32)), (.ref b_309)])) rfl rfl (hb hby at_130) _) ?_
      show ∃ t o, Steps p.tables e below (T309.setTop (mkF m 131 #[.val (.int f1), .val (.int x1), .val (.int y1), .val (.int z1), .val (.int (3 : Int32)), .val (.ref b_215), .val .null, .val (.ref b_281), .val (.ref b_284), .val (.ref b285), .val (.ref b_304), .val (.ref b_309), .unset] [(.ref b_215)])) t ∧ _
      refine own_go (fun _ => XS.aload X309.here hx rfl (hb hby at_131) rfl rfl) ?_
      show ∃ t o, Steps p.tables e below (T309.setTop (mkF m 133 #[.val (.int f1), .val (.int x1), .val (.int y1), .val (.int z1), .val (.int (3 : Int32)), .val (.ref b_215), .val .null, .val (.ref b_281), .val (.ref b_284), .val (.ref b285), .val (.ref b_304), .val (.ref b_309), .unset] [(.ref b_215), (.ref b_215)])) t ∧ _
      refine own_go (fun _ => Jvm.RoadKit.acmp (g := (mkF m 133 #[.val (.int f1), .val (.int x1), .val (.int y1), .val (.int z1), .val (.int (3 : Int32)), .val (.ref b_215), .val .null, .val (.ref b_281), .val (.ref b_284), .val (.ref b285), .val (.ref b_304), .val (.ref b_309), .unset] [(.ref b_215), (.ref b_215)])) X309 hx rfl rfl rfl (pc0 := 133) (pc' := 138) (same := true) rfl (hb hby at_133) rfl (decide_eq_true rfl) (by decide) (by decide)) ?_
      show ∃ t o, Steps p.tables e below (T309.setTop (mkF m 138 #[.val (.int f1), .val (.int x1), .val (.int y1), .val (.int z1), .val (.int (3 : Int32)), .val (.ref b_215), .val .null, .val (.ref b_281), .val (.ref b_284), .val (.ref b285), .val (.ref b_304), .val (.ref b_309), .unset] [])) t ∧ _
      refine own_go (fun _ => XS.iload X309.here hx rfl (hb hby at_138) rfl) ?_
      show ∃ t o, Steps p.tables e below (T309.setTop (mkF m 140 #[.val (.int f1), .val (.int x1), .val (.int y1), .val (.int z1), .val (.int (3 : Int32)), .val (.ref b_215), .val .null, .val (.ref b_281), .val (.ref b_284), .val (.ref b285), .val (.ref b_304), .val (.ref b_309), .unset] [(.int (3 : Int32))])) t ∧ _
      refine own_go (fun _ => XS.iconst X309.here hx rfl (hb hby at_140)) ?_
      show ∃ t o, Steps p.tables e below (T309.setTop (mkF m 141 #[.val (.int f1), .val (.int x1), .val (.int y1), .val (.int z1), .val (.int (3 : Int32)), .val (.ref b_215), .val .null, .val (.ref b_281), .val (.ref b_284), .val (.ref b285), .val (.ref b_304), .val (.ref b_309), .unset] [(.int (1 : Int32)), (.int (3 : Int32))])) t ∧ _
      refine own_go (fun _ => XS.icmpNo X309.here hx rfl (hb hby at_141) rfl (tlt (by decide : (1 : Int32) < (3 : Int32))).2.2.2) ?_
      show ∃ t o, Steps p.tables e below (T309.setTop (mkF m 144 #[.val (.int f1), .val (.int x1), .val (.int y1), .val (.int z1), .val (.int (3 : Int32)), .val (.ref b_215), .val .null, .val (.ref b_281), .val (.ref b_284), .val (.ref b285), .val (.ref b_304), .val (.ref b_309), .unset] [])) t ∧ _
      refine own_go (fun _ => XS.aload X309.here hx rfl (hb hby at_144) rfl rfl) ?_
      show ∃ t o, Steps p.tables e below (T309.setTop (mkF m 146 #[.val (.int f1), .val (.int x1), .val (.int y1), .val (.int z1), .val (.int (3 : Int32)), .val (.ref b_215), .val .null, .val (.ref b_281), .val (.ref b_284), .val (.ref b285), .val (.ref b_304), .val (.ref b_309), .unset] [(.ref b_309)])) t ∧ _
      refine own_go (fun _ => XS.iconst X309.here hx rfl (hb hby at_146)) ?_
      show ∃ t o, Steps p.tables e below (T309.setTop (mkF m 147 #[.val (.int f1), .val (.int x1), .val (.int y1), .val (.int z1), .val (.int (3 : Int32)), .val (.ref b_215), .val .null, .val (.ref b_281), .val (.ref b_284), .val (.ref b285), .val (.ref b_304), .val (.ref b_309), .unset] [(.int (1 : Int32)), (.ref b_309)])) t ∧ _
      obtain ⟨cl313, Ar313, q313, S313, N313, H313, G313⟩ := id G309_0
      have hin313 : ¬ ((1 : Int32) < 0 ∨ cl313.slots.size ≤ ((1 : Int32)).toNatClampNeg) := inb_of S313 ⟨by decide, by decide⟩
      have hat313 : cl313.slots[((1 : Int32)).toNatClampNeg]? = some .null := Has.at H313 hin313 rfl
      refine own_go (fun _ => X309.aaload hx (j := (1 : Int32)) (v := .null) Ar313.1 (State.isArrayOf_alike hZ.alike Ar313.2.1) rfl Ar313.2.2 hin313 hat313 (g := (mkF m 147 #[.val (.int f1), .val (.int x1), .val (.int y1), .val (.int z1), .val (.int (3 : Int32)), .val (.ref b_215), .val .null, .val (.ref b_281), .val (.ref b_284), .val (.ref b285), .val (.ref b_304), .val (.ref b_309), .unset] [(.int (1 : Int32)), (.ref b_309)])) rfl rfl (hb hby at_147) _) ?_
      show ∃ t o, Steps p.tables e below (T309.setTop (mkF m 148 #[.val (.int f1), .val (.int x1), .val (.int y1), .val (.int z1), .val (.int (3 : Int32)), .val (.ref b_215), .val .null, .val (.ref b_281), .val (.ref b_284), .val (.ref b285), .val (.ref b_304), .val (.ref b_309), .unset] [.null])) t ∧ _
      refine own_go (fun _ => XS.aload X309.here hx rfl (hb hby at_148) rfl rfl) ?_
      show ∃ t o, Steps p.tables e below (T309.setTop (mkF m 150 #[.val (.int f1), .val (.int x1), .val (.int y1), .val (.int z1), .val (.int (3 : Int32)), .val (.ref b_215), .val .null, .val (.ref b_281), .val (.ref b_284), .val (.ref b285), .val (.ref b_304), .val (.ref b_309), .unset] [.null, .null])) t ∧ _
      refine own_go (fun _ => Jvm.RoadKit.acmp (g := (mkF m 150 #[.val (.int f1), .val (.int x1), .val (.int y1), .val (.int z1), .val (.int (3 : Int32)), .val (.ref b_215), .val .null, .val (.ref b_281), .val (.ref b_284), .val (.ref b285), .val (.ref b_304), .val (.ref b_309), .unset] [.null, .null])) X309 hx rfl rfl rfl (pc0 := 150) (pc' := 155) (same := true) rfl (hb hby at_150) rfl (decide_eq_true rfl) (by decide) (by decide)) ?_
      show ∃ t o, Steps p.tables e below (T309.setTop (mkF m 155 #[.val (.int f1), .val (.int x1), .val (.int y1), .val (.int z1), .val (.int (3 : Int32)), .val (.ref b_215), .val .null, .val (.ref b_281), .val (.ref b_284), .val (.ref b285), .val (.ref b_304), .val (.ref b_309), .unset] [])) t ∧ _
      refine own_go (fun _ => XS.iload X309.here hx rfl (hb hby at_155) rfl) ?_
      show ∃ t o, Steps p.tables e below (T309.setTop (mkF m 157 #[.val (.int f1), .val (.int x1), .val (.int y1), .val (.int z1), .val (.int (3 : Int32)), .val (.ref b_215), .val .null, .val (.ref b_281), .val (.ref b_284), .val (.ref b285), .val (.ref b_304), .val (.ref b_309), .unset] [(.int (3 : Int32))])) t ∧ _
      refine own_go (fun _ => XS.iconst X309.here hx rfl (hb hby at_157)) ?_
      show ∃ t o, Steps p.tables e below (T309.setTop (mkF m 158 #[.val (.int f1), .val (.int x1), .val (.int y1), .val (.int z1), .val (.int (3 : Int32)), .val (.ref b_215), .val .null, .val (.ref b_281), .val (.ref b_284), .val (.ref b285), .val (.ref b_304), .val (.ref b_309), .unset] [(.int (2 : Int32)), (.int (3 : Int32))])) t ∧ _
      refine own_go (fun _ => XS.icmpNo X309.here hx rfl (hb hby at_158) rfl (tlt (by decide : (2 : Int32) < (3 : Int32))).2.2.2) ?_
      show ∃ t o, Steps p.tables e below (T309.setTop (mkF m 161 #[.val (.int f1), .val (.int x1), .val (.int y1), .val (.int z1), .val (.int (3 : Int32)), .val (.ref b_215), .val .null, .val (.ref b_281), .val (.ref b_284), .val (.ref b285), .val (.ref b_304), .val (.ref b_309), .unset] [])) t ∧ _
      refine own_go (fun _ => XS.aload X309.here hx rfl (hb hby at_161) rfl rfl) ?_
      show ∃ t o, Steps p.tables e below (T309.setTop (mkF m 163 #[.val (.int f1), .val (.int x1), .val (.int y1), .val (.int z1), .val (.int (3 : Int32)), .val (.ref b_215), .val .null, .val (.ref b_281), .val (.ref b_284), .val (.ref b285), .val (.ref b_304), .val (.ref b_309), .unset] [(.ref b_309)])) t ∧ _
      refine own_go (fun _ => XS.iconst X309.here hx rfl (hb hby at_163)) ?_
      show ∃ t o, Steps p.tables e below (T309.setTop (mkF m 164 #[.val (.int f1), .val (.int x1), .val (.int y1), .val (.int z1), .val (.int (3 : Int32)), .val (.ref b_215), .val .null, .val (.ref b_281), .val (.ref b_284), .val (.ref b285), .val (.ref b_304), .val (.ref b_309), .unset] [(.int (2 : Int32)), (.ref b_309)])) t ∧ _
      obtain ⟨cl314, Ar314, q314, S314, N314, H314, G314⟩ := id G309_0
      have hin314 : ¬ ((2 : Int32) < 0 ∨ cl314.slots.size ≤ ((2 : Int32)).toNatClampNeg) := inb_of S314 ⟨by decide, by decide⟩
      have hat314 : cl314.slots[((2 : Int32)).toNatClampNeg]? = some (.ref b_281) := Has.at H314 hin314 rfl
      refine own_go (fun _ => X309.aaload hx (j := (2 : Int32)) (v := (.ref b_281)) Ar314.1 (State.isArrayOf_alike hZ.alike Ar314.2.1) rfl Ar314.2.2 hin314 hat314 (g := (mkF m 164 #[.val (.int f1), .val (.int x1), .val (.int y1), .val (.int z1), .val (.int (3 : Int32)), .val (.ref b_215), .val .null, .val (.ref b_281), .val (.ref b_284), .val (.ref b285), .val (.ref b_304), .val (.ref b_309), .unset] [(.int (2 : Int32)), (.ref b_309)])) rfl rfl (hb hby at_164) _) ?_
      show ∃ t o, Steps p.tables e below (T309.setTop (mkF m 165 #[.val (.int f1), .val (.int x1), .val (.int y1), .val (.int z1), .val (.int (3 : Int32)), .val (.ref b_215), .val .null, .val (.ref b_281), .val (.ref b_284), .val (.ref b285), .val (.ref b_304), .val (.ref b_309), .unset] [(.ref b_281)])) t ∧ _
      refine own_go (fun _ => XS.aload X309.here hx rfl (hb hby at_165) rfl rfl) ?_
      show ∃ t o, Steps p.tables e below (T309.setTop (mkF m 167 #[.val (.int f1), .val (.int x1), .val (.int y1), .val (.int z1), .val (.int (3 : Int32)), .val (.ref b_215), .val .null, .val (.ref b_281), .val (.ref b_284), .val (.ref b285), .val (.ref b_304), .val (.ref b_309), .unset] [(.ref b_281), (.ref b_281)])) t ∧ _
      refine own_go (fun _ => Jvm.RoadKit.acmp (g := (mkF m 167 #[.val (.int f1), .val (.int x1), .val (.int y1), .val (.int z1), .val (.int (3 : Int32)), .val (.ref b_215), .val .null, .val (.ref b_281), .val (.ref b_284), .val (.ref b285), .val (.ref b_304), .val (.ref b_309), .unset] [(.ref b_281), (.ref b_281)])) X309 hx rfl rfl rfl (pc0 := 167) (pc' := 172) (same := true) rfl (hb hby at_167) rfl (decide_eq_true rfl) (by decide) (by decide)) ?_
      show ∃ t o, Steps p.tables e below (T309.setTop (mkF m 172 #[.val (.int f1), .val (.int x1), .val (.int y1), .val (.int z1), .val (.int (3 : Int32)), .val (.ref b_215), .val .null, .val (.ref b_281), .val (.ref b_284), .val (.ref b285), .val (.ref b_304), .val (.ref b_309), .unset] [])) t ∧ _
      refine own_go (fun _ => XS.iload X309.here hx rfl (hb hby at_172) rfl) ?_
      show ∃ t o, Steps p.tables e below (T309.setTop (mkF m 174 #[.val (.int f1), .val (.int x1), .val (.int y1), .val (.int z1), .val (.int (3 : Int32)), .val (.ref b_215), .val .null, .val (.ref b_281), .val (.ref b_284), .val (.ref b285), .val (.ref b_304), .val (.ref b_309), .unset] [(.int (3 : Int32))])) t ∧ _
      refine own_go (fun _ => XS.ifNo X309.here hx rfl (hb hby at_174) rfl ((if0 _ _).trans (tlt (by decide : (0 : Int32) < (3 : Int32))).2.2.2)) ?_
      show ∃ t o, Steps p.tables e below (T309.setTop (mkF m 177 #[.val (.int f1), .val (.int x1), .val (.int y1), .val (.int z1), .val (.int (3 : Int32)), .val (.ref b_215), .val .null, .val (.ref b_281), .val (.ref b_284), .val (.ref b285), .val (.ref b_304), .val (.ref b_309), .unset] [])) t ∧ _
      refine own_go (fun _ => XS.aload X309.here hx rfl (hb hby at_177) rfl rfl) ?_
      show ∃ t o, Steps p.tables e below (T309.setTop (mkF m 179 #[.val (.int f1), .val (.int x1), .val (.int y1), .val (.int z1), .val (.int (3 : Int32)), .val (.ref b_215), .val .null, .val (.ref b_281), .val (.ref b_284), .val (.ref b285), .val (.ref b_304), .val (.ref b_309), .unset] [(.ref b_309)])) t ∧ _
      refine own_go (fun _ => XS.iconst X309.here hx rfl (hb hby at_179)) ?_
      show ∃ t o, Steps p.tables e below (T309.setTop (mkF m 180 #[.val (.int f1), .val (.int x1), .val (.int y1), .val (.int z1), .val (.int (3 : Int32)), .val (.ref b_215), .val .null, .val (.ref b_281), .val (.ref b_284), .val (.ref b285), .val (.ref b_304), .val (.ref b_309), .unset] [(.int (0 : Int32)), (.ref b_309)])) t ∧ _
      refine own_go (fun _ => XS.aload X309.here hx rfl (hb hby at_180) rfl rfl) ?_
      show ∃ t o, Steps p.tables e below (T309.setTop (mkF m 182 #[.val (.int f1), .val (.int x1), .val (.int y1), .val (.int z1), .val (.int (3 : Int32)), .val (.ref b_215), .val .null, .val (.ref b_281), .val (.ref b_284), .val (.ref b285), .val (.ref b_304), .val (.ref b_309), .unset] [(.ref b_284), (.int (0 : Int32)), (.ref b_309)])) t ∧ _
      obtain ⟨cl315, Ar315, q315, S315, N315, H315, G315⟩ := id G309_0
      have hin315 : ¬ ((0 : Int32) < 0 ∨ cl315.slots.size ≤ ((0 : Int32)).toNatClampNeg) := inb_of S315 ⟨by decide, by decide⟩
      have F316 : Exa Z T309.heap b_284 "java/lang/Integer" := (Exa.keep (Exa.keep (Exa.wr W295 (Exa.wr W292 (Exa.wr W288 (Exa.ext E285 G284_0)))) Kp304) Kp309)
      obtain ⟨T317, h317, X317, e317, W317, st317⟩ := stR X309 hx hZ rfl Ar315 (j := (0 : Int32)) hin315 rfl (Sto.ofV Ar315 q315 O285 (Ins.of_exa F316 (hw _ (List.mem_of_getElem? (i := 75) rfl)))) (g := (mkF m 182 #[.val (.int f1), .val (.int x1), .val (.int y1), .val (.int z1), .val (.int (3 : Int32)), .val (.ref b_215), .val .null, .val (.ref b_281), .val (.ref b_284), .val (.ref b285), .val (.ref b_304), .val (.ref b_309), .unset] [(.ref b_284), (.int (0 : Int32)), (.ref b_309)])) rfl rfl (hb hby at_182)
      refine own_go st317 ?_
      have ge318 : n0 ≤ b_309 := by omega
      have le_317 : T309.heap.size ≤ h317.size := Nat.le_of_eq W317.size.symm
      have sz319 : h0.size ≤ b_309 := by omega
      have K317 : Keep h0 h317 [] := Keep.wr K309 W317 (Or.inr sz319)
      have N317 := Fr.snoc X317 N309 ge318
      have V317 : Arv Z h317 b_309 k285 (.object "java/lang/Object") (3 : Int32) [(.ref b_284), .null, (.ref b_281)] .null := Arv.set Ar315 q315 S315 N315 H315 G315 rfl W317 0 rfl (Nat.le_of_ble_eq_true rfl)
      show ∃ t o, Steps p.tables e below (T317.setTop (mkF m 183 #[.val (.int f1), .val (.int x1), .val (.int y1), .val (.int z1), .val (.int (3 : Int32)), .val (.ref b_215), .val .null, .val (.ref b_281), .val (.ref b_284), .val (.ref b285), .val (.ref b_304), .val (.ref b_309), .unset] [])) t ∧ _
      refine own_go (fun _ => XS.aload X317.here hx rfl (hb hby at_183) rfl rfl) ?_
      show ∃ t o, Steps p.tables e below (T317.setTop (mkF m 185 #[.val (.int f1), .val (.int x1), .val (.int y1), .val (.int z1), .val (.int (3 : Int32)), .val (.ref b_215), .val .null, .val (.ref b_281), .val (.ref b_284), .val (.ref b285), .val (.ref b_304), .val (.ref b_309), .unset] [(.ref b_304)])) t ∧ _
      refine own_go (fun _ => XS.iload X317.here hx rfl (hb hby at_185) rfl) ?_
      show ∃ t o, Steps p.tables e below (T317.setTop (mkF m 187 #[.val (.int f1), .val (.int x1), .val (.int y1), .val (.int z1), .val (.int (3 : Int32)), .val (.ref b_215), .val .null, .val (.ref b_281), .val (.ref b_284), .val (.ref b285), .val (.ref b_304), .val (.ref b_309), .unset] [(.int (3 : Int32)), (.ref b_304)])) t ∧ _
      have F320 : Exa Z h317 b_304 "com/example/planwright/planwright/plan/Key" := (Exa.wr W317 (Exa.keep G304_0 Kp309))
      have ne321 : b_304 ≠ b_309 := own_ne (by omega)
      have F322 : Fld Z h317 b_304 "com/example/planwright/planwright/plan/Key" "values" "[Ljava/lang/Object;" (.ref b285) := (Fld.other W317 (Fld.keep G304_1 Kp309 nin0) (Or.inl ne321))
      have ne323 : b285 ≠ b_309 := own_ne (by omega)
      have F324 : Arv Z h317 b285 k285 (.object "java/lang/Object") (3 : Int32) [(.ref b_215), .null, (.ref b_281)] .null := (Arv.other (Arv.keep F305 Kp309 nin0) W317 ne323)
      have F325 : Exa Z h317 b285 "[Ljava/lang/Object;" := (Exa.wr W317 (Exa.keep F306 Kp309))
      have F326 : Old Z n0 h317 := (Old.wr (Old.keep F307 Kp309 all0) W317 ge318)
      have zl327 : n0 ≤ h317.size := by omega
      obtain ⟨_, _, ⟨T328, L328, k328, n328⟩, -, X328, ⟨Lc328, hQ328, l328, y328, z328⟩, st328⟩ := Jvm.LawKit.callS X317 hx (y := (⟨"com/example/planwright/planwright/plan/Key", "values", "(Ljava/lang/Object;I)[Ljava/lang/Object;"⟩ : MethodName)) hown (mvT hZ (hw _ (List.mem_of_getElem? (i := 37) rfl))) (mvT hZ (hw _ (List.mem_of_getElem? (i := 38) rfl))) (mvT hZ (hw _ (List.mem_of_getElem? (i := 19) rfl))) (mvT hZ (hw _ (List.mem_of_getElem? (i := 39) rfl))) (by decide) (backOf (W := 0) (rmVals3n l Z a0 hw [] b_304 b285 k285 b_215 b_281 h317 n0 zl327 F320 F322 F324 F325 F326) hZ (hw _ (List.mem_of_getElem? (i := 39) rfl)) (hw _ (List.mem_of_getElem? (i := 19) rfl)) (by decide) (by decide)) (g := (mkF m 187 #[.val (.int f1), .val (.int x1), .val (.int y1), .val (.int z1), .val (.int (3 : Int32)), .val (.ref b_215), .val .null, .val (.ref b_281), .val (.ref b_284), .val (.ref b285), .val (.ref b_304), .val (.ref b_309), .unset] [(.int (3 : Int32)), (.ref b_304)])) rfl (by rw [hml]; rfl) (argsL := [(.ref b_304), (.int (3 : Int32))]) (rest := []) (lenOf pd_h9d814d6e rfl) rfl (by show 2 * 0 + _ ≤ _; exact Nat.le_of_eq rfl) (hb hby at_187) (fun _ _ => ⟨rfl, e317, (by decide : 6 + 1 ≤ _), (by decide : 11 + 3 ≤ _)⟩)
      dsimp only [Pt.U, Pt.locs, Pt.cells, Pt.slots] at X328 l328 y328 z328 st328 hQ328
      subst l328 y328 z328
      obtain ⟨b_328, rfl, Nq328, Kp328, G328_0, H328_0⟩ := hQ328
      have N328 := Fr.app N317 Nq328
      refine own_go st328 ?_
      have le_328 : h317.size ≤ T328.heap.size := Kp328.1
      have K328 : Keep h0 T328.heap [] := Keep.trans K317 Kp328 all0
      have lt_b_328 : b_328 < T328.heap.size := (G328_0).lt
      show ∃ t o, Steps p.tables e below (T328.setTop (mkF m 190 #[.val (.int f1), .val (.int x1), .val (.int y1), .val (.int z1), .val (.int (3 : Int32)), .val (.ref b_215), .val .null, .val (.ref b_281), .val (.ref b_284), .val (.ref b285), .val (.ref b_304), .val (.ref b_309), .unset] [(.ref b_328)])) t ∧ _
      refine own_go (fun _ => XS.astore X328.here hx rfl (hb hby at_190) rfl rfl (l' := #[.val (.int f1), .val (.int x1), .val (.int y1), .val (.int z1), .val (.int (3 : Int32)), .val (.ref b_215), .val .null, .val (.ref b_281), .val (.ref b_284), .val (.ref b285), .val (.ref b_304), .val (.ref b_309), .val (.ref b_328)]) rfl) ?_
      show ∃ t o, Steps p.tables e below (T328.setTop (mkF m 192 #[.val (.int f1), .val (.int x1), .val (.int y1), .val (.int z1), .val (.int (3 : Int32)), .val (.ref b_215), .val .null, .val (.ref b_281), .val (.ref b_284), .val (.ref b285), .val (.ref b_304), .val (.ref b_309), .val (.ref b_328)] [])) t ∧ _
      refine own_go (fun _ => XS.aload X328.here hx rfl (hb hby at_192) rfl rfl) ?_
      show ∃ t o, Steps p.tables e below (T328.setTop (mkF m 194 #[.val (.int f1), .val (.int x1), .val (.int y1), .val (.int z1), .val (.int (3 : Int32)), .val (.ref b_215), .val .null, .val (.ref b_281), .val (.ref b_284), .val (.ref b285), .val (.ref b_304), .val (.ref b_309), .val (.ref b_328)] [(.ref b_328)])) t ∧ _
      refine own_go (fun _ => XS.ifnullNo X328.here hx rfl (hb hby at_194) rfl) ?_
      show ∃ t o, Steps p.tables e below (T328.setTop (mkF m 197 #[.val (.int f1), .val (.int x1), .val (.int y1), .val (.int z1), .val (.int (3 : Int32)), .val (.ref b_215), .val .null, .val (.ref b_281), .val (.ref b_284), .val (.ref b285), .val (.ref b_304), .val (.ref b_309), .val (.ref b_328)] [])) t ∧ _
      refine own_go (fun _ => XS.aload X328.here hx rfl (hb hby at_197) rfl rfl) ?_
      show ∃ t o, Steps p.tables e below (T328.setTop (mkF m 199 #[.val (.int f1), .val (.int x1), .val (.int y1), .val (.int z1), .val (.int (3 : Int32)), .val (.ref b_215), .val .null, .val (.ref b_281), .val (.ref b_284), .val (.ref b285), .val (.ref b_304), .val (.ref b_309), .val (.ref b_328)] [(.ref b_328)])) t ∧ _
      refine own_go (fun _ => XS.aload X328.here hx rfl (hb hby at_199) rfl rfl) ?_
      show ∃ t o, Steps p.tables e below (T328.setTop (mkF m 201 #[.val (.int f1), .val (.int x1), .val (.int y1), .val (.int z1), .val (.int (3 : Int32)), .val (.ref b_215), .val .null, .val (.ref b_281), .val (.ref b_284), .val (.ref b285), .val (.ref b_304), .val (.ref b_309), .val (.ref b_328)] [(.ref b_309), (.ref b_328)])) t ∧ _
      have ne329 : b_328 ≠ b_309 := own_ne (by omega)
      refine own_go (fun _ => Jvm.RoadKit.acmp (g := (mkF m 201 #[.val (.int f1), .val (.int x1), .val (.int y1), .val (.int z1), .val (.int (3 : Int32)), .val (.ref b_215), .val .null, .val (.ref b_281), .val (.ref b_284), .val (.ref b285), .val (.ref b_304), .val (.ref b_309), .val (.ref b_328)] [(.ref b_309), (.ref b_328)])) X328 hx rfl rfl rfl (pc0 := 201) (pc' := 204) (same := false) rfl (hb hby at_201) rfl (decide_eq_false fun q => ne329 (Value.ref.inj q)) (by decide) (by decide)) ?_
      show ∃ t o, Steps p.tables e below (T328.setTop (mkF m 204 #[.val (.int f1), .val (.int x1), .val (.int y1), .val (.int z1), .val (.int (3 : Int32)), .val (.ref b_215), .val .null, .val (.ref b_281), .val (.ref b_284), .val (.ref b285), .val (.ref b_304), .val (.ref b_309), .val (.ref b_328)] [])) t ∧ _
      refine own_go (fun _ => XS.aload X328.here hx rfl (hb hby at_204) rfl rfl) ?_
      show ∃ t o, Steps p.tables e below (T328.setTop (mkF m 206 #[.val (.int f1), .val (.int x1), .val (.int y1), .val (.int z1), .val (.int (3 : Int32)), .val (.ref b_215), .val .null, .val (.ref b_281), .val (.ref b_284), .val (.ref b285), .val (.ref b_304), .val (.ref b_309), .val (.ref b_328)] [(.ref b_328)])) t ∧ _
      obtain ⟨cl330, Ar330, q330, S330, N330, H330, G330⟩ := id G328_0
      have ln330 : cl330.slots.size.toInt32 = (3 : Int32) := len_of S330 N330
      have al330 := X328.arraylength hx Ar330.1 (State.isArrayOf_alike hZ.alike Ar330.2.1) (g := (mkF m 206 #[.val (.int f1), .val (.int x1), .val (.int y1), .val (.int z1), .val (.int (3 : Int32)), .val (.ref b_215), .val .null, .val (.ref b_281), .val (.ref b_284), .val (.ref b285), .val (.ref b_304), .val (.ref b_309), .val (.ref b_328)] [(.ref b_328)])) rfl rfl (hb hby at_206)
      rw [ln330] at al330
      refine own_go al330 ?_
      show ∃ t o, Steps p.tables e below (T328.setTop (mkF m 207 #[.val (.int f1), .val (.int x1), .val (.int y1), .val (.int z1), .val (.int (3 : Int32)), .val (.ref b_215), .val .null, .val (.ref b_281), .val (.ref b_284), .val (.ref b285), .val (.ref b_304), .val (.ref b_309), .val (.ref b_328)] [(.int (3 : Int32))])) t ∧ _
      refine own_go (fun _ => XS.iload X328.here hx rfl (hb hby at_207) rfl) ?_
      show ∃ t o, Steps p.tables e below (T328.setTop (mkF m 209 #[.val (.int f1), .val (.int x1), .val (.int y1), .val (.int z1), .val (.int (3 : Int32)), .val (.ref b_215), .val .null, .val (.ref b_281), .val (.ref b_284), .val (.ref b285), .val (.ref b_304), .val (.ref b_309), .val (.ref b_328)] [(.int (3 : Int32)), (.int (3 : Int32))])) t ∧ _
      refine own_go (fun _ => XS.icmpYes X328.here hx rfl (pc0 := 209) (pc' := 214) rfl (hb hby at_209) rfl (teq (by decide : (3 : Int32) = (3 : Int32))).1 (by decide) (by decide)) ?_
      show ∃ t o, Steps p.tables e below (T328.setTop (mkF m 214 #[.val (.int f1), .val (.int x1), .val (.int y1), .val (.int z1), .val (.int (3 : Int32)), .val (.ref b_215), .val .null, .val (.ref b_281), .val (.ref b_284), .val (.ref b285), .val (.ref b_304), .val (.ref b_309), .val (.ref b_328)] [])) t ∧ _
      refine own_go (fun _ => XS.aload X328.here hx rfl (hb hby at_214) rfl rfl) ?_
      show ∃ t o, Steps p.tables e below (T328.setTop (mkF m 216 #[.val (.int f1), .val (.int x1), .val (.int y1), .val (.int z1), .val (.int (3 : Int32)), .val (.ref b_215), .val .null, .val (.ref b_281), .val (.ref b_284), .val (.ref b285), .val (.ref b_304), .val (.ref b_309), .val (.ref b_328)] [(.ref b_328)])) t ∧ _
      refine own_go (fun _ => XS.iconst X328.here hx rfl (hb hby at_216)) ?_
      show ∃ t o, Steps p.tables e below (T328.setTop (mkF m 217 #[.val (.int f1), .val (.int x1), .val (.int y1), .val (.int z1), .val (.int (3 : Int32)), .val (.ref b_215), .val .null, .val (.ref b_281), .val (.ref b_284), .val (.ref b285), .val (.ref b_304), .val (.ref b_309), .val (.ref b_328)] [(.int (0 : Int32)), (.ref b_328)])) t ∧ _
      obtain ⟨cl331, Ar331, q331, S331, N331, H331, G331⟩ := id G328_0
      have hin331 : ¬ ((0 : Int32) < 0 ∨ cl331.slots.size ≤ ((0 : Int32)).toNatClampNeg) := inb_of S331 ⟨by decide, by decide⟩
      have hat331 : cl331.slots[((0 : Int32)).toNatClampNeg]? = some (.ref b_215) := Has.at H331 hin331 rfl
      refine own_go (fun _ => X328.aaload hx (j := (0 : Int32)) (v := (.ref b_215)) Ar331.1 (State.isArrayOf_alike hZ.alike Ar331.2.1) rfl Ar331.2.2 hin331 hat331 (g := (mkF m 217 #[.val (.int f1), .val (.int x1), .val (.int y1), .val (.int z1), .val (.int (3 : Int32)), .val (.ref b_215), .val .null, .val (.ref b_281), .val (.ref b_284), .val (.ref b285), .val (.ref b_304), .val (.ref b_309), .val (.ref b_328)] [(.int (0 : Int32)), (.ref b_328)])) rfl rfl (hb hby at_217) _) ?_
      show ∃ t o, Steps p.tables e below (T328.setTop (mkF m 218 #[.val (.int f1), .val (.int x1), .val (.int y1), .val (.int z1), .val (.int (3 : Int32)), .val (.ref b_215), .val .null, .val (.ref b_281), .val (.ref b_284), .val (.ref b285), .val (.ref b_304), .val (.ref b_309), .val (.ref b_328)] [(.ref b_215)])) t ∧ _
      refine own_go (fun _ => XS.aload X328.here hx rfl (hb hby at_218) rfl rfl) ?_
      show ∃ t o, Steps p.tables e below (T328.setTop (mkF m 220 #[.val (.int f1), .val (.int x1), .val (.int y1), .val (.int z1), .val (.int (3 : Int32)), .val (.ref b_215), .val .null, .val (.ref b_281), .val (.ref b_284), .val (.ref b285), .val (.ref b_304), .val (.ref b_309), .val (.ref b_328)] [(.ref b_215), (.ref b_215)])) t ∧ _
      refine own_go (fun _ => Jvm.RoadKit.acmp (g := (mkF m 220 #[.val (.int f1), .val (.int x1), .val (.int y1), .val (.int z1), .val (.int (3 : Int32)), .val (.ref b_215), .val .null, .val (.ref b_281), .val (.ref b_284), .val (.ref b285), .val (.ref b_304), .val (.ref b_309), .val (.ref b_328)] [(.ref b_215), (.ref b_215)])) X328 hx rfl rfl rfl (pc0 := 220) (pc' := 225) (same := true) rfl (hb hby at_220) rfl (decide_eq_true rfl) (by decide) (by decide)) ?_
      show ∃ t o, Steps p.tables e below (T328.setTop (mkF m 225 #[.val (.int f1), .val (.int x1), .val (.int y1), .val (.int z1), .val (.int (3 : Int32)), .val (.ref b_215), .val .null, .val (.ref b_281), .val (.ref b_284), .val (.ref b285), .val (.ref b_304), .val (.ref b_309), .val (.ref b_328)] [])) t ∧ _
      refine own_go (fun _ => XS.iload X328.here hx rfl (hb hby at_225) rfl) ?_
      show ∃ t o, Steps p.tables e below (T328.setTop (mkF m 227 #[.val (.int f1), .val (.int x1), .val (.int y1), .val (.int z1), .val (.int (3 : Int32)), .val (.ref b_215), .val .null, .val (.ref b_281), .val (.ref b_284), .val (.ref b285), .val (.ref b_304), .val (.ref b_309), .val (.ref b_328)] [(.int (3 : Int32))])) t ∧ _
      refine own_go (fun _ => XS.iconst X328.here hx rfl (hb hby at_227)) ?_
      show ∃ t o, Steps p.tables e below (T328.setTop (mkF m 228 #[.val (.int f1), .val (.int x1), .val (.int y1), .val (.int z1), .val (.int (3 : Int32)), .val (.ref b_215), .val .null, .val (.ref b_281), .val (.ref b_284), .val (.ref b285), .val (.ref b_304), .val (.ref b_309), .val (.ref b_328)] [(.int (1 : Int32)), (.int (3 : Int32))])) t ∧ _
      refine own_go (fun _ => XS.icmpNo X328.here hx rfl (hb hby at_228) rfl (tlt (by decide : (1 : Int32) < (3 : Int32))).2.2.2) ?_
      show ∃ t o, Steps p.tables e below (T328.setTop (mkF m 231 #[.val (.int f1), .val (.int x1), .val (.int y1), .val (.int z1), .val (.int (3 : Int32)), .val (.ref b_215), .val .null, .val (.ref b_281), .val (.ref b_284), .val (.ref b285), .val (.ref b_304), .val (.ref b_309), .val (.ref b_328)] [])) t ∧ _
      refine own_go (fun _ => XS.aload X328.here hx rfl (hb hby at_231) rfl rfl) ?_
      show ∃ t o, Steps p.tables e below (T328.setTop (mkF m 233 #[.val (.int f1), .val (.int x1), .val (.int y1), .val (.int z1), .val (.int (3 : Int32)), .val (.ref b_215), .val .null, .val (.ref b_281), .val (.ref b_284), .val (.ref b285), .val (.ref b_304), .val (.ref b_309), .val (.ref b_328)] [(.ref b_328)])) t ∧ _
      refine own_go (fun _ => XS.iconst X328.here hx rfl (hb hby at_233)) ?_
      show ∃ t o, Steps p.tables e below (T328.setTop (mkF m 234 #[.val (.int f1), .val (.int x1), .val (.int y1), .val (.int z1), .val (.int (3 : Int32)), .val (.ref b_215), .val .null, .val (.ref b_281), .val (.ref b_284), .val (.ref b285), .val (.ref b_304), .val (.ref b_309), .val (.ref b_328)] [(.int (1 : Int32)), (.ref b_328)])) t ∧ _
      obtain ⟨cl332, Ar332, q332, S332, N332, H332, G332⟩ := id G328_0
      have hin332 : ¬ ((1 : Int32) < 0 ∨ cl332.slots.size ≤ ((1 : Int32)).toNatClampNeg) := inb_of S332 ⟨by decide, by decide⟩
      have hat332 : cl332.slots[((1 : Int32)).toNatClampNeg]? = some .null := Has.at H332 hin332 rfl
      refine own_go (fun _ => X328.aaload hx (j := (1 : Int32)) (v := .null) Ar332.1 (State.isArrayOf_alike hZ.alike Ar332.2.1) rfl Ar332.2.2 hin332 hat332 (g := (mkF m 234 #[.val (.int f1), .val (.int x1), .val (.int y1), .val (.int z1), .val (.int (3 : Int32)), .val (.ref b_215), .val .null, .val (.ref b_281), .val (.ref b_284), .val (.ref b285), .val (.ref b_304), .val (.ref b_309), .val (.ref b_328)] [(.int (1 : Int32)), (.ref b_328)])) rfl rfl (hb hby at_234) _) ?_
      show ∃ t o, Steps p.tables e below (T328.setTop (mkF m 235 #[.val (.int f1), .val (.int x1), .val (.int y1), .val (.int z1), .val (.int (3 : Int32)), .val (.ref b_215), .val .null, .val (.ref b_281), .val (.ref b_284), .val (.ref b285), .val (.ref b_304), .val (.ref b_309), .val (.ref b_328)] [.null])) t ∧ _
      refine own_go (fun _ => XS.aload X328.here hx rfl (hb hby at_235) rfl rfl) ?_
      show ∃ t o, Steps p.tables e below (T328.setTop (mkF m 237 #[.val (.int f1), .val (.int x1), .val (.int y1), .val (.int z1), .val (.int (3 : Int32)), .val (.ref b_215), .val .null, .val (.ref b_281), .val (.ref b_284), .val (.ref b285), .val (.ref b_304), .val (.ref b_309), .val (.ref b_328)] [.null, .null])) t ∧ _
      refine own_go (fun _ => Jvm.RoadKit.acmp (g := (mkF m 237 #[.val (.int f1), .val (.int x1), .val (.int y1), .val (.int z1), .val (.int (3 : Int32)), .val (.ref b_215), .val .null, .val (.ref b_281), .val (.ref b_284), .val (.ref b285), .val (.ref b_304), .val (.ref b_309), .val (.ref b_328)] [.null, .null])) X328 hx rfl rfl rfl (pc0 := 237) (pc' := 242) (same := true) rfl (hb hby at_237) rfl (decide_eq_true rfl) (by decide) (by decide)) ?_
      show ∃ t o, Steps p.tables e below (T328.setTop (mkF m 242 #[.val (.int f1), .val (.int x1), .val (.int y1), .val (.int z1), .val (.int (3 : Int32)), .val (.ref b_215), .val .null, .val (.ref b_281), .val (.ref b_284), .val (.ref b285), .val (.ref b_304), .val (.ref b_309), .val (.ref b_328)] [])) t ∧ _
      refine own_go (fun _ => XS.iload X328.here hx rfl (hb hby at_242) rfl) ?_
      show ∃ t o, Steps p.tables e below (T328.setTop (mkF m 244 #[.val (.int f1), .val (.int x1), .val (.int y1), .val (.int z1), .val (.int (3 : Int32)), .val (.ref b_215), .val .null, .val (.ref b_281), .val (.ref b_284), .val (.ref b285), .val (.ref b_304), .val (.ref b_309), .val (.ref b_328)] [(.int (3 : Int32))])) t ∧ _
      refine own_go (fun _ => XS.iconst X328.here hx rfl (hb hby at_244)) ?_
      show ∃ t o, Steps p.tables e below (T328.setTop (mkF m 245 #[.val (.int f1), .val (.int x1), .val (.int y1), .val (.int z1), .val (.int (3 : Int32)), .val (.ref b_215), .val .null, .val (.ref b_281), .val (.ref b_284), .val (.ref b285), .val (.ref b_304), .val (.ref b_309), .val (.ref b_328)] [(.int (2 : Int32)), (.int (3 : Int32))])) t ∧ _
      refine own_go (fun _ => XS.icmpNo X328.here hx rfl (hb hby at_245) rfl (tlt (by decide : (2 : Int32) < (3 : Int32))).2.2.2) ?_
      show ∃ t o, Steps p.tables e below (T328.setTop (mkF m 248 #[.val (.int f1), .val (.int x1), .val (.int y1), .val (.int z1), .val (.int (3 : Int32)), .val (.ref b_215), .val .null, .val (.ref b_281), .val (.ref b_284), .val (.ref b285), .val (.ref b_304), .val (.ref b_309), .val (.ref b_328)] [])) t ∧ _
      refine own_go (fun _ => XS.aload X328.here hx rfl (hb hby at_248) rfl rfl) ?_
      show ∃ t o, Steps p.tables e below (T328.setTop (mkF m 250 #[.val (.int f1), .val (.int x1), .val (.int y1), .val (.int z1), .val (.int (3 : Int32)), .val (.ref b_215), .val .null, .val (.ref b_281), .val (.ref b_284), .val (.ref b285), .val (.ref b_304), .val (.ref b_309), .val (.ref b_328)] [(.ref b_328)])) t ∧ _
      refine own_go (fun _ => XS.iconst X328.here hx rfl (hb hby at_250)) ?_
      show ∃ t o, Steps p.tables e below (T328.setTop (mkF m 251 #[.val (.int f1), .val (.int x1), .val (.int y1), .val (.int z1), .val (.int (3 : Int32)), .val (.ref b_215), .val .null, .val (.ref b_281), .val (.ref b_284), .val (.ref b285), .val (.ref b_304), .val (.ref b_309), .val (.ref b_328)] [(.int (2 : Int32)), (.ref b_328)])) t ∧ _
      obtain ⟨cl333, Ar333, q333, S333, N333, H333, G333⟩ := id G328_0
      have hin333 : ¬ ((2 : Int32) < 0 ∨ cl333.slots.size ≤ ((2 : Int32)).toNatClampNeg) := inb_of S333 ⟨by decide, by decide⟩
      have hat333 : cl333.slots[((2 : Int32)).toNatClampNeg]? = some (.ref b_281) := Has.at H333 hin333 rfl
      refine own_go (fun _ => X328.aaload hx (j := (2 : Int32)) (v := (.ref b_281)) Ar333.1 (State.isArrayOf_alike hZ.alike Ar333.2.1) rfl Ar333.2.2 hin333 hat333 (g := (mkF m 251 #[.val (.int f1), .val (.int x1), .val (.int y1), .val (.int z1), .val (.int (3 : Int32)), .val (.ref b_215), .val .null, .val (.ref b_281), .val (.ref b_284), .val (.ref b285), .val (.ref b_304), .val (.ref b_309), .val (.ref b_328)] [(.int (2 : Int32)), (.ref b_328)])) rfl rfl (hb hby at_251) _) ?_
      show ∃ t o, Steps p.tables e below (T328.setTop (mkF m 252 #[.val (.int f1), .val (.int x1), .val (.int y1), .val (.int z1), .val (.int (3 : Int32)), .val (.ref b_215), .val .null, .val (.ref b_281), .val (.ref b_284), .val (.ref b285), .val (.ref b_304), .val (.ref b_309), .val (.ref b_328)] [(.ref b_281)])) t ∧ _
      refine own_go (fun _ => XS.aload X328.here hx rfl (hb hby at_252) rfl rfl) ?_
      show ∃ t o, Steps p.tables e below (T328.setTop (mkF m 254 #[.val (.int f1), .val (.int x1), .val (.int y1), .val (.int z1), .val (.int (3 : Int32)), .val (.ref b_215), .val .null, .val (.ref b_281), .val (.ref b_284), .val (.ref b285), .val (.ref b_304), .val (.ref b_309), .val (.ref b_328)] [(.ref b_281), (.ref b_281)])) t ∧ _
      refine own_go (fun _ => Jvm.RoadKit.acmp (g := (mkF m 254 #[.val (.int f1), .val (.int x1), .val (.int y1), .val (.int z1), .val (.int (3 : Int32)), .val (.ref b_215), .val .null, .val (.ref b_281), .val (.ref b_284), .val (.ref b285), .val (.ref b_304), .val (.ref b_309), .val (.ref b_328)] [(.ref b_281), (.ref b_281)])) X328 hx rfl rfl rfl (pc0 := 254) (pc' := 259) (same := true) rfl (hb hby at_254) rfl (decide_eq_true rfl) (by decide) (by decide)) ?_
      show ∃ t o, Steps p.tables e below (T328.setTop (mkF m 259 #[.val (.int f1), .val (.int x1), .val (.int y1), .val (.int z1), .val (.int (3 : Int32)), .val (.ref b_215), .val .null, .val (.ref b_281), .val (.ref b_284), .val (.ref b285), .val (.ref b_304), .val (.ref b_309), .val (.ref b_328)] [])) t ∧ _
      refine own_go (fun _ => XS.iconst X328.here hx rfl (hb hby at_259)) ?_
      show ∃ t o, Steps p.tables e below (T328.setTop (mkF m 260 #[.val (.int f1), .val (.int x1), .val (.int y1), .val (.int z1), .val (.int (3 : Int32)), .val (.ref b_215), .val .null, .val (.ref b_281), .val (.ref b_284), .val (.ref b285), .val (.ref b_304), .val (.ref b_309), .val (.ref b_328)] [(.int (1 : Int32))])) t ∧ _
      obtain ⟨fs, hr, hrun, hended, hW, hsame⟩ := X328.leave (v := some (.int (1 : Int32))) (fun h => by rw [Bd.returns] at h; cases h)
      refine ⟨_, _, ?_, hrun, hended, _, _, rfl, ?_, ⟨_, rfl⟩, hW, hsame.mono (by decide) (by decide)⟩
      · exact retN X328 hx (t := .boolean) Bd.returns (by simp) (hb hby at_260) hr
      · show Q_rm0 Z f1 x1 y1 z1 caI ccI caL ccL h0 n0 _ T328.heap _
        exact ⟨rfl, N328, K328⟩
set_option maxRecDepth 65536 in
set_option maxHeartbeats 40000000 in
theorem comes_1 {Post : Tables → Env → Array Value → State → Outcome → State → Prop} (hpost : ∀ tb e args s v u, (limb_1_1.after args s (.returned v) u = true ∧ limb_1_2.after args s (.returned v) u = true ∧ True) → FrameEnd s (.returned v) u (Jvm.fieldLocs frame_1_writes args s ++ Jvm.arrayLocs frame_1_arrays args s ++ Jvm.staticLocs frame_1_statics s) 24 128 → Post tb e args s (.returned v) u) :
    ArmFor flags0 classFile x code maxLocals ret World_1 tables_1 room_1 Calls_1 rest_1 Pre_1 Post := by
  intro l hfl _ _ p e ha hc hk s m args below hf hA hF happ hP
  obtain ⟨hcalls, hrest, hpre⟩ := hP
  obtain ⟨-, -, -, hnamed, -, -, -, hat⟩ := (Spec.applies_iff hf).mp happ
  obtain ⟨hg, hn⟩ := and_e (Cond.before_iff.mp (show (Jvm.Cond.and given_1 narrow_1).before args s = true from hpre))
  obtain ⟨g1, g2⟩ := and_e hg
  obtain ⟨g3, g4⟩ := and_e g2
  obtain ⟨g5, g6⟩ := and_e g4
  obtain ⟨g7, g8⟩ := and_e g6
  obtain ⟨w0, w1, w2, w3, rfl⟩ : ∃ w0 w1 w2 w3 : Value, args = #[w0, w1, w2, w3] := by
    have hs : args.size = 4 := by simpa [Cond.value, given_1] using g1
    obtain ⟨L⟩ := args
    match L, hs with
    | [w0, w1, w2, w3], _ => exact ⟨w0, w1, w2, w3, rfl⟩
  have hw := fun d (hd : d ∈ tables_1) => atoms_spec (ws := Jvm.Cond.code x code maxLocals ret :: tables_1) hat d (List.mem_cons_of_mem _ hd)
  have hfit : Fit s := fun {y c} hc i hi => by
    obtain ⟨ha, rfl⟩ := Array.getElem?_eq_some_iff.mp hc
    have q := List.all_eq_true.mp ((Array.all_eq_true_iff_forall_mem.mp hF) _ (Array.getElem_mem ha)) i (List.mem_range.mpr hi)
    simpa [Array.getElem?_eq_getElem hi] using q
  obtain ⟨hsets, hown0⟩ := atoms_of _ (rest_1_c_eq ▸ (show rest_1_c.before _ s = true from hrest))
  have hr0 := Cond.before_iff.mp hown0
  obtain ⟨i0, ei0⟩ := is_v g3
  obtain rfl : w0 = (.int i0) := Option.some.inj ei0
  obtain ⟨i1, ei1⟩ := is_v g5
  obtain rfl : w1 = (.int i1) := Option.some.inj ei1
  obtain ⟨i2, ei2⟩ := is_v g7
  obtain rfl : w2 = (.int i2) := Option.some.inj ei2
  obtain ⟨i3, ei3⟩ := is_v g8
  obtain rfl : w3 = (.int i3) := Option.some.inj ei3
  have IA : (Jvm.Cond.arrayOf (Jvm.Term.static "java/lang/Integer$IntegerCache" "cache" "[Ljava/lang/Integer;") (Jvm.ClassFile.FieldType.object "java/lang/Integer")).value _ s none s [] = some true := Cond.before_iff.mp (hsets _ (List.mem_of_getElem? (i := 4) rfl))
  obtain ⟨caI, evI⟩ := arr_v IA
  have SCI : Sta s s.heap "java/lang/Integer$IntegerCache" "cache" "[Ljava/lang/Integer;" (.ref caI) := Sta.start evI (Or.inr ⟨(hw _ (List.mem_of_getElem? (i := 5) rfl)), (hsets _ (List.mem_of_getElem? (i := 2) rfl))⟩)
  obtain ⟨ccI, ARI⟩ := Arr.start evI IA
  have LNI : (Jvm.Cond.eq (Jvm.Term.length (Jvm.Term.static "java/lang/Integer$IntegerCache" "cache" "[Ljava/lang/Integer;")) (Jvm.Term.int (256 : Int32))).value _ s none s [] = some true := Cond.before_iff.mp (hsets _ (List.mem_of_getElem? (i := 6) rfl))
  have ALI := Cond.before_iff.mp (hsets _ (List.mem_of_getElem? (i := 7) rfl))
  have BXI : Bxs s caI ccI "java/lang/Integer" "I" (256 : Int32) own_ival := own_bxsI evI ARI LNI ALI
  have HI : (Jvm.Cond.eq (Jvm.Term.static "java/lang/Integer$IntegerCache" "high" "I") (Jvm.Term.int (127 : Int32))).value _ s none s [] = some true := Cond.before_iff.mp (hsets _ (List.mem_of_getElem? (i := 3) rfl))
  have SHI : Sta s s.heap "java/lang/Integer$IntegerCache" "high" "I" (.int (127 : Int32)) := Sta.start (eqv_i (Term.int_eval (127 : Int32)) HI) (Or.inl (hsets _ (List.mem_of_getElem? (i := 1) rfl)))
  have LA : (Jvm.Cond.arrayOf (Jvm.Term.static "java/lang/Long$LongCache" "cache" "[Ljava/lang/Long;") (Jvm.ClassFile.FieldType.object "java/lang/Long")).value _ s none s [] = some true := Cond.before_iff.mp (hsets _ (List.mem_of_getElem? (i := 10) rfl))
  obtain ⟨caL, evL⟩ := arr_v LA
  have SCL : Sta s s.heap "java/lang/Long$LongCache" "cache" "[Ljava/lang/Long;" (.ref caL) := Sta.start evL (Or.inl (hsets _ (List.mem_of_getElem? (i := 9) rfl)))
  obtain ⟨ccL, ARL⟩ := Arr.start evL LA
  have LNL : (Jvm.Cond.eq (Jvm.Term.length (Jvm.Term.static "java/lang/Long$LongCache" "cache" "[Ljava/lang/Long;")) (Jvm.Term.int (256 : Int32))).value _ s none s [] = some true := Cond.before_iff.mp (hsets _ (List.mem_of_getElem? (i := 12) rfl))
  have ALL := Cond.before_iff.mp (hsets _ (List.mem_of_getElem? (i := 13) rfl))
  have BXL : Bxs s caL ccL "java/lang/Long" "J" (256 : Int32) own_lval := own_bxsL evL ARL LNL ALL
  have OLD := Old.start s
  obtain ⟨n, o, h1, h2, h3, _, L, rfl, ⟨rfl, N, -⟩, hq⟩ := rm0 l s _ hw tables_1 i0 i1 i2 i3 caI ccI caL ccL s.heap s.heap.size (Nat.le_refl _) OLD SCI SHI SCL BXI BXL p e ha hc hk s m _ below hf ((Spec.applies_iff_loose hf).mp happ).1 ⟨rfl, State.Warmed39.refl s, rfl⟩ trivial
  refine ⟨n, _, h1, h2, h3, hpost _ _ _ _ _ _ ⟨Cond.after_iff.mpr rfl, Cond.after_iff.mpr (eq_i res_at (Term.int_eval (1)) rfl), trivial⟩ ⟨hq.1, hq.2.1, (hq.2.2.sift fun y hy => Or.inr (N y hy)).mono (by decide) (by decide)⟩⟩
theorem main_1_1 : Claimed_1_1 := comes_1 fun _ _ _ _ _ _ h hF => ⟨h.1, hF⟩
theorem main_1_2 : Claimed_1_2 := comes_1 fun _ _ _ _ _ _ h hF => ⟨h.2.1, hF⟩
end Jvm.Pilot.@@N@@
namespace Jvm.Pilot.@@N@@
open Jvm Jvm.ClassFile Sem Op Lib Jvm.Free Jvm.Stand Jvm.Pilot.@@N@@.Jvm.D
/-! MADE BY PROGRAM (witnessworld.py) out of the Statement's table words and the real class files: 21 classes; the members and pool entries that the words name. The judged class is class 1, her method 1. -/
namespace start1
open Jvm.ClassFile
def u (s : String) : CpInfo := .utf8 (stringToUtf16 s)
/-- a pool by its gaps: so many unusable entries, then the entry; so many at the end -/
def gap : Nat → List CpInfo → List CpInfo
  | 0, r => r
  | n + 1, r => .unusable :: gap n r
def poolList (es : List (Nat × CpInfo)) (last : Nat) : List CpInfo := es.foldr (fun e r => gap e.1 (e.2 :: r)) (gap last [])
def pool (es : List (Nat × CpInfo)) (last : Nat) : Array CpInfo := ⟨poolList es last⟩
def fileOf (pool : Array CpInfo) (this : Nat) (attrs : Array Attribute := #[]) (ms : Array MethodInfo := #[]) (fl : Nat := 33) (sup : Nat := 0) (ifs : Array Nat := #[]) (fds : Array FieldInfo := #[]) : ClassFile where
  minorVersion := 0
  majorVersion := 65
  constantPool := pool
  accessFlags := fl
  thisClass := this
  superClass := sup
  interfaces := ifs
  fields := fds
  methods := ms
  attributes := attrs
def plain (name : String) (sup : Option ClassId) : Class where
  name := name
  kind := .ordinary
  loader := none
  accessFlags := 33
  super := sup
  interfaces := #[]
  cf := none
  fields := #[]
  methods := #[]
  instanceTypes := #[]
  staticTypes := #[]
  resolved := #[]
  callSites := []
  init := .initialized
  statics := none
  mirror := none

def pool0 : Array CpInfo := pool [(5, u "<init>"), (0, u "()V"), (1, .class_ 10), (1, u "java/lang/Object"), (16, u "hashCode"), (0, u "()I"), (67, u "clone"), (0, u "()Ljava/lang/Object;")] 26

def k0c0 : Code := { maxStack := 0, maxLocals := 1, code := object_method_1_code, exceptionTable := #[], attributes := #[] }
def k0m0 : Method := { name := "<init>", desc := "()V", sig := { parameters := [], returnType := none }, accessFlags := 1, code := some k0c0 }
def k0m1 : Method := { name := "hashCode", desc := "()I", sig := { parameters := [], returnType := some .int }, accessFlags := 257, code := none }
def k0m2 : Method := { name := "clone", desc := "()Ljava/lang/Object;", sig := { parameters := [], returnType := some (.object "java/lang/Object") }, accessFlags := 260, code := none }
/-- java/lang/Object -/
def k0 : Class := { plain "java/lang/Object" none with
  accessFlags := 33
  interfaces := #[]
  cf := some (fileOf pool0 8 #[] #[{ accessFlags := 1, nameIndex := 5, descriptorIndex := 6, attributes := #[] }, { accessFlags := 257, nameIndex := 27, descriptorIndex := 28, attributes := #[] }, { accessFlags := 260, nameIndex := 96, descriptorIndex := 97, attributes := #[] }] 33 0 #[] #[])
  fields := #[]
  methods := #[k0m0, k0m1, k0m2]
  instanceTypes := #[]
  staticTypes := #[]
  resolved := Array.replicate 124 none
  statics := none }

def pool1 : Array CpInfo := pool [(2, .class_ 4), (1, u "java/lang/Object"), (0, u "<init>"), (0, u "()V"), (0, .methodref 8 9), (0, .class_ 10), (0, .nameAndType 11 12), (0, u "java/lang/Integer"), (0, u "valueOf"), (0, u "(I)Ljava/lang/Integer;"), (0, .methodref 14 15), (0, .class_ 16), (0, .nameAndType 11 17), (0, u "java/lang/Long"), (0, u "(J)Ljava/lang/Long;"), (0, .methodref 19 20), (0, .class_ 21), (0, .nameAndType 22 23), (0, u "com/example/planwright/planwright/plan/Key"), (0, u "of"), (0, u "([Ljava/lang/Object;)Ljava/lang/Object;"), (0, .methodref 19 25), (0, .nameAndType 26 27), (0, u "values"), (0, u "(Ljava/lang/Object;I)[Ljava/lang/Object;"), (0, .class_ 29), (0, u "com/example/planwright/planwright/plan/KeyValuesPinLaw"), (2, u "law"), (0, u "(IIII)Z")] 5

def k1m0 : Method := { name := "<init>", desc := "()V", sig := { parameters := [], returnType := none }, accessFlags := 1, code := none }
def k1c1 : Code := { maxStack := 3, maxLocals := 13, code := code, exceptionTable := #[], attributes := #[] }
def k1m1 : Method := { name := "law", desc := "(IIII)Z", sig := { parameters := [.int, .int, .int, .int], returnType := some .boolean }, accessFlags := 9, code := some k1c1 }
/-- com/example/planwright/planwright/plan/KeyValuesPinLaw -/
def k1 : Class := { plain "com/example/planwright/planwright/plan/KeyValuesPinLaw" (some 0) with
  accessFlags := 49
  interfaces := #[]
  cf := some (fileOf pool1 28 #[] #[{ accessFlags := 1, nameIndex := 5, descriptorIndex := 6, attributes := #[] }, { accessFlags := 9, nameIndex := 32, descriptorIndex := 33, attributes := #[] }] 49 2 #[] #[])
  fields := #[]
  methods := #[k1m0, k1m1]
  instanceTypes := #[]
  staticTypes := #[]
  resolved := Array.replicate 39 none
  statics := none }

def pool2 : Array CpInfo := pool [(1, .class_ 2), (0, u "java/io/Serializable"), (0, .class_ 4), (0, u "java/lang/Object")] 2

/-- java/io/Serializable -/
def k2 : Class := { plain "java/io/Serializable" (some 0) with
  accessFlags := 1537
  interfaces := #[]
  cf := some (fileOf pool2 1 #[] #[] 1537 3 #[] #[])
  fields := #[]
  methods := #[]
  instanceTypes := #[]
  staticTypes := #[]
  resolved := Array.replicate 7 none
  statics := none }

def pool3 : Array CpInfo := pool [(1, .methodref 2 3), (0, .class_ 4), (0, .nameAndType 5 6), (0, u "java/lang/Object"), (0, u "<init>"), (0, u "()V"), (1, .class_ 10), (1, u "java/lang/Number"), (2, .class_ 14), (0, u "java/io/Serializable"), (0, u "serialVersionUID"), (0, u "J")] 20

def k3c0 : Code := { maxStack := 1, maxLocals := 1, code := jdk_18_method_1_code, exceptionTable := #[], attributes := #[] }
def k3m0 : Method := { name := "<init>", desc := "()V", sig := { parameters := [], returnType := none }, accessFlags := 1, code := some k3c0 }
/-- java/lang/Number -/
def k3 : Class := { plain "java/lang/Number" (some 0) with
  accessFlags := 1057
  interfaces := #[2]
  cf := some (fileOf pool3 8 #[] #[{ accessFlags := 1, nameIndex := 5, descriptorIndex := 6, attributes := #[] }] 1057 2 #[13] #[{ accessFlags := 26, nameIndex := 15, descriptorIndex := 16, attributes := #[] }])
  fields := #[{ name := "serialVersionUID", type := .long, accessFlags := 26, slot := 0, constantValue := 0 }]
  methods := #[k3m0]
  instanceTypes := #[]
  staticTypes := #[.long]
  resolved := Array.replicate 37 none
  statics := none }

def pool4 : Array CpInfo := pool [(1, .class_ 2), (0, u "java/lang/Comparable"), (0, .class_ 4), (0, u "java/lang/Object")] 7

/-- java/lang/Comparable -/
def k4 : Class := { plain "java/lang/Comparable" (some 0) with
  accessFlags := 1537
  interfaces := #[]
  cf := some (fileOf pool4 1 #[] #[] 1537 3 #[] #[])
  fields := #[]
  methods := #[]
  instanceTypes := #[]
  staticTypes := #[]
  resolved := Array.replicate 12 none
  statics := none }

def pool5 : Array CpInfo := pool [(1, .class_ 2), (0, u "java/lang/constant/Constable"), (0, .class_ 4), (0, u "java/lang/Object")] 6

/-- java/lang/constant/Constable -/
def k5 : Class := { plain "java/lang/constant/Constable" (some 0) with
  accessFlags := 1537
  interfaces := #[]
  cf := some (fileOf pool5 1 #[] #[] 1537 3 #[] #[])
  fields := #[]
  methods := #[]
  instanceTypes := #[]
  staticTypes := #[]
  resolved := Array.replicate 11 none
  statics := none }

def pool6 : Array CpInfo := pool [(1, .class_ 2), (0, u "java/lang/constant/ConstantDesc"), (0, .class_ 4), (0, u "java/lang/Object")] 32

/-- java/lang/constant/ConstantDesc -/
def k6 : Class := { plain "java/lang/constant/ConstantDesc" (some 0) with
  accessFlags := 1537
  interfaces := #[]
  cf := some (fileOf pool6 1 #[] #[] 1537 3 #[] #[])
  fields := #[]
  methods := #[]
  instanceTypes := #[]
  staticTypes := #[]
  resolved := Array.replicate 37 none
  statics := none }

def pool7 : Array CpInfo := pool [(1, .class_ 2), (0, u "java/lang/Integer"), (16, u "digits"), (0, u "[C"), (33, u "(I)I"), (12, u "<init>"), (17, u "DigitOnes"), (0, u "[B"), (2, u "DigitTens"), (10, .nameAndType 67 101), (0, u "()V"), (19, u "()I"), (65, u "valueOf"), (0, u "(I)Ljava/lang/Integer;"), (0, .class_ 190), (0, u "java/lang/Integer$IntegerCache"), (0, .fieldref 189 192), (0, .nameAndType 193 194), (0, u "high"), (0, u "I"), (0, .fieldref 189 196), (0, .nameAndType 197 198), (0, u "cache"), (0, u "[Ljava/lang/Integer;"), (0, .methodref 1 200), (0, .nameAndType 67 201), (0, u "(I)V"), (0, .methodref 203 100), (0, .class_ 204), (0, u "java/lang/Number"), (0, .fieldref 1 206), (0, .nameAndType 207 194), (0, u "value"), (0, .methodref 1 209), (0, .nameAndType 210 54), (0, u "hashCode"), (91, u "TYPE"), (0, u "Ljava/lang/Class;"), (0, .class_ 305), (0, u "java/lang/Comparable"), (0, .class_ 307), (0, u "java/lang/constant/Constable"), (0, .class_ 309), (0, u "java/lang/constant/ConstantDesc"), (0, u "MIN_VALUE"), (1, u "MAX_VALUE"), (3, u "SIZE"), (1, u "BYTES"), (1, u "serialVersionUID"), (0, u "J")] 131

def k7c0 : Code := { maxStack := 3, maxLocals := 1, code := jdk_33_method_22_code, exceptionTable := #[], attributes := #[] }
def k7m0 : Method := { name := "valueOf", desc := "(I)Ljava/lang/Integer;", sig := { parameters := [.int], returnType := some (.object "java/lang/Integer") }, accessFlags := 9, code := some k7c0 }
def k7c1 : Code := { maxStack := 2, maxLocals := 2, code := jdk_33_method_23_code, exceptionTable := #[], attributes := #[] }
def k7m1 : Method := { name := "<init>", desc := "(I)V", sig := { parameters := [.int], returnType := none }, accessFlags := 1, code := some k7c1 }
def k7c2 : Code := { maxStack := 1, maxLocals := 1, code := jdk_33_method_32_code, exceptionTable := #[], attributes := #[] }
def k7m2 : Method := { name := "hashCode", desc := "()I", sig := { parameters := [], returnType := some .int }, accessFlags := 1, code := some k7c2 }
def k7c3 : Code := { maxStack := 1, maxLocals := 1, code := jdk_33_method_33_code, exceptionTable := #[], attributes := #[] }
def k7m3 : Method := { name := "hashCode", desc := "(I)I", sig := { parameters := [.int], returnType := some .int }, accessFlags := 9, code := some k7c3 }
/-- java/lang/Integer -/
def k7 : Class := { plain "java/lang/Integer" (some 3) with
  accessFlags := 49
  interfaces := #[4, 5, 6]
  cf := some (fileOf pool7 1 #[.nestMembers #[189]] #[{ accessFlags := 9, nameIndex := 187, descriptorIndex := 188, attributes := #[] }, { accessFlags := 1, nameIndex := 67, descriptorIndex := 201, attributes := #[] }, { accessFlags := 1, nameIndex := 210, descriptorIndex := 121, attributes := #[] }, { accessFlags := 9, nameIndex := 210, descriptorIndex := 54, attributes := #[] }] 49 203 #[304, 306, 308] #[{ accessFlags := 25, nameIndex := 310, descriptorIndex := 194, attributes := #[] }, { accessFlags := 25, nameIndex := 312, descriptorIndex := 194, attributes := #[] }, { accessFlags := 25, nameIndex := 302, descriptorIndex := 303, attributes := #[] }, { accessFlags := 24, nameIndex := 19, descriptorIndex := 20, attributes := #[] }, { accessFlags := 24, nameIndex := 89, descriptorIndex := 86, attributes := #[] }, { accessFlags := 24, nameIndex := 85, descriptorIndex := 86, attributes := #[] }, { accessFlags := 18, nameIndex := 207, descriptorIndex := 194, attributes := #[] }, { accessFlags := 25, nameIndex := 316, descriptorIndex := 194, attributes := #[] }, { accessFlags := 25, nameIndex := 318, descriptorIndex := 194, attributes := #[] }, { accessFlags := 26, nameIndex := 320, descriptorIndex := 321, attributes := #[] }])
  fields := #[{ name := "MIN_VALUE", type := .int, accessFlags := 25, slot := 0, constantValue := 0 }, { name := "MAX_VALUE", type := .int, accessFlags := 25, slot := 1, constantValue := 0 }, { name := "TYPE", type := (.object "java/lang/Class"), accessFlags := 25, slot := 2, constantValue := 0 }, { name := "digits", type := (.array .char), accessFlags := 24, slot := 3, constantValue := 0 }, { name := "DigitTens", type := (.array .byte), accessFlags := 24, slot := 4, constantValue := 0 }, { name := "DigitOnes", type := (.array .byte), accessFlags := 24, slot := 5, constantValue := 0 }, { name := "value", type := .int, accessFlags := 18, slot := 0, constantValue := 0 }, { name := "SIZE", type := .int, accessFlags := 25, slot := 6, constantValue := 0 }, { name := "BYTES", type := .int, accessFlags := 25, slot := 7, constantValue := 0 }, { name := "serialVersionUID", type := .long, accessFlags := 26, slot := 8, constantValue := 0 }]
  methods := #[k7m0, k7m1, k7m2, k7m3]
  instanceTypes := #[.int]
  staticTypes := #[.int, .int, (.object "java/lang/Class"), (.array .char), (.array .byte), (.array .byte), .int, .int, .long]
  resolved := Array.replicate 453 none
  statics := none }

def pool8 : Array CpInfo := pool [(2, .class_ 4), (1, u "java/lang/Object"), (0, u "<init>"), (0, u "()V"), (0, .class_ 8), (0, u "java/lang/Integer"), (7, .class_ 18), (1, u "java/lang/Integer$IntegerCache"), (0, u "$assertionsDisabled"), (0, u "Z"), (26, u "high"), (0, u "I"), (8, u "archivedCache"), (0, u "[Ljava/lang/Integer;"), (12, u "cache"), (0, u "low")] 27

def k8m0 : Method := { name := "<init>", desc := "()V", sig := { parameters := [], returnType := none }, accessFlags := 2, code := none }
/-- java/lang/Integer$IntegerCache -/
def k8 : Class := { plain "java/lang/Integer$IntegerCache" (some 0) with
  accessFlags := 48
  interfaces := #[]
  cf := some (fileOf pool8 16 #[.nestHost 7] #[{ accessFlags := 2, nameIndex := 5, descriptorIndex := 6, attributes := #[] }] 48 2 #[] #[{ accessFlags := 24, nameIndex := 72, descriptorIndex := 48, attributes := #[] }, { accessFlags := 24, nameIndex := 47, descriptorIndex := 48, attributes := #[] }, { accessFlags := 24, nameIndex := 71, descriptorIndex := 58, attributes := #[] }, { accessFlags := 8, nameIndex := 57, descriptorIndex := 58, attributes := #[] }, { accessFlags := 4120, nameIndex := 19, descriptorIndex := 20, attributes := #[] }])
  fields := #[{ name := "low", type := .int, accessFlags := 24, slot := 0, constantValue := 0 }, { name := "high", type := .int, accessFlags := 24, slot := 1, constantValue := 0 }, { name := "cache", type := (.array (.object "java/lang/Integer")), accessFlags := 24, slot := 2, constantValue := 0 }, { name := "archivedCache", type := (.array (.object "java/lang/Integer")), accessFlags := 8, slot := 3, constantValue := 0 }, { name := "$assertionsDisabled", type := .boolean, accessFlags := 4120, slot := 4, constantValue := 0 }]
  methods := #[k8m0]
  instanceTypes := #[]
  staticTypes := #[.int, .int, (.array (.object "java/lang/Integer")), (.array (.object "java/lang/Integer")), .boolean]
  resolved := Array.replicate 100 none
  statics := some 0 }

def pool9 : Array CpInfo := pool [(1, .class_ 2), (0, u "java/lang/Long"), (55, .nameAndType 59 60), (0, u "<init>"), (0, u "()V"), (24, u "valueOf"), (15, u "(J)I"), (59, u "()I"), (67, u "(J)Ljava/lang/Long;"), (0, .long 18446744073709551488), (1, .long 127), (1, .fieldref 235 236), (0, .class_ 237), (0, .nameAndType 238 239), (0, u "java/lang/Long$LongCache"), (0, u "cache"), (0, u "[Ljava/lang/Long;"), (0, .methodref 1 241), (0, .nameAndType 59 242), (0, u "(J)V"), (27, .methodref 271 58), (0, .class_ 272), (0, u "java/lang/Number"), (0, .fieldref 1 274), (0, .nameAndType 275 276), (0, u "value"), (0, u "J"), (0, .methodref 1 278), (0, .nameAndType 279 101), (0, u "hashCode"), (81, u "TYPE"), (0, u "Ljava/lang/Class;"), (0, .class_ 364), (0, u "java/lang/Comparable"), (0, .class_ 366), (0, u "java/lang/constant/Constable"), (0, .class_ 368), (0, u "java/lang/constant/ConstantDesc"), (0, u "MIN_VALUE"), (1, u "MAX_VALUE"), (4, u "SIZE"), (0, u "I"), (1, u "BYTES"), (1, u "serialVersionUID")] 142

def k9c0 : Code := { maxStack := 4, maxLocals := 3, code := jdk_35_method_24_code, exceptionTable := #[], attributes := #[] }
def k9m0 : Method := { name := "valueOf", desc := "(J)Ljava/lang/Long;", sig := { parameters := [.long], returnType := some (.object "java/lang/Long") }, accessFlags := 9, code := some k9c0 }
def k9c1 : Code := { maxStack := 3, maxLocals := 3, code := jdk_35_method_26_code, exceptionTable := #[], attributes := #[] }
def k9m1 : Method := { name := "<init>", desc := "(J)V", sig := { parameters := [.long], returnType := none }, accessFlags := 1, code := some k9c1 }
def k9c2 : Code := { maxStack := 2, maxLocals := 1, code := jdk_35_method_35_code, exceptionTable := #[], attributes := #[] }
def k9m2 : Method := { name := "hashCode", desc := "()I", sig := { parameters := [], returnType := some .int }, accessFlags := 1, code := some k9c2 }
def k9c3 : Code := { maxStack := 5, maxLocals := 2, code := jdk_35_method_36_code, exceptionTable := #[], attributes := #[] }
def k9m3 : Method := { name := "hashCode", desc := "(J)I", sig := { parameters := [.long], returnType := some .int }, accessFlags := 9, code := some k9c3 }
/-- java/lang/Long -/
def k9 : Class := { plain "java/lang/Long" (some 3) with
  accessFlags := 49
  interfaces := #[4, 5, 6]
  cf := some (fileOf pool9 1 #[.nestMembers #[235]] #[{ accessFlags := 9, nameIndex := 85, descriptorIndex := 229, attributes := #[] }, { accessFlags := 1, nameIndex := 59, descriptorIndex := 242, attributes := #[] }, { accessFlags := 1, nameIndex := 279, descriptorIndex := 161, attributes := #[] }, { accessFlags := 9, nameIndex := 279, descriptorIndex := 101, attributes := #[] }] 49 271 #[363, 365, 367] #[{ accessFlags := 25, nameIndex := 369, descriptorIndex := 276, attributes := #[] }, { accessFlags := 25, nameIndex := 371, descriptorIndex := 276, attributes := #[] }, { accessFlags := 25, nameIndex := 361, descriptorIndex := 362, attributes := #[] }, { accessFlags := 18, nameIndex := 275, descriptorIndex := 276, attributes := #[] }, { accessFlags := 25, nameIndex := 376, descriptorIndex := 377, attributes := #[] }, { accessFlags := 25, nameIndex := 379, descriptorIndex := 377, attributes := #[] }, { accessFlags := 26, nameIndex := 381, descriptorIndex := 276, attributes := #[] }])
  fields := #[{ name := "MIN_VALUE", type := .long, accessFlags := 25, slot := 0, constantValue := 0 }, { name := "MAX_VALUE", type := .long, accessFlags := 25, slot := 1, constantValue := 0 }, { name := "TYPE", type := (.object "java/lang/Class"), accessFlags := 25, slot := 2, constantValue := 0 }, { name := "value", type := .long, accessFlags := 18, slot := 0, constantValue := 0 }, { name := "SIZE", type := .int, accessFlags := 25, slot := 3, constantValue := 0 }, { name := "BYTES", type := .int, accessFlags := 25, slot := 4, constantValue := 0 }, { name := "serialVersionUID", type := .long, accessFlags := 26, slot := 5, constantValue := 0 }]
  methods := #[k9m0, k9m1, k9m2, k9m3]
  instanceTypes := #[.long]
  staticTypes := #[.long, .long, (.object "java/lang/Class"), .int, .int, .long]
  resolved := Array.replicate 524 none
  statics := none }

def pool10 : Array CpInfo := pool [(2, .class_ 4), (1, u "java/lang/Object"), (0, u "<init>"), (0, u "()V"), (0, .class_ 8), (0, u "java/lang/Long"), (7, .class_ 18), (1, u "java/lang/Long$LongCache"), (0, u "$assertionsDisabled"), (0, u "Z"), (8, u "archivedCache"), (0, u "[Ljava/lang/Long;"), (7, u "cache")] 24

def k10m0 : Method := { name := "<init>", desc := "()V", sig := { parameters := [], returnType := none }, accessFlags := 2, code := none }
/-- java/lang/Long$LongCache -/
def k10 : Class := { plain "java/lang/Long$LongCache" (some 0) with
  accessFlags := 48
  interfaces := #[]
  cf := some (fileOf pool10 16 #[.nestHost 7] #[{ accessFlags := 2, nameIndex := 5, descriptorIndex := 6, attributes := #[] }] 48 2 #[] #[{ accessFlags := 24, nameIndex := 38, descriptorIndex := 30, attributes := #[] }, { accessFlags := 8, nameIndex := 29, descriptorIndex := 30, attributes := #[] }, { accessFlags := 4120, nameIndex := 19, descriptorIndex := 20, attributes := #[] }])
  fields := #[{ name := "cache", type := (.array (.object "java/lang/Long")), accessFlags := 24, slot := 0, constantValue := 0 }, { name := "archivedCache", type := (.array (.object "java/lang/Long")), accessFlags := 8, slot := 1, constantValue := 0 }, { name := "$assertionsDisabled", type := .boolean, accessFlags := 4120, slot := 2, constantValue := 0 }]
  methods := #[k10m0]
  instanceTypes := #[]
  staticTypes := #[(.array (.object "java/lang/Long")), (.array (.object "java/lang/Long")), .boolean]
  resolved := Array.replicate 63 none
  statics := some 1 }

def pool11 : Array CpInfo := pool [(1, .methodref 2 3), (0, .class_ 4), (0, .nameAndType 5 6), (0, u "java/lang/Object"), (0, u "<init>"), (0, u "()V"), (0, .fieldref 8 9), (0, .class_ 10), (0, .nameAndType 11 12), (0, u "com/example/planwright/planwright/plan/Key"), (0, u "values"), (0, u "[Ljava/lang/Object;"), (0, .methodref 14 15), (0, .class_ 16), (0, .nameAndType 17 18), (0, u "java/util/Arrays"), (0, u "hashCode"), (0, u "([Ljava/lang/Object;)I"), (0, .fieldref 8 20), (0, .nameAndType 21 22), (0, u "hash"), (0, u "I"), (0, .methodref 8 24), (0, .nameAndType 5 25), (0, u "([Ljava/lang/Object;)V"), (0, .methodref 27 28), (0, .class_ 12), (0, .nameAndType 29 30), (0, u "clone"), (0, u "()Ljava/lang/Object;"), (6, u "of"), (0, u "([Ljava/lang/Object;)Ljava/lang/Object;"), (1, u "(Ljava/lang/Object;I)[Ljava/lang/Object;")] 4

def k11c0 : Code := { maxStack := 2, maxLocals := 2, code := prog_66_method_1_code, exceptionTable := #[], attributes := #[] }
def k11m0 : Method := { name := "<init>", desc := "([Ljava/lang/Object;)V", sig := { parameters := [(.array (.object "java/lang/Object"))], returnType := none }, accessFlags := 2, code := some k11c0 }
def k11c1 : Code := { maxStack := 3, maxLocals := 1, code := prog_66_method_2_code, exceptionTable := #[], attributes := #[] }
def k11m1 : Method := { name := "of", desc := "([Ljava/lang/Object;)Ljava/lang/Object;", sig := { parameters := [(.array (.object "java/lang/Object"))], returnType := some (.object "java/lang/Object") }, accessFlags := 8, code := some k11c1 }
def k11c2 : Code := { maxStack := 4, maxLocals := 2, code := prog_66_method_3_code, exceptionTable := #[], attributes := #[] }
def k11m2 : Method := { name := "values", desc := "(Ljava/lang/Object;I)[Ljava/lang/Object;", sig := { parameters := [(.object "java/lang/Object"), .int], returnType := some (.array (.object "java/lang/Object")) }, accessFlags := 8, code := some k11c2 }
/-- com/example/planwright/planwright/plan/Key -/
def k11 : Class := { plain "com/example/planwright/planwright/plan/Key" (some 0) with
  accessFlags := 48
  interfaces := #[]
  cf := some (fileOf pool11 8 #[] #[{ accessFlags := 2, nameIndex := 5, descriptorIndex := 25, attributes := #[] }, { accessFlags := 8, nameIndex := 37, descriptorIndex := 38, attributes := #[] }, { accessFlags := 8, nameIndex := 11, descriptorIndex := 40, attributes := #[] }] 48 2 #[] #[{ accessFlags := 18, nameIndex := 11, descriptorIndex := 12, attributes := #[] }, { accessFlags := 18, nameIndex := 21, descriptorIndex := 22, attributes := #[] }])
  fields := #[{ name := "values", type := (.array (.object "java/lang/Object")), accessFlags := 18, slot := 0, constantValue := 0 }, { name := "hash", type := .int, accessFlags := 18, slot := 1, constantValue := 0 }]
  methods := #[k11m0, k11m1, k11m2]
  instanceTypes := #[(.array (.object "java/lang/Object")), .int]
  staticTypes := #[]
  resolved := Array.replicate 45 none
  statics := none }

def pool12 : Array CpInfo := pool [(2, .class_ 4), (1, u "java/lang/Object"), (0, u "<init>"), (0, u "()V"), (7, .class_ 16), (1, u "java/util/Arrays"), (25, u "()I"), (31, .class_ 76), (1, u "java/util/Arrays$NaturalOrder"), (36, .class_ 115), (1, u "java/util/Arrays$LegacyMergeSort"), (1, u "Z"), (257, .class_ 376), (0, u "java/util/Arrays$ArrayList"), (6, .methodref 2 384), (0, .nameAndType 385 42), (0, u "hashCode"), (3, u "([Ljava/lang/Object;)I"), (55, u "$assertionsDisabled"), (269, u "MIN_ARRAY_SORT_GRAN"), (0, u "I"), (2, u "INSERTIONSORT_THRESHOLD"), (255, .class_ 976), (0, u "java/util/Arrays$ArrayItr")] 52

def k12m0 : Method := { name := "<init>", desc := "()V", sig := { parameters := [], returnType := none }, accessFlags := 2, code := none }
def k12c1 : Code := { maxStack := 2, maxLocals := 6, code := jdk_65_method_157_code, exceptionTable := #[], attributes := #[] }
def k12m1 : Method := { name := "hashCode", desc := "([Ljava/lang/Object;)I", sig := { parameters := [(.array (.object "java/lang/Object"))], returnType := some .int }, accessFlags := 9, code := some k12c1 }
/-- java/util/Arrays -/
def k12 : Class := { plain "java/util/Arrays" (some 0) with
  accessFlags := 49
  interfaces := #[]
  cf := some (fileOf pool12 14 #[.nestMembers #[975, 375, 113, 74]] #[{ accessFlags := 2, nameIndex := 5, descriptorIndex := 6, attributes := #[] }, { accessFlags := 9, nameIndex := 385, descriptorIndex := 389, attributes := #[] }] 49 2 #[] #[{ accessFlags := 26, nameIndex := 715, descriptorIndex := 716, attributes := #[] }, { accessFlags := 26, nameIndex := 719, descriptorIndex := 716, attributes := #[] }, { accessFlags := 4120, nameIndex := 445, descriptorIndex := 117, attributes := #[] }])
  fields := #[{ name := "MIN_ARRAY_SORT_GRAN", type := .int, accessFlags := 26, slot := 0, constantValue := 0 }, { name := "INSERTIONSORT_THRESHOLD", type := .int, accessFlags := 26, slot := 1, constantValue := 0 }, { name := "$assertionsDisabled", type := .boolean, accessFlags := 4120, slot := 2, constantValue := 0 }]
  methods := #[k12m0, k12m1]
  instanceTypes := #[]
  staticTypes := #[.int, .int, .boolean]
  resolved := Array.replicate 1029 none
  statics := none }

def pool13 : Array CpInfo := pool [(1, .class_ 2), (0, u "java/lang/Cloneable"), (0, .class_ 4), (0, u "java/lang/Object")] 2

/-- java/lang/Cloneable -/
def k13 : Class := { plain "java/lang/Cloneable" (some 0) with
  accessFlags := 1537
  interfaces := #[]
  cf := some (fileOf pool13 1 #[] #[] 1537 3 #[] #[])
  fields := #[]
  methods := #[]
  instanceTypes := #[]
  staticTypes := #[]
  resolved := Array.replicate 7 none
  statics := none }

/-- the primitive byte -/
def k14 : Class := { plain "byte" none with kind := .primitive 'B', accessFlags := 0x411 }
/-- [B -/
def k15 : Class := { plain "[B" (some 0) with kind := .array 14 .byte, interfaces := #[13, 2], accessFlags := 1041 }

/-- the primitive int -/
def k16 : Class := { plain "int" none with kind := .primitive 'I', accessFlags := 0x411 }
/-- [I -/
def k17 : Class := { plain "[I" (some 0) with kind := .array 16 .int, interfaces := #[13, 2], accessFlags := 1041 }

/-- [Ljava/lang/Integer; -/
def k18 : Class := { plain "[Ljava/lang/Integer;" (some 0) with kind := .array 7 (.object "java/lang/Integer"), interfaces := #[13, 2], accessFlags := 1041 }

/-- [Ljava/lang/Long; -/
def k19 : Class := { plain "[Ljava/lang/Long;" (some 0) with kind := .array 9 (.object "java/lang/Long"), interfaces := #[13, 2], accessFlags := 1041 }

/-- [Ljava/lang/Object; -/
def k20 : Class := { plain "[Ljava/lang/Object;" (some 0) with kind := .array 0 (.object "java/lang/Object"), interfaces := #[13, 2], accessFlags := 1041 }

def heap : Heap := #[{ cls := 8, slots := #[.int 0, .int 127, .ref 2, .null, .int 0], vm := .statics 8 },
  { cls := 10, slots := #[.ref 3, .null, .int 0], vm := .statics 10 },
  { cls := 18, slots := #[.ref 4, .ref 5, .ref 6, .ref 7, .ref 8, .ref 9, .ref 10, .ref 11, .ref 12, .ref 13, .ref 14, .ref 15, .ref 16, .ref 17, .ref 18, .ref 19, .ref 20, .ref 21, .ref 22, .ref 23, .ref 24, .ref 25, .ref 26, .ref 27, .ref 28, .ref 29, .ref 30, .ref 31, .ref 32, .ref 33, .ref 34, .ref 35, .ref 36, .ref 37, .ref 38, .ref 39, .ref 40, .ref 41, .ref 42, .ref 43, .ref 44, .ref 45, .ref 46, .ref 47, .ref 48, .ref 49, .ref 50, .ref 51, .ref 52, .ref 53, .ref 54, .ref 55, .ref 56, .ref 57, .ref 58, .ref 59, .ref 60, .ref 61, .ref 62, .ref 63, .ref 64, .ref 65, .ref 66, .ref 67, .ref 68, .ref 69, .ref 70, .ref 71, .ref 72, .ref 73, .ref 74, .ref 75, .ref 76, .ref 77, .ref 78, .ref 79, .ref 80, .ref 81, .ref 82, .ref 83, .ref 84, .ref 85, .ref 86, .ref 87, .ref 88, .ref 89, .ref 90, .ref 91, .ref 92, .ref 93, .ref 94, .ref 95, .ref 96, .ref 97, .ref 98, .ref 99, .ref 100, .ref 101, .ref 102, .ref 103, .ref 104, .ref 105, .ref 106, .ref 107, .ref 108, .ref 109, .ref 110, .ref 111, .ref 112, .ref 113, .ref 114, .ref 115, .ref 116, .ref 117, .ref 118, .ref 119, .ref 120, .ref 121, .ref 122, .ref 123, .ref 124, .ref 125, .ref 126, .ref 127, .ref 128, .ref 129, .ref 130, .ref 131, .ref 132, .ref 133, .ref 134, .ref 135, .ref 136, .ref 137, .ref 138, .ref 139, .ref 140, .ref 141, .ref 142, .ref 143, .ref 144, .ref 145, .ref 146, .ref 147, .ref 148, .ref 149, .ref 150, .ref 151, .ref 152, .ref 153, .ref 154, .ref 155, .ref 156, .ref 157, .ref 158, .ref 159, .ref 160, .ref 161, .ref 162, .ref 163, .ref 164, .ref 165, .ref 166, .ref 167, .ref 168, .ref 169, .ref 170, .ref 171, .ref 172, .ref 173, .ref 174, .ref 175, .ref 176, .ref 177, .ref 178, .ref 179, .ref 180, .ref 181, .ref 182, .ref 183, .ref 184, .ref 185, .ref 186, .ref 187, .ref 188, .ref 189, .ref 190, .ref 191, .ref 192, .ref 193, .ref 194, .ref 195, .ref 196, .ref 197, .ref 198, .ref 199, .ref 200, .ref 201, .ref 202, .ref 203, .ref 204, .ref 205, .ref 206, .ref 207, .ref 208, .ref 209, .ref 210, .ref 211, .ref 212, .ref 213, .ref 214, .ref 215, .ref 216, .ref 217, .ref 218, .ref 219, .ref 220, .ref 221, .ref 222, .ref 223, .ref 224, .ref 225, .ref 226, .ref 227, .ref 228, .ref 229, .ref 230, .ref 231, .ref 232, .ref 233, .ref 234, .ref 235, .ref 236, .ref 237, .ref 238, .ref 239, .ref 240, .ref 241, .ref 242, .ref 243, .ref 244, .ref 245, .ref 246, .ref 247, .ref 248, .ref 249, .ref 250, .ref 251, .ref 252, .ref 253, .ref 254, .ref 255, .ref 256, .ref 257, .ref 258, .ref 259], vm := .none },
  { cls := 19, slots := #[.ref 260, .ref 261, .ref 262, .ref 263, .ref 264, .ref 265, .ref 266, .ref 267, .ref 268, .ref 269, .ref 270, .ref 271, .ref 272, .ref 273, .ref 274, .ref 275, .ref 276, .ref 277, .ref 278, .ref 279, .ref 280, .ref 281, .ref 282, .ref 283, .ref 284, .ref 285, .ref 286, .ref 287, .ref 288, .ref 289, .ref 290, .ref 291, .ref 292, .ref 293, .ref 294, .ref 295, .ref 296, .ref 297, .ref 298, .ref 299, .ref 300, .ref 301, .ref 302, .ref 303, .ref 304, .ref 305, .ref 306, .ref 307, .ref 308, .ref 309, .ref 310, .ref 311, .ref 312, .ref 313, .ref 314, .ref 315, .ref 316, .ref 317, .ref 318, .ref 319, .ref 320, .ref 321, .ref 322, .ref 323, .ref 324, .ref 325, .ref 326, .ref 327, .ref 328, .ref 329, .ref 330, .ref 331, .ref 332, .ref 333, .ref 334, .ref 335, .ref 336, .ref 337, .ref 338, .ref 339, .ref 340, .ref 341, .ref 342, .ref 343, .ref 344, .ref 345, .ref 346, .ref 347, .ref 348, .ref 349, .ref 350, .ref 351, .ref 352, .ref 353, .ref 354, .ref 355, .ref 356, .ref 357, .ref 358, .ref 359, .ref 360, .ref 361, .ref 362, .ref 363, .ref 364, .ref 365, .ref 366, .ref 367, .ref 368, .ref 369, .ref 370, .ref 371, .ref 372, .ref 373, .ref 374, .ref 375, .ref 376, .ref 377, .ref 378, .ref 379, .ref 380, .ref 381, .ref 382, .ref 383, .ref 384, .ref 385, .ref 386, .ref 387, .ref 388, .ref 389, .ref 390, .ref 391, .ref 392, .ref 393, .ref 394, .ref 395, .ref 396, .ref 397, .ref 398, .ref 399, .ref 400, .ref 401, .ref 402, .ref 403, .ref 404, .ref 405, .ref 406, .ref 407, .ref 408, .ref 409, .ref 410, .ref 411, .ref 412, .ref 413, .ref 414, .ref 415, .ref 416, .ref 417, .ref 418, .ref 419, .ref 420, .ref 421, .ref 422, .ref 423, .ref 424, .ref 425, .ref 426, .ref 427, .ref 428, .ref 429, .ref 430, .ref 431, .ref 432, .ref 433, .ref 434, .ref 435, .ref 436, .ref 437, .ref 438, .ref 439, .ref 440, .ref 441, .ref 442, .ref 443, .ref 444, .ref 445, .ref 446, .ref 447, .ref 448, .ref 449, .ref 450, .ref 451, .ref 452, .ref 453, .ref 454, .ref 455, .ref 456, .ref 457, .ref 458, .ref 459, .ref 460, .ref 461, .ref 462, .ref 463, .ref 464, .ref 465, .ref 466, .ref 467, .ref 468, .ref 469, .ref 470, .ref 471, .ref 472, .ref 473, .ref 474, .ref 475, .ref 476, .ref 477, .ref 478, .ref 479, .ref 480, .ref 481, .ref 482, .ref 483, .ref 484, .ref 485, .ref 486, .ref 487, .ref 488, .ref 489, .ref 490, .ref 491, .ref 492, .ref 493, .ref 494, .ref 495, .ref 496, .ref 497, .ref 498, .ref 499, .ref 500, .ref 501, .ref 502, .ref 503, .ref 504, .ref 505, .ref 506, .ref 507, .ref 508, .ref 509, .ref 510, .ref 511, .ref 512, .ref 513, .ref 514, .ref 515], vm := .none },
  { cls := 7, slots := #[.int (-128)], vm := .none },
  { cls := 7, slots := #[.int (-127)], vm := .none },
  { cls := 7, slots := #[.int (-126)], vm := .none },
  { cls := 7, slots := #[.int (-125)], vm := .none },
  { cls := 7, slots := #[.int (-124)], vm := .none },
  { cls := 7, slots := #[.int (-123)], vm := .none },
  { cls := 7, slots := #[.int (-122)], vm := .none },
  { cls := 7, slots := #[.int (-121)], vm := .none },
  { cls := 7, slots := #[.int (-120)], vm := .none },
  { cls := 7, slots := #[.int (-119)], vm := .none },
  { cls := 7, slots := #[.int (-118)], vm := .none },
  { cls := 7, slots := #[.int (-117)], vm := .none },
  { cls := 7, slots := #[.int (-116)], vm := .none },
  { cls := 7, slots := #[.int (-115)], vm := .none },
  { cls := 7, slots := #[.int (-114)], vm := .none },
  { cls := 7, slots := #[.int (-113)], vm := .none },
  { cls := 7, slots := #[.int (-112)], vm := .none },
  { cls := 7, slots := #[.int (-111)], vm := .none },
  { cls := 7, slots := #[.int (-110)], vm := .none },
  { cls := 7, slots := #[.int (-109)], vm := .none },
  { cls := 7, slots := #[.int (-108)], vm := .none },
  { cls := 7, slots := #[.int (-107)], vm := .none },
  { cls := 7, slots := #[.int (-106)], vm := .none },
  { cls := 7, slots := #[.int (-105)], vm := .none },
  { cls := 7, slots := #[.int (-104)], vm := .none },
  { cls := 7, slots := #[.int (-103)], vm := .none },
  { cls := 7, slots := #[.int (-102)], vm := .none },
  { cls := 7, slots := #[.int (-101)], vm := .none },
  { cls := 7, slots := #[.int (-100)], vm := .none },
  { cls := 7, slots := #[.int (-99)], vm := .none },
  { cls := 7, slots := #[.int (-98)], vm := .none },
  { cls := 7, slots := #[.int (-97)], vm := .none },
  { cls := 7, slots := #[.int (-96)], vm := .none },
  { cls := 7, slots := #[.int (-95)], vm := .none },
  { cls := 7, slots := #[.int (-94)], vm := .none },
  { cls := 7, slots := #[.int (-93)], vm := .none },
  { cls := 7, slots := #[.int (-92)], vm := .none },
  { cls := 7, slots := #[.int (-91)], vm := .none },
  { cls := 7, slots := #[.int (-90)], vm := .none },
  { cls := 7, slots := #[.int (-89)], vm := .none },
  { cls := 7, slots := #[.int (-88)], vm := .none },
  { cls := 7, slots := #[.int (-87)], vm := .none },
  { cls := 7, slots := #[.int (-86)], vm := .none },
  { cls := 7, slots := #[.int (-85)], vm := .none },
  { cls := 7, slots := #[.int (-84)], vm := .none },
  { cls := 7, slots := #[.int (-83)], vm := .none },
  { cls := 7, slots := #[.int (-82)], vm := .none },
  { cls := 7, slots := #[.int (-81)], vm := .none },
  { cls := 7, slots := #[.int (-80)], vm := .none },
  { cls := 7, slots := #[.int (-79)], vm := .none },
  { cls := 7, slots := #[.int (-78)], vm := .none },
  { cls := 7, slots := #[.int (-77)], vm := .none },
  { cls := 7, slots := #[.int (-76)], vm := .none },
  { cls := 7, slots := #[.int (-75)], vm := .none },
  { cls := 7, slots := #[.int (-74)], vm := .none },
  { cls := 7, slots := #[.int (-73)], vm := .none },
  { cls := 7, slots := #[.int (-72)], vm := .none },
  { cls := 7, slots := #[.int (-71)], vm := .none },
  { cls := 7, slots := #[.int (-70)], vm := .none },
  { cls := 7, slots := #[.int (-69)], vm := .none },
  { cls := 7, slots := #[.int (-68)], vm := .none },
  { cls := 7, slots := #[.int (-67)], vm := .none },
  { cls := 7, slots := #[.int (-66)], vm := .none },
  { cls := 7, slots := #[.int (-65)], vm := .none },
  { cls := 7, slots := #[.int (-64)], vm := .none },
  { cls := 7, slots := #[.int (-63)], vm := .none },
  { cls := 7, slots := #[.int (-62)], vm := .none },
  { cls := 7, slots := #[.int (-61)], vm := .none },
  { cls := 7, slots := #[.int (-60)], vm := .none },
  { cls := 7, slots := #[.int (-59)], vm := .none },
  { cls := 7, slots := #[.int (-58)], vm := .none },
  { cls := 7, slots := #[.int (-57)], vm := .none },
  { cls := 7, slots := #[.int (-56)], vm := .none },
  { cls := 7, slots := #[.int (-55)], vm := .none },
  { cls := 7, slots := #[.int (-54)], vm := .none },
  { cls := 7, slots := #[.int (-53)], vm := .none },
  { cls := 7, slots := #[.int (-52)], vm := .none },
  { cls := 7, slots := #[.int (-51)], vm := .none },
  { cls := 7, slots := #[.int (-50)], vm := .none },
  { cls := 7, slots := #[.int (-49)], vm := .none },
  { cls := 7, slots := #[.int (-48)], vm := .none },
  { cls := 7, slots := #[.int (-47)], vm := .none },
  { cls := 7, slots := #[.int (-46)], vm := .none },
  { cls := 7, slots := #[.int (-45)], vm := .none },
  { cls := 7, slots := #[.int (-44)], vm := .none },
  { cls := 7, slots := #[.int (-43)], vm := .none },
  { cls := 7, slots := #[.int (-42)], vm := .none },
  { cls := 7, slots := #[.int (-41)], vm := .none },
  { cls := 7, slots := #[.int (-40)], vm := .none },
  { cls := 7, slots := #[.int (-39)], vm := .none },
  { cls := 7, slots := #[.int (-38)], vm := .none },
  { cls := 7, slots := #[.int (-37)], vm := .none },
  { cls := 7, slots := #[.int (-36)], vm := .none },
  { cls := 7, slots := #[.int (-35)], vm := .none },
  { cls := 7, slots := #[.int (-34)], vm := .none },
  { cls := 7, slots := #[.int (-33)], vm := .none },
  { cls := 7, slots := #[.int (-32)], vm := .none },
  { cls := 7, slots := #[.int (-31)], vm := .none },
  { cls := 7, slots := #[.int (-30)], vm := .none },
  { cls := 7, slots := #[.int (-29)], vm := .none },
  { cls := 7, slots := #[.int (-28)], vm := .none },
  { cls := 7, slots := #[.int (-27)], vm := .none },
  { cls := 7, slots := #[.int (-26)], vm := .none },
  { cls := 7, slots := #[.int (-25)], vm := .none },
  { cls := 7, slots := #[.int (-24)], vm := .none },
  { cls := 7, slots := #[.int (-23)], vm := .none },
  { cls := 7, slots := #[.int (-22)], vm := .none },
  { cls := 7, slots := #[.int (-21)], vm := .none },
  { cls := 7, slots := #[.int (-20)], vm := .none },
  { cls := 7, slots := #[.int (-19)], vm := .none },
  { cls := 7, slots := #[.int (-18)], vm := .none },
  { cls := 7, slots := #[.int (-17)], vm := .none },
  { cls := 7, slots := #[.int (-16)], vm := .none },
  { cls := 7, slots := #[.int (-15)], vm := .none },
  { cls := 7, slots := #[.int (-14)], vm := .none },
  { cls := 7, slots := #[.int (-13)], vm := .none },
  { cls := 7, slots := #[.int (-12)], vm := .none },
  { cls := 7, slots := #[.int (-11)], vm := .none },
  { cls := 7, slots := #[.int (-10)], vm := .none },
  { cls := 7, slots := #[.int (-9)], vm := .none },
  { cls := 7, slots := #[.int (-8)], vm := .none },
  { cls := 7, slots := #[.int (-7)], vm := .none },
  { cls := 7, slots := #[.int (-6)], vm := .none },
  { cls := 7, slots := #[.int (-5)], vm := .none },
  { cls := 7, slots := #[.int (-4)], vm := .none },
  { cls := 7, slots := #[.int (-3)], vm := .none },
  { cls := 7, slots := #[.int (-2)], vm := .none },
  { cls := 7, slots := #[.int (-1)], vm := .none },
  { cls := 7, slots := #[.int 0], vm := .none },
  { cls := 7, slots := #[.int 1], vm := .none },
  { cls := 7, slots := #[.int 2], vm := .none },
  { cls := 7, slots := #[.int 3], vm := .none },
  { cls := 7, slots := #[.int 4], vm := .none },
  { cls := 7, slots := #[.int 5], vm := .none },
  { cls := 7, slots := #[.int 6], vm := .none },
  { cls := 7, slots := #[.int 7], vm := .none },
  { cls := 7, slots := #[.int 8], vm := .none },
  { cls := 7, slots := #[.int 9], vm := .none },
  { cls := 7, slots := #[.int 10], vm := .none },
  { cls := 7, slots := #[.int 11], vm := .none },
  { cls := 7, slots := #[.int 12], vm := .none },
  { cls := 7, slots := #[.int 13], vm := .none },
  { cls := 7, slots := #[.int 14], vm := .none },
  { cls := 7, slots := #[.int 15], vm := .none },
  { cls := 7, slots := #[.int 16], vm := .none },
  { cls := 7, slots := #[.int 17], vm := .none },
  { cls := 7, slots := #[.int 18], vm := .none },
  { cls := 7, slots := #[.int 19], vm := .none },
  { cls := 7, slots := #[.int 20], vm := .none },
  { cls := 7, slots := #[.int 21], vm := .none },
  { cls := 7, slots := #[.int 22], vm := .none },
  { cls := 7, slots := #[.int 23], vm := .none },
  { cls := 7, slots := #[.int 24], vm := .none },
  { cls := 7, slots := #[.int 25], vm := .none },
  { cls := 7, slots := #[.int 26], vm := .none },
  { cls := 7, slots := #[.int 27], vm := .none },
  { cls := 7, slots := #[.int 28], vm := .none },
  { cls := 7, slots := #[.int 29], vm := .none },
  { cls := 7, slots := #[.int 30], vm := .none },
  { cls := 7, slots := #[.int 31], vm := .none },
  { cls := 7, slots := #[.int 32], vm := .none },
  { cls := 7, slots := #[.int 33], vm := .none },
  { cls := 7, slots := #[.int 34], vm := .none },
  { cls := 7, slots := #[.int 35], vm := .none },
  { cls := 7, slots := #[.int 36], vm := .none },
  { cls := 7, slots := #[.int 37], vm := .none },
  { cls := 7, slots := #[.int 38], vm := .none },
  { cls := 7, slots := #[.int 39], vm := .none },
  { cls := 7, slots := #[.int 40], vm := .none },
  { cls := 7, slots := #[.int 41], vm := .none },
  { cls := 7, slots := #[.int 42], vm := .none },
  { cls := 7, slots := #[.int 43], vm := .none },
  { cls := 7, slots := #[.int 44], vm := .none },
  { cls := 7, slots := #[.int 45], vm := .none },
  { cls := 7, slots := #[.int 46], vm := .none },
  { cls := 7, slots := #[.int 47], vm := .none },
  { cls := 7, slots := #[.int 48], vm := .none },
  { cls := 7, slots := #[.int 49], vm := .none },
  { cls := 7, slots := #[.int 50], vm := .none },
  { cls := 7, slots := #[.int 51], vm := .none },
  { cls := 7, slots := #[.int 52], vm := .none },
  { cls := 7, slots := #[.int 53], vm := .none },
  { cls := 7, slots := #[.int 54], vm := .none },
  { cls := 7, slots := #[.int 55], vm := .none },
  { cls := 7, slots := #[.int 56], vm := .none },
  { cls := 7, slots := #[.int 57], vm := .none },
  { cls := 7, slots := #[.int 58], vm := .none },
  { cls := 7, slots := #[.int 59], vm := .none },
  { cls := 7, slots := #[.int 60], vm := .none },
  { cls := 7, slots := #[.int 61], vm := .none },
  { cls := 7, slots := #[.int 62], vm := .none },
  { cls := 7, slots := #[.int 63], vm := .none },
  { cls := 7, slots := #[.int 64], vm := .none },
  { cls := 7, slots := #[.int 65], vm := .none },
  { cls := 7, slots := #[.int 66], vm := .none },
  { cls := 7, slots := #[.int 67], vm := .none },
  { cls := 7, slots := #[.int 68], vm := .none },
  { cls := 7, slots := #[.int 69], vm := .none },
  { cls := 7, slots := #[.int 70], vm := .none },
  { cls := 7, slots := #[.int 71], vm := .none },
  { cls := 7, slots := #[.int 72], vm := .none },
  { cls := 7, slots := #[.int 73], vm := .none },
  { cls := 7, slots := #[.int 74], vm := .none },
  { cls := 7, slots := #[.int 75], vm := .none },
  { cls := 7, slots := #[.int 76], vm := .none },
  { cls := 7, slots := #[.int 77], vm := .none },
  { cls := 7, slots := #[.int 78], vm := .none },
  { cls := 7, slots := #[.int 79], vm := .none },
  { cls := 7, slots := #[.int 80], vm := .none },
  { cls := 7, slots := #[.int 81], vm := .none },
  { cls := 7, slots := #[.int 82], vm := .none },
  { cls := 7, slots := #[.int 83], vm := .none },
  { cls := 7, slots := #[.int 84], vm := .none },
  { cls := 7, slots := #[.int 85], vm := .none },
  { cls := 7, slots := #[.int 86], vm := .none },
  { cls := 7, slots := #[.int 87], vm := .none },
  { cls := 7, slots := #[.int 88], vm := .none },
  { cls := 7, slots := #[.int 89], vm := .none },
  { cls := 7, slots := #[.int 90], vm := .none },
  { cls := 7, slots := #[.int 91], vm := .none },
  { cls := 7, slots := #[.int 92], vm := .none },
  { cls := 7, slots := #[.int 93], vm := .none },
  { cls := 7, slots := #[.int 94], vm := .none },
  { cls := 7, slots := #[.int 95], vm := .none },
  { cls := 7, slots := #[.int 96], vm := .none },
  { cls := 7, slots := #[.int 97], vm := .none },
  { cls := 7, slots := #[.int 98], vm := .none },
  { cls := 7, slots := #[.int 99], vm := .none },
  { cls := 7, slots := #[.int 100], vm := .none },
  { cls := 7, slots := #[.int 101], vm := .none },
  { cls := 7, slots := #[.int 102], vm := .none },
  { cls := 7, slots := #[.int 103], vm := .none },
  { cls := 7, slots := #[.int 104], vm := .none },
  { cls := 7, slots := #[.int 105], vm := .none },
  { cls := 7, slots := #[.int 106], vm := .none },
  { cls := 7, slots := #[.int 107], vm := .none },
  { cls := 7, slots := #[.int 108], vm := .none },
  { cls := 7, slots := #[.int 109], vm := .none },
  { cls := 7, slots := #[.int 110], vm := .none },
  { cls := 7, slots := #[.int 111], vm := .none },
  { cls := 7, slots := #[.int 112], vm := .none },
  { cls := 7, slots := #[.int 113], vm := .none },
  { cls := 7, slots := #[.int 114], vm := .none },
  { cls := 7, slots := #[.int 115], vm := .none },
  { cls := 7, slots := #[.int 116], vm := .none },
  { cls := 7, slots := #[.int 117], vm := .none },
  { cls := 7, slots := #[.int 118], vm := .none },
  { cls := 7, slots := #[.int 119], vm := .none },
  { cls := 7, slots := #[.int 120], vm := .none },
  { cls := 7, slots := #[.int 121], vm := .none },
  { cls := 7, slots := #[.int 122], vm := .none },
  { cls := 7, slots := #[.int 123], vm := .none },
  { cls := 7, slots := #[.int 124], vm := .none },
  { cls := 7, slots := #[.int 125], vm := .none },
  { cls := 7, slots := #[.int 126], vm := .none },
  { cls := 7, slots := #[.int 127], vm := .none },
  { cls := 9, slots := #[.long (-128)], vm := .none },
  { cls := 9, slots := #[.long (-127)], vm := .none },
  { cls := 9, slots := #[.long (-126)], vm := .none },
  { cls := 9, slots := #[.long (-125)], vm := .none },
  { cls := 9, slots := #[.long (-124)], vm := .none },
  { cls := 9, slots := #[.long (-123)], vm := .none },
  { cls := 9, slots := #[.long (-122)], vm := .none },
  { cls := 9, slots := #[.long (-121)], vm := .none },
  { cls := 9, slots := #[.long (-120)], vm := .none },
  { cls := 9, slots := #[.long (-119)], vm := .none },
  { cls := 9, slots := #[.long (-118)], vm := .none },
  { cls := 9, slots := #[.long (-117)], vm := .none },
  { cls := 9, slots := #[.long (-116)], vm := .none },
  { cls := 9, slots := #[.long (-115)], vm := .none },
  { cls := 9, slots := #[.long (-114)], vm := .none },
  { cls := 9, slots := #[.long (-113)], vm := .none },
  { cls := 9, slots := #[.long (-112)], vm := .none },
  { cls := 9, slots := #[.long (-111)], vm := .none },
  { cls := 9, slots := #[.long (-110)], vm := .none },
  { cls := 9, slots := #[.long (-109)], vm := .none },
  { cls := 9, slots := #[.long (-108)], vm := .none },
  { cls := 9, slots := #[.long (-107)], vm := .none },
  { cls := 9, slots := #[.long (-106)], vm := .none },
  { cls := 9, slots := #[.long (-105)], vm := .none },
  { cls := 9, slots := #[.long (-104)], vm := .none },
  { cls := 9, slots := #[.long (-103)], vm := .none },
  { cls := 9, slots := #[.long (-102)], vm := .none },
  { cls := 9, slots := #[.long (-101)], vm := .none },
  { cls := 9, slots := #[.long (-100)], vm := .none },
  { cls := 9, slots := #[.long (-99)], vm := .none },
  { cls := 9, slots := #[.long (-98)], vm := .none },
  { cls := 9, slots := #[.long (-97)], vm := .none },
  { cls := 9, slots := #[.long (-96)], vm := .none },
  { cls := 9, slots := #[.long (-95)], vm := .none },
  { cls := 9, slots := #[.long (-94)], vm := .none },
  { cls := 9, slots := #[.long (-93)], vm := .none },
  { cls := 9, slots := #[.long (-92)], vm := .none },
  { cls := 9, slots := #[.long (-91)], vm := .none },
  { cls := 9, slots := #[.long (-90)], vm := .none },
  { cls := 9, slots := #[.long (-89)], vm := .none },
  { cls := 9, slots := #[.long (-88)], vm := .none },
  { cls := 9, slots := #[.long (-87)], vm := .none },
  { cls := 9, slots := #[.long (-86)], vm := .none },
  { cls := 9, slots := #[.long (-85)], vm := .none },
  { cls := 9, slots := #[.long (-84)], vm := .none },
  { cls := 9, slots := #[.long (-83)], vm := .none },
  { cls := 9, slots := #[.long (-82)], vm := .none },
  { cls := 9, slots := #[.long (-81)], vm := .none },
  { cls := 9, slots := #[.long (-80)], vm := .none },
  { cls := 9, slots := #[.long (-79)], vm := .none },
  { cls := 9, slots := #[.long (-78)], vm := .none },
  { cls := 9, slots := #[.long (-77)], vm := .none },
  { cls := 9, slots := #[.long (-76)], vm := .none },
  { cls := 9, slots := #[.long (-75)], vm := .none },
  { cls := 9, slots := #[.long (-74)], vm := .none },
  { cls := 9, slots := #[.long (-73)], vm := .none },
  { cls := 9, slots := #[.long (-72)], vm := .none },
  { cls := 9, slots := #[.long (-71)], vm := .none },
  { cls := 9, slots := #[.long (-70)], vm := .none },
  { cls := 9, slots := #[.long (-69)], vm := .none },
  { cls := 9, slots := #[.long (-68)], vm := .none },
  { cls := 9, slots := #[.long (-67)], vm := .none },
  { cls := 9, slots := #[.long (-66)], vm := .none },
  { cls := 9, slots := #[.long (-65)], vm := .none },
  { cls := 9, slots := #[.long (-64)], vm := .none },
  { cls := 9, slots := #[.long (-63)], vm := .none },
  { cls := 9, slots := #[.long (-62)], vm := .none },
  { cls := 9, slots := #[.long (-61)], vm := .none },
  { cls := 9, slots := #[.long (-60)], vm := .none },
  { cls := 9, slots := #[.long (-59)], vm := .none },
  { cls := 9, slots := #[.long (-58)], vm := .none },
  { cls := 9, slots := #[.long (-57)], vm := .none },
  { cls := 9, slots := #[.long (-56)], vm := .none },
  { cls := 9, slots := #[.long (-55)], vm := .none },
  { cls := 9, slots := #[.long (-54)], vm := .none },
  { cls := 9, slots := #[.long (-53)], vm := .none },
  { cls := 9, slots := #[.long (-52)], vm := .none },
  { cls := 9, slots := #[.long (-51)], vm := .none },
  { cls := 9, slots := #[.long (-50)], vm := .none },
  { cls := 9, slots := #[.long (-49)], vm := .none },
  { cls := 9, slots := #[.long (-48)], vm := .none },
  { cls := 9, slots := #[.long (-47)], vm := .none },
  { cls := 9, slots := #[.long (-46)], vm := .none },
  { cls := 9, slots := #[.long (-45)], vm := .none },
  { cls := 9, slots := #[.long (-44)], vm := .none },
  { cls := 9, slots := #[.long (-43)], vm := .none },
  { cls := 9, slots := #[.long (-42)], vm := .none },
  { cls := 9, slots := #[.long (-41)], vm := .none },
  { cls := 9, slots := #[.long (-40)], vm := .none },
  { cls := 9, slots := #[.long (-39)], vm := .none },
  { cls := 9, slots := #[.long (-38)], vm := .none },
  { cls := 9, slots := #[.long (-37)], vm := .none },
  { cls := 9, slots := #[.long (-36)], vm := .none },
  { cls := 9, slots := #[.long (-35)], vm := .none },
  { cls := 9, slots := #[.long (-34)], vm := .none },
  { cls := 9, slots := #[.long (-33)], vm := .none },
  { cls := 9, slots := #[.long (-32)], vm := .none },
  { cls := 9, slots := #[.long (-31)], vm := .none },
  { cls := 9, slots := #[.long (-30)], vm := .none },
  { cls := 9, slots := #[.long (-29)], vm := .none },
  { cls := 9, slots := #[.long (-28)], vm := .none },
  { cls := 9, slots := #[.long (-27)], vm := .none },
  { cls := 9, slots := #[.long (-26)], vm := .none },
  { cls := 9, slots := #[.long (-25)], vm := .none },
  { cls := 9, slots := #[.long (-24)], vm := .none },
  { cls := 9, slots := #[.long (-23)], vm := .none },
  { cls := 9, slots := #[.long (-22)], vm := .none },
  { cls := 9, slots := #[.long (-21)], vm := .none },
  { cls := 9, slots := #[.long (-20)], vm := .none },
  { cls := 9, slots := #[.long (-19)], vm := .none },
  { cls := 9, slots := #[.long (-18)], vm := .none },
  { cls := 9, slots := #[.long (-17)], vm := .none },
  { cls := 9, slots := #[.long (-16)], vm := .none },
  { cls := 9, slots := #[.long (-15)], vm := .none },
  { cls := 9, slots := #[.long (-14)], vm := .none },
  { cls := 9, slots := #[.long (-13)], vm := .none },
  { cls := 9, slots := #[.long (-12)], vm := .none },
  { cls := 9, slots := #[.long (-11)], vm := .none },
  { cls := 9, slots := #[.long (-10)], vm := .none },
  { cls := 9, slots := #[.long (-9)], vm := .none },
  { cls := 9, slots := #[.long (-8)], vm := .none },
  { cls := 9, slots := #[.long (-7)], vm := .none },
  { cls := 9, slots := #[.long (-6)], vm := .none },
  { cls := 9, slots := #[.long (-5)], vm := .none },
  { cls := 9, slots := #[.long (-4)], vm := .none },
  { cls := 9, slots := #[.long (-3)], vm := .none },
  { cls := 9, slots := #[.long (-2)], vm := .none },
  { cls := 9, slots := #[.long (-1)], vm := .none },
  { cls := 9, slots := #[.long 0], vm := .none },
  { cls := 9, slots := #[.long 1], vm := .none },
  { cls := 9, slots := #[.long 2], vm := .none },
  { cls := 9, slots := #[.long 3], vm := .none },
  { cls := 9, slots := #[.long 4], vm := .none },
  { cls := 9, slots := #[.long 5], vm := .none },
  { cls := 9, slots := #[.long 6], vm := .none },
  { cls := 9, slots := #[.long 7], vm := .none },
  { cls := 9, slots := #[.long 8], vm := .none },
  { cls := 9, slots := #[.long 9], vm := .none },
  { cls := 9, slots := #[.long 10], vm := .none },
  { cls := 9, slots := #[.long 11], vm := .none },
  { cls := 9, slots := #[.long 12], vm := .none },
  { cls := 9, slots := #[.long 13], vm := .none },
  { cls := 9, slots := #[.long 14], vm := .none },
  { cls := 9, slots := #[.long 15], vm := .none },
  { cls := 9, slots := #[.long 16], vm := .none },
  { cls := 9, slots := #[.long 17], vm := .none },
  { cls := 9, slots := #[.long 18], vm := .none },
  { cls := 9, slots := #[.long 19], vm := .none },
  { cls := 9, slots := #[.long 20], vm := .none },
  { cls := 9, slots := #[.long 21], vm := .none },
  { cls := 9, slots := #[.long 22], vm := .none },
  { cls := 9, slots := #[.long 23], vm := .none },
  { cls := 9, slots := #[.long 24], vm := .none },
  { cls := 9, slots := #[.long 25], vm := .none },
  { cls := 9, slots := #[.long 26], vm := .none },
  { cls := 9, slots := #[.long 27], vm := .none },
  { cls := 9, slots := #[.long 28], vm := .none },
  { cls := 9, slots := #[.long 29], vm := .none },
  { cls := 9, slots := #[.long 30], vm := .none },
  { cls := 9, slots := #[.long 31], vm := .none },
  { cls := 9, slots := #[.long 32], vm := .none },
  { cls := 9, slots := #[.long 33], vm := .none },
  { cls := 9, slots := #[.long 34], vm := .none },
  { cls := 9, slots := #[.long 35], vm := .none },
  { cls := 9, slots := #[.long 36], vm := .none },
  { cls := 9, slots := #[.long 37], vm := .none },
  { cls := 9, slots := #[.long 38], vm := .none },
  { cls := 9, slots := #[.long 39], vm := .none },
  { cls := 9, slots := #[.long 40], vm := .none },
  { cls := 9, slots := #[.long 41], vm := .none },
  { cls := 9, slots := #[.long 42], vm := .none },
  { cls := 9, slots := #[.long 43], vm := .none },
  { cls := 9, slots := #[.long 44], vm := .none },
  { cls := 9, slots := #[.long 45], vm := .none },
  { cls := 9, slots := #[.long 46], vm := .none },
  { cls := 9, slots := #[.long 47], vm := .none },
  { cls := 9, slots := #[.long 48], vm := .none },
  { cls := 9, slots := #[.long 49], vm := .none },
  { cls := 9, slots := #[.long 50], vm := .none },
  { cls := 9, slots := #[.long 51], vm := .none },
  { cls := 9, slots := #[.long 52], vm := .none },
  { cls := 9, slots := #[.long 53], vm := .none },
  { cls := 9, slots := #[.long 54], vm := .none },
  { cls := 9, slots := #[.long 55], vm := .none },
  { cls := 9, slots := #[.long 56], vm := .none },
  { cls := 9, slots := #[.long 57], vm := .none },
  { cls := 9, slots := #[.long 58], vm := .none },
  { cls := 9, slots := #[.long 59], vm := .none },
  { cls := 9, slots := #[.long 60], vm := .none },
  { cls := 9, slots := #[.long 61], vm := .none },
  { cls := 9, slots := #[.long 62], vm := .none },
  { cls := 9, slots := #[.long 63], vm := .none },
  { cls := 9, slots := #[.long 64], vm := .none },
  { cls := 9, slots := #[.long 65], vm := .none },
  { cls := 9, slots := #[.long 66], vm := .none },
  { cls := 9, slots := #[.long 67], vm := .none },
  { cls := 9, slots := #[.long 68], vm := .none },
  { cls := 9, slots := #[.long 69], vm := .none },
  { cls := 9, slots := #[.long 70], vm := .none },
  { cls := 9, slots := #[.long 71], vm := .none },
  { cls := 9, slots := #[.long 72], vm := .none },
  { cls := 9, slots := #[.long 73], vm := .none },
  { cls := 9, slots := #[.long 74], vm := .none },
  { cls := 9, slots := #[.long 75], vm := .none },
  { cls := 9, slots := #[.long 76], vm := .none },
  { cls := 9, slots := #[.long 77], vm := .none },
  { cls := 9, slots := #[.long 78], vm := .none },
  { cls := 9, slots := #[.long 79], vm := .none },
  { cls := 9, slots := #[.long 80], vm := .none },
  { cls := 9, slots := #[.long 81], vm := .none },
  { cls := 9, slots := #[.long 82], vm := .none },
  { cls := 9, slots := #[.long 83], vm := .none },
  { cls := 9, slots := #[.long 84], vm := .none },
  { cls := 9, slots := #[.long 85], vm := .none },
  { cls := 9, slots := #[.long 86], vm := .none },
  { cls := 9, slots := #[.long 87], vm := .none },
  { cls := 9, slots := #[.long 88], vm := .none },
  { cls := 9, slots := #[.long 89], vm := .none },
  { cls := 9, slots := #[.long 90], vm := .none },
  { cls := 9, slots := #[.long 91], vm := .none },
  { cls := 9, slots := #[.long 92], vm := .none },
  { cls := 9, slots := #[.long 93], vm := .none },
  { cls := 9, slots := #[.long 94], vm := .none },
  { cls := 9, slots := #[.long 95], vm := .none },
  { cls := 9, slots := #[.long 96], vm := .none },
  { cls := 9, slots := #[.long 97], vm := .none },
  { cls := 9, slots := #[.long 98], vm := .none },
  { cls := 9, slots := #[.long 99], vm := .none },
  { cls := 9, slots := #[.long 100], vm := .none },
  { cls := 9, slots := #[.long 101], vm := .none },
  { cls := 9, slots := #[.long 102], vm := .none },
  { cls := 9, slots := #[.long 103], vm := .none },
  { cls := 9, slots := #[.long 104], vm := .none },
  { cls := 9, slots := #[.long 105], vm := .none },
  { cls := 9, slots := #[.long 106], vm := .none },
  { cls := 9, slots := #[.long 107], vm := .none },
  { cls := 9, slots := #[.long 108], vm := .none },
  { cls := 9, slots := #[.long 109], vm := .none },
  { cls := 9, slots := #[.long 110], vm := .none },
  { cls := 9, slots := #[.long 111], vm := .none },
  { cls := 9, slots := #[.long 112], vm := .none },
  { cls := 9, slots := #[.long 113], vm := .none },
  { cls := 9, slots := #[.long 114], vm := .none },
  { cls := 9, slots := #[.long 115], vm := .none },
  { cls := 9, slots := #[.long 116], vm := .none },
  { cls := 9, slots := #[.long 117], vm := .none },
  { cls := 9, slots := #[.long 118], vm := .none },
  { cls := 9, slots := #[.long 119], vm := .none },
  { cls := 9, slots := #[.long 120], vm := .none },
  { cls := 9, slots := #[.long 121], vm := .none },
  { cls := 9, slots := #[.long 122], vm := .none },
  { cls := 9, slots := #[.long 123], vm := .none },
  { cls := 9, slots := #[.long 124], vm := .none },
  { cls := 9, slots := #[.long 125], vm := .none },
  { cls := 9, slots := #[.long 126], vm := .none },
  { cls := 9, slots := #[.long 127], vm := .none }]
def classes : Array Class := #[k0, k1, k2, k3, k4, k5, k6, k7, k8, k9, k10, k11, k12, k13, k14, k15, k16, k17, k18, k19, k20]
def interned : List (Array UInt16 × Addr) := []
def slotsUsed : Nat := 1032
def theMethod : MethodId := ⟨1, 1⟩
def args0 : Array Value := #[.int 5, .int 7, .int 6, .int 9]
def aboutOver (below : List Frame) : State where
  vm := { classes := classes, interned := interned.toArray }
  heap := heap
  slotsUsed := slotsUsed
  threads := #[{ frames := .invoking theMethod args0 :: below }]
def below0 : List Frame := [.native { method := ⟨0, 0⟩, args := #[] }]
def about1 : State := aboutOver below0
def p0 : Program := .bare "" "" ""
def e0 : Env := launch0.env 0 0 0
theorem w_frames : about1.frames = Frame.invoking theMethod args0 :: below0 := rfl
set_option maxRecDepth 65536 in
theorem w_args : argsFit about1.vm theMethod args0 = true := by decide +kernel
set_option maxRecDepth 65536 in
theorem w_heap : heapFits about1 = true := by decide +kernel
set_option maxRecDepth 65536 in
theorem w_runnable : about1.curStatus? = some .runnable := by decide +kernel
set_option maxRecDepth 65536 in
theorem w_alone : about1.alone = true := by decide +kernel
set_option maxRecDepth 65536 in
theorem w_named : about1.methodNamed? x = some theMethod := by decide +kernel
set_option maxRecDepth 65536 in
theorem w_hears : about1.hears theMethod below0 = true := by decide +kernel
set_option maxRecDepth 65536 in
theorem w_ripe : about1.ripe theMethod args0 below0 = true := by decide +kernel
theorem w_running : about1.status = .running := rfl
set_option maxRecDepth 65536 in
theorem w_room : about1.hasRoom e0.platform room_1 = true :=
  launch0.hasRoom_least _ room_1 (by decide +kernel) (by decide +kernel) (by decide +kernel) (by decide +kernel) (by decide +kernel) (by decide +kernel)
theorem allAtoms_all (ts : List Jvm.Cond) (a : Array Jvm.Value) (st : Jvm.State) : (allAtoms ts).before a st = ts.all (fun c => c.before a st) := by
  induction ts with
  | nil => rfl
  | cons c t ih =>
    show (Jvm.Cond.and c (allAtoms t)).before a st = _
    rw [Jvm.Cond.before_and, ih, List.all_cons]
def words1 : List Jvm.Cond := Jvm.Cond.code x code maxLocals ret :: tables_1
/-- a 'code' word, met by the world's own term for the bytes: nothing is compared byte by byte -/
theorem code_word {y : MethodName} {bytes : ByteArray} {mx : Nat} {rt : Option FieldType} {a : Array Value} {s : State} {m : MethodId} {meth : Method} {c : Code} (h1 : s.methodNamed? y = some m) (h2 : s.vm.method? m = some meth) (h3 : meth.code = some c) (h4 : c.code = bytes)
    (h5 : (c.maxLocals == mx && c.exceptionTable.isEmpty && decide (c.maxStack ≤ mostOperands) && decide (meth.sig.returnType = rt) && !meth.locks && decide (parseMethodDescriptor y.desc = some meth.sig)) = true) : (Jvm.Cond.code y bytes mx rt).before a s = true := by
  simp only [Bool.and_eq_true, beq_iff_eq, Bool.not_eq_true', decide_eq_true_eq] at h5
  obtain ⟨⟨⟨⟨⟨g1, g2⟩, g3⟩, g4⟩, g5⟩, g6⟩ := h5
  simp [Cond.before, Cond.holds, Cond.value, h1, h2, h3, h4, g1, g2, g3, g4, g5, g6]
def isCode : Jvm.Cond → Bool
  | .code _ _ _ _ => true
  | _ => false
theorem all_split {L : List Jvm.Cond} {P : Jvm.Cond → Bool} (h1 : L.all (fun c => isCode c || P c) = true) (h2 : ∀ c ∈ L.filter isCode, P c = true) : L.all P = true := by
  refine List.all_eq_true.mpr fun c hc => ?_
  have h := List.all_eq_true.mp h1 c hc
  rcases Bool.eq_false_or_eq_true (isCode c) with hi | hi
  · exact h2 c (List.mem_filter.mpr ⟨hc, hi⟩)
  · simpa [hi] using h
set_option maxRecDepth 65536 in
theorem w_c0 : (Jvm.Cond.code x code maxLocals ret).before args0 about1 = true := code_word (m := ⟨1, 1⟩) (meth := k1m1) (c := k1c1) (by decide +kernel) rfl rfl rfl (by decide +kernel)
set_option maxRecDepth 65536 in
theorem w_c1 : (Jvm.Cond.code ({ cls := "java/lang/Integer", name := "valueOf", desc := "(I)Ljava/lang/Integer;" } : Jvm.MethodName) jdk_33_method_22_code (1 : Nat) (Option.some (Jvm.ClassFile.FieldType.object "java/lang/Integer"))).before args0 about1 = true := code_word (m := ⟨7, 0⟩) (meth := k7m0) (c := k7c0) (by decide +kernel) rfl rfl rfl (by decide +kernel)
set_option maxRecDepth 65536 in
theorem w_c2 : (Jvm.Cond.code ({ cls := "java/lang/Long", name := "valueOf", desc := "(J)Ljava/lang/Long;" } : Jvm.MethodName) jdk_35_method_24_code (3 : Nat) (Option.some (Jvm.ClassFile.FieldType.object "java/lang/Long"))).before args0 about1 = true := code_word (m := ⟨9, 0⟩) (meth := k9m0) (c := k9c0) (by decide +kernel) rfl rfl rfl (by decide +kernel)
set_option maxRecDepth 65536 in
theorem w_c3 : (Jvm.Cond.code ({ cls := "com/example/planwright/planwright/plan/Key", name := "of", desc := "([Ljava/lang/Object;)Ljava/lang/Object;" } : Jvm.MethodName) prog_66_method_2_code (1 : Nat) (Option.some (Jvm.ClassFile.FieldType.object "java/lang/Object"))).before args0 about1 = true := code_word (m := ⟨11, 1⟩) (meth := k11m1) (c := k11c1) (by decide +kernel) rfl rfl rfl (by decide +kernel)
set_option maxRecDepth 65536 in
theorem w_c4 : (Jvm.Cond.code ({ cls := "com/example/planwright/planwright/plan/Key", name := "<init>", desc := "([Ljava/lang/Object;)V" } : Jvm.MethodName) prog_66_method_1_code (2 : Nat) (Option.none : Option Jvm.ClassFile.FieldType)).before args0 about1 = true := code_word (m := ⟨11, 0⟩) (meth := k11m0) (c := k11c0) (by decide +kernel) rfl rfl rfl (by decide +kernel)
set_option maxRecDepth 65536 in
theorem w_c5 : (Jvm.Cond.code ({ cls := "java/lang/Object", name := "<init>", desc := "()V" } : Jvm.MethodName) object_method_1_code (1 : Nat) (Option.none : Option Jvm.ClassFile.FieldType)).before args0 about1 = true := code_word (m := ⟨0, 0⟩) (meth := k0m0) (c := k0c0) (by decide +kernel) rfl rfl rfl (by decide +kernel)
set_option maxRecDepth 65536 in
theorem w_c6 : (Jvm.Cond.code ({ cls := "java/util/Arrays", name := "hashCode", desc := "([Ljava/lang/Object;)I" } : Jvm.MethodName) jdk_65_method_157_code (6 : Nat) (Option.some Jvm.ClassFile.FieldType.int)).before args0 about1 = true := code_word (m := ⟨12, 1⟩) (meth := k12m1) (c := k12c1) (by decide +kernel) rfl rfl rfl (by decide +kernel)
set_option maxRecDepth 65536 in
theorem w_c7 : (Jvm.Cond.code ({ cls := "com/example/planwright/planwright/plan/Key", name := "values", desc := "(Ljava/lang/Object;I)[Ljava/lang/Object;" } : Jvm.MethodName) prog_66_method_3_code (2 : Nat) (Option.some (Jvm.ClassFile.FieldType.array (Jvm.ClassFile.FieldType.object "java/lang/Object")))).before args0 about1 = true := code_word (m := ⟨11, 2⟩) (meth := k11m2) (c := k11c2) (by decide +kernel) rfl rfl rfl (by decide +kernel)
set_option maxRecDepth 65536 in
theorem w_c8 : (Jvm.Cond.code ({ cls := "java/lang/Integer", name := "<init>", desc := "(I)V" } : Jvm.MethodName) jdk_33_method_23_code (2 : Nat) (Option.none : Option Jvm.ClassFile.FieldType)).before args0 about1 = true := code_word (m := ⟨7, 1⟩) (meth := k7m1) (c := k7c1) (by decide +kernel) rfl rfl rfl (by decide +kernel)
set_option maxRecDepth 65536 in
theorem w_c9 : (Jvm.Cond.code ({ cls := "java/lang/Number", name := "<init>", desc := "()V" } : Jvm.MethodName) jdk_18_method_1_code (1 : Nat) (Option.none : Option Jvm.ClassFile.FieldType)).before args0 about1 = true := code_word (m := ⟨3, 0⟩) (meth := k3m0) (c := k3c0) (by decide +kernel) rfl rfl rfl (by decide +kernel)
set_option maxRecDepth 65536 in
theorem w_c10 : (Jvm.Cond.code ({ cls := "java/lang/Long", name := "<init>", desc := "(J)V" } : Jvm.MethodName) jdk_35_method_26_code (3 : Nat) (Option.none : Option Jvm.ClassFile.FieldType)).before args0 about1 = true := code_word (m := ⟨9, 1⟩) (meth := k9m1) (c := k9c1) (by decide +kernel) rfl rfl rfl (by decide +kernel)
set_option maxRecDepth 65536 in
theorem w_c11 : (Jvm.Cond.code ({ cls := "java/lang/Integer", name := "hashCode", desc := "()I" } : Jvm.MethodName) jdk_33_method_32_code (1 : Nat) (Option.some Jvm.ClassFile.FieldType.int)).before args0 about1 = true := code_word (m := ⟨7, 2⟩) (meth := k7m2) (c := k7c2) (by decide +kernel) rfl rfl rfl (by decide +kernel)
set_option maxRecDepth 65536 in
theorem w_c12 : (Jvm.Cond.code ({ cls := "java/lang/Integer", name := "hashCode", desc := "(I)I" } : Jvm.MethodName) jdk_33_method_33_code (1 : Nat) (Option.some Jvm.ClassFile.FieldType.int)).before args0 about1 = true := code_word (m := ⟨7, 3⟩) (meth := k7m3) (c := k7c3) (by decide +kernel) rfl rfl rfl (by decide +kernel)
set_option maxRecDepth 65536 in
theorem w_c13 : (Jvm.Cond.code ({ cls := "java/lang/Long", name := "hashCode", desc := "()I" } : Jvm.MethodName) jdk_35_method_35_code (1 : Nat) (Option.some Jvm.ClassFile.FieldType.int)).before args0 about1 = true := code_word (m := ⟨9, 2⟩) (meth := k9m2) (c := k9c2) (by decide +kernel) rfl rfl rfl (by decide +kernel)
set_option maxRecDepth 65536 in
theorem w_c14 : (Jvm.Cond.code ({ cls := "java/lang/Long", name := "hashCode", desc := "(J)I" } : Jvm.MethodName) jdk_35_method_36_code (2 : Nat) (Option.some Jvm.ClassFile.FieldType.int)).before args0 about1 = true := code_word (m := ⟨9, 3⟩) (meth := k9m3) (c := k9c3) (by decide +kernel) rfl rfl rfl (by decide +kernel)
def codes1 : List Jvm.Cond := [Jvm.Cond.code x code maxLocals ret, Jvm.Cond.code ({ cls := "java/lang/Integer", name := "valueOf", desc := "(I)Ljava/lang/Integer;" } : Jvm.MethodName) jdk_33_method_22_code (1 : Nat) (Option.some (Jvm.ClassFile.FieldType.object "java/lang/Integer")), Jvm.Cond.code ({ cls := "java/lang/Long", name := "valueOf", desc := "(J)Ljava/lang/Long;" } : Jvm.MethodName) jdk_35_method_24_code (3 : Nat) (Option.some (Jvm.ClassFile.FieldType.object "java/lang/Long")), Jvm.Cond.code ({ cls := "com/example/planwright/planwright/plan/Key", name := "of", desc := "([Ljava/lang/Object;)Ljava/lang/Object;" } : Jvm.MethodName) prog_66_method_2_code (1 : Nat) (Option.some (Jvm.ClassFile.FieldType.object "java/lang/Object")), Jvm.Cond.code ({ cls := "com/example/planwright/planwright/plan/Key", name := "<init>", desc := "([Ljava/lang/Object;)V" } : Jvm.MethodName) prog_66_method_1_code (2 : Nat) (Option.none : Option Jvm.ClassFile.FieldType), Jvm.Cond.code ({ cls := "java/lang/Object", name := "<init>", desc := "()V" } : Jvm.MethodName) object_method_1_code (1 : Nat) (Option.none : Option Jvm.ClassFile.FieldType), Jvm.Cond.code ({ cls := "java/util/Arrays", name := "hashCode", desc := "([Ljava/lang/Object;)I" } : Jvm.MethodName) jdk_65_method_157_code (6 : Nat) (Option.some Jvm.ClassFile.FieldType.int), Jvm.Cond.code ({ cls := "com/example/planwright/planwright/plan/Key", name := "values", desc := "(Ljava/lang/Object;I)[Ljava/lang/Object;" } : Jvm.MethodName) prog_66_method_3_code (2 : Nat) (Option.some (Jvm.ClassFile.FieldType.array (Jvm.ClassFile.FieldType.object "java/lang/Object"))), Jvm.Cond.code ({ cls := "java/lang/Integer", name := "<init>", desc := "(I)V" } : Jvm.MethodName) jdk_33_method_23_code (2 : Nat) (Option.none : Option Jvm.ClassFile.FieldType), Jvm.Cond.code ({ cls := "java/lang/Number", name := "<init>", desc := "()V" } : Jvm.MethodName) jdk_18_method_1_code (1 : Nat) (Option.none : Option Jvm.ClassFile.FieldType), Jvm.Cond.code ({ cls := "java/lang/Long", name := "<init>", desc := "(J)V" } : Jvm.MethodName) jdk_35_method_26_code (3 : Nat) (Option.none : Option Jvm.ClassFile.FieldType), Jvm.Cond.code ({ cls := "java/lang/Integer", name := "hashCode", desc := "()I" } : Jvm.MethodName) jdk_33_method_32_code (1 : Nat) (Option.some Jvm.ClassFile.FieldType.int), Jvm.Cond.code ({ cls := "java/lang/Integer", name := "hashCode", desc := "(I)I" } : Jvm.MethodName) jdk_33_method_33_code (1 : Nat) (Option.some Jvm.ClassFile.FieldType.int), Jvm.Cond.code ({ cls := "java/lang/Long", name := "hashCode", desc := "()I" } : Jvm.MethodName) jdk_35_method_35_code (1 : Nat) (Option.some Jvm.ClassFile.FieldType.int), Jvm.Cond.code ({ cls := "java/lang/Long", name := "hashCode", desc := "(J)I" } : Jvm.MethodName) jdk_35_method_36_code (2 : Nat) (Option.some Jvm.ClassFile.FieldType.int)]
set_option maxRecDepth 65536 in
theorem codes_eq : words1.filter isCode = codes1 := rfl
theorem w_codes : ∀ c ∈ words1.filter isCode, c.before args0 about1 = true := by
  rw [codes_eq]
  intro c hc
  simp only [codes1, List.mem_cons, List.not_mem_nil, or_false] at hc
  rcases hc with rfl | rfl | rfl | rfl | rfl | rfl | rfl | rfl | rfl | rfl | rfl | rfl | rfl | rfl | rfl
  · exact w_c0
  · exact w_c1
  · exact w_c2
  · exact w_c3
  · exact w_c4
  · exact w_c5
  · exact w_c6
  · exact w_c7
  · exact w_c8
  · exact w_c9
  · exact w_c10
  · exact w_c11
  · exact w_c12
  · exact w_c13
  · exact w_c14
set_option maxRecDepth 65536 in
theorem w_t1 : (words1.take 24).all (fun c => isCode c || c.before args0 about1) = true := by decide +kernel
set_option maxRecDepth 65536 in
theorem w_t2 : ((words1.drop 24).take 24).all (fun c => isCode c || c.before args0 about1) = true := by decide +kernel
set_option maxRecDepth 65536 in
theorem w_t3 : (((words1.drop 24).drop 24).take 24).all (fun c => isCode c || c.before args0 about1) = true := by decide +kernel
set_option maxRecDepth 65536 in
theorem w_t4 : (((words1.drop 24).drop 24).drop 24).all (fun c => isCode c || c.before args0 about1) = true := by decide +kernel
theorem w_tables : (allAtoms (Jvm.Cond.code x code maxLocals ret :: tables_1)).before args0 about1 = true := by
  rw [allAtoms_all]
  show words1.all (fun c => c.before args0 about1) = true
  refine all_split ?_ w_codes
  rw [← List.take_append_drop 24 words1, List.all_append, w_t1, ← List.take_append_drop 24 (words1.drop 24), List.all_append, w_t2, ← List.take_append_drop 24 ((words1.drop 24).drop 24), List.all_append, w_t3, w_t4]
  rfl
set_option maxRecDepth 65536 in
theorem w_rest : rest_1_c.before args0 about1 = true := by decide +kernel
set_option maxRecDepth 65536 in
theorem w_case : (Jvm.Cond.and given_1 narrow_1).before args0 about1 = true := by decide +kernel
theorem w_applies : (headSpec (Jvm.Cond.code x code maxLocals ret :: tables_1) room_1).applies x e0.platform about1 = true :=
  (Spec.applies_iff w_frames).mpr ⟨w_running, w_runnable, w_alone, w_named, w_hears, w_ripe, w_room, w_tables⟩
theorem atStart : AtStart classFile x code maxLocals ret World_1 tables_1 room_1 Calls_1 rest_1 Pre_1 launch0 p0 e0 about1 theMethod args0 below0 :=
  ⟨lists_1, trivial, launch0.admits_env _ _ _, launch0.least_env, fairChoices_fair.cas, fairChoices_fair.clock, w_frames, w_args, w_heap, w_applies, trivial, w_rest, w_case⟩
end start1
theorem witness_1 : WitnessClaimed_1 := ⟨start1.p0, start1.e0, start1.about1, start1.theMethod, start1.args0, start1.below0, start1.atStart⟩
end Jvm.Pilot.@@N@@
