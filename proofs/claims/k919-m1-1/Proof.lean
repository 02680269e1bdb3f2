import JvmDerived
import JvmDerived.Pilot.@@N@@Statement
import JvmDerived.Pilot.@@N@@Code
set_option linter.unusedVariables false
set_option linter.unusedSimpArgs false
namespace Jvm.RoadKit
open Sem ClassFile Op Lib Jvm.Stand Jvm.Free Jvm.LawKit
section New
variable {p : Program} {l : Launch} {e : Env} {R : Room} {s : State} {m : MethodId} {args : Array Value} {below : List Frame} {meth : Method} {c : Code} {T : State} {locs : List Loc} {cells slots : Nat}
theorem retI (X : Stand p l e R s m args below meth c T locs cells slots) (hx : p.tables.exec = Jvm.exec) {pc : Nat} {Ls : Array Slot} {z : Int32} {rest : List Value} (hret : meth.sig.returnType = some .int) (hd : decode c.code pc = .ok (.ireturn, 1)) {fs : List Frame}
    (hl : ∀ (f : JFrame) (acts : List Action), f.method = m → f.locked = none → f.entered = [] → (doReturn e (T.setTop f) acts (some (.int z))).1 = T.setFrames fs) : Steps p.tables e below (T.setTop (mkF m pc Ls (.int z :: rest))) (T.setFrames fs) := by
  have hm' : T.vm.method? m = some meth := X.method'
  have hn : narrow .int (.int z) = .int z := rfl
  show Steps p.tables e below (T.setTop { method := m, pc := pc, locals := Ls, stack := _ :: rest, locked := none }) _
  jvm_step X.here [X.here.top, hx, hd, hm', hret, hn]
  first | (intro acts; rw [hl _ acts rfl rfl rfl]) | rw [hl _ _ rfl rfl rfl]
  exact Steps.refl _
end New
end Jvm.RoadKit
namespace Jvm.Pilot.@@N@@
open Jvm Jvm.ClassFile Sem Op Lib Jvm.Free Jvm.Stand Jvm.LawKit Jvm.RoadKit Bundle Jvm.Pilot.@@N@@.Jvm.D
theorem own_go {tb : Tables} {e : Env} {below : List Frame} {A B : State} {P : State → Outcome → Prop} (st : ∀ t, Steps tb e below B t → Steps tb e below A t) (k : ∃ t o, Steps tb e below B t ∧ P t o) : ∃ t o, Steps tb e below A t ∧ P t o := by
  obtain ⟨t, o, h1, h2⟩ := k
  exact ⟨t, o, st t h1, h2⟩
theorem own_goT {tb : Tables} {e : Env} {below : List Frame} {A B : State} {P : State → Outcome → Prop} (st : Steps tb e below A B) (k : ∃ t o, Steps tb e below B t ∧ P t o) : ∃ t o, Steps tb e below A t ∧ P t o := by
  obtain ⟨t, o, h1, h2⟩ := k
  exact ⟨t, o, st.trans h1, h2⟩
theorem own_nfo {args : Array Value} {s : State} {C : String} {x y z : MethodName} (hsel : (Jvm.Cond.selects C x z).before args s = true) (e : z.cls = y.cls) : NotFace s y := fun r0 h0 => by
  obtain ⟨c2, r2, m2, q1, q2, q3, q4, kP, hkP, hkPi⟩ := Cond.selects_spec hsel
  have a1 := findClass_of_methodNamed q3
  have a2 := findClass_of_methodNamed h0
  rw [e] at a1
  have e2 := Option.some.inj (a1.symm.trans a2)
  exact ⟨kP, by rw [← e2]; exact hkP, hkPi⟩
theorem own_ifc {α : Type} {P R : Prop} [Decidable P] [Decidable R] (a b : α) (h : P ↔ R) : (if P then a else b) = (if R then a else b) := by
  by_cases q : P
  · rw [if_pos q, if_pos (h.mp q)]
  · rw [if_neg q, if_neg fun r => q (h.mpr r)]
theorem own_keep_le {h h' : Heap} {ws : List Addr} (K : Keep h h' ws) : h.size ≤ h'.size := K.1
theorem own_nosub3 {Z : State} {a0 : Array Value} {A B D K : String} {n : Nat} (w1 : (Jvm.Cond.superclass A B).before a0 Z = true) (w2 : (Jvm.Cond.superclass B D).before a0 Z = true) (w3 : (Jvm.Cond.noSuperclass D).before a0 Z = true) (wk : (Jvm.Cond.instantiable K n).before a0 Z = true)
    (nA : A ≠ K) (nB : B ≠ K) (nD : D ≠ K) {cA cK : ClassId} (hA : Z.vm.findClass A = some cA) (hK : Z.vm.findClass K = some cK) : Z.vm.assignable cA cK = false := by
  obtain ⟨cB, kA, kB, hB, hkA, hkB, hsA, hoA, -, -⟩ := Cond.superclass_spec hA w1
  obtain ⟨cD, kB', kD, hD, hkB', hkD, hsB, -, -, -⟩ := Cond.superclass_spec hB w2
  cases hkB.symm.trans hkB'
  obtain ⟨cD', kD', hD', hkD', hsD, -, -⟩ := Cond.noSuperclass_spec w3
  cases hD.symm.trans hD'
  cases hkD.symm.trans hkD'
  obtain ⟨cK', kK, hK', hkK, hoK, hiK, -, -⟩ := Cond.instantiable_spec wk
  cases hK.symm.trans hK'
  have ne : ∀ {X : String} {cX : ClassId}, Z.vm.findClass X = some cX → X ≠ K → cX ≠ cK := fun {X cX} hX nX e => by
    subst e
    obtain ⟨k1, p1, p2⟩ := Vm.findClass_spec hX
    obtain ⟨k2, q1, q2⟩ := Vm.findClass_spec hK
    cases p1.symm.trans q1
    exact nX (p2.symm.trans q2)
  have hAK := ne hA nA
  have hBK := ne hB nB
  have hDK := ne hD nD
  have hi : kK.isInterface = false := by
    cases h : kK.isInterface with
    | false => rfl
    | true => simp [h] at hiK
  have sub : ∀ fuel, Z.vm.isSubclassAux fuel cA cK = false := fun fuel => by
    cases fuel with
    | zero => rfl
    | succ f =>
      cases f with
      | zero => simp [Vm.isSubclassAux, hAK, hkA, hsA]
      | succ f' =>
        cases f' with
        | zero => simp [Vm.isSubclassAux, hAK, hBK, hkA, hsA, hkB, hsB]
        | succ f'' => simp [Vm.isSubclassAux, hAK, hBK, hDK, hkA, hsA, hkB, hsB, hkD, hsD]
  show Z.vm.assignableAux (255 + 1) cA cK = false
  simp [Vm.assignableAux, hAK, hkA, hkK, hoA, hoK, hi, Vm.isSubclass, sub]
theorem own_noins {Z : State} {a0 : Array Value} {A B D K : String} {n : Nat} (w1 : (Jvm.Cond.superclass A B).before a0 Z = true) (w2 : (Jvm.Cond.superclass B D).before a0 Z = true) (w3 : (Jvm.Cond.noSuperclass D).before a0 Z = true) (wk : (Jvm.Cond.instantiable K n).before a0 Z = true)
    (nA : A ≠ K) (nB : B ≠ K) (nD : D ≠ K) : ∃ c t, Z.vm.findClass A = some c ∧ Z.vm.findClass K = some t ∧ Z.vm.assignable c t = false := by
  obtain ⟨cA, hA⟩ := found_sup w1
  obtain ⟨cK, kK, hK, -⟩ := Cond.instantiable_spec wk
  exact ⟨cA, cK, hA, hK, own_nosub3 w1 w2 w3 wk nA nB nD hA hK⟩

theorem own_bits (x : Int32) : (x &&& (15 : Int32)) = (0 : Int32) ↔ (x &&& (1 : Int32)) = (0 : Int32) ∧ (x &&& (2 : Int32)) = (0 : Int32) ∧ (x &&& (4 : Int32)) = (0 : Int32) ∧ (x &&& (8 : Int32)) = (0 : Int32) := by
  constructor
  · intro h
    refine ⟨?_, ?_, ?_, ?_⟩
    · rw [show (1 : Int32) = 15 &&& 1 from rfl, ← Int32.and_assoc, h]; rfl
    · rw [show (2 : Int32) = 15 &&& 2 from rfl, ← Int32.and_assoc, h]; rfl
    · rw [show (4 : Int32) = 15 &&& 4 from rfl, ← Int32.and_assoc, h]; rfl
    · rw [show (8 : Int32) = 15 &&& 8 from rfl, ← Int32.and_assoc, h]; rfl
  · rintro ⟨h1, h2, h3, h4⟩
    have e : (15 : Int32) = ((1 ||| 2) ||| 4) ||| 8 := rfl
    have d : ∀ a b c : Int32, a &&& (b ||| c) = (a &&& b) ||| (a &&& c) := fun a b c => by
      apply Int32.toBitVec_inj.mp
      show a.toBitVec &&& (b.toBitVec ||| c.toBitVec) = (a.toBitVec &&& b.toBitVec) ||| (a.toBitVec &&& c.toBitVec)
      apply BitVec.eq_of_getLsbD_eq
      intro i hi
      simp [Bool.and_or_distrib_left]
    rw [e, d, d, d, h1, h2, h3, h4]; rfl
theorem own_self (w dl : Int64) : (w = w + dl) ↔ dl = 0 := by
  constructor
  · intro h
    have h2 := congrArg (fun z => z - w) h
    simpa [Int64.add_comm w dl, Int64.add_sub_cancel, Int64.sub_self] using h2.symm
  · intro h; subst h; simp
theorem own_one (w dl : Int64) (b : Int32) : (w = (if (if b = (0 : Int32) then (0 : Int32) else (1 : Int32)) = (0 : Int32) then w else (w + dl))) ↔ (b = (0 : Int32) ∨ dl = 0) := by
  by_cases h : b = (0 : Int32)
  · simp [h]
  · simp [h, own_self]
theorem own_exp (w d f x dl : Int64) (b1 b2 b4 b8 b15 : Int32) (hb : b15 = (0 : Int32) ↔ b1 = (0 : Int32) ∧ b2 = (0 : Int32) ∧ b4 = (0 : Int32) ∧ b8 = (0 : Int32)) :
    (if w = (if (if b1 = (0 : Int32) then (0 : Int32) else (1 : Int32)) = (0 : Int32) then w else (w + dl)) ∧ d = (if (if b2 = (0 : Int32) then (0 : Int32) else (1 : Int32)) = (0 : Int32) then d else (d + dl)) ∧ f = (if (if b4 = (0 : Int32) then (0 : Int32) else (1 : Int32)) = (0 : Int32) then f else (f + dl)) ∧ x = (if (if b8 = (0 : Int32) then (0 : Int32) else (1 : Int32)) = (0 : Int32) then x else (x + dl)) then (1 : Int32) else (0 : Int32))
      = (if b15 = (0 : Int32) then (1 : Int32) else (if dl = (0 : Int64) then (1 : Int32) else (0 : Int32))) := by
  refine (own_ifc _ _ (and_congr (own_one w dl b1) (and_congr (own_one d dl b2) (and_congr (own_one f dl b4) (own_one x dl b8))))).trans ?_
  by_cases h : dl = (0 : Int64)
  · simp [h]
  · by_cases h15 : b15 = (0 : Int32)
    · obtain ⟨q1, q2, q3, q4⟩ := hb.mp h15
      simp [q1, q2, q3, q4, h15]
    · have : ¬ (b1 = (0 : Int32) ∧ b2 = (0 : Int32) ∧ b4 = (0 : Int32) ∧ b8 = (0 : Int32)) := fun q => h15 (hb.mpr q)
      simp [h, h15]
      intro q1 q2 q3 q4
      exact this ⟨q1, q2, q3, q4⟩
theorem own_sym (w d f x w' d' f' x' : Int64) : (if w' = w ∧ d' = d ∧ f' = f ∧ x' = x then (1 : Int32) else (0 : Int32)) = (if w = w' ∧ d = d' ∧ f = f' ∧ x = x' then (1 : Int32) else (0 : Int32)) :=
  own_ifc _ _ ⟨fun h => ⟨h.1.symm, h.2.1.symm, h.2.2.1.symm, h.2.2.2.symm⟩, fun h => ⟨h.1.symm, h.2.1.symm, h.2.2.1.symm, h.2.2.2.symm⟩⟩
def own_lval (j : Int32) : Value := .long (j - 128).toInt64
theorem own_lidx {n : Nat} {q : Int64} (S : n = (256 : Int32).toNatClampNeg) (h1 : ¬ (q < (-128 : Int64))) (h2 : ¬ ((127 : Int64) < q)) : ¬ ((q.toInt32 + (128 : Int32)) < 0 ∨ n ≤ (q.toInt32 + (128 : Int32)).toNatClampNeg) := by
  have e0 : (256 : Int32).toNatClampNeg = 256 := rfl
  rw [e0] at S
  rw [Int64.lt_iff_toInt_lt] at h1 h2
  have a1 : (-128 : Int64).toInt = -128 := rfl
  have a2 : (127 : Int64).toInt = 127 := rfl
  have a3 : (128 : Int32).toInt = 128 := rfl
  have a4 : (0 : Int32).toInt = 0 := rfl
  have c1 := c_l2i q
  have c2 := c_iadd q.toInt32 128
  have c3 := rng32 (q.toInt32 + 128)
  have c4 := rng32 q.toInt32
  rw [Int32.lt_iff_toInt_lt]
  simp only [Int32.toNatClampNeg]
  omega

theorem ef_rmNumber (m : MethodId) (x0 : Addr) : entryFrame m #[(.ref x0)] 1 = mkF m 0 #[.val (.ref x0)] [] := by first | (simp [entryFrame, mkF, argsToLocals, Value.category]; done) | rfl
theorem d6_0 : decode jdk_18_method_1_code 0 = .ok (.aload_n 0, 1) := by decide +kernel
theorem d6_1 : decode jdk_18_method_1_code 1 = .ok (.invokespecial 1, 3) := by decide +kernel
theorem d6_4 : decode jdk_18_method_1_code 4 = .ok (.return_, 1) := by decide +kernel
theorem pn_java_lang_Number : plainName "java/lang/Number" = true := by first | (simp [plainName, overriddenIn]; done) | decide +kernel
def Q_rmNumber (Z : State) (a1 : Addr) (h0 : Heap) (n0 : Nat) (v : Option Value) (h : Heap) (L : List Loc) : Prop := v = none ∧ Fr n0 L ∧ h = h0
set_option maxRecDepth 65536 in
set_option maxHeartbeats 40000000 in
theorem rmNumber (l : Launch) (Z : State) (a0 : Array Value) (hw : ∀ d ∈ tables_1, d.before a0 Z = true) (ws : List Jvm.Cond) (a1 : Addr) (h0 : Heap) (n0 : Nat) (Z0 : n0 ≤ h0.size) (OLD : Old Z n0 h0) :
    MetFree l (⟨"java/lang/Number", "<init>", "()V"⟩ : MethodName) (head1 (Jvm.Cond.code (⟨"java/lang/Number", "<init>", "()V"⟩ : MethodName) jdk_18_method_1_code 1 none :: ws) ({ frames := 1, cells := 0, slots := 0, locals := 12 } : Room)) (fun a U => a = #[(.ref a1)] ∧ Z.Warmed39 U.vm ∧ U.heap = h0) (fun _ _ _ _ _ => True) (fun _ U o U' => ∃ v L, o = .returned v ∧ Q_rmNumber Z a1 h0 n0 v U'.heap L ∧ FrameEnd U o U' L ({ frames := 1, cells := 0, slots := 0, locals := 12 } : Room).cells ({ frames := 1, cells := 0, slots := 0, locals := 12 } : Room).slots) := by
  refine MetFree.of_bodySF (plainFor_of_name pn_java_lang_Number) hisR ?_
  intro p e s m args below meth c s₁ Bd hml0 hP hK
  obtain ⟨rfl, hZ, hh⟩ := hP
  have hx := Bd.exec
  have hby := Bd.bytes
  have hml : c.maxLocals = 1 := hml0
  have hown : s.vm.findClass "java/lang/Number" = some m.cls := findClass_of_methodNamed Bd.named
  have hnm := (name_of_methodNamed Bd.named Bd.method).1
  have X0 : Stand p l e ({ frames := 1, cells := 0, slots := 0, locals := 12 } : Room) s m #[(.ref a1)] below meth c s₁ [] 0 0 := Stand.of_body Bd
  have e0 : s₁.heap = h0 := by rw [← hh, Bd.state]; rfl
  have N0 := Fr.nil n0
  have pre0 : ∀ t, Steps p.tables e below (s₁.setTop (mkF m 0 #[.val (.ref a1)] [])) t → Steps p.tables e below (s₁.setTop (entryFrame m #[(.ref a1)] 1)) t := fun t k => castTop (ef_rmNumber m a1) k
  have oz := OLD.1
  refine own_go (B := s₁.setTop (mkF m 0 #[.val (.ref a1)] [])) pre0 ?_
  show ∃ t o, Steps p.tables e below (s₁.setTop (mkF m 0 #[.val (.ref a1)] [])) t ∧ _
  refine own_go (fun _ => XS.aloadN X0.here hx rfl (hb hby d6_0) rfl rfl) ?_
  show ∃ t o, Steps p.tables e below (s₁.setTop (mkF m 1 #[.val (.ref a1)] [(.ref a1)])) t ∧ _
  obtain ⟨T1, X1, e1, st1⟩ := initO X0 hx hZ hown (hw _ (List.mem_of_getElem? (i := 47) rfl)) (hw _ (List.mem_of_getElem? (i := 7) rfl)) (hw _ (List.mem_of_getElem? (i := 8) rfl)) e0 (g := (mkF m 1 #[.val (.ref a1)] [(.ref a1)])) rfl (by rw [hml]; rfl) rfl (hb hby d6_1) (by decide) (W := 0) (by show 2 * 0 + _ ≤ _; exact Nat.le_of_eq rfl) (by decide)
  refine own_go st1 ?_
  show ∃ t o, Steps p.tables e below (T1.setTop (mkF m 4 #[.val (.ref a1)] [])) t ∧ _
  obtain ⟨fs, hr, hrun, hended, hW, hsame⟩ := X1.leave (v := none) (fun _ => rfl)
  refine ⟨_, _, ?_, hrun, hended, _, _, rfl, ?_, ⟨_, rfl⟩, hW, hsame.mono (by decide) (by decide)⟩
  · exact X1.returnOut hx Bd.returns (hb hby d6_4) hr
  · show Q_rmNumber Z a1 h0 n0 _ T1.heap _
    rw [e1]
    exact ⟨rfl, N0, rfl⟩
theorem ef_rmLongInit (m : MethodId) (x0 : Addr) (x1 : Int64) : entryFrame m #[(.ref x0), (.long x1)] 3 = mkF m 0 #[.val (.ref x0), .val (.long x1), .second] [] := by first | (simp [entryFrame, mkF, argsToLocals, Value.category]; done) | rfl
theorem d5_0 : decode jdk_35_method_26_code 0 = .ok (.aload_n 0, 1) := by decide +kernel
theorem d5_1 : decode jdk_35_method_26_code 1 = .ok (.invokespecial 270, 3) := by decide +kernel
theorem pd__28_29V : parseMethodDescriptor "()V" = some ⟨[], none⟩ := by decide +kernel
theorem d5_4 : decode jdk_35_method_26_code 4 = .ok (.aload_n 0, 1) := by decide +kernel
theorem d5_5 : decode jdk_35_method_26_code 5 = .ok (.lload_n 1, 1) := by decide +kernel
theorem d5_6 : decode jdk_35_method_26_code 6 = .ok (.putfield 273, 3) := by decide +kernel
theorem d5_9 : decode jdk_35_method_26_code 9 = .ok (.return_, 1) := by decide +kernel
theorem pn_java_lang_Long : plainName "java/lang/Long" = true := by first | (simp [plainName, overriddenIn]; done) | decide +kernel
def Q_rmLongInit (Z : State) (a1 : Addr) (q1 : Int64) (h0 : Heap) (n0 : Nat) (v : Option Value) (h : Heap) (L : List Loc) : Prop := v = none ∧ Fr n0 L ∧ Keep h0 h [a1] ∧ Exa Z h a1 "java/lang/Long" ∧ Fld Z h a1 "java/lang/Long" "value" "J" (.long q1)
set_option maxRecDepth 65536 in
set_option maxHeartbeats 40000000 in
theorem rmLongInit (l : Launch) (Z : State) (a0 : Array Value) (hw : ∀ d ∈ tables_1, d.before a0 Z = true) (ws : List Jvm.Cond) (a1 : Addr) (q1 : Int64) (h0 : Heap) (n0 : Nat) (Z0 : n0 ≤ h0.size) (P1 : Exa Z h0 a1 "java/lang/Long") (P2 : Fld Z h0 a1 "java/lang/Long" "value" "J" (.long (0 : Int64))) (OLD : Old Z n0 h0) (ga : n0 ≤ a1) :
    MetFree l (⟨"java/lang/Long", "<init>", "(J)V"⟩ : MethodName) (head1 (Jvm.Cond.code (⟨"java/lang/Long", "<init>", "(J)V"⟩ : MethodName) jdk_35_method_26_code 3 none :: ws) ({ frames := 2, cells := 0, slots := 0, locals := 24 } : Room)) (fun a U => a = #[(.ref a1), (.long q1)] ∧ Z.Warmed39 U.vm ∧ U.heap = h0) (fun _ _ _ _ _ => True) (fun _ U o U' => ∃ v L, o = .returned v ∧ Q_rmLongInit Z a1 q1 h0 n0 v U'.heap L ∧ FrameEnd U o U' L ({ frames := 2, cells := 0, slots := 0, locals := 24 } : Room).cells ({ frames := 2, cells := 0, slots := 0, locals := 24 } : Room).slots) := by
  refine MetFree.of_bodySF (plainFor_of_name pn_java_lang_Long) hisR ?_
  intro p e s m args below meth c s₁ Bd hml0 hP hK
  obtain ⟨rfl, hZ, hh⟩ := hP
  have hx := Bd.exec
  have hby := Bd.bytes
  have hml : c.maxLocals = 3 := hml0
  have hown : s.vm.findClass "java/lang/Long" = some m.cls := findClass_of_methodNamed Bd.named
  have hnm := (name_of_methodNamed Bd.named Bd.method).1
  have X0 : Stand p l e ({ frames := 2, cells := 0, slots := 0, locals := 24 } : Room) s m #[(.ref a1), (.long q1)] below meth c s₁ [] 0 0 := Stand.of_body Bd
  have e0 : s₁.heap = h0 := by rw [← hh, Bd.state]; rfl
  have N0 := Fr.nil n0
  have pre0 : ∀ t, Steps p.tables e below (s₁.setTop (mkF m 0 #[.val (.ref a1), .val (.long q1), .second] [])) t → Steps p.tables e below (s₁.setTop (entryFrame m #[(.ref a1), (.long q1)] 3)) t := fun t k => castTop (ef_rmLongInit m a1 q1) k
  have oz := OLD.1
  have lt_a1 := P1.lt
  refine own_go (B := s₁.setTop (mkF m 0 #[.val (.ref a1), .val (.long q1), .second] [])) pre0 ?_
  show ∃ t o, Steps p.tables e below (s₁.setTop (mkF m 0 #[.val (.ref a1), .val (.long q1), .second] [])) t ∧ _
  refine own_go (fun _ => XS.aloadN X0.here hx rfl (hb hby d5_0) rfl rfl) ?_
  show ∃ t o, Steps p.tables e below (s₁.setTop (mkF m 1 #[.val (.ref a1), .val (.long q1), .second] [(.ref a1)])) t ∧ _
  obtain ⟨_, _, ⟨T3, L3, k3, n3⟩, -, X3, ⟨Lc3, hQ3, l3, y3, z3⟩, st3⟩ := X0.specialBack hx (y := (⟨"java/lang/Number", "<init>", "()V"⟩ : MethodName)) rfl hown (mvT hZ (hw _ (List.mem_of_getElem? (i := 41) rfl))) (mvT hZ (hw _ (List.mem_of_getElem? (i := 42) rfl))) (mvT hZ (hw _ (List.mem_of_getElem? (i := 46) rfl))) (by decide) (backOf (W := 0) (rmNumber l Z a0 hw [] a1 h0 n0 Z0 OLD) hZ (hw _ (List.mem_of_getElem? (i := 46) rfl)) (hw _ (List.mem_of_getElem? (i := 45) rfl)) (by decide) (by decide)) (g := (mkF m 1 #[.val (.ref a1), .val (.long q1), .second] [(.ref a1)])) rfl (by rw [hml]; rfl) (Steps.refl _) (a := a1) (argsL := []) (rest := []) (lenOf pd__28_29V rfl) rfl (by show 2 * 0 + _ ≤ _; exact Nat.le_of_eq rfl) (hb hby d5_1) (fun _ _ => ⟨rfl, e0, (by decide : 0 + 0 ≤ _), (by decide : 0 + 0 ≤ _)⟩)
  dsimp only [Pt.U, Pt.locs, Pt.cells, Pt.slots] at X3 l3 y3 z3 st3 hQ3
  subst l3 y3 z3
  obtain ⟨rfl, Nq3, e3⟩ := hQ3
  have N3 := Fr.app N0 Nq3
  refine own_goT st3 ?_
  show ∃ t o, Steps p.tables e below (T3.setTop (mkF m 4 #[.val (.ref a1), .val (.long q1), .second] [])) t ∧ _
  refine own_go (fun _ => XS.aloadN X3.here hx rfl (hb hby d5_4) rfl rfl) ?_
  show ∃ t o, Steps p.tables e below (T3.setTop (mkF m 5 #[.val (.ref a1), .val (.long q1), .second] [(.ref a1)])) t ∧ _
  refine own_go (fun _ => XS.lloadN X3.here hx rfl (hb hby d5_5) rfl) ?_
  show ∃ t o, Steps p.tables e below (T3.setTop (mkF m 6 #[.val (.ref a1), .val (.long q1), .second] [(.long q1), (.ref a1)])) t ∧ _
  obtain ⟨T4, h4, X4, e4, W4, st4⟩ := putF X3 hx hZ hown (host := "") (Or.inl (hw _ (List.mem_of_getElem? (i := 48) rfl))) Via.refl e3 P2 P1 (Or.inr ⟨(hw _ (List.mem_of_getElem? (i := 49) rfl)), rfl, hnm⟩) (hw _ (List.mem_of_getElem? (i := 36) rfl)) (ty := .long) (by decide) rfl rfl (g := (mkF m 6 #[.val (.ref a1), .val (.long q1), .second] [(.long q1), (.ref a1)])) rfl rfl (hb hby d5_6)
  refine own_go st4 ?_
  have le_4 : h0.size ≤ h4.size := Nat.le_of_eq W4.size.symm
  have K4 : Keep h0 h4 [a1] := Keep.wr (Keep.refl h0 [a1]) W4 (Or.inl (List.mem_of_getElem? (i := 0) rfl))
  have N4 := Fr.snoc X4 N3 ga
  have Fw4 := Fld.same W4 P2
  show ∃ t o, Steps p.tables e below (T4.setTop (mkF m 9 #[.val (.ref a1), .val (.long q1), .second] [])) t ∧ _
  have F5 : Exa Z h4 a1 "java/lang/Long" := (Exa.wr W4 P1)
  obtain ⟨fs, hr, hrun, hended, hW, hsame⟩ := X4.leave (v := none) (fun _ => rfl)
  refine ⟨_, _, ?_, hrun, hended, _, _, rfl, ?_, ⟨_, rfl⟩, hW, hsame.mono (by decide) (by decide)⟩
  · exact X4.returnOut hx Bd.returns (hb hby d5_9) hr
  · show Q_rmLongInit Z a1 q1 h0 n0 _ T4.heap _
    rw [e4]
    exact ⟨rfl, N4, K4, F5, Fw4⟩
theorem ef_rmLongOf (m : MethodId) (x0 : Int64) : entryFrame m #[(.long x0)] 3 = mkF m 0 #[.val (.long x0), .second, .unset] [] := by first | (simp [entryFrame, mkF, argsToLocals, Value.category]; done) | rfl
theorem d4_0 : decode jdk_35_method_24_code 0 = .ok (.sipush 128, 3) := by decide +kernel
theorem d4_3 : decode jdk_35_method_24_code 3 = .ok (.istore_n 2, 1) := by decide +kernel
theorem d4_4 : decode jdk_35_method_24_code 4 = .ok (.lload_n 0, 1) := by decide +kernel
theorem d4_5 : decode jdk_35_method_24_code 5 = .ok (.ldc2_w 230, 3) := by decide +kernel
theorem d4_8 : decode jdk_35_method_24_code 8 = .ok (.lcmp, 1) := by decide +kernel
theorem d4_9 : decode jdk_35_method_24_code 9 = .ok (.ifCond .lt 22, 3) := by decide +kernel
theorem d4_31 : decode jdk_35_method_24_code 31 = .ok (.new 1, 3) := by decide +kernel
theorem d4_34 : decode jdk_35_method_24_code 34 = .ok (.dup, 1) := by decide +kernel
theorem d4_35 : decode jdk_35_method_24_code 35 = .ok (.lload_n 0, 1) := by decide +kernel
theorem d4_36 : decode jdk_35_method_24_code 36 = .ok (.invokespecial 240, 3) := by decide +kernel
theorem pd__28J_29V : parseMethodDescriptor "(J)V" = some ⟨[.long], none⟩ := by decide +kernel
theorem d4_39 : decode jdk_35_method_24_code 39 = .ok (.areturn, 1) := by decide +kernel
theorem d4_12 : decode jdk_35_method_24_code 12 = .ok (.lload_n 0, 1) := by decide +kernel
theorem d4_13 : decode jdk_35_method_24_code 13 = .ok (.ldc2_w 232, 3) := by decide +kernel
theorem d4_16 : decode jdk_35_method_24_code 16 = .ok (.lcmp, 1) := by decide +kernel
theorem d4_17 : decode jdk_35_method_24_code 17 = .ok (.ifCond .gt 14, 3) := by decide +kernel
theorem d4_20 : decode jdk_35_method_24_code 20 = .ok (.getstatic 234, 3) := by decide +kernel
theorem d4_23 : decode jdk_35_method_24_code 23 = .ok (.lload_n 0, 1) := by decide +kernel
theorem d4_24 : decode jdk_35_method_24_code 24 = .ok (.l2i, 1) := by decide +kernel
theorem d4_25 : decode jdk_35_method_24_code 25 = .ok (.sipush 128, 3) := by decide +kernel
theorem d4_28 : decode jdk_35_method_24_code 28 = .ok (.iadd, 1) := by decide +kernel
theorem d4_29 : decode jdk_35_method_24_code 29 = .ok (.aaload, 1) := by decide +kernel
theorem d4_30 : decode jdk_35_method_24_code 30 = .ok (.areturn, 1) := by decide +kernel
def Q_rmLongOf (Z : State) (q1 : Int64) (ca : Addr) (cca : Cell) (h0 : Heap) (n0 : Nat) (v : Option Value) (h : Heap) (L : List Loc) : Prop := ∃ (b : Addr), ∃ (rv : Int64), v = some (.ref b) ∧ Fr n0 L ∧ Keep h0 h [] ∧ Exa Z h b "java/lang/Long" ∧ Fld Z h b "java/lang/Long" "value" "J" (.long rv)
set_option maxRecDepth 65536 in
set_option maxHeartbeats 40000000 in
theorem rmLongOf (l : Launch) (Z : State) (a0 : Array Value) (hw : ∀ d ∈ tables_1, d.before a0 Z = true) (ws : List Jvm.Cond) (q1 : Int64) (ca : Addr) (cca : Cell) (h0 : Heap) (n0 : Nat) (Z0 : n0 ≤ h0.size) (OLD : Old Z n0 h0) (P1 : Sta Z Z.heap "java/lang/Long$LongCache" "cache" "[Ljava/lang/Long;" (.ref ca)) (BX : Bxs Z ca cca "java/lang/Long" "J" (256 : Int32) own_lval) :
    MetFree l (⟨"java/lang/Long", "valueOf", "(J)Ljava/lang/Long;"⟩ : MethodName) (head1 (Jvm.Cond.code (⟨"java/lang/Long", "valueOf", "(J)Ljava/lang/Long;"⟩ : MethodName) jdk_35_method_24_code 3 (some (.object "java/lang/Long")) :: ws) ({ frames := 3, cells := 1, slots := 1, locals := 39 } : Room)) (fun a U => a = #[(.long q1)] ∧ Z.Warmed39 U.vm ∧ U.heap = h0) (fun _ _ _ _ _ => True) (fun _ U o U' => ∃ v L, o = .returned v ∧ Q_rmLongOf Z q1 ca cca h0 n0 v U'.heap L ∧ FrameEnd U o U' L ({ frames := 3, cells := 1, slots := 1, locals := 39 } : Room).cells ({ frames := 3, cells := 1, slots := 1, locals := 39 } : Room).slots) := by
  refine MetFree.of_bodySF (plainFor_of_name pn_java_lang_Long) hisR ?_
  intro p e s m args below meth c s₁ Bd hml0 hP hK
  obtain ⟨rfl, hZ, hh⟩ := hP
  have hx := Bd.exec
  have hby := Bd.bytes
  have hml : c.maxLocals = 3 := hml0
  have hown : s.vm.findClass "java/lang/Long" = some m.cls := findClass_of_methodNamed Bd.named
  have hnm := (name_of_methodNamed Bd.named Bd.method).1
  have X0 : Stand p l e ({ frames := 3, cells := 1, slots := 1, locals := 39 } : Room) s m #[(.long q1)] below meth c s₁ [] 0 0 := Stand.of_body Bd
  have e0 : s₁.heap = h0 := by rw [← hh, Bd.state]; rfl
  have N0 := Fr.nil n0
  have pre0 : ∀ t, Steps p.tables e below (s₁.setTop (mkF m 0 #[.val (.long q1), .second, .unset] [])) t → Steps p.tables e below (s₁.setTop (entryFrame m #[(.long q1)] 3)) t := fun t k => castTop (ef_rmLongOf m q1) k
  have oz := OLD.1
  refine own_go (B := s₁.setTop (mkF m 0 #[.val (.long q1), .second, .unset] [])) pre0 ?_
  show ∃ t o, Steps p.tables e below (s₁.setTop (mkF m 0 #[.val (.long q1), .second, .unset] [])) t ∧ _
  refine own_go (fun _ => XS.sipush X0.here hx rfl (hb hby d4_0)) ?_
  show ∃ t o, Steps p.tables e below (s₁.setTop (mkF m 3 #[.val (.long q1), .second, .unset] [(.int (128 : Int32))])) t ∧ _
  refine own_go (fun _ => XS.istoreN X0.here hx rfl (hb hby d4_3) rfl (l' := #[.val (.long q1), .second, .val (.int (128 : Int32))]) rfl) ?_
  show ∃ t o, Steps p.tables e below (s₁.setTop (mkF m 4 #[.val (.long q1), .second, .val (.int (128 : Int32))] [])) t ∧ _
  refine own_go (fun _ => XS.lloadN X0.here hx rfl (hb hby d4_4) rfl) ?_
  show ∃ t o, Steps p.tables e below (s₁.setTop (mkF m 5 #[.val (.long q1), .second, .val (.int (128 : Int32))] [(.long q1)])) t ∧ _
  refine own_go (fun _ => X0.ldc2Long hx hown (mvT hZ (hw _ (List.mem_of_getElem? (i := 28) rfl))) (g := (mkF m 5 #[.val (.long q1), .second, .val (.int (128 : Int32))] [(.long q1)])) rfl (hb hby d4_5) _) ?_
  show ∃ t o, Steps p.tables e below (s₁.setTop (mkF m 8 #[.val (.long q1), .second, .val (.int (128 : Int32))] [(.long (-128 : Int64)), (.long q1)])) t ∧ _
  refine own_go (fun _ => XS.lcmp X0.here hx rfl (hb hby d4_8) rfl) ?_
  show ∃ t o, Steps p.tables e below (s₁.setTop (mkF m 9 #[.val (.long q1), .second, .val (.int (128 : Int32))] [(.int (lcmpW q1 (-128 : Int64)))])) t ∧ _
  by_cases hc2 : q1 < (-128 : Int64)
  · refine own_go (fun _ => XS.ifYes X0.here hx rfl (pc0 := 9) (pc' := 31) rfl (hb hby d4_9) rfl ((if0 _ _).trans (tlt ((lw_lt _ _).mpr hc2)).1) (by decide) (by decide)) ?_
    show ∃ t o, Steps p.tables e below (s₁.setTop (mkF m 31 #[.val (.long q1), .second, .val (.int (128 : Int32))] [])) t ∧ _
    obtain ⟨T3, h3, X3, e3, E3, A3, D3, -, st3⟩ := newO X0 hx hZ hown (hw _ (List.mem_of_getElem? (i := 35) rfl)) (hw _ (List.mem_of_getElem? (i := 36) rfl)) (hw _ (List.mem_of_getElem? (i := 26) rfl)) e0 (g := (mkF m 31 #[.val (.long q1), .second, .val (.int (128 : Int32))] [])) rfl (hb hby d4_31) (by decide) (by decide)
    obtain ⟨b3, g3⟩ : ∃ z, z = h0.size := ⟨_, rfl⟩
    rw [← g3] at A3 D3 st3
    refine own_go st3 ?_
    have le_3 : h0.size ≤ h3.size := E3.1
    have lt_b3 : b3 < h3.size := A3.lt
    have F_value_b3 : Fld Z h3 b3 "java/lang/Long" "value" "J" (.long (0 : Int64)) := D3 (Or.inr (hw _ (List.mem_of_getElem? (i := 49) rfl))) (ty := .long) (by decide)
    have K3 : Keep h0 h3 [] := Keep.ext (Keep.refl h0 []) E3
    show ∃ t o, Steps p.tables e below (T3.setTop (mkF m 34 #[.val (.long q1), .second, .val (.int (128 : Int32))] [(.ref b3)])) t ∧ _
    refine own_go (fun _ => XS.dup X3.here hx rfl (hb hby d4_34) rfl rfl) ?_
    show ∃ t o, Steps p.tables e below (T3.setTop (mkF m 35 #[.val (.long q1), .second, .val (.int (128 : Int32))] [(.ref b3), (.ref b3)])) t ∧ _
    refine own_go (fun _ => XS.lloadN X3.here hx rfl (hb hby d4_35) rfl) ?_
    show ∃ t o, Steps p.tables e below (T3.setTop (mkF m 36 #[.val (.long q1), .second, .val (.int (128 : Int32))] [(.long q1), (.ref b3), (.ref b3)])) t ∧ _
    have F4 : Old Z n0 h3 := (OLD.ext E3)
    have ge5 : n0 ≤ b3 := by omega
    have zl6 : n0 ≤ h3.size := by omega
    obtain ⟨_, _, ⟨T7, L7, k7, n7⟩, -, X7, ⟨Lc7, hQ7, l7, y7, z7⟩, st7⟩ := X3.specialBack hx (y := (⟨"java/lang/Long", "<init>", "(J)V"⟩ : MethodName)) rfl hown (mvT hZ (hw _ (List.mem_of_getElem? (i := 37) rfl))) (mvT hZ (hw _ (List.mem_of_getElem? (i := 38) rfl))) (mvT hZ (hw _ (List.mem_of_getElem? (i := 40) rfl))) (by decide) (backOf (W := 1) (rmLongInit l Z a0 hw [] b3 q1 h3 n0 zl6 A3 F_value_b3 F4 ge5) hZ (hw _ (List.mem_of_getElem? (i := 40) rfl)) (hw _ (List.mem_of_getElem? (i := 26) rfl)) (by decide) (by decide)) (g := (mkF m 36 #[.val (.long q1), .second, .val (.int (128 : Int32))] [(.long q1), (.ref b3), (.ref b3)])) rfl (by rw [hml]; rfl) (Steps.refl _) (a := b3) (argsL := [(.long q1)]) (rest := [(.ref b3)]) (lenOf pd__28J_29V rfl) rfl (by show 2 * 0 + _ ≤ _; exact Nat.le_of_eq rfl) (hb hby d4_36) (fun _ _ => ⟨rfl, e3, (by decide : 1 + 0 ≤ _), (by decide : 1 + 0 ≤ _)⟩)
    dsimp only [Pt.U, Pt.locs, Pt.cells, Pt.slots] at X7 l7 y7 z7 st7 hQ7
    subst l7 y7 z7
    obtain ⟨rfl, Nq7, Kp7, G7_0, G7_1⟩ := hQ7
    have N7 := Fr.app N0 Nq7
    refine own_goT st7 ?_
    have le_7 : h3.size ≤ T7.heap.size := Kp7.1
    have sz8 : h0.size ≤ b3 := by omega
    have K7 : Keep h0 T7.heap [] := Keep.trans K3 Kp7 (allS (Or.inr sz8) all0)
    show ∃ t o, Steps p.tables e below (T7.setTop (mkF m 39 #[.val (.long q1), .second, .val (.int (128 : Int32))] [(.ref b3)])) t ∧ _
    obtain ⟨fs, hr, hrun, hended, hW, hsame⟩ := X7.leave (v := some (.ref b3)) (fun h => by rw [Bd.returns] at h; cases h)
    refine ⟨_, _, ?_, hrun, hended, _, _, rfl, ?_, ⟨_, rfl⟩, hW, hsame.mono (by decide) (by decide)⟩
    · jvm_step X7.here [X7.here.top, hx, (hb hby d4_39), X7.method', Bd.returns, Value.isRef, FieldType.isReference]
      first | (intro acts; rw [hr _ acts rfl rfl rfl]) | rw [hr _ _ rfl rfl rfl]
      exact Steps.refl _
    · show Q_rmLongOf Z q1 ca cca h0 n0 _ T7.heap _
      exact ⟨b3, q1, rfl, N7, K7, G7_0, G7_1⟩
  · refine own_go (fun _ => XS.ifNo X0.here hx rfl (hb hby d4_9) rfl ((if0 _ _).trans (flt (mt (lw_lt _ _).mp hc2)).1)) ?_
    show ∃ t o, Steps p.tables e below (s₁.setTop (mkF m 12 #[.val (.long q1), .second, .val (.int (128 : Int32))] [])) t ∧ _
    refine own_go (fun _ => XS.lloadN X0.here hx rfl (hb hby d4_12) rfl) ?_
    show ∃ t o, Steps p.tables e below (s₁.setTop (mkF m 13 #[.val (.long q1), .second, .val (.int (128 : Int32))] [(.long q1)])) t ∧ _
    refine own_go (fun _ => X0.ldc2Long hx hown (mvT hZ (hw _ (List.mem_of_getElem? (i := 29) rfl))) (g := (mkF m 13 #[.val (.long q1), .second, .val (.int (128 : Int32))] [(.long q1)])) rfl (hb hby d4_13) _) ?_
    show ∃ t o, Steps p.tables e below (s₁.setTop (mkF m 16 #[.val (.long q1), .second, .val (.int (128 : Int32))] [(.long (127 : Int64)), (.long q1)])) t ∧ _
    refine own_go (fun _ => XS.lcmp X0.here hx rfl (hb hby d4_16) rfl) ?_
    show ∃ t o, Steps p.tables e below (s₁.setTop (mkF m 17 #[.val (.long q1), .second, .val (.int (128 : Int32))] [(.int (lcmpW q1 (127 : Int64)))])) t ∧ _
    by_cases hc9 : (127 : Int64) < q1
    · refine own_go (fun _ => XS.ifYes X0.here hx rfl (pc0 := 17) (pc' := 31) rfl (hb hby d4_17) rfl ((if0 _ _).trans (tlt ((lw_gt _ _).mpr hc9)).2.2.1) (by decide) (by decide)) ?_
      show ∃ t o, Steps p.tables e below (s₁.setTop (mkF m 31 #[.val (.long q1), .second, .val (.int (128 : Int32))] [])) t ∧ _
      obtain ⟨T10, h10, X10, e10, E10, A10, D10, -, st10⟩ := newO X0 hx hZ hown (hw _ (List.mem_of_getElem? (i := 35) rfl)) (hw _ (List.mem_of_getElem? (i := 36) rfl)) (hw _ (List.mem_of_getElem? (i := 26) rfl)) e0 (g := (mkF m 31 #[.val (.long q1), .second, .val (.int (128 : Int32))] [])) rfl (hb hby d4_31) (by decide) (by decide)
      obtain ⟨b10, g10⟩ : ∃ z, z = h0.size := ⟨_, rfl⟩
      rw [← g10] at A10 D10 st10
      refine own_go st10 ?_
      have le_10 : h0.size ≤ h10.size := E10.1
      have lt_b10 : b10 < h10.size := A10.lt
      have F_value_b10 : Fld Z h10 b10 "java/lang/Long" "value" "J" (.long (0 : Int64)) := D10 (Or.inr (hw _ (List.mem_of_getElem? (i := 49) rfl))) (ty := .long) (by decide)
      have K10 : Keep h0 h10 [] := Keep.ext (Keep.refl h0 []) E10
      show ∃ t o, Steps p.tables e below (T10.setTop (mkF m 34 #[.val (.long q1), .second, .val (.int (128 : Int32))] [(.ref b10)])) t ∧ _
      refine own_go (fun _ => XS.dup X10.here hx rfl (hb hby d4_34) rfl rfl) ?_
      show ∃ t o, Steps p.tables e below (T10.setTop (mkF m 35 #[.val (.long q1), .second, .val (.int (128 : Int32))] [(.ref b10), (.ref b10)])) t ∧ _
      refine own_go (fun _ => XS.lloadN X10.here hx rfl (hb hby d4_35) rfl) ?_
      show ∃ t o, Steps p.tables e below (T10.setTop (mkF m 36 #[.val (.long q1), .second, .val (.int (128 : Int32))] [(.long q1), (.ref b10), (.ref b10)])) t ∧ _
      have F11 : Old Z n0 h10 := (OLD.ext E10)
      have ge12 : n0 ≤ b10 := by omega
      have zl13 : n0 ≤ h10.size := by omega
      obtain ⟨_, _, ⟨T14, L14, k14, n14⟩, -, X14, ⟨Lc14, hQ14, l14, y14, z14⟩, st14⟩ := X10.specialBack hx (y := (⟨"java/lang/Long", "<init>", "(J)V"⟩ : MethodName)) rfl hown (mvT hZ (hw _ (List.mem_of_getElem? (i := 37) rfl))) (mvT hZ (hw _ (List.mem_of_getElem? (i := 38) rfl))) (mvT hZ (hw _ (List.mem_of_getElem? (i := 40) rfl))) (by decide) (backOf (W := 1) (rmLongInit l Z a0 hw [] b10 q1 h10 n0 zl13 A10 F_value_b10 F11 ge12) hZ (hw _ (List.mem_of_getElem? (i := 40) rfl)) (hw _ (List.mem_of_getElem? (i := 26) rfl)) (by decide) (by decide)) (g := (mkF m 36 #[.val (.long q1), .second, .val (.int (128 : Int32))] [(.long q1), (.ref b10), (.ref b10)])) rfl (by rw [hml]; rfl) (Steps.refl _) (a := b10) (argsL := [(.long q1)]) (rest := [(.ref b10)]) (lenOf pd__28J_29V rfl) rfl (by show 2 * 0 + _ ≤ _; exact Nat.le_of_eq rfl) (hb hby d4_36) (fun _ _ => ⟨rfl, e10, (by decide : 1 + 0 ≤ _), (by decide : 1 + 0 ≤ _)⟩)
      dsimp only [Pt.U, Pt.locs, Pt.cells, Pt.slots] at X14 l14 y14 z14 st14 hQ14
      subst l14 y14 z14
      obtain ⟨rfl, Nq14, Kp14, G14_0, G14_1⟩ := hQ14
      have N14 := Fr.app N0 Nq14
      refine own_goT st14 ?_
      have le_14 : h10.size ≤ T14.heap.size := Kp14.1
      have sz15 : h0.size ≤ b10 := by omega
      have K14 : Keep h0 T14.heap [] := Keep.trans K10 Kp14 (allS (Or.inr sz15) all0)
      show ∃ t o, Steps p.tables e below (T14.setTop (mkF m 39 #[.val (.long q1), .second, .val (.int (128 : Int32))] [(.ref b10)])) t ∧ _
      obtain ⟨fs, hr, hrun, hended, hW, hsame⟩ := X14.leave (v := some (.ref b10)) (fun h => by rw [Bd.returns] at h; cases h)
      refine ⟨_, _, ?_, hrun, hended, _, _, rfl, ?_, ⟨_, rfl⟩, hW, hsame.mono (by decide) (by decide)⟩
      · jvm_step X14.here [X14.here.top, hx, (hb hby d4_39), X14.method', Bd.returns, Value.isRef, FieldType.isReference]
        first | (intro acts; rw [hr _ acts rfl rfl rfl]) | rw [hr _ _ rfl rfl rfl]
        exact Steps.refl _
      · show Q_rmLongOf Z q1 ca cca h0 n0 _ T14.heap _
        exact ⟨b10, q1, rfl, N14, K14, G14_0, G14_1⟩
    · refine own_go (fun _ => XS.ifNo X0.here hx rfl (hb hby d4_17) rfl ((if0 _ _).trans (flt (mt (lw_gt _ _).mp hc9)).2.2.1)) ?_
      show ∃ t o, Steps p.tables e below (s₁.setTop (mkF m 20 #[.val (.long q1), .second, .val (.int (128 : Int32))] [])) t ∧ _
      obtain ⟨T16, X16, e16, st16⟩ := getS2 X0 hx hZ hown (host := "") (Or.inl (hw _ (List.mem_of_getElem? (i := 30) rfl))) Via.refl e0 (Sta.ext OLD.2 P1) (g := (mkF m 20 #[.val (.long q1), .second, .val (.int (128 : Int32))] [])) rfl (hb hby d4_20)
      refine own_go st16 ?_
      show ∃ t o, Steps p.tables e below (T16.setTop (mkF m 23 #[.val (.long q1), .second, .val (.int (128 : Int32))] [(.ref ca)])) t ∧ _
      refine own_go (fun _ => XS.lloadN X16.here hx rfl (hb hby d4_23) rfl) ?_
      show ∃ t o, Steps p.tables e below (T16.setTop (mkF m 24 #[.val (.long q1), .second, .val (.int (128 : Int32))] [(.long q1), (.ref ca)])) t ∧ _
      refine own_go (fun _ => XS.l2i X16.here hx rfl (hb hby d4_24) rfl) ?_
      show ∃ t o, Steps p.tables e below (T16.setTop (mkF m 25 #[.val (.long q1), .second, .val (.int (128 : Int32))] [(.int (q1.toInt32)), (.ref ca)])) t ∧ _
      refine own_go (fun _ => XS.sipush X16.here hx rfl (hb hby d4_25)) ?_
      show ∃ t o, Steps p.tables e below (T16.setTop (mkF m 28 #[.val (.long q1), .second, .val (.int (128 : Int32))] [(.int (128 : Int32)), (.int (q1.toInt32)), (.ref ca)])) t ∧ _
      refine own_go (fun _ => XS.iadd X16.here hx rfl (hb hby d4_28) rfl) ?_
      show ∃ t o, Steps p.tables e below (T16.setTop (mkF m 29 #[.val (.long q1), .second, .val (.int (128 : Int32))] [(.int ((q1.toInt32) + (128 : Int32))), (.ref ca)])) t ∧ _
      have hj29 := own_lidx BX.2.1 hc2 hc9
      obtain ⟨bx, hat29, ex29, fx29⟩ := BX.2.2.2 _ hj29
      have fx29' : Fld Z h0 bx "java/lang/Long" "value" "J" (.long ((q1.toInt32 + (128 : Int32)) - 128).toInt64) := Fld.ext OLD.2 fx29
      have Ar29 := Arr.ext OLD.2 BX.1
      have ex29' := Exa.ext OLD.2 ex29
      refine own_go (fun _ => X16.aaload hx (j := ((q1.toInt32) + (128 : Int32))) (v := (.ref bx)) (by rw [e16]; exact Ar29.1) (State.isArrayOf_alike hZ.alike Ar29.2.1) rfl Ar29.2.2 hj29 hat29 (g := (mkF m 29 #[.val (.long q1), .second, .val (.int (128 : Int32))] [(.int ((q1.toInt32) + (128 : Int32))), (.ref ca)])) rfl rfl (hb hby d4_29) _) ?_
      show ∃ t o, Steps p.tables e below (T16.setTop (mkF m 30 #[.val (.long q1), .second, .val (.int (128 : Int32))] [(.ref bx)])) t ∧ _
      obtain ⟨fs, hr, hrun, hended, hW, hsame⟩ := X16.leave (v := some (.ref bx)) (fun h => by rw [Bd.returns] at h; cases h)
      refine ⟨_, _, ?_, hrun, hended, _, _, rfl, ?_, ⟨_, rfl⟩, hW, hsame.mono (by decide) (by decide)⟩
      · jvm_step X16.here [X16.here.top, hx, (hb hby d4_30), X16.method', Bd.returns, Value.isRef, FieldType.isReference]
        first | (intro acts; rw [hr _ acts rfl rfl rfl]) | rw [hr _ _ rfl rfl rfl]
        exact Steps.refl _
      · show Q_rmLongOf Z q1 ca cca h0 n0 _ T16.heap _
        rw [e16]
        exact ⟨bx, ((q1.toInt32 + (128 : Int32)) - 128).toInt64, rfl, N0, (Keep.refl h0 []), ex29', fx29'⟩
theorem own_sz {Z : State} {args : Array Value} {t : Jvm.Term} {a : Addr} {c : Cell} {ty : FieldType} (et : t.eval args Z none [] Z = some (.ref a)) (A : Arr Z Z.heap a c ty) (h : (Jvm.Cond.eq (Jvm.Term.length t) (Jvm.Term.int (256 : Int32))).value args Z none Z [] = some true) : c.slots.size < 2 ^ 31 ∧ c.slots.size.toInt32 = (256 : Int32) := by
  have e := eqv_i (Term.int_eval (256 : Int32)) h
  have ar := A.fin (Vm.Alike.refl _)
  by_cases q : c.slots.size < 2 ^ 31
  · rw [len_f et ar q] at e
    exact ⟨q, by injection e with e; injection e⟩
  · simp [Term.eval, et, ar, q] at e
theorem own_bxsL {Z : State} {args : Array Value} {C D : String} {a : Addr} {c : Cell} (et : (Jvm.Term.static C "cache" D).eval args Z none [] Z = some (.ref a)) (A : Arr Z Z.heap a c (.object "java/lang/Long")) (h1 : (Jvm.Cond.eq (Jvm.Term.length (Jvm.Term.static C "cache" D)) (Jvm.Term.int (256 : Int32))).value args Z none Z [] = some true)
    (h : (Jvm.Cond.all (Jvm.Term.static C "cache" D) (Jvm.Cond.and (Jvm.Cond.exactly (Jvm.Term.elem (Jvm.Term.static C "cache" D) (Jvm.Term.index 0)) "java/lang/Long") (Jvm.Cond.eq (Jvm.Term.field (Jvm.Term.elem (Jvm.Term.static C "cache" D) (Jvm.Term.index 0)) "java/lang/Long" "value" "J") (Jvm.Term.op1 Jvm.Unary.i2l (Jvm.Term.sub (Jvm.Term.index 0) (Jvm.Term.int (128 : Int32))))))).value args Z none Z [] = some true) :
    Bxs Z a c "java/lang/Long" "J" (256 : Int32) own_lval := by
  obtain ⟨q1, q2⟩ := own_sz et A h1
  refine Bxs.start (fun idx => et) A q1 q2 (by decide) h fun X j hj hX => ?_
  exact eqv_l (i2l_at (by simp [Term.eval, idx_at hj, (back32 hj).1])) hX

theorem ef_rmInit (m : MethodId) (x0 : Addr) (x1 : Int64) (x2 : Int64) (x3 : Int64) (x4 : Int64) : entryFrame m #[(.ref x0), (.long x1), (.long x2), (.long x3), (.long x4)] 9 = mkF m 0 #[.val (.ref x0), .val (.long x1), .second, .val (.long x2), .second, .val (.long x3), .second, .val (.long x4), .second] [] := by first | (simp [entryFrame, mkF, argsToLocals, Value.category]; done) | rfl
theorem d1_0 : decode prog_5_method_1_code 0 = .ok (.aload_n 0, 1) := by decide +kernel
theorem d1_1 : decode prog_5_method_1_code 1 = .ok (.invokespecial 1, 3) := by decide +kernel
theorem d1_4 : decode prog_5_method_1_code 4 = .ok (.aload_n 0, 1) := by decide +kernel
theorem d1_5 : decode prog_5_method_1_code 5 = .ok (.lload_n 1, 1) := by decide +kernel
theorem d1_6 : decode prog_5_method_1_code 6 = .ok (.putfield 7, 3) := by decide +kernel
theorem d1_9 : decode prog_5_method_1_code 9 = .ok (.aload_n 0, 1) := by decide +kernel
theorem d1_10 : decode prog_5_method_1_code 10 = .ok (.lload_n 3, 1) := by decide +kernel
theorem d1_11 : decode prog_5_method_1_code 11 = .ok (.putfield 13, 3) := by decide +kernel
theorem d1_14 : decode prog_5_method_1_code 14 = .ok (.aload_n 0, 1) := by decide +kernel
theorem d1_15 : decode prog_5_method_1_code 15 = .ok (.lload 5, 2) := by decide +kernel
theorem d1_17 : decode prog_5_method_1_code 17 = .ok (.putfield 16, 3) := by decide +kernel
theorem d1_20 : decode prog_5_method_1_code 20 = .ok (.aload_n 0, 1) := by decide +kernel
theorem d1_21 : decode prog_5_method_1_code 21 = .ok (.lload 7, 2) := by decide +kernel
theorem d1_23 : decode prog_5_method_1_code 23 = .ok (.putfield 19, 3) := by decide +kernel
theorem d1_26 : decode prog_5_method_1_code 26 = .ok (.return_, 1) := by decide +kernel
theorem pn_com_example_libtardy_libtardy_QueueCounts : plainName "com/example/libtardy/libtardy/QueueCounts" = true := by first | (simp [plainName, overriddenIn]; done) | decide +kernel
def Q_rmInit (Z : State) (a1 : Addr) (v1 : Int64) (v2 : Int64) (v3 : Int64) (v4 : Int64) (h0 : Heap) (n0 : Nat) (v : Option Value) (h : Heap) (L : List Loc) : Prop := v = none ∧ Fr n0 L ∧ Keep h0 h [a1] ∧ Exa Z h a1 "com/example/libtardy/libtardy/QueueCounts" ∧ Fld Z h a1 "com/example/libtardy/libtardy/QueueCounts" "waiting" "J" (.long v1) ∧ Fld Z h a1 "com/example/libtardy/libtardy/QueueCounts" "due" "J" (.long v2) ∧ Fld Z h a1 "com/example/libtardy/libtardy/QueueCounts" "inFlight" "J" (.long v3) ∧ Fld Z h a1 "com/example/libtardy/libtardy/QueueCounts" "dead" "J" (.long v4)
set_option maxRecDepth 65536 in
set_option maxHeartbeats 40000000 in
theorem rmInit (l : Launch) (Z : State) (a0 : Array Value) (hw : ∀ d ∈ tables_1, d.before a0 Z = true) (ws : List Jvm.Cond) (a1 : Addr) (v1 : Int64) (v2 : Int64) (v3 : Int64) (v4 : Int64) (h0 : Heap) (n0 : Nat) (Z0 : n0 ≤ h0.size) (P1 : Exa Z h0 a1 "com/example/libtardy/libtardy/QueueCounts") (P2 : Fld Z h0 a1 "com/example/libtardy/libtardy/QueueCounts" "waiting" "J" (.long (0 : Int64))) (P3 : Fld Z h0 a1 "com/example/libtardy/libtardy/QueueCounts" "due" "J" (.long (0 : Int64))) (P4 : Fld Z h0 a1 "com/example/libtardy/libtardy/QueueCounts" "inFlight" "J" (.long (0 : Int64))) (P5 : Fld Z h0 a1 "com/example/libtardy/libtardy/QueueCounts" "dead" "J" (.long (0 : Int64))) (OLD : Old Z n0 h0) (ga : n0 ≤ a1) :
    MetFree l (⟨"com/example/libtardy/libtardy/QueueCounts", "<init>", "(JJJJ)V"⟩ : MethodName) (head1 (Jvm.Cond.code (⟨"com/example/libtardy/libtardy/QueueCounts", "<init>", "(JJJJ)V"⟩ : MethodName) prog_5_method_1_code 9 none :: ws) ({ frames := 1, cells := 0, slots := 0, locals := 12 } : Room)) (fun a U => a = #[(.ref a1), (.long v1), (.long v2), (.long v3), (.long v4)] ∧ Z.Warmed39 U.vm ∧ U.heap = h0) (fun _ _ _ _ _ => True) (fun _ U o U' => ∃ v L, o = .returned v ∧ Q_rmInit Z a1 v1 v2 v3 v4 h0 n0 v U'.heap L ∧ FrameEnd U o U' L ({ frames := 1, cells := 0, slots := 0, locals := 12 } : Room).cells ({ frames := 1, cells := 0, slots := 0, locals := 12 } : Room).slots) := by
  refine MetFree.of_bodySF (plainFor_of_name pn_com_example_libtardy_libtardy_QueueCounts) hisR ?_
  intro p e s m args below meth c s₁ Bd hml0 hP hK
  obtain ⟨rfl, hZ, hh⟩ := hP
  have hx := Bd.exec
  have hby := Bd.bytes
  have hml : c.maxLocals = 9 := hml0
  have hown : s.vm.findClass "com/example/libtardy/libtardy/QueueCounts" = some m.cls := findClass_of_methodNamed Bd.named
  have hnm := (name_of_methodNamed Bd.named Bd.method).1
  have X0 : Stand p l e ({ frames := 1, cells := 0, slots := 0, locals := 12 } : Room) s m #[(.ref a1), (.long v1), (.long v2), (.long v3), (.long v4)] below meth c s₁ [] 0 0 := Stand.of_body Bd
  have e0 : s₁.heap = h0 := by rw [← hh, Bd.state]; rfl
  have N0 := Fr.nil n0
  have pre0 : ∀ t, Steps p.tables e below (s₁.setTop (mkF m 0 #[.val (.ref a1), .val (.long v1), .second, .val (.long v2), .second, .val (.long v3), .second, .val (.long v4), .second] [])) t → Steps p.tables e below (s₁.setTop (entryFrame m #[(.ref a1), (.long v1), (.long v2), (.long v3), (.long v4)] 9)) t := fun t k => castTop (ef_rmInit m a1 v1 v2 v3 v4) k
  have oz := OLD.1
  have lt_a1 := P1.lt
  refine own_go (B := s₁.setTop (mkF m 0 #[.val (.ref a1), .val (.long v1), .second, .val (.long v2), .second, .val (.long v3), .second, .val (.long v4), .second] [])) pre0 ?_
  show ∃ t o, Steps p.tables e below (s₁.setTop (mkF m 0 #[.val (.ref a1), .val (.long v1), .second, .val (.long v2), .second, .val (.long v3), .second, .val (.long v4), .second] [])) t ∧ _
  refine own_go (fun _ => XS.aloadN X0.here hx rfl (hb hby d1_0) rfl rfl) ?_
  show ∃ t o, Steps p.tables e below (s₁.setTop (mkF m 1 #[.val (.ref a1), .val (.long v1), .second, .val (.long v2), .second, .val (.long v3), .second, .val (.long v4), .second] [(.ref a1)])) t ∧ _
  obtain ⟨T6, X6, e6, st6⟩ := initO X0 hx hZ hown (hw _ (List.mem_of_getElem? (i := 6) rfl)) (hw _ (List.mem_of_getElem? (i := 7) rfl)) (hw _ (List.mem_of_getElem? (i := 8) rfl)) e0 (g := (mkF m 1 #[.val (.ref a1), .val (.long v1), .second, .val (.long v2), .second, .val (.long v3), .second, .val (.long v4), .second] [(.ref a1)])) rfl (by rw [hml]; rfl) rfl (hb hby d1_1) (by decide) (W := 0) (by show 2 * 0 + _ ≤ _; exact Nat.le_of_eq rfl) (by decide)
  refine own_go st6 ?_
  show ∃ t o, Steps p.tables e below (T6.setTop (mkF m 4 #[.val (.ref a1), .val (.long v1), .second, .val (.long v2), .second, .val (.long v3), .second, .val (.long v4), .second] [])) t ∧ _
  refine own_go (fun _ => XS.aloadN X6.here hx rfl (hb hby d1_4) rfl rfl) ?_
  show ∃ t o, Steps p.tables e below (T6.setTop (mkF m 5 #[.val (.ref a1), .val (.long v1), .second, .val (.long v2), .second, .val (.long v3), .second, .val (.long v4), .second] [(.ref a1)])) t ∧ _
  refine own_go (fun _ => XS.lloadN X6.here hx rfl (hb hby d1_5) rfl) ?_
  show ∃ t o, Steps p.tables e below (T6.setTop (mkF m 6 #[.val (.ref a1), .val (.long v1), .second, .val (.long v2), .second, .val (.long v3), .second, .val (.long v4), .second] [(.long v1), (.ref a1)])) t ∧ _
  obtain ⟨T7, h7, X7, e7, W7, st7⟩ := putF X6 hx hZ hown (host := "") (Or.inl (hw _ (List.mem_of_getElem? (i := 9) rfl))) Via.refl e6 P2 P1 (Or.inr ⟨(hw _ (List.mem_of_getElem? (i := 10) rfl)), rfl, hnm⟩) (hw _ (List.mem_of_getElem? (i := 1) rfl)) (ty := .long) (by decide) rfl rfl (g := (mkF m 6 #[.val (.ref a1), .val (.long v1), .second, .val (.long v2), .second, .val (.long v3), .second, .val (.long v4), .second] [(.long v1), (.ref a1)])) rfl rfl (hb hby d1_6)
  refine own_go st7 ?_
  have le_7 : h0.size ≤ h7.size := Nat.le_of_eq W7.size.symm
  have K7 : Keep h0 h7 [a1] := Keep.wr (Keep.refl h0 [a1]) W7 (Or.inl (List.mem_of_getElem? (i := 0) rfl))
  have N7 := Fr.snoc X7 N0 ga
  have Fw7 := Fld.same W7 P2
  show ∃ t o, Steps p.tables e below (T7.setTop (mkF m 9 #[.val (.ref a1), .val (.long v1), .second, .val (.long v2), .second, .val (.long v3), .second, .val (.long v4), .second] [])) t ∧ _
  refine own_go (fun _ => XS.aloadN X7.here hx rfl (hb hby d1_9) rfl rfl) ?_
  show ∃ t o, Steps p.tables e below (T7.setTop (mkF m 10 #[.val (.ref a1), .val (.long v1), .second, .val (.long v2), .second, .val (.long v3), .second, .val (.long v4), .second] [(.ref a1)])) t ∧ _
  refine own_go (fun _ => XS.lloadN X7.here hx rfl (hb hby d1_10) rfl) ?_
  show ∃ t o, Steps p.tables e below (T7.setTop (mkF m 11 #[.val (.ref a1), .val (.long v1), .second, .val (.long v2), .second, .val (.long v3), .second, .val (.long v4), .second] [(.long v2), (.ref a1)])) t ∧ _
  have F8 : Exa Z h7 a1 "com/example/libtardy/libtardy/QueueCounts" := (Exa.wr W7 P1)
  have F9 : Fld Z h7 a1 "com/example/libtardy/libtardy/QueueCounts" "due" "J" (.long (0 : Int64)) := (Fld.other W7 P3 (Or.inr (slot_ne (a0 := a0) (Or.inr (hw _ (List.mem_of_getElem? (i := 12) rfl))) (Or.inr (hw _ (List.mem_of_getElem? (i := 10) rfl))) (by decide) (t := .long) (t' := .long) (by decide) (by decide))))
  obtain ⟨T10, h10, X10, e10, W10, st10⟩ := putF X7 hx hZ hown (host := "") (Or.inl (hw _ (List.mem_of_getElem? (i := 11) rfl))) Via.refl e7 F9 F8 (Or.inr ⟨(hw _ (List.mem_of_getElem? (i := 12) rfl)), rfl, hnm⟩) (hw _ (List.mem_of_getElem? (i := 1) rfl)) (ty := .long) (by decide) rfl rfl (g := (mkF m 11 #[.val (.ref a1), .val (.long v1), .second, .val (.long v2), .second, .val (.long v3), .second, .val (.long v4), .second] [(.long v2), (.ref a1)])) rfl rfl (hb hby d1_11)
  refine own_go st10 ?_
  have le_10 : h7.size ≤ h10.size := Nat.le_of_eq W10.size.symm
  have K10 : Keep h0 h10 [a1] := Keep.wr K7 W10 (Or.inl (List.mem_of_getElem? (i := 0) rfl))
  have N10 := Fr.snoc X10 N7 ga
  have Fw10 := Fld.same W10 F9
  show ∃ t o, Steps p.tables e below (T10.setTop (mkF m 14 #[.val (.ref a1), .val (.long v1), .second, .val (.long v2), .second, .val (.long v3), .second, .val (.long v4), .second] [])) t ∧ _
  refine own_go (fun _ => XS.aloadN X10.here hx rfl (hb hby d1_14) rfl rfl) ?_
  show ∃ t o, Steps p.tables e below (T10.setTop (mkF m 15 #[.val (.ref a1), .val (.long v1), .second, .val (.long v2), .second, .val (.long v3), .second, .val (.long v4), .second] [(.ref a1)])) t ∧ _
  refine own_go (fun _ => XS.lload X10.here hx rfl (hb hby d1_15) rfl) ?_
  show ∃ t o, Steps p.tables e below (T10.setTop (mkF m 17 #[.val (.ref a1), .val (.long v1), .second, .val (.long v2), .second, .val (.long v3), .second, .val (.long v4), .second] [(.long v3), (.ref a1)])) t ∧ _
  have F11 : Exa Z h10 a1 "com/example/libtardy/libtardy/QueueCounts" := (Exa.wr W10 F8)
  have F12 : Fld Z h10 a1 "com/example/libtardy/libtardy/QueueCounts" "inFlight" "J" (.long (0 : Int64)) := (Fld.other W10 (Fld.other W7 P4 (Or.inr (slot_ne (a0 := a0) (Or.inr (hw _ (List.mem_of_getElem? (i := 14) rfl))) (Or.inr (hw _ (List.mem_of_getElem? (i := 10) rfl))) (by decide) (t := .long) (t' := .long) (by decide) (by decide)))) (Or.inr (slot_ne (a0 := a0) (Or.inr (hw _ (List.mem_of_getElem? (i := 14) rfl))) (Or.inr (hw _ (List.mem_of_getElem? (i := 12) rfl))) (by decide) (t := .long) (t' := .long) (by decide) (by decide))))
  obtain ⟨T13, h13, X13, e13, W13, st13⟩ := putF X10 hx hZ hown (host := "") (Or.inl (hw _ (List.mem_of_getElem? (i := 13) rfl))) Via.refl e10 F12 F11 (Or.inr ⟨(hw _ (List.mem_of_getElem? (i := 14) rfl)), rfl, hnm⟩) (hw _ (List.mem_of_getElem? (i := 1) rfl)) (ty := .long) (by decide) rfl rfl (g := (mkF m 17 #[.val (.ref a1), .val (.long v1), .second, .val (.long v2), .second, .val (.long v3), .second, .val (.long v4), .second] [(.long v3), (.ref a1)])) rfl rfl (hb hby d1_17)
  refine own_go st13 ?_
  have le_13 : h10.size ≤ h13.size := Nat.le_of_eq W13.size.symm
  have K13 : Keep h0 h13 [a1] := Keep.wr K10 W13 (Or.inl (List.mem_of_getElem? (i := 0) rfl))
  have N13 := Fr.snoc X13 N10 ga
  have Fw13 := Fld.same W13 F12
  show ∃ t o, Steps p.tables e below (T13.setTop (mkF m 20 #[.val (.ref a1), .val (.long v1), .second, .val (.long v2), .second, .val (.long v3), .second, .val (.long v4), .second] [])) t ∧ _
  refine own_go (fun _ => XS.aloadN X13.here hx rfl (hb hby d1_20) rfl rfl) ?_
  show ∃ t o, Steps p.tables e below (T13.setTop (mkF m 21 #[.val (.ref a1), .val (.long v1), .second, .val (.long v2), .second, .val (.long v3), .second, .val (.long v4), .second] [(.ref a1)])) t ∧ _
  refine own_go (fun _ => XS.lload X13.here hx rfl (hb hby d1_21) rfl) ?_
  show ∃ t o, Steps p.tables e below (T13.setTop (mkF m 23 #[.val (.ref a1), .val (.long v1), .second, .val (.long v2), .second, .val (.long v3), .second, .val (.long v4), .second] [(.long v4), (.ref a1)])) t ∧ _
  have F14 : Exa Z h13 a1 "com/example/libtardy/libtardy/QueueCounts" := (Exa.wr W13 F11)
  have F15 : Fld Z h13 a1 "com/example/libtardy/libtardy/QueueCounts" "dead" "J" (.long (0 : Int64)) := (Fld.other W13 (Fld.other W10 (Fld.other W7 P5 (Or.inr (slot_ne (a0 := a0) (Or.inr (hw _ (List.mem_of_getElem? (i := 16) rfl))) (Or.inr (hw _ (List.mem_of_getElem? (i := 10) rfl))) (by decide) (t := .long) (t' := .long) (by decide) (by decide)))) (Or.inr (slot_ne (a0 := a0) (Or.inr (hw _ (List.mem_of_getElem? (i := 16) rfl))) (Or.inr (hw _ (List.mem_of_getElem? (i := 12) rfl))) (by decide) (t := .long) (t' := .long) (by decide) (by decide)))) (Or.inr (slot_ne (a0 := a0) (Or.inr (hw _ (List.mem_of_getElem? (i := 16) rfl))) (Or.inr (hw _ (List.mem_of_getElem? (i := 14) rfl))) (by decide) (t := .long) (t' := .long) (by decide) (by decide))))
  obtain ⟨T16, h16, X16, e16, W16, st16⟩ := putF X13 hx hZ hown (host := "") (Or.inl (hw _ (List.mem_of_getElem? (i := 15) rfl))) Via.refl e13 F15 F14 (Or.inr ⟨(hw _ (List.mem_of_getElem? (i := 16) rfl)), rfl, hnm⟩) (hw _ (List.mem_of_getElem? (i := 1) rfl)) (ty := .long) (by decide) rfl rfl (g := (mkF m 23 #[.val (.ref a1), .val (.long v1), .second, .val (.long v2), .second, .val (.long v3), .second, .val (.long v4), .second] [(.long v4), (.ref a1)])) rfl rfl (hb hby d1_23)
  refine own_go st16 ?_
  have le_16 : h13.size ≤ h16.size := Nat.le_of_eq W16.size.symm
  have K16 : Keep h0 h16 [a1] := Keep.wr K13 W16 (Or.inl (List.mem_of_getElem? (i := 0) rfl))
  have N16 := Fr.snoc X16 N13 ga
  have Fw16 := Fld.same W16 F15
  show ∃ t o, Steps p.tables e below (T16.setTop (mkF m 26 #[.val (.ref a1), .val (.long v1), .second, .val (.long v2), .second, .val (.long v3), .second, .val (.long v4), .second] [])) t ∧ _
  have F17 : Exa Z h16 a1 "com/example/libtardy/libtardy/QueueCounts" := (Exa.wr W16 F14)
  have F18 : Fld Z h16 a1 "com/example/libtardy/libtardy/QueueCounts" "waiting" "J" (.long v1) := (Fld.other W16 (Fld.other W13 (Fld.other W10 Fw7 (Or.inr (slot_ne (a0 := a0) (Or.inr (hw _ (List.mem_of_getElem? (i := 10) rfl))) (Or.inr (hw _ (List.mem_of_getElem? (i := 12) rfl))) (by decide) (t := .long) (t' := .long) (by decide) (by decide)))) (Or.inr (slot_ne (a0 := a0) (Or.inr (hw _ (List.mem_of_getElem? (i := 10) rfl))) (Or.inr (hw _ (List.mem_of_getElem? (i := 14) rfl))) (by decide) (t := .long) (t' := .long) (by decide) (by decide)))) (Or.inr (slot_ne (a0 := a0) (Or.inr (hw _ (List.mem_of_getElem? (i := 10) rfl))) (Or.inr (hw _ (List.mem_of_getElem? (i := 16) rfl))) (by decide) (t := .long) (t' := .long) (by decide) (by decide))))
  have F19 : Fld Z h16 a1 "com/example/libtardy/libtardy/QueueCounts" "due" "J" (.long v2) := (Fld.other W16 (Fld.other W13 Fw10 (Or.inr (slot_ne (a0 := a0) (Or.inr (hw _ (List.mem_of_getElem? (i := 12) rfl))) (Or.inr (hw _ (List.mem_of_getElem? (i := 14) rfl))) (by decide) (t := .long) (t' := .long) (by decide) (by decide)))) (Or.inr (slot_ne (a0 := a0) (Or.inr (hw _ (List.mem_of_getElem? (i := 12) rfl))) (Or.inr (hw _ (List.mem_of_getElem? (i := 16) rfl))) (by decide) (t := .long) (t' := .long) (by decide) (by decide))))
  have F20 : Fld Z h16 a1 "com/example/libtardy/libtardy/QueueCounts" "inFlight" "J" (.long v3) := (Fld.other W16 Fw13 (Or.inr (slot_ne (a0 := a0) (Or.inr (hw _ (List.mem_of_getElem? (i := 14) rfl))) (Or.inr (hw _ (List.mem_of_getElem? (i := 16) rfl))) (by decide) (t := .long) (t' := .long) (by decide) (by decide))))
  obtain ⟨fs, hr, hrun, hended, hW, hsame⟩ := X16.leave (v := none) (fun _ => rfl)
  refine ⟨_, _, ?_, hrun, hended, _, _, rfl, ?_, ⟨_, rfl⟩, hW, hsame.mono (by decide) (by decide)⟩
  · exact X16.returnOut hx Bd.returns (hb hby d1_26) hr
  · show Q_rmInit Z a1 v1 v2 v3 v4 h0 n0 _ T16.heap _
    rw [e16]
    exact ⟨rfl, N16, K16, F17, F18, F19, F20, Fw16⟩
theorem ef_rmEqS (m : MethodId) (x0 : Addr) (x1 : Addr) : entryFrame m #[(.ref x0), (.ref x1)] 3 = mkF m 0 #[.val (.ref x0), .val (.ref x1), .unset] [] := by first | (simp [entryFrame, mkF, argsToLocals, Value.category]; done) | rfl
theorem d3_0 : decode prog_5_method_6_code 0 = .ok (.aload_n 1, 1) := by decide +kernel
theorem d3_1 : decode prog_5_method_6_code 1 = .ok (.instanceof 8, 3) := by decide +kernel
theorem d3_4 : decode prog_5_method_6_code 4 = .ok (.ifCond .eq 60, 3) := by decide +kernel
theorem d3_7 : decode prog_5_method_6_code 7 = .ok (.aload_n 1, 1) := by decide +kernel
theorem d3_8 : decode prog_5_method_6_code 8 = .ok (.checkcast 8, 3) := by decide +kernel
theorem d3_11 : decode prog_5_method_6_code 11 = .ok (.astore_n 2, 1) := by decide +kernel
theorem d3_12 : decode prog_5_method_6_code 12 = .ok (.aload_n 0, 1) := by decide +kernel
theorem d3_13 : decode prog_5_method_6_code 13 = .ok (.getfield 7, 3) := by decide +kernel
theorem d3_16 : decode prog_5_method_6_code 16 = .ok (.aload_n 2, 1) := by decide +kernel
theorem d3_17 : decode prog_5_method_6_code 17 = .ok (.getfield 7, 3) := by decide +kernel
theorem d3_20 : decode prog_5_method_6_code 20 = .ok (.lcmp, 1) := by decide +kernel
theorem d3_21 : decode prog_5_method_6_code 21 = .ok (.ifCond .ne 43, 3) := by decide +kernel
theorem d3_24 : decode prog_5_method_6_code 24 = .ok (.aload_n 0, 1) := by decide +kernel
theorem d3_25 : decode prog_5_method_6_code 25 = .ok (.getfield 13, 3) := by decide +kernel
theorem d3_28 : decode prog_5_method_6_code 28 = .ok (.aload_n 2, 1) := by decide +kernel
theorem d3_29 : decode prog_5_method_6_code 29 = .ok (.getfield 13, 3) := by decide +kernel
theorem d3_32 : decode prog_5_method_6_code 32 = .ok (.lcmp, 1) := by decide +kernel
theorem d3_33 : decode prog_5_method_6_code 33 = .ok (.ifCond .ne 31, 3) := by decide +kernel
theorem d3_36 : decode prog_5_method_6_code 36 = .ok (.aload_n 0, 1) := by decide +kernel
theorem d3_37 : decode prog_5_method_6_code 37 = .ok (.getfield 16, 3) := by decide +kernel
theorem d3_40 : decode prog_5_method_6_code 40 = .ok (.aload_n 2, 1) := by decide +kernel
theorem d3_41 : decode prog_5_method_6_code 41 = .ok (.getfield 16, 3) := by decide +kernel
theorem d3_44 : decode prog_5_method_6_code 44 = .ok (.lcmp, 1) := by decide +kernel
theorem d3_45 : decode prog_5_method_6_code 45 = .ok (.ifCond .ne 19, 3) := by decide +kernel
theorem d3_48 : decode prog_5_method_6_code 48 = .ok (.aload_n 0, 1) := by decide +kernel
theorem d3_49 : decode prog_5_method_6_code 49 = .ok (.getfield 19, 3) := by decide +kernel
theorem d3_52 : decode prog_5_method_6_code 52 = .ok (.aload_n 2, 1) := by decide +kernel
theorem d3_53 : decode prog_5_method_6_code 53 = .ok (.getfield 19, 3) := by decide +kernel
theorem d3_56 : decode prog_5_method_6_code 56 = .ok (.lcmp, 1) := by decide +kernel
theorem d3_57 : decode prog_5_method_6_code 57 = .ok (.ifCond .ne 7, 3) := by decide +kernel
theorem d3_60 : decode prog_5_method_6_code 60 = .ok (.iconst 1, 1) := by decide +kernel
theorem d3_61 : decode prog_5_method_6_code 61 = .ok (.goto 4, 3) := by decide +kernel
theorem d3_65 : decode prog_5_method_6_code 65 = .ok (.ireturn, 1) := by decide +kernel
theorem d3_64 : decode prog_5_method_6_code 64 = .ok (.iconst 0, 1) := by decide +kernel
def Q_rmEqS (Z : State) (a1 : Addr) (a2 : Addr) (v1 : Int64) (v2 : Int64) (v3 : Int64) (v4 : Int64) (u1 : Int64) (u2 : Int64) (u3 : Int64) (u4 : Int64) (h0 : Heap) (n0 : Nat) (v : Option Value) (h : Heap) (L : List Loc) : Prop := v = some (.int (if v1 = u1 ∧ v2 = u2 ∧ v3 = u3 ∧ v4 = u4 then (1 : Int32) else (0 : Int32))) ∧ Fr n0 L ∧ h = h0
set_option maxRecDepth 65536 in
set_option maxHeartbeats 40000000 in
theorem rmEqS (l : Launch) (Z : State) (a0 : Array Value) (hw : ∀ d ∈ tables_1, d.before a0 Z = true) (ws : List Jvm.Cond) (a1 : Addr) (a2 : Addr) (v1 : Int64) (v2 : Int64) (v3 : Int64) (v4 : Int64) (u1 : Int64) (u2 : Int64) (u3 : Int64) (u4 : Int64) (h0 : Heap) (n0 : Nat) (Z0 : n0 ≤ h0.size) (P1 : Fld Z h0 a1 "com/example/libtardy/libtardy/QueueCounts" "waiting" "J" (.long v1)) (P2 : Fld Z h0 a1 "com/example/libtardy/libtardy/QueueCounts" "due" "J" (.long v2)) (P3 : Fld Z h0 a1 "com/example/libtardy/libtardy/QueueCounts" "inFlight" "J" (.long v3)) (P4 : Fld Z h0 a1 "com/example/libtardy/libtardy/QueueCounts" "dead" "J" (.long v4)) (P5 : Fld Z h0 a2 "com/example/libtardy/libtardy/QueueCounts" "waiting" "J" (.long u1)) (P6 : Fld Z h0 a2 "com/example/libtardy/libtardy/QueueCounts" "due" "J" (.long u2)) (P7 : Fld Z h0 a2 "com/example/libtardy/libtardy/QueueCounts" "inFlight" "J" (.long u3)) (P8 : Fld Z h0 a2 "com/example/libtardy/libtardy/QueueCounts" "dead" "J" (.long u4)) (P9 : Ins Z h0 a2 "com/example/libtardy/libtardy/QueueCounts" true) (OLD : Old Z n0 h0) :
    MetFree l (⟨"com/example/libtardy/libtardy/QueueCounts", "equals", "(Ljava/lang/Object;)Z"⟩ : MethodName) (head1 (Jvm.Cond.code (⟨"com/example/libtardy/libtardy/QueueCounts", "equals", "(Ljava/lang/Object;)Z"⟩ : MethodName) prog_5_method_6_code 3 (some .boolean) :: ws) ({ frames := 0, cells := 0, slots := 0, locals := 0 } : Room)) (fun a U => a = #[(.ref a1), (.ref a2)] ∧ Z.Warmed39 U.vm ∧ U.heap = h0) (fun _ _ _ _ _ => True) (fun _ U o U' => ∃ v L, o = .returned v ∧ Q_rmEqS Z a1 a2 v1 v2 v3 v4 u1 u2 u3 u4 h0 n0 v U'.heap L ∧ FrameEnd U o U' L ({ frames := 0, cells := 0, slots := 0, locals := 0 } : Room).cells ({ frames := 0, cells := 0, slots := 0, locals := 0 } : Room).slots) := by
  refine MetFree.of_bodySF (plainFor_of_name pn_com_example_libtardy_libtardy_QueueCounts) hisR ?_
  intro p e s m args below meth c s₁ Bd hml0 hP hK
  obtain ⟨rfl, hZ, hh⟩ := hP
  have hx := Bd.exec
  have hby := Bd.bytes
  have hml : c.maxLocals = 3 := hml0
  have hown : s.vm.findClass "com/example/libtardy/libtardy/QueueCounts" = some m.cls := findClass_of_methodNamed Bd.named
  have hnm := (name_of_methodNamed Bd.named Bd.method).1
  have X0 : Stand p l e ({ frames := 0, cells := 0, slots := 0, locals := 0 } : Room) s m #[(.ref a1), (.ref a2)] below meth c s₁ [] 0 0 := Stand.of_body Bd
  have e0 : s₁.heap = h0 := by rw [← hh, Bd.state]; rfl
  have N0 := Fr.nil n0
  have pre0 : ∀ t, Steps p.tables e below (s₁.setTop (mkF m 0 #[.val (.ref a1), .val (.ref a2), .unset] [])) t → Steps p.tables e below (s₁.setTop (entryFrame m #[(.ref a1), (.ref a2)] 3)) t := fun t k => castTop (ef_rmEqS m a1 a2) k
  have oz := OLD.1
  have lt_a1 := P1.lt
  have lt_a2 := P5.lt
  refine own_go (B := s₁.setTop (mkF m 0 #[.val (.ref a1), .val (.ref a2), .unset] [])) pre0 ?_
  show ∃ t o, Steps p.tables e below (s₁.setTop (mkF m 0 #[.val (.ref a1), .val (.ref a2), .unset] [])) t ∧ _
  refine own_go (fun _ => XS.aloadN X0.here hx rfl (hb hby d3_0) rfl rfl) ?_
  show ∃ t o, Steps p.tables e below (s₁.setTop (mkF m 1 #[.val (.ref a1), .val (.ref a2), .unset] [(.ref a2)])) t ∧ _
  obtain ⟨T10, X10, e10, st10⟩ := instY X0 hx hZ hown (hw _ (List.mem_of_getElem? (i := 22) rfl)) e0 P9 (g := (mkF m 1 #[.val (.ref a1), .val (.ref a2), .unset] [(.ref a2)])) rfl rfl (hb hby d3_1)
  refine own_go st10 ?_
  show ∃ t o, Steps p.tables e below (T10.setTop (mkF m 4 #[.val (.ref a1), .val (.ref a2), .unset] [(.int (1 : Int32))])) t ∧ _
  refine own_go (fun _ => XS.ifNo X10.here hx rfl (hb hby d3_4) rfl ((if0 _ _).trans (feq (by decide : ¬ ((1 : Int32) = (0 : Int32)))).1)) ?_
  show ∃ t o, Steps p.tables e below (T10.setTop (mkF m 7 #[.val (.ref a1), .val (.ref a2), .unset] [])) t ∧ _
  refine own_go (fun _ => XS.aloadN X10.here hx rfl (hb hby d3_7) rfl rfl) ?_
  show ∃ t o, Steps p.tables e below (T10.setTop (mkF m 8 #[.val (.ref a1), .val (.ref a2), .unset] [(.ref a2)])) t ∧ _
  obtain ⟨T11, X11, e11, st11⟩ := castY X10 hx hZ hown (hw _ (List.mem_of_getElem? (i := 22) rfl)) e10 P9 (g := (mkF m 8 #[.val (.ref a1), .val (.ref a2), .unset] [(.ref a2)])) rfl rfl (hb hby d3_8)
  refine own_go st11 ?_
  show ∃ t o, Steps p.tables e below (T11.setTop (mkF m 11 #[.val (.ref a1), .val (.ref a2), .unset] [(.ref a2)])) t ∧ _
  refine own_go (fun _ => XS.astoreN X11.here hx rfl (hb hby d3_11) rfl rfl (l' := #[.val (.ref a1), .val (.ref a2), .val (.ref a2)]) rfl) ?_
  show ∃ t o, Steps p.tables e below (T11.setTop (mkF m 12 #[.val (.ref a1), .val (.ref a2), .val (.ref a2)] [])) t ∧ _
  refine own_go (fun _ => XS.aloadN X11.here hx rfl (hb hby d3_12) rfl rfl) ?_
  show ∃ t o, Steps p.tables e below (T11.setTop (mkF m 13 #[.val (.ref a1), .val (.ref a2), .val (.ref a2)] [(.ref a1)])) t ∧ _
  obtain ⟨T12, X12, e12, st12⟩ := getF X11 hx hZ hown (host := "") (Or.inl (hw _ (List.mem_of_getElem? (i := 9) rfl))) Via.refl e11 P1 (g := (mkF m 13 #[.val (.ref a1), .val (.ref a2), .val (.ref a2)] [(.ref a1)])) rfl rfl (hb hby d3_13)
  refine own_go st12 ?_
  show ∃ t o, Steps p.tables e below (T12.setTop (mkF m 16 #[.val (.ref a1), .val (.ref a2), .val (.ref a2)] [(.long v1)])) t ∧ _
  refine own_go (fun _ => XS.aloadN X12.here hx rfl (hb hby d3_16) rfl rfl) ?_
  show ∃ t o, Steps p.tables e below (T12.setTop (mkF m 17 #[.val (.ref a1), .val (.ref a2), .val (.ref a2)] [(.ref a2), (.long v1)])) t ∧ _
  obtain ⟨T13, X13, e13, st13⟩ := getF X12 hx hZ hown (host := "") (Or.inl (hw _ (List.mem_of_getElem? (i := 9) rfl))) Via.refl e12 P5 (g := (mkF m 17 #[.val (.ref a1), .val (.ref a2), .val (.ref a2)] [(.ref a2), (.long v1)])) rfl rfl (hb hby d3_17)
  refine own_go st13 ?_
  show ∃ t o, Steps p.tables e below (T13.setTop (mkF m 20 #[.val (.ref a1), .val (.ref a2), .val (.ref a2)] [(.long u1), (.long v1)])) t ∧ _
  refine own_go (fun _ => XS.lcmp X13.here hx rfl (hb hby d3_20) rfl) ?_
  show ∃ t o, Steps p.tables e below (T13.setTop (mkF m 21 #[.val (.ref a1), .val (.ref a2), .val (.ref a2)] [(.int (lcmpW v1 u1))])) t ∧ _
  by_cases hc14 : v1 = u1
  · refine own_go (fun _ => XS.ifNo X13.here hx rfl (hb hby d3_21) rfl ((if0 _ _).trans (teq ((lw_eq _ _).mpr hc14)).2)) ?_
    show ∃ t o, Steps p.tables e below (T13.setTop (mkF m 24 #[.val (.ref a1), .val (.ref a2), .val (.ref a2)] [])) t ∧ _
    refine own_go (fun _ => XS.aloadN X13.here hx rfl (hb hby d3_24) rfl rfl) ?_
    show ∃ t o, Steps p.tables e below (T13.setTop (mkF m 25 #[.val (.ref a1), .val (.ref a2), .val (.ref a2)] [(.ref a1)])) t ∧ _
    obtain ⟨T15, X15, e15, st15⟩ := getF X13 hx hZ hown (host := "") (Or.inl (hw _ (List.mem_of_getElem? (i := 11) rfl))) Via.refl e13 P2 (g := (mkF m 25 #[.val (.ref a1), .val (.ref a2), .val (.ref a2)] [(.ref a1)])) rfl rfl (hb hby d3_25)
    refine own_go st15 ?_
    show ∃ t o, Steps p.tables e below (T15.setTop (mkF m 28 #[.val (.ref a1), .val (.ref a2), .val (.ref a2)] [(.long v2)])) t ∧ _
    refine own_go (fun _ => XS.aloadN X15.here hx rfl (hb hby d3_28) rfl rfl) ?_
    show ∃ t o, Steps p.tables e below (T15.setTop (mkF m 29 #[.val (.ref a1), .val (.ref a2), .val (.ref a2)] [(.ref a2), (.long v2)])) t ∧ _
    obtain ⟨T16, X16, e16, st16⟩ := getF X15 hx hZ hown (host := "") (Or.inl (hw _ (List.mem_of_getElem? (i := 11) rfl))) Via.refl e15 P6 (g := (mkF m 29 #[.val (.ref a1), .val (.ref a2), .val (.ref a2)] [(.ref a2), (.long v2)])) rfl rfl (hb hby d3_29)
    refine own_go st16 ?_
    show ∃ t o, Steps p.tables e below (T16.setTop (mkF m 32 #[.val (.ref a1), .val (.ref a2), .val (.ref a2)] [(.long u2), (.long v2)])) t ∧ _
    refine own_go (fun _ => XS.lcmp X16.here hx rfl (hb hby d3_32) rfl) ?_
    show ∃ t o, Steps p.tables e below (T16.setTop (mkF m 33 #[.val (.ref a1), .val (.ref a2), .val (.ref a2)] [(.int (lcmpW v2 u2))])) t ∧ _
    by_cases hc17 : v2 = u2
    · refine own_go (fun _ => XS.ifNo X16.here hx rfl (hb hby d3_33) rfl ((if0 _ _).trans (teq ((lw_eq _ _).mpr hc17)).2)) ?_
      show ∃ t o, Steps p.tables e below (T16.setTop (mkF m 36 #[.val (.ref a1), .val (.ref a2), .val (.ref a2)] [])) t ∧ _
      refine own_go (fun _ => XS.aloadN X16.here hx rfl (hb hby d3_36) rfl rfl) ?_
      show ∃ t o, Steps p.tables e below (T16.setTop (mkF m 37 #[.val (.ref a1), .val (.ref a2), .val (.ref a2)] [(.ref a1)])) t ∧ _
      obtain ⟨T18, X18, e18, st18⟩ := getF X16 hx hZ hown (host := "") (Or.inl (hw _ (List.mem_of_getElem? (i := 13) rfl))) Via.refl e16 P3 (g := (mkF m 37 #[.val (.ref a1), .val (.ref a2), .val (.ref a2)] [(.ref a1)])) rfl rfl (hb hby d3_37)
      refine own_go st18 ?_
      show ∃ t o, Steps p.tables e below (T18.setTop (mkF m 40 #[.val (.ref a1), .val (.ref a2), .val (.ref a2)] [(.long v3)])) t ∧ _
      refine own_go (fun _ => XS.aloadN X18.here hx rfl (hb hby d3_40) rfl rfl) ?_
      show ∃ t o, Steps p.tables e below (T18.setTop (mkF m 41 #[.val (.ref a1), .val (.ref a2), .val (.ref a2)] [(.ref a2), (.long v3)])) t ∧ _
      obtain ⟨T19, X19, e19, st19⟩ := getF X18 hx hZ hown (host := "") (Or.inl (hw _ (List.mem_of_getElem? (i := 13) rfl))) Via.refl e18 P7 (g := (mkF m 41 #[.val (.ref a1), .val (.ref a2), .val (.ref a2)] [(.ref a2), (.long v3)])) rfl rfl (hb hby d3_41)
      refine own_go st19 ?_
      show ∃ t o, Steps p.tables e below (T19.setTop (mkF m 44 #[.val (.ref a1), .val (.ref a2), .val (.ref a2)] [(.long u3), (.long v3)])) t ∧ _
      refine own_go (fun _ => XS.lcmp X19.here hx rfl (hb hby d3_44) rfl) ?_
      show ∃ t o, Steps p.tables e below (T19.setTop (mkF m 45 #[.val (.ref a1), .val (.ref a2), .val (.ref a2)] [(.int (lcmpW v3 u3))])) t ∧ _
      by_cases hc20 : v3 = u3
      · refine own_go (fun _ => XS.ifNo X19.here hx rfl (hb hby d3_45) rfl ((if0 _ _).trans (teq ((lw_eq _ _).mpr hc20)).2)) ?_
        show ∃ t o, Steps p.tables e below (T19.setTop (mkF m 48 #[.val (.ref a1), .val (.ref a2), .val (.ref a2)] [])) t ∧ _
        refine own_go (fun _ => XS.aloadN X19.here hx rfl (hb hby d3_48) rfl rfl) ?_
        show ∃ t o, Steps p.tables e below (T19.setTop (mkF m 49 #[.val (.ref a1), .val (.ref a2), .val (.ref a2)] [(.ref a1)])) t ∧ _
        obtain ⟨T21, X21, e21, st21⟩ := getF X19 hx hZ hown (host := "") (Or.inl (hw _ (List.mem_of_getElem? (i := 15) rfl))) Via.refl e19 P4 (g := (mkF m 49 #[.val (.ref a1), .val (.ref a2), .val (.ref a2)] [(.ref a1)])) rfl rfl (hb hby d3_49)
        refine own_go st21 ?_
        show ∃ t o, Steps p.tables e below (T21.setTop (mkF m 52 #[.val (.ref a1), .val (.ref a2), .val (.ref a2)] [(.long v4)])) t ∧ _
        refine own_go (fun _ => XS.aloadN X21.here hx rfl (hb hby d3_52) rfl rfl) ?_
        show ∃ t o, Steps p.tables e below (T21.setTop (mkF m 53 #[.val (.ref a1), .val (.ref a2), .val (.ref a2)] [(.ref a2), (.long v4)])) t ∧ _
        obtain ⟨T22, X22, e22, st22⟩ := getF X21 hx hZ hown (host := "") (Or.inl (hw _ (List.mem_of_getElem? (i := 15) rfl))) Via.refl e21 P8 (g := (mkF m 53 #[.val (.ref a1), .val (.ref a2), .val (.ref a2)] [(.ref a2), (.long v4)])) rfl rfl (hb hby d3_53)
        refine own_go st22 ?_
        show ∃ t o, Steps p.tables e below (T22.setTop (mkF m 56 #[.val (.ref a1), .val (.ref a2), .val (.ref a2)] [(.long u4), (.long v4)])) t ∧ _
        refine own_go (fun _ => XS.lcmp X22.here hx rfl (hb hby d3_56) rfl) ?_
        show ∃ t o, Steps p.tables e below (T22.setTop (mkF m 57 #[.val (.ref a1), .val (.ref a2), .val (.ref a2)] [(.int (lcmpW v4 u4))])) t ∧ _
        by_cases hc23 : v4 = u4
        · refine own_go (fun _ => XS.ifNo X22.here hx rfl (hb hby d3_57) rfl ((if0 _ _).trans (teq ((lw_eq _ _).mpr hc23)).2)) ?_
          show ∃ t o, Steps p.tables e below (T22.setTop (mkF m 60 #[.val (.ref a1), .val (.ref a2), .val (.ref a2)] [])) t ∧ _
          refine own_go (fun _ => XS.iconst X22.here hx rfl (hb hby d3_60)) ?_
          show ∃ t o, Steps p.tables e below (T22.setTop (mkF m 61 #[.val (.ref a1), .val (.ref a2), .val (.ref a2)] [(.int (1 : Int32))])) t ∧ _
          refine own_go (fun _ => XS.goto X22.here hx rfl (pc0 := 61) (pc' := 65) rfl (hb hby d3_61) (by decide) (by decide)) ?_
          show ∃ t o, Steps p.tables e below (T22.setTop (mkF m 65 #[.val (.ref a1), .val (.ref a2), .val (.ref a2)] [(.int (1 : Int32))])) t ∧ _
          obtain ⟨fs, hr, hrun, hended, hW, hsame⟩ := X22.leave (v := some (.int (1 : Int32))) (fun h => by rw [Bd.returns] at h; cases h)
          refine ⟨_, _, ?_, hrun, hended, _, _, rfl, ?_, ⟨_, rfl⟩, hW, hsame.mono (by decide) (by decide)⟩
          · exact retN X22 hx (t := .boolean) Bd.returns (by simp) (hb hby d3_65) hr
          · show Q_rmEqS Z a1 a2 v1 v2 v3 v4 u1 u2 u3 u4 h0 n0 _ T22.heap _
            rw [e22]
            exact ⟨(by simp [hc14, hc17, hc20, hc23]), N0, rfl⟩
        · refine own_go (fun _ => XS.ifYes X22.here hx rfl (pc0 := 57) (pc' := 64) rfl (hb hby d3_57) rfl ((if0 _ _).trans (feq (mt (lw_eq _ _).mp hc23)).2) (by decide) (by decide)) ?_
          show ∃ t o, Steps p.tables e below (T22.setTop (mkF m 64 #[.val (.ref a1), .val (.ref a2), .val (.ref a2)] [])) t ∧ _
          refine own_go (fun _ => XS.iconst X22.here hx rfl (hb hby d3_64)) ?_
          show ∃ t o, Steps p.tables e below (T22.setTop (mkF m 65 #[.val (.ref a1), .val (.ref a2), .val (.ref a2)] [(.int (0 : Int32))])) t ∧ _
          obtain ⟨fs, hr, hrun, hended, hW, hsame⟩ := X22.leave (v := some (.int (0 : Int32))) (fun h => by rw [Bd.returns] at h; cases h)
          refine ⟨_, _, ?_, hrun, hended, _, _, rfl, ?_, ⟨_, rfl⟩, hW, hsame.mono (by decide) (by decide)⟩
          · exact retN X22 hx (t := .boolean) Bd.returns (by simp) (hb hby d3_65) hr
          · show Q_rmEqS Z a1 a2 v1 v2 v3 v4 u1 u2 u3 u4 h0 n0 _ T22.heap _
            rw [e22]
            exact ⟨(by simp [hc14, hc17, hc20, hc23]), N0, rfl⟩
      · refine own_go (fun _ => XS.ifYes X19.here hx rfl (pc0 := 45) (pc' := 64) rfl (hb hby d3_45) rfl ((if0 _ _).trans (feq (mt (lw_eq _ _).mp hc20)).2) (by decide) (by decide)) ?_
        show ∃ t o, Steps p.tables e below (T19.setTop (mkF m 64 #[.val (.ref a1), .val (.ref a2), .val (.ref a2)] [])) t ∧ _
        refine own_go (fun _ => XS.iconst X19.here hx rfl (hb hby d3_64)) ?_
        show ∃ t o, Steps p.tables e below (T19.setTop (mkF m 65 #[.val (.ref a1), .val (.ref a2), .val (.ref a2)] [(.int (0 : Int32))])) t ∧ _
        obtain ⟨fs, hr, hrun, hended, hW, hsame⟩ := X19.leave (v := some (.int (0 : Int32))) (fun h => by rw [Bd.returns] at h; cases h)
        refine ⟨_, _, ?_, hrun, hended, _, _, rfl, ?_, ⟨_, rfl⟩, hW, hsame.mono (by decide) (by decide)⟩
        · exact retN X19 hx (t := .boolean) Bd.returns (by simp) (hb hby d3_65) hr
        · show Q_rmEqS Z a1 a2 v1 v2 v3 v4 u1 u2 u3 u4 h0 n0 _ T19.heap _
          rw [e19]
          exact ⟨(by simp [hc14, hc17, hc20]), N0, rfl⟩
    · refine own_go (fun _ => XS.ifYes X16.here hx rfl (pc0 := 33) (pc' := 64) rfl (hb hby d3_33) rfl ((if0 _ _).trans (feq (mt (lw_eq _ _).mp hc17)).2) (by decide) (by decide)) ?_
      show ∃ t o, Steps p.tables e below (T16.setTop (mkF m 64 #[.val (.ref a1), .val (.ref a2), .val (.ref a2)] [])) t ∧ _
      refine own_go (fun _ => XS.iconst X16.here hx rfl (hb hby d3_64)) ?_
      show ∃ t o, Steps p.tables e below (T16.setTop (mkF m 65 #[.val (.ref a1), .val (.ref a2), .val (.ref a2)] [(.int (0 : Int32))])) t ∧ _
      obtain ⟨fs, hr, hrun, hended, hW, hsame⟩ := X16.leave (v := some (.int (0 : Int32))) (fun h => by rw [Bd.returns] at h; cases h)
      refine ⟨_, _, ?_, hrun, hended, _, _, rfl, ?_, ⟨_, rfl⟩, hW, hsame.mono (by decide) (by decide)⟩
      · exact retN X16 hx (t := .boolean) Bd.returns (by simp) (hb hby d3_65) hr
      · show Q_rmEqS Z a1 a2 v1 v2 v3 v4 u1 u2 u3 u4 h0 n0 _ T16.heap _
        rw [e16]
        exact ⟨(by simp [hc14, hc17]), N0, rfl⟩
  · refine own_go (fun _ => XS.ifYes X13.here hx rfl (pc0 := 21) (pc' := 64) rfl (hb hby d3_21) rfl ((if0 _ _).trans (feq (mt (lw_eq _ _).mp hc14)).2) (by decide) (by decide)) ?_
    show ∃ t o, Steps p.tables e below (T13.setTop (mkF m 64 #[.val (.ref a1), .val (.ref a2), .val (.ref a2)] [])) t ∧ _
    refine own_go (fun _ => XS.iconst X13.here hx rfl (hb hby d3_64)) ?_
    show ∃ t o, Steps p.tables e below (T13.setTop (mkF m 65 #[.val (.ref a1), .val (.ref a2), .val (.ref a2)] [(.int (0 : Int32))])) t ∧ _
    obtain ⟨fs, hr, hrun, hended, hW, hsame⟩ := X13.leave (v := some (.int (0 : Int32))) (fun h => by rw [Bd.returns] at h; cases h)
    refine ⟨_, _, ?_, hrun, hended, _, _, rfl, ?_, ⟨_, rfl⟩, hW, hsame.mono (by decide) (by decide)⟩
    · exact retN X13 hx (t := .boolean) Bd.returns (by simp) (hb hby d3_65) hr
    · show Q_rmEqS Z a1 a2 v1 v2 v3 v4 u1 u2 u3 u4 h0 n0 _ T13.heap _
      rw [e13]
      exact ⟨(by simp [hc14]), N0, rfl⟩
theorem ef_rmEqN (m : MethodId) (x0 : Addr) : entryFrame m #[(.ref x0), .null] 3 = mkF m 0 #[.val (.ref x0), .val .null, .unset] [] := by first | (simp [entryFrame, mkF, argsToLocals, Value.category]; done) | rfl
def Q_rmEqN (Z : State) (a1 : Addr) (h0 : Heap) (n0 : Nat) (v : Option Value) (h : Heap) (L : List Loc) : Prop := v = some (.int (0 : Int32)) ∧ Fr n0 L ∧ h = h0
set_option maxRecDepth 65536 in
set_option maxHeartbeats 40000000 in
theorem rmEqN (l : Launch) (Z : State) (a0 : Array Value) (hw : ∀ d ∈ tables_1, d.before a0 Z = true) (ws : List Jvm.Cond) (a1 : Addr) (h0 : Heap) (n0 : Nat) (Z0 : n0 ≤ h0.size) (OLD : Old Z n0 h0) :
    MetFree l (⟨"com/example/libtardy/libtardy/QueueCounts", "equals", "(Ljava/lang/Object;)Z"⟩ : MethodName) (head1 (Jvm.Cond.code (⟨"com/example/libtardy/libtardy/QueueCounts", "equals", "(Ljava/lang/Object;)Z"⟩ : MethodName) prog_5_method_6_code 3 (some .boolean) :: ws) ({ frames := 0, cells := 0, slots := 0, locals := 0 } : Room)) (fun a U => a = #[(.ref a1), .null] ∧ Z.Warmed39 U.vm ∧ U.heap = h0) (fun _ _ _ _ _ => True) (fun _ U o U' => ∃ v L, o = .returned v ∧ Q_rmEqN Z a1 h0 n0 v U'.heap L ∧ FrameEnd U o U' L ({ frames := 0, cells := 0, slots := 0, locals := 0 } : Room).cells ({ frames := 0, cells := 0, slots := 0, locals := 0 } : Room).slots) := by
  refine MetFree.of_bodySF (plainFor_of_name pn_com_example_libtardy_libtardy_QueueCounts) hisR ?_
  intro p e s m args below meth c s₁ Bd hml0 hP hK
  obtain ⟨rfl, hZ, hh⟩ := hP
  have hx := Bd.exec
  have hby := Bd.bytes
  have hml : c.maxLocals = 3 := hml0
  have hown : s.vm.findClass "com/example/libtardy/libtardy/QueueCounts" = some m.cls := findClass_of_methodNamed Bd.named
  have hnm := (name_of_methodNamed Bd.named Bd.method).1
  have X0 : Stand p l e ({ frames := 0, cells := 0, slots := 0, locals := 0 } : Room) s m #[(.ref a1), .null] below meth c s₁ [] 0 0 := Stand.of_body Bd
  have e0 : s₁.heap = h0 := by rw [← hh, Bd.state]; rfl
  have N0 := Fr.nil n0
  have pre0 : ∀ t, Steps p.tables e below (s₁.setTop (mkF m 0 #[.val (.ref a1), .val .null, .unset] [])) t → Steps p.tables e below (s₁.setTop (entryFrame m #[(.ref a1), .null] 3)) t := fun t k => castTop (ef_rmEqN m a1) k
  have oz := OLD.1
  refine own_go (B := s₁.setTop (mkF m 0 #[.val (.ref a1), .val .null, .unset] [])) pre0 ?_
  show ∃ t o, Steps p.tables e below (s₁.setTop (mkF m 0 #[.val (.ref a1), .val .null, .unset] [])) t ∧ _
  refine own_go (fun _ => XS.aloadN X0.here hx rfl (hb hby d3_0) rfl rfl) ?_
  show ∃ t o, Steps p.tables e below (s₁.setTop (mkF m 1 #[.val (.ref a1), .val .null, .unset] [.null])) t ∧ _
  refine own_go (fun _ => X0.instanceofNull hx (g := (mkF m 1 #[.val (.ref a1), .val .null, .unset] [.null])) rfl rfl (hb hby d3_1) _) ?_
  show ∃ t o, Steps p.tables e below (s₁.setTop (mkF m 4 #[.val (.ref a1), .val .null, .unset] [(.int (0 : Int32))])) t ∧ _
  refine own_go (fun _ => XS.ifYes X0.here hx rfl (pc0 := 4) (pc' := 64) rfl (hb hby d3_4) rfl ((if0 _ _).trans (teq (by decide : (0 : Int32) = (0 : Int32))).1) (by decide) (by decide)) ?_
  show ∃ t o, Steps p.tables e below (s₁.setTop (mkF m 64 #[.val (.ref a1), .val .null, .unset] [])) t ∧ _
  refine own_go (fun _ => XS.iconst X0.here hx rfl (hb hby d3_64)) ?_
  show ∃ t o, Steps p.tables e below (s₁.setTop (mkF m 65 #[.val (.ref a1), .val .null, .unset] [(.int (0 : Int32))])) t ∧ _
  obtain ⟨fs, hr, hrun, hended, hW, hsame⟩ := X0.leave (v := some (.int (0 : Int32))) (fun h => by rw [Bd.returns] at h; cases h)
  refine ⟨_, _, ?_, hrun, hended, _, _, rfl, ?_, ⟨_, rfl⟩, hW, hsame.mono (by decide) (by decide)⟩
  · exact retN X0 hx (t := .boolean) Bd.returns (by simp) (hb hby d3_65) hr
  · show Q_rmEqN Z a1 h0 n0 _ s₁.heap _
    rw [e0]
    exact ⟨rfl, N0, rfl⟩
theorem ef_rmEqL (m : MethodId) (x0 : Addr) (x1 : Addr) : entryFrame m #[(.ref x0), (.ref x1)] 3 = mkF m 0 #[.val (.ref x0), .val (.ref x1), .unset] [] := by first | (simp [entryFrame, mkF, argsToLocals, Value.category]; done) | rfl
def Q_rmEqL (Z : State) (a1 : Addr) (a2 : Addr) (h0 : Heap) (n0 : Nat) (v : Option Value) (h : Heap) (L : List Loc) : Prop := v = some (.int (0 : Int32)) ∧ Fr n0 L ∧ h = h0
set_option maxRecDepth 65536 in
set_option maxHeartbeats 40000000 in
theorem rmEqL (l : Launch) (Z : State) (a0 : Array Value) (hw : ∀ d ∈ tables_1, d.before a0 Z = true) (ws : List Jvm.Cond) (a1 : Addr) (a2 : Addr) (h0 : Heap) (n0 : Nat) (Z0 : n0 ≤ h0.size) (P1 : Exa Z h0 a2 "java/lang/Long") (OLD : Old Z n0 h0) :
    MetFree l (⟨"com/example/libtardy/libtardy/QueueCounts", "equals", "(Ljava/lang/Object;)Z"⟩ : MethodName) (head1 (Jvm.Cond.code (⟨"com/example/libtardy/libtardy/QueueCounts", "equals", "(Ljava/lang/Object;)Z"⟩ : MethodName) prog_5_method_6_code 3 (some .boolean) :: ws) ({ frames := 0, cells := 0, slots := 0, locals := 0 } : Room)) (fun a U => a = #[(.ref a1), (.ref a2)] ∧ Z.Warmed39 U.vm ∧ U.heap = h0) (fun _ _ _ _ _ => True) (fun _ U o U' => ∃ v L, o = .returned v ∧ Q_rmEqL Z a1 a2 h0 n0 v U'.heap L ∧ FrameEnd U o U' L ({ frames := 0, cells := 0, slots := 0, locals := 0 } : Room).cells ({ frames := 0, cells := 0, slots := 0, locals := 0 } : Room).slots) := by
  refine MetFree.of_bodySF (plainFor_of_name pn_com_example_libtardy_libtardy_QueueCounts) hisR ?_
  intro p e s m args below meth c s₁ Bd hml0 hP hK
  obtain ⟨rfl, hZ, hh⟩ := hP
  have hx := Bd.exec
  have hby := Bd.bytes
  have hml : c.maxLocals = 3 := hml0
  have hown : s.vm.findClass "com/example/libtardy/libtardy/QueueCounts" = some m.cls := findClass_of_methodNamed Bd.named
  have hnm := (name_of_methodNamed Bd.named Bd.method).1
  have X0 : Stand p l e ({ frames := 0, cells := 0, slots := 0, locals := 0 } : Room) s m #[(.ref a1), (.ref a2)] below meth c s₁ [] 0 0 := Stand.of_body Bd
  have e0 : s₁.heap = h0 := by rw [← hh, Bd.state]; rfl
  have N0 := Fr.nil n0
  have pre0 : ∀ t, Steps p.tables e below (s₁.setTop (mkF m 0 #[.val (.ref a1), .val (.ref a2), .unset] [])) t → Steps p.tables e below (s₁.setTop (entryFrame m #[(.ref a1), (.ref a2)] 3)) t := fun t k => castTop (ef_rmEqL m a1 a2) k
  have oz := OLD.1
  have lt_a2 := P1.lt
  refine own_go (B := s₁.setTop (mkF m 0 #[.val (.ref a1), .val (.ref a2), .unset] [])) pre0 ?_
  show ∃ t o, Steps p.tables e below (s₁.setTop (mkF m 0 #[.val (.ref a1), .val (.ref a2), .unset] [])) t ∧ _
  refine own_go (fun _ => XS.aloadN X0.here hx rfl (hb hby d3_0) rfl rfl) ?_
  show ∃ t o, Steps p.tables e below (s₁.setTop (mkF m 1 #[.val (.ref a1), .val (.ref a2), .unset] [(.ref a2)])) t ∧ _
  obtain ⟨T2, X2, e2, st2⟩ := instNo X0 hx hZ hown (hw _ (List.mem_of_getElem? (i := 22) rfl)) e0 P1 (own_noins (hw _ (List.mem_of_getElem? (i := 32) rfl)) (hw _ (List.mem_of_getElem? (i := 33) rfl)) (hw _ (List.mem_of_getElem? (i := 34) rfl)) (hw _ (List.mem_of_getElem? (i := 1) rfl)) (by decide) (by decide) (by decide)) (g := (mkF m 1 #[.val (.ref a1), .val (.ref a2), .unset] [(.ref a2)])) rfl rfl (hb hby d3_1)
  refine own_go st2 ?_
  show ∃ t o, Steps p.tables e below (T2.setTop (mkF m 4 #[.val (.ref a1), .val (.ref a2), .unset] [(.int (0 : Int32))])) t ∧ _
  refine own_go (fun _ => XS.ifYes X2.here hx rfl (pc0 := 4) (pc' := 64) rfl (hb hby d3_4) rfl ((if0 _ _).trans (teq (by decide : (0 : Int32) = (0 : Int32))).1) (by decide) (by decide)) ?_
  show ∃ t o, Steps p.tables e below (T2.setTop (mkF m 64 #[.val (.ref a1), .val (.ref a2), .unset] [])) t ∧ _
  refine own_go (fun _ => XS.iconst X2.here hx rfl (hb hby d3_64)) ?_
  show ∃ t o, Steps p.tables e below (T2.setTop (mkF m 65 #[.val (.ref a1), .val (.ref a2), .unset] [(.int (0 : Int32))])) t ∧ _
  obtain ⟨fs, hr, hrun, hended, hW, hsame⟩ := X2.leave (v := some (.int (0 : Int32))) (fun h => by rw [Bd.returns] at h; cases h)
  refine ⟨_, _, ?_, hrun, hended, _, _, rfl, ?_, ⟨_, rfl⟩, hW, hsame.mono (by decide) (by decide)⟩
  · exact retN X2 hx (t := .boolean) Bd.returns (by simp) (hb hby d3_65) hr
  · show Q_rmEqL Z a1 a2 h0 n0 _ T2.heap _
    rw [e2]
    exact ⟨rfl, N0, rfl⟩
theorem ef_rm0 (m : MethodId) (x0 : Int64) (x1 : Int64) (x2 : Int64) (x3 : Int64) (x4 : Int64) (x5 : Int32) : entryFrame m #[(.long x0), (.long x1), (.long x2), (.long x3), (.long x4), (.int x5)] maxLocals = mkF m 0 #[.val (.long x0), .second, .val (.long x1), .second, .val (.long x2), .second, .val (.long x3), .second, .val (.long x4), .second, .val (.int x5), .unset, .unset, .unset, .unset, .unset, .unset, .unset, .unset] [] := by first | (simp [entryFrame, mkF, argsToLocals, Value.category, maxLocals]; done) | rfl
theorem pd__28JJJJ_29V : parseMethodDescriptor "(JJJJ)V" = some ⟨[.long, .long, .long, .long], none⟩ := by decide +kernel
theorem pd__28Ljava_2flang_2fObject_3b_29Z : parseMethodDescriptor "(Ljava/lang/Object;)Z" = some ⟨[(.object "java/lang/Object")], some .boolean⟩ := by decide +kernel
theorem pd__28J_29Ljava_2flang_2fLong_3b : parseMethodDescriptor "(J)Ljava/lang/Long;" = some ⟨[.long], some (.object "java/lang/Long")⟩ := by decide +kernel
theorem pn_com_example_libtardy_libtardy_QueueCountsEqualsPinLaw : plainName "com/example/libtardy/libtardy/QueueCountsEqualsPinLaw" = true := by first | (simp [plainName, overriddenIn]; done) | decide +kernel
def Q_rm0 (Z : State) (v1 : Int64) (v2 : Int64) (v3 : Int64) (v4 : Int64) (dl : Int64) (sl : Int32) (ca : Addr) (cca : Cell) (h0 : Heap) (n0 : Nat) (v : Option Value) (h : Heap) (L : List Loc) : Prop := v = some (.int (1 : Int32)) ∧ Fr n0 L ∧ Keep h0 h []
set_option maxRecDepth 65536 in
set_option maxHeartbeats 40000000 in
theorem rm0 (l : Launch) (Z : State) (a0 : Array Value) (hw : ∀ d ∈ tables_1, d.before a0 Z = true) (ws : List Jvm.Cond) (v1 : Int64) (v2 : Int64) (v3 : Int64) (v4 : Int64) (dl : Int64) (sl : Int32) (ca : Addr) (cca : Cell) (h0 : Heap) (n0 : Nat) (Z0 : n0 ≤ h0.size) (OLD : Old Z n0 h0) (P1 : Sta Z Z.heap "java/lang/Long$LongCache" "cache" "[Ljava/lang/Long;" (.ref ca)) (BX : Bxs Z ca cca "java/lang/Long" "J" (256 : Int32) own_lval) :
    MetFree l x (head1 (Jvm.Cond.code x code maxLocals ret :: ws) room_1) (fun a U => a = #[(.long v1), (.long v2), (.long v3), (.long v4), (.long dl), (.int sl)] ∧ Z.Warmed39 U.vm ∧ U.heap = h0) (fun _ _ _ _ _ => True) (fun _ U o U' => ∃ v L, o = .returned v ∧ Q_rm0 Z v1 v2 v3 v4 dl sl ca cca h0 n0 v U'.heap L ∧ FrameEnd U o U' L room_1.cells room_1.slots) := by
  refine MetFree.of_bodySF (plainFor_of_name pn_com_example_libtardy_libtardy_QueueCountsEqualsPinLaw) hisR ?_
  intro p e s m args below meth c s₁ Bd hml0 hP hK
  obtain ⟨rfl, hZ, hh⟩ := hP
  have hx := Bd.exec
  have hby := Bd.bytes
  have hml : c.maxLocals = 19 := hml0
  have hown : s.vm.findClass "com/example/libtardy/libtardy/QueueCountsEqualsPinLaw" = some m.cls := findClass_of_methodNamed Bd.named
  have hnm := (name_of_methodNamed Bd.named Bd.method).1
  have X0 : Stand p l e room_1 s m #[(.long v1), (.long v2), (.long v3), (.long v4), (.long dl), (.int sl)] below meth c s₁ [] 0 0 := Stand.of_body Bd
  have e0 : s₁.heap = h0 := by rw [← hh, Bd.state]; rfl
  have N0 := Fr.nil n0
  have pre0 : ∀ t, Steps p.tables e below (s₁.setTop (mkF m 0 #[.val (.long v1), .second, .val (.long v2), .second, .val (.long v3), .second, .val (.long v4), .second, .val (.long dl), .second, .val (.int sl), .unset, .unset, .unset, .unset, .unset, .unset, .unset, .unset] [])) t → Steps p.tables e below (s₁.setTop (entryFrame m #[(.long v1), (.long v2), (.long v3), (.long v4), (.long dl), (.int sl)] maxLocals)) t := fun t k => castTop (ef_rm0 m v1 v2 v3 v4 dl sl) k
  have oz := OLD.1
  refine own_go (B := s₁.setTop (mkF m 0 #[.val (.long v1), .second, .val (.long v2), .second, .val (.long v3), .second, .val (.long v4), .second, .val (.long dl), .second, .val (.int sl), .unset, .unset, .unset, .unset, .unset, .unset, .unset, .unset] [])) pre0 ?_
  show ∃ t o, Steps p.tables e below (s₁.setTop (mkF m 0 #[.val (.long v1), .second, .val (.long v2), .second, .val (.long v3), .second, .val (.long v4), .second, .val (.long dl), .second, .val (.int sl), .unset, .unset, .unset, .unset, .unset, .unset, .unset, .unset] [])) t ∧ _
  obtain ⟨T2, h2, X2, e2, E2, A2, D2, -, st2⟩ := newO X0 hx hZ hown (hw _ (List.mem_of_getElem? (i := 0) rfl)) (hw _ (List.mem_of_getElem? (i := 1) rfl)) (hw _ (List.mem_of_getElem? (i := 2) rfl)) e0 (g := (mkF m 0 #[.val (.long v1), .second, .val (.long v2), .second, .val (.long v3), .second, .val (.long v4), .second, .val (.long dl), .second, .val (.int sl), .unset, .unset, .unset, .unset, .unset, .unset, .unset, .unset] [])) rfl (hb hby at_0) (by decide) (by decide)
  obtain ⟨b2, g2⟩ : ∃ z, z = h0.size := ⟨_, rfl⟩
  rw [← g2] at A2 D2 st2
  refine own_go st2 ?_
  have le_2 : h0.size ≤ h2.size := E2.1
  have lt_b2 : b2 < h2.size := A2.lt
  have F_waiting_b2 : Fld Z h2 b2 "com/example/libtardy/libtardy/QueueCounts" "waiting" "J" (.long (0 : Int64)) := D2 (Or.inr (hw _ (List.mem_of_getElem? (i := 10) rfl))) (ty := .long) (by decide)
  have F_due_b2 : Fld Z h2 b2 "com/example/libtardy/libtardy/QueueCounts" "due" "J" (.long (0 : Int64)) := D2 (Or.inr (hw _ (List.mem_of_getElem? (i := 12) rfl))) (ty := .long) (by decide)
  have F_inFlight_b2 : Fld Z h2 b2 "com/example/libtardy/libtardy/QueueCounts" "inFlight" "J" (.long (0 : Int64)) := D2 (Or.inr (hw _ (List.mem_of_getElem? (i := 14) rfl))) (ty := .long) (by decide)
  have F_dead_b2 : Fld Z h2 b2 "com/example/libtardy/libtardy/QueueCounts" "dead" "J" (.long (0 : Int64)) := D2 (Or.inr (hw _ (List.mem_of_getElem? (i := 16) rfl))) (ty := .long) (by decide)
  have K2 : Keep h0 h2 [] := Keep.ext (Keep.refl h0 []) E2
  show ∃ t o, Steps p.tables e below (T2.setTop (mkF m 3 #[.val (.long v1), .second, .val (.long v2), .second, .val (.long v3), .second, .val (.long v4), .second, .val (.long dl), .second, .val (.int sl), .unset, .unset, .unset, .unset, .unset, .unset, .unset, .unset] [(.ref b2)])) t ∧ _
  refine own_go (fun _ => XS.dup X2.here hx rfl (hb hby at_3) rfl rfl) ?_
  show ∃ t o, Steps p.tables e below (T2.setTop (mkF m 4 #[.val (.long v1), .second, .val (.long v2), .second, .val (.long v3), .second, .val (.long v4), .second, .val (.long dl), .second, .val (.int sl), .unset, .unset, .unset, .unset, .unset, .unset, .unset, .unset] [(.ref b2), (.ref b2)])) t ∧ _
  refine own_go (fun _ => XS.lloadN X2.here hx rfl (hb hby at_4) rfl) ?_
  show ∃ t o, Steps p.tables e below (T2.setTop (mkF m 5 #[.val (.long v1), .second, .val (.long v2), .second, .val (.long v3), .second, .val (.long v4), .second, .val (.long dl), .second, .val (.int sl), .unset, .unset, .unset, .unset, .unset, .unset, .unset, .unset] [(.long v1), (.ref b2), (.ref b2)])) t ∧ _
  refine own_go (fun _ => XS.lloadN X2.here hx rfl (hb hby at_5) rfl) ?_
  show ∃ t o, Steps p.tables e below (T2.setTop (mkF m 6 #[.val (.long v1), .second, .val (.long v2), .second, .val (.long v3), .second, .val (.long v4), .second, .val (.long dl), .second, .val (.int sl), .unset, .unset, .unset, .unset, .unset, .unset, .unset, .unset] [(.long v2), (.long v1), (.ref b2), (.ref b2)])) t ∧ _
  refine own_go (fun _ => XS.lload X2.here hx rfl (hb hby at_6) rfl) ?_
  show ∃ t o, Steps p.tables e below (T2.setTop (mkF m 8 #[.val (.long v1), .second, .val (.long v2), .second, .val (.long v3), .second, .val (.long v4), .second, .val (.long dl), .second, .val (.int sl), .unset, .unset, .unset, .unset, .unset, .unset, .unset, .unset] [(.long v3), (.long v2), (.long v1), (.ref b2), (.ref b2)])) t ∧ _
  refine own_go (fun _ => XS.lload X2.here hx rfl (hb hby at_8) rfl) ?_
  show ∃ t o, Steps p.tables e below (T2.setTop (mkF m 10 #[.val (.long v1), .second, .val (.long v2), .second, .val (.long v3), .second, .val (.long v4), .second, .val (.long dl), .second, .val (.int sl), .unset, .unset, .unset, .unset, .unset, .unset, .unset, .unset] [(.long v4), (.long v3), (.long v2), (.long v1), (.ref b2), (.ref b2)])) t ∧ _
  have F3 : Old Z n0 h2 := (OLD.ext E2)
  have ge4 : n0 ≤ b2 := by omega
  have zl5 : n0 ≤ h2.size := by omega
  obtain ⟨_, _, ⟨T6, L6, k6, n6⟩, -, X6, ⟨Lc6, hQ6, l6, y6, z6⟩, st6⟩ := X2.specialBack hx (y := (⟨"com/example/libtardy/libtardy/QueueCounts", "<init>", "(JJJJ)V"⟩ : MethodName)) rfl hown (mvT hZ (hw _ (List.mem_of_getElem? (i := 3) rfl))) (mvT hZ (hw _ (List.mem_of_getElem? (i := 4) rfl))) (mvT hZ (hw _ (List.mem_of_getElem? (i := 5) rfl))) (by decide) (backOf (W := 1) (rmInit l Z a0 hw [] b2 v1 v2 v3 v4 h2 n0 zl5 A2 F_waiting_b2 F_due_b2 F_inFlight_b2 F_dead_b2 F3 ge4) hZ (hw _ (List.mem_of_getElem? (i := 5) rfl)) (hw _ (List.mem_of_getElem? (i := 2) rfl)) (by decide) (by decide)) (g := (mkF m 10 #[.val (.long v1), .second, .val (.long v2), .second, .val (.long v3), .second, .val (.long v4), .second, .val (.long dl), .second, .val (.int sl), .unset, .unset, .unset, .unset, .unset, .unset, .unset, .unset] [(.long v4), (.long v3), (.long v2), (.long v1), (.ref b2), (.ref b2)])) rfl (by rw [hml]; rfl) (Steps.refl _) (a := b2) (argsL := [(.long v1), (.long v2), (.long v3), (.long v4)]) (rest := [(.ref b2)]) (lenOf pd__28JJJJ_29V rfl) rfl (by show 2 * 0 + _ ≤ _; exact Nat.le_of_eq rfl) (hb hby at_10) (fun _ _ => ⟨rfl, e2, (by decide : 1 + 0 ≤ _), (by decide : 4 + 0 ≤ _)⟩)
  dsimp only [Pt.U, Pt.locs, Pt.cells, Pt.slots] at X6 l6 y6 z6 st6 hQ6
  subst l6 y6 z6
  obtain ⟨rfl, Nq6, Kp6, G6_0, G6_1, G6_2, G6_3, G6_4⟩ := hQ6
  have N6 := Fr.app N0 Nq6
  refine own_goT st6 ?_
  have le_6 : h2.size ≤ T6.heap.size := Kp6.1
  have sz7 : h0.size ≤ b2 := by omega
  have K6 : Keep h0 T6.heap [] := Keep.trans K2 Kp6 (allS (Or.inr sz7) all0)
  show ∃ t o, Steps p.tables e below (T6.setTop (mkF m 13 #[.val (.long v1), .second, .val (.long v2), .second, .val (.long v3), .second, .val (.long v4), .second, .val (.long dl), .second, .val (.int sl), .unset, .unset, .unset, .unset, .unset, .unset, .unset, .unset] [(.ref b2)])) t ∧ _
  refine own_go (fun _ => XS.astore X6.here hx rfl (hb hby at_13) rfl rfl (l' := #[.val (.long v1), .second, .val (.long v2), .second, .val (.long v3), .second, .val (.long v4), .second, .val (.long dl), .second, .val (.int sl), .val (.ref b2), .unset, .unset, .unset, .unset, .unset, .unset, .unset]) rfl) ?_
  show ∃ t o, Steps p.tables e below (T6.setTop (mkF m 15 #[.val (.long v1), .second, .val (.long v2), .second, .val (.long v3), .second, .val (.long v4), .second, .val (.long dl), .second, .val (.int sl), .val (.ref b2), .unset, .unset, .unset, .unset, .unset, .unset, .unset] [])) t ∧ _
  refine own_go (fun _ => XS.iload X6.here hx rfl (hb hby at_15) rfl) ?_
  show ∃ t o, Steps p.tables e below (T6.setTop (mkF m 17 #[.val (.long v1), .second, .val (.long v2), .second, .val (.long v3), .second, .val (.long v4), .second, .val (.long dl), .second, .val (.int sl), .val (.ref b2), .unset, .unset, .unset, .unset, .unset, .unset, .unset] [(.int sl)])) t ∧ _
  refine own_go (fun _ => XS.iconst X6.here hx rfl (hb hby at_17)) ?_
  show ∃ t o, Steps p.tables e below (T6.setTop (mkF m 18 #[.val (.long v1), .second, .val (.long v2), .second, .val (.long v3), .second, .val (.long v4), .second, .val (.long dl), .second, .val (.int sl), .val (.ref b2), .unset, .unset, .unset, .unset, .unset, .unset, .unset] [(.int (1 : Int32)), (.int sl)])) t ∧ _
  refine own_go (fun _ => XS.iand X6.here hx rfl (hb hby at_18) rfl) ?_
  show ∃ t o, Steps p.tables e below (T6.setTop (mkF m 19 #[.val (.long v1), .second, .val (.long v2), .second, .val (.long v3), .second, .val (.long v4), .second, .val (.long dl), .second, .val (.int sl), .val (.ref b2), .unset, .unset, .unset, .unset, .unset, .unset, .unset] [(.int (sl &&& (1 : Int32)))])) t ∧ _
  have seg8 : ∀ t, Steps p.tables e below (T6.setTop (mkF m 27 #[.val (.long v1), .second, .val (.long v2), .second, .val (.long v3), .second, .val (.long v4), .second, .val (.long dl), .second, .val (.int sl), .val (.ref b2), .unset, .unset, .unset, .unset, .unset, .unset, .unset] [(.int (if (sl &&& (1 : Int32)) = (0 : Int32) then (0 : Int32) else (1 : Int32)))])) t → Steps p.tables e below (T6.setTop (mkF m 19 #[.val (.long v1), .second, .val (.long v2), .second, .val (.long v3), .second, .val (.long v4), .second, .val (.long dl), .second, .val (.int sl), .val (.ref b2), .unset, .unset, .unset, .unset, .unset, .unset, .unset] [(.int (sl &&& (1 : Int32)))])) t := by
    intro t k
    show Steps p.tables e below (T6.setTop (mkF m 19 #[.val (.long v1), .second, .val (.long v2), .second, .val (.long v3), .second, .val (.long v4), .second, .val (.long dl), .second, .val (.int sl), .val (.ref b2), .unset, .unset, .unset, .unset, .unset, .unset, .unset] [(.int (sl &&& (1 : Int32)))])) _
    by_cases hc9 : (sl &&& (1 : Int32)) = (0 : Int32)
    · refine XS.ifYes X6.here hx rfl (pc0 := 19) (pc' := 26) rfl (hb hby at_19) rfl ((if0 _ _).trans (teq hc9).1) (by decide) (by decide) ?_
      show Steps p.tables e below (T6.setTop (mkF m 26 #[.val (.long v1), .second, .val (.long v2), .second, .val (.long v3), .second, .val (.long v4), .second, .val (.long dl), .second, .val (.int sl), .val (.ref b2), .unset, .unset, .unset, .unset, .unset, .unset, .unset] [])) _
      refine XS.iconst X6.here hx rfl (hb hby at_26) ?_
      simp only [if_pos hc9] at k
      exact k
    · refine XS.ifNo X6.here hx rfl (hb hby at_19) rfl ((if0 _ _).trans (feq hc9).1) ?_
      show Steps p.tables e below (T6.setTop (mkF m 22 #[.val (.long v1), .second, .val (.long v2), .second, .val (.long v3), .second, .val (.long v4), .second, .val (.long dl), .second, .val (.int sl), .val (.ref b2), .unset, .unset, .unset, .unset, .unset, .unset, .unset] [])) _
      refine XS.iconst X6.here hx rfl (hb hby at_22) ?_
      show Steps p.tables e below (T6.setTop (mkF m 23 #[.val (.long v1), .second, .val (.long v2), .second, .val (.long v3), .second, .val (.long v4), .second, .val (.long dl), .second, .val (.int sl), .val (.ref b2), .unset, .unset, .unset, .unset, .unset, .unset, .unset] [(.int (1 : Int32))])) _
      refine XS.goto X6.here hx rfl (pc0 := 23) (pc' := 27) rfl (hb hby at_23) (by decide) (by decide) ?_
      simp only [if_neg hc9] at k
      exact k
  refine own_go seg8 ?_
  show ∃ t o, Steps p.tables e below (T6.setTop (mkF m 27 #[.val (.long v1), .second, .val (.long v2), .second, .val (.long v3), .second, .val (.long v4), .second, .val (.long dl), .second, .val (.int sl), .val (.ref b2), .unset, .unset, .unset, .unset, .unset, .unset, .unset] [(.int (if (sl &&& (1 : Int32)) = (0 : Int32) then (0 : Int32) else (1 : Int32)))])) t ∧ _
  refine own_go (fun _ => XS.istore X6.here hx rfl (hb hby at_27) rfl (l' := #[.val (.long v1), .second, .val (.long v2), .second, .val (.long v3), .second, .val (.long v4), .second, .val (.long dl), .second, .val (.int sl), .val (.ref b2), .val (.int (if (sl &&& (1 : Int32)) = (0 : Int32) then (0 : Int32) else (1 : Int32))), .unset, .unset, .unset, .unset, .unset, .unset]) rfl) ?_
  show ∃ t o, Steps p.tables e below (T6.setTop (mkF m 29 #[.val (.long v1), .second, .val (.long v2), .second, .val (.long v3), .second, .val (.long v4), .second, .val (.long dl), .second, .val (.int sl), .val (.ref b2), .val (.int (if (sl &&& (1 : Int32)) = (0 : Int32) then (0 : Int32) else (1 : Int32))), .unset, .unset, .unset, .unset, .unset, .unset] [])) t ∧ _
  refine own_go (fun _ => XS.iload X6.here hx rfl (hb hby at_29) rfl) ?_
  show ∃ t o, Steps p.tables e below (T6.setTop (mkF m 31 #[.val (.long v1), .second, .val (.long v2), .second, .val (.long v3), .second, .val (.long v4), .second, .val (.long dl), .second, .val (.int sl), .val (.ref b2), .val (.int (if (sl &&& (1 : Int32)) = (0 : Int32) then (0 : Int32) else (1 : Int32))), .unset, .unset, .unset, .unset, .unset, .unset] [(.int sl)])) t ∧ _
  refine own_go (fun _ => XS.iconst X6.here hx rfl (hb hby at_31)) ?_
  show ∃ t o, Steps p.tables e below (T6.setTop (mkF m 32 #[.val (.long v1), .second, .val (.long v2), .second, .val (.long v3), .second, .val (.long v4), .second, .val (.long dl), .second, .val (.int sl), .val (.ref b2), .val (.int (if (sl &&& (1 : Int32)) = (0 : Int32) then (0 : Int32) else (1 : Int32))), .unset, .unset, .unset, .unset, .unset, .unset] [(.int (2 : Int32)), (.int sl)])) t ∧ _
  refine own_go (fun _ => XS.iand X6.here hx rfl (hb hby at_32) rfl) ?_
  show ∃ t o, Steps p.tables e below (T6.setTop (mkF m 33 #[.val (.long v1), .second, .val (.long v2), .second, .val (.long v3), .second, .val (.long v4), .second, .val (.long dl), .second, .val (.int sl), .val (.ref b2), .val (.int (if (sl &&& (1 : Int32)) = (0 : Int32) then (0 : Int32) else (1 : Int32))), .unset, .unset, .unset, .unset, .unset, .unset] [(.int (sl &&& (2 : Int32)))])) t ∧ _
  have seg10 : ∀ t, Steps p.tables e below (T6.setTop (mkF m 41 #[.val (.long v1), .second, .val (.long v2), .second, .val (.long v3), .second, .val (.long v4), .second, .val (.long dl), .second, .val (.int sl), .val (.ref b2), .val (.int (if (sl &&& (1 : Int32)) = (0 : Int32) then (0 : Int32) else (1 : Int32))), .unset, .unset, .unset, .unset, .unset, .unset] [(.int (if (sl &&& (2 : Int32)) = (0 : Int32) then (0 : Int32) else (1 : Int32)))])) t → Steps p.tables e below (T6.setTop (mkF m 33 #[.val (.long v1), .second, .val (.long v2), .second, .val (.long v3), .second, .val (.long v4), .second, .val (.long dl), .second, .val (.int sl), .val (.ref b2), .val (.int (if (sl &&& (1 : Int32)) = (0 : Int32) then (0 : Int32) else (1 : Int32))), .unset, .unset, .unset, .unset, .unset, .unset] [(.int (sl &&& (2 : Int32)))])) t := by
    intro t k
    show Steps p.tables e below (T6.setTop (mkF m 33 #[.val (.long v1), .second, .val (.long v2), .second, .val (.long v3), .second, .val (.long v4), .second, .val (.long dl), .second, .val (.int sl), .val (.ref b2), .val (.int (if (sl &&& (1 : Int32)) = (0 : Int32) then (0 : Int32) else (1 : Int32))), .unset, .unset, .unset, .unset, .unset, .unset] [(.int (sl &&& (2 : Int32)))])) _
    by_cases hc11 : (sl &&& (2 : Int32)) = (0 : Int32)
    · refine XS.ifYes X6.here hx rfl (pc0 := 33) (pc' := 40) rfl (hb hby at_33) rfl ((if0 _ _).trans (teq hc11).1) (by decide) (by decide) ?_
      show Steps p.tables e below (T6.setTop (mkF m 40 #[.val (.long v1), .second, .val (.long v2), .second, .val (.long v3), .second, .val (.long v4), .second, .val (.long dl), .second, .val (.int sl), .val (.ref b2), .val (.int (if (sl &&& (1 : Int32)) = (0 : Int32) then (0 : Int32) else (1 : Int32))), .unset, .unset, .unset, .unset, .unset, .unset] [])) _
      refine XS.iconst X6.here hx rfl (hb hby at_40) ?_
      simp only [if_pos hc11] at k
      exact k
    · refine XS.ifNo X6.here hx rfl (hb hby at_33) rfl ((if0 _ _).trans (feq hc11).1) ?_
      show Steps p.tables e below (T6.setTop (mkF m 36 #[.val (.long v1), .second, .val (.long v2), .second, .val (.long v3), .second, .val (.long v4), .second, .val (.long dl), .second, .val (.int sl), .val (.ref b2), .val (.int (if (sl &&& (1 : Int32)) = (0 : Int32) then (0 : Int32) else (1 : Int32))), .unset, .unset, .unset, .unset, .unset, .unset] [])) _
      refine XS.iconst X6.here hx rfl (hb hby at_36) ?_
      show Steps p.tables e below (T6.setTop (mkF m 37 #[.val (.long v1), .second, .val (.long v2), .second, .val (.long v3), .second, .val (.long v4), .second, .val (.long dl), .second, .val (.int sl), .val (.ref b2), .val (.int (if (sl &&& (1 : Int32)) = (0 : Int32) then (0 : Int32) else (1 : Int32))), .unset, .unset, .unset, .unset, .unset, .unset] [(.int (1 : Int32))])) _
      refine XS.goto X6.here hx rfl (pc0 := 37) (pc' := 41) rfl (hb hby at_37) (by decide) (by decide) ?_
      simp only [if_neg hc11] at k
      exact k
  refine own_go seg10 ?_
  show ∃ t o, Steps p.tables e below (T6.setTop (mkF m 41 #[.val (.long v1), .second, .val (.long v2), .second, .val (.long v3), .second, .val (.long v4), .second, .val (.long dl), .second, .val (.int sl), .val (.ref b2), .val (.int (if (sl &&& (1 : Int32)) = (0 : Int32) then (0 : Int32) else (1 : Int32))), .unset, .unset, .unset, .unset, .unset, .unset] [(.int (if (sl &&& (2 : Int32)) = (0 : Int32) then (0 : Int32) else (1 : Int32)))])) t ∧ _
  refine own_go (fun _ => XS.istore X6.here hx rfl (hb hby at_41) rfl (l' := #[.val (.long v1), .second, .val (.long v2), .second, .val (.long v3), .second, .val (.long v4), .second, .val (.long dl), .second, .val (.int sl), .val (.ref b2), .val (.int (if (sl &&& (1 : Int32)) = (0 : Int32) then (0 : Int32) else (1 : Int32))), .val (.int (if (sl &&& (2 : Int32)) = (0 : Int32) then (0 : Int32) else (1 : Int32))), .unset, .unset, .unset, .unset, .unset]) rfl) ?_
  show ∃ t o, Steps p.tables e below (T6.setTop (mkF m 43 #[.val (.long v1), .second, .val (.long v2), .second, .val (.long v3), .second, .val (.long v4), .second, .val (.long dl), .second, .val (.int sl), .val (.ref b2), .val (.int (if (sl &&& (1 : Int32)) = (0 : Int32) then (0 : Int32) else (1 : Int32))), .val (.int (if (sl &&& (2 : Int32)) = (0 : Int32) then (0 : Int32) else (1 : Int32))), .unset, .unset, .unset, .unset, .unset] [])) t ∧ _
  refine own_go (fun _ => XS.iload X6.here hx rfl (hb hby at_43) rfl) ?_
  show ∃ t o, Steps p.tables e below (T6.setTop (mkF m 45 #[.val (.long v1), .second, .val (.long v2), .second, .val (.long v3), .second, .val (.long v4), .second, .val (.long dl), .second, .val (.int sl), .val (.ref b2), .val (.int (if (sl &&& (1 : Int32)) = (0 : Int32) then (0 : Int32) else (1 : Int32))), .val (.int (if (sl &&& (2 : Int32)) = (0 : Int32) then (0 : Int32) else (1 : Int32))), .unset, .unset, .unset, .unset, .unset] [(.int sl)])) t ∧ _
  refine own_go (fun _ => XS.iconst X6.here hx rfl (hb hby at_45)) ?_
  show ∃ t o, Steps p.tables e below (T6.setTop (mkF m 46 #[.val (.long v1), .second, .val (.long v2), .second, .val (.long v3), .second, .val (.long v4), .second, .val (.long dl), .second, .val (.int sl), .val (.ref b2), .val (.int (if (sl &&& (1 : Int32)) = (0 : Int32) then (0 : Int32) else (1 : Int32))), .val (.int (if (sl &&& (2 : Int32)) = (0 : Int32) then (0 : Int32) else (1 : Int32))), .unset, .unset, .unset, .unset, .unset] [(.int (4 : Int32)), (.int sl)])) t ∧ _
  refine own_go (fun _ => XS.iand X6.here hx rfl (hb hby at_46) rfl) ?_
  show ∃ t o, Steps p.tables e below (T6.setTop (mkF m 47 #[.val (.long v1), .second, .val (.long v2), .second, .val (.long v3), .second, .val (.long v4), .second, .val (.long dl), .second, .val (.int sl), .val (.ref b2), .val (.int (if (sl &&& (1 : Int32)) = (0 : Int32) then (0 : Int32) else (1 : Int32))), .val (.int (if (sl &&& (2 : Int32)) = (0 : Int32) then (0 : Int32) else (1 : Int32))), .unset, .unset, .unset, .unset, .unset] [(.int (sl &&& (4 : Int32)))])) t ∧ _
  have seg12 : ∀ t, Steps p.tables e below (T6.setTop (mkF m 55 #[.val (.long v1), .second, .val (.long v2), .second, .val (.long v3), .second, .val (.long v4), .second, .val (.long dl), .second, .val (.int sl), .val (.ref b2), .val (.int (if (sl &&& (1 : Int32)) = (0 : Int32) then (0 : Int32) else (1 : Int32))), .val (.int (if (sl &&& (2 : Int32)) = (0 : Int32) then (0 : Int32) else (1 : Int32))), .unset, .unset, .unset, .unset, .unset] [(.int (if (sl &&& (4 : Int32)) = (0 : Int32) then (0 : Int32) else (1 : Int32)))])) t → Steps p.tables e below (T6.setTop (mkF m 47 #[.val (.long v1), .second, .val (.long v2), .second, .val (.long v3), .second, .val (.long v4), .second, .val (.long dl), .second, .val (.int sl), .val (.ref b2), .val (.int (if (sl &&& (1 : Int32)) = (0 : Int32) then (0 : Int32) else (1 : Int32))), .val (.int (if (sl &&& (2 : Int32)) = (0 : Int32) then (0 : Int32) else (1 : Int32))), .unset, .unset, .unset, .unset, .unset] [(.int (sl &&& (4 : Int32)))])) t := by
    intro t k
    show Steps p.tables e below (T6.setTop (mkF m 47 #[.val (.long v1), .second, .val (.long v2), .second, .val (.long v3), .second, .val (.long v4), .second, .val (.long dl), .second, .val (.int sl), .val (.ref b2), .val (.int (if (sl &&& (1 : Int32)) = (0 : Int32) then (0 : Int32) else (1 : Int32))), .val (.int (if (sl &&& (2 : Int32)) = (0 : Int32) then (0 : Int32) else (1 : Int32))), .unset, .unset, .unset, .unset, .unset] [(.int (sl &&& (4 : Int32)))])) _
    by_cases hc13 : (sl &&& (4 : Int32)) = (0 : Int32)
    · refine XS.ifYes X6.here hx rfl (pc0 := 47) (pc' := 54) rfl (hb hby at_47) rfl ((if0 _ _).trans (teq hc13).1) (by decide) (by decide) ?_
      show Steps p.tables e below (T6.setTop (mkF m 54 #[.val (.long v1), .second, .val (.long v2), .second, .val (.long v3), .second, .val (.long v4), .second, .val (.long dl), .second, .val (.int sl), .val (.ref b2), .val (.int (if (sl &&& (1 : Int32)) = (0 : Int32) then (0 : Int32) else (1 : Int32))), .val (.int (if (sl &&& (2 : Int32)) = (0 : Int32) then (0 : Int32) else (1 : Int32))), .unset, .unset, .unset, .unset, .unset] [])) _
      refine XS.iconst X6.here hx rfl (hb hby at_54) ?_
      simp only [if_pos hc13] at k
      exact k
    · refine XS.ifNo X6.here hx rfl (hb hby at_47) rfl ((if0 _ _).trans (feq hc13).1) ?_
      show Steps p.tables e below (T6.setTop (mkF m 50 #[.val (.long v1), .second, .val (.long v2), .second, .val (.long v3), .second, .val (.long v4), .second, .val (.long dl), .second, .val (.int sl), .val (.ref b2), .val (.int (if (sl &&& (1 : Int32)) = (0 : Int32) then (0 : Int32) else (1 : Int32))), .val (.int (if (sl &&& (2 : Int32)) = (0 : Int32) then (0 : Int32) else (1 : Int32))), .unset, .unset, .unset, .unset, .unset] [])) _
      refine XS.iconst X6.here hx rfl (hb hby at_50) ?_
      show Steps p.tables e below (T6.setTop (mkF m 51 #[.val (.long v1), .second, .val (.long v2), .second, .val (.long v3), .second, .val (.long v4), .second, .val (.long dl), .second, .val (.int sl), .val (.ref b2), .val (.int (if (sl &&& (1 : Int32)) = (0 : Int32) then (0 : Int32) else (1 : Int32))), .val (.int (if (sl &&& (2 : Int32)) = (0 : Int32) then (0 : Int32) else (1 : Int32))), .unset, .unset, .unset, .unset, .unset] [(.int (1 : Int32))])) _
      refine XS.goto X6.here hx rfl (pc0 := 51) (pc' := 55) rfl (hb hby at_51) (by decide) (by decide) ?_
      simp only [if_neg hc13] at k
      exact k
  refine own_go seg12 ?_
  show ∃ t o, Steps p.tables e below (T6.setTop (mkF m 55 #[.val (.long v1), .second, .val (.long v2), .second, .val (.long v3), .second, .val (.long v4), .second, .val (.long dl), .second, .val (.int sl), .val (.ref b2), .val (.int (if (sl &&& (1 : Int32)) = (0 : Int32) then (0 : Int32) else (1 : Int32))), .val (.int (if (sl &&& (2 : Int32)) = (0 : Int32) then (0 : Int32) else (1 : Int32))), .unset, .unset, .unset, .unset, .unset] [(.int (if (sl &&& (4 : Int32)) = (0 : Int32) then (0 : Int32) else (1 : Int32)))])) t ∧ _
  refine own_go (fun _ => XS.istore X6.here hx rfl (hb hby at_55) rfl (l' := #[.val (.long v1), .second, .val (.long v2), .second, .val (.long v3), .second, .val (.long v4), .second, .val (.long dl), .second, .val (.int sl), .val (.ref b2), .val (.int (if (sl &&& (1 : Int32)) = (0 : Int32) then (0 : Int32) else (1 : Int32))), .val (.int (if (sl &&& (2 : Int32)) = (0 : Int32) then (0 : Int32) else (1 : Int32))), .val (.int (if (sl &&& (4 : Int32)) = (0 : Int32) then (0 : Int32) else (1 : Int32))), .unset, .unset, .unset, .unset]) rfl) ?_
  show ∃ t o, Steps p.tables e below (T6.setTop (mkF m 57 #[.val (.long v1), .second, .val (.long v2), .second, .val (.long v3), .second, .val (.long v4), .second, .val (.long dl), .second, .val (.int sl), .val (.ref b2), .val (.int (if (sl &&& (1 : Int32)) = (0 : Int32) then (0 : Int32) else (1 : Int32))), .val (.int (if (sl &&& (2 : Int32)) = (0 : Int32) then (0 : Int32) else (1 : Int32))), .val (.int (if (sl &&& (4 : Int32)) = (0 : Int32) then (0 : Int32) else (1 : Int32))), .unset, .unset, .unset, .unset] [])) t ∧ _
  refine own_go (fun _ => XS.iload X6.here hx rfl (hb hby at_57) rfl) ?_
  show ∃ t o, Steps p.tables e below (T6.setTop (mkF m 59 #[.val (.long v1), .second, .val (.long v2), .second, .val (.long v3), .second, .val (.long v4), .second, .val (.long dl), .second, .val (.int sl), .val (.ref b2), .val (.int (if (sl &&& (1 : Int32)) = (0 : Int32) then (0 : Int32) else (1 : Int32))), .val (.int (if (sl &&& (2 : Int32)) = (0 : Int32) then (0 : Int32) else (1 : Int32))), .val (.int (if (sl &&& (4 : Int32)) = (0 : Int32) then (0 : Int32) else (1 : Int32))), .unset, .unset, .unset, .unset] [(.int sl)])) t ∧ _
  refine own_go (fun _ => XS.bipush X6.here hx rfl (hb hby at_59)) ?_
  show ∃ t o, Steps p.tables e below (T6.setTop (mkF m 61 #[.val (.long v1), .second, .val (.long v2), .second, .val (.long v3), .second, .val (.long v4), .second, .val (.long dl), .second, .val (.int sl), .val (.ref b2), .val (.int (if (sl &&& (1 : Int32)) = (0 : Int32) then (0 : Int32) else (1 : Int32))), .val (.int (if (sl &&& (2 : Int32)) = (0 : Int32) then (0 : Int32) else (1 : Int32))), .val (.int (if (sl &&& (4 : Int32)) = (0 : Int32) then (0 : Int32) else (1 : Int32))), .unset, .unset, .unset, .unset] [(.int (8 : Int32)), (.int sl)])) t ∧ _
  refine own_go (fun _ => XS.iand X6.here hx rfl (hb hby at_61) rfl) ?_
  show ∃ t o, Steps p.tables e below (T6.setTop (mkF m 62 #[.val (.long v1), .second, .val (.long v2), .second, .val (.long v3), .second, .val (.long v4), .second, .val (.long dl), .second, .val (.int sl), .val (.ref b2), .val (.int (if (sl &&& (1 : Int32)) = (0 : Int32) then (0 : Int32) else (1 : Int32))), .val (.int (if (sl &&& (2 : Int32)) = (0 : Int32) then (0 : Int32) else (1 : Int32))), .val (.int (if (sl &&& (4 : Int32)) = (0 : Int32) then (0 : Int32) else (1 : Int32))), .unset, .unset, .unset, .unset] [(.int (sl &&& (8 : Int32)))])) t ∧ _
  have seg14 : ∀ t, Steps p.tables e below (T6.setTop (mkF m 70 #[.val (.long v1), .second, .val (.long v2), .second, .val (.long v3), .second, .val (.long v4), .second, .val (.long dl), .second, .val (.int sl), .val (.ref b2), .val (.int (if (sl &&& (1 : Int32)) = (0 : Int32) then (0 : Int32) else (1 : Int32))), .val (.int (if (sl &&& (2 : Int32)) = (0 : Int32) then (0 : Int32) else (1 : Int32))), .val (.int (if (sl &&& (4 : Int32)) = (0 : Int32) then (0 : Int32) else (1 : Int32))), .unset, .unset, .unset, .unset] [(.int (if (sl &&& (8 : Int32)) = (0 : Int32) then (0 : Int32) else (1 : Int32)))])) t → Steps p.tables e below (T6.setTop (mkF m 62 #[.val (.long v1), .second, .val (.long v2), .second, .val (.long v3), .second, .val (.long v4), .second, .val (.long dl), .second, .val (.int sl), .val (.ref b2), .val (.int (if (sl &&& (1 : Int32)) = (0 : Int32) then (0 : Int32) else (1 : Int32))), .val (.int (if (sl &&& (2 : Int32)) = (0 : Int32) then (0 : Int32) else (1 : Int32))), .val (.int (if (sl &&& (4 : Int32)) = (0 : Int32) then (0 : Int32) else (1 : Int32))), .unset, .unset, .unset, .unset] [(.int (sl &&& (8 : Int32)))])) t := by
    intro t k
    show Steps p.tables e below (T6.setTop (mkF m 62 #[.val (.long v1), .second, .val (.long v2), .second, .val (.long v3), .second, .val (.long v4), .second, .val (.long dl), .second, .val (.int sl), .val (.ref b2), .val (.int (if (sl &&& (1 : Int32)) = (0 : Int32) then (0 : Int32) else (1 : Int32))), .val (.int (if (sl &&& (2 : Int32)) = (0 : Int32) then (0 : Int32) else (1 : Int32))), .val (.int (if (sl &&& (4 : Int32)) = (0 : Int32) then (0 : Int32) else (1 : Int32))), .unset, .unset, .unset, .unset] [(.int (sl &&& (8 : Int32)))])) _
    by_cases hc15 : (sl &&& (8 : Int32)) = (0 : Int32)
    · refine XS.ifYes X6.here hx rfl (pc0 := 62) (pc' := 69) rfl (hb hby at_62) rfl ((if0 _ _).trans (teq hc15).1) (by decide) (by decide) ?_
      show Steps p.tables e below (T6.setTop (mkF m 69 #[.val (.long v1), .second, .val (.long v2), .second, .val (.long v3), .second, .val (.long v4), .second, .val (.long dl), .second, .val (.int sl), .val (.ref b2), .val (.int (if (sl &&& (1 : Int32)) = (0 : Int32) then (0 : Int32) else (1 : Int32))), .val (.int (if (sl &&& (2 : Int32)) = (0 : Int32) then (0 : Int32) else (1 : Int32))), .val (.int (if (sl &&& (4 : Int32)) = (0 : Int32) then (0 : Int32) else (1 : Int32))), .unset, .unset, .unset, .unset] [])) _
      refine XS.iconst X6.here hx rfl (hb hby at_69) ?_
      simp only [if_pos hc15] at k
      exact k
    · refine XS.ifNo X6.here hx rfl (hb hby at_62) rfl ((if0 _ _).trans (feq hc15).1) ?_
      show Steps p.tables e below (T6.setTop (mkF m 65 #[.val (.long v1), .second, .val (.long v2), .second, .val (.long v3), .second, .val (.long v4), .second, .val (.long dl), .second, .val (.int sl), .val (.ref b2), .val (.int (if (sl &&& (1 : Int32)) = (0 : Int32) then (0 : Int32) else (1 : Int32))), .val (.int (if (sl &&& (2 : Int32)) = (0 : Int32) then (0 : Int32) else (1 : Int32))), .val (.int (if (sl &&& (4 : Int32)) = (0 : Int32) then (0 : Int32) else (1 : Int32))), .unset, .unset, .unset, .unset] [])) _
      refine XS.iconst X6.here hx rfl (hb hby at_65) ?_
      show Steps p.tables e below (T6.setTop (mkF m 66 #[.val (.long v1), .second, .val (.long v2), .second, .val (.long v3), .second, .val (.long v4), .second, .val (.long dl), .second, .val (.int sl), .val (.ref b2), .val (.int (if (sl &&& (1 : Int32)) = (0 : Int32) then (0 : Int32) else (1 : Int32))), .val (.int (if (sl &&& (2 : Int32)) = (0 : Int32) then (0 : Int32) else (1 : Int32))), .val (.int (if (sl &&& (4 : Int32)) = (0 : Int32) then (0 : Int32) else (1 : Int32))), .unset, .unset, .unset, .unset] [(.int (1 : Int32))])) _
      refine XS.goto X6.here hx rfl (pc0 := 66) (pc' := 70) rfl (hb hby at_66) (by decide) (by decide) ?_
      simp only [if_neg hc15] at k
      exact k
  refine own_go seg14 ?_
  show ∃ t o, Steps p.tables e below (T6.setTop (mkF m 70 #[.val (.long v1), .second, .val (.long v2), .second, .val (.long v3), .second, .val (.long v4), .second, .val (.long dl), .second, .val (.int sl), .val (.ref b2), .val (.int (if (sl &&& (1 : Int32)) = (0 : Int32) then (0 : Int32) else (1 : Int32))), .val (.int (if (sl &&& (2 : Int32)) = (0 : Int32) then (0 : Int32) else (1 : Int32))), .val (.int (if (sl &&& (4 : Int32)) = (0 : Int32) then (0 : Int32) else (1 : Int32))), .unset, .unset, .unset, .unset] [(.int (if (sl &&& (8 : Int32)) = (0 : Int32) then (0 : Int32) else (1 : Int32)))])) t ∧ _
  refine own_go (fun _ => XS.istore X6.here hx rfl (hb hby at_70) rfl (l' := #[.val (.long v1), .second, .val (.long v2), .second, .val (.long v3), .second, .val (.long v4), .second, .val (.long dl), .second, .val (.int sl), .val (.ref b2), .val (.int (if (sl &&& (1 : Int32)) = (0 : Int32) then (0 : Int32) else (1 : Int32))), .val (.int (if (sl &&& (2 : Int32)) = (0 : Int32) then (0 : Int32) else (1 : Int32))), .val (.int (if (sl &&& (4 : Int32)) = (0 : Int32) then (0 : Int32) else (1 : Int32))), .val (.int (if (sl &&& (8 : Int32)) = (0 : Int32) then (0 : Int32) else (1 : Int32))), .unset, .unset, .unset]) rfl) ?_
  show ∃ t o, Steps p.tables e below (T6.setTop (mkF m 72 #[.val (.long v1), .second, .val (.long v2), .second, .val (.long v3), .second, .val (.long v4), .second, .val (.long dl), .second, .val (.int sl), .val (.ref b2), .val (.int (if (sl &&& (1 : Int32)) = (0 : Int32) then (0 : Int32) else (1 : Int32))), .val (.int (if (sl &&& (2 : Int32)) = (0 : Int32) then (0 : Int32) else (1 : Int32))), .val (.int (if (sl &&& (4 : Int32)) = (0 : Int32) then (0 : Int32) else (1 : Int32))), .val (.int (if (sl &&& (8 : Int32)) = (0 : Int32) then (0 : Int32) else (1 : Int32))), .unset, .unset, .unset] [])) t ∧ _
  obtain ⟨T16, h16, X16, e16, E16, A16, D16, -, st16⟩ := newO X6 hx hZ hown (hw _ (List.mem_of_getElem? (i := 0) rfl)) (hw _ (List.mem_of_getElem? (i := 1) rfl)) (hw _ (List.mem_of_getElem? (i := 2) rfl)) rfl (g := (mkF m 72 #[.val (.long v1), .second, .val (.long v2), .second, .val (.long v3), .second, .val (.long v4), .second, .val (.long dl), .second, .val (.int sl), .val (.ref b2), .val (.int (if (sl &&& (1 : Int32)) = (0 : Int32) then (0 : Int32) else (1 : Int32))), .val (.int (if (sl &&& (2 : Int32)) = (0 : Int32) then (0 : Int32) else (1 : Int32))), .val (.int (if (sl &&& (4 : Int32)) = (0 : Int32) then (0 : Int32) else (1 : Int32))), .val (.int (if (sl &&& (8 : Int32)) = (0 : Int32) then (0 : Int32) else (1 : Int32))), .unset, .unset, .unset] [])) rfl (hb hby at_72) (by decide) (by decide)
  obtain ⟨b16, g16⟩ : ∃ z, z = T6.heap.size := ⟨_, rfl⟩
  rw [← g16] at A16 D16 st16
  refine own_go st16 ?_
  have le_16 : T6.heap.size ≤ h16.size := E16.1
  have lt_b16 : b16 < h16.size := A16.lt
  have F_waiting_b16 : Fld Z h16 b16 "com/example/libtardy/libtardy/QueueCounts" "waiting" "J" (.long (0 : Int64)) := D16 (Or.inr (hw _ (List.mem_of_getElem? (i := 10) rfl))) (ty := .long) (by decide)
  have F_due_b16 : Fld Z h16 b16 "com/example/libtardy/libtardy/QueueCounts" "due" "J" (.long (0 : Int64)) := D16 (Or.inr (hw _ (List.mem_of_getElem? (i := 12) rfl))) (ty := .long) (by decide)
  have F_inFlight_b16 : Fld Z h16 b16 "com/example/libtardy/libtardy/QueueCounts" "inFlight" "J" (.long (0 : Int64)) := D16 (Or.inr (hw _ (List.mem_of_getElem? (i := 14) rfl))) (ty := .long) (by decide)
  have F_dead_b16 : Fld Z h16 b16 "com/example/libtardy/libtardy/QueueCounts" "dead" "J" (.long (0 : Int64)) := D16 (Or.inr (hw _ (List.mem_of_getElem? (i := 16) rfl))) (ty := .long) (by decide)
  have K16 : Keep h0 h16 [] := Keep.ext K6 E16
  show ∃ t o, Steps p.tables e below (T16.setTop (mkF m 75 #[.val (.long v1), .second, .val (.long v2), .second, .val (.long v3), .second, .val (.long v4), .second, .val (.long dl), .second, .val (.int sl), .val (.ref b2), .val (.int (if (sl &&& (1 : Int32)) = (0 : Int32) then (0 : Int32) else (1 : Int32))), .val (.int (if (sl &&& (2 : Int32)) = (0 : Int32) then (0 : Int32) else (1 : Int32))), .val (.int (if (sl &&& (4 : Int32)) = (0 : Int32) then (0 : Int32) else (1 : Int32))), .val (.int (if (sl &&& (8 : Int32)) = (0 : Int32) then (0 : Int32) else (1 : Int32))), .unset, .unset, .unset] [(.ref b16)])) t ∧ _
  refine own_go (fun _ => XS.dup X16.here hx rfl (hb hby at_75) rfl rfl) ?_
  show ∃ t o, Steps p.tables e below (T16.setTop (mkF m 76 #[.val (.long v1), .second, .val (.long v2), .second, .val (.long v3), .second, .val (.long v4), .second, .val (.long dl), .second, .val (.int sl), .val (.ref b2), .val (.int (if (sl &&& (1 : Int32)) = (0 : Int32) then (0 : Int32) else (1 : Int32))), .val (.int (if (sl &&& (2 : Int32)) = (0 : Int32) then (0 : Int32) else (1 : Int32))), .val (.int (if (sl &&& (4 : Int32)) = (0 : Int32) then (0 : Int32) else (1 : Int32))), .val (.int (if (sl &&& (8 : Int32)) = (0 : Int32) then (0 : Int32) else (1 : Int32))), .unset, .unset, .unset] [(.ref b16), (.ref b16)])) t ∧ _
  refine own_go (fun _ => XS.iload X16.here hx rfl (hb hby at_76) rfl) ?_
  show ∃ t o, Steps p.tables e below (T16.setTop (mkF m 78 #[.val (.long v1), .second, .val (.long v2), .second, .val (.long v3), .second, .val (.long v4), .second, .val (.long dl), .second, .val (.int sl), .val (.ref b2), .val (.int (if (sl &&& (1 : Int32)) = (0 : Int32) then (0 : Int32) else (1 : Int32))), .val (.int (if (sl &&& (2 : Int32)) = (0 : Int32) then (0 : Int32) else (1 : Int32))), .val (.int (if (sl &&& (4 : Int32)) = (0 : Int32) then (0 : Int32) else (1 : Int32))), .val (.int (if (sl &&& (8 : Int32)) = (0 : Int32) then (0 : Int32) else (1 : Int32))), .unset, .unset, .unset] [(.int (if (sl &&& (1 : Int32)) = (0 : Int32) then (0 : Int32) else (1 : Int32))), (.ref b16), (.ref b16)])) t ∧ _
  have seg17 : ∀ t, Steps p.tables e below (T16.setTop (mkF m 89 #[.val (.long v1), .second, .val (.long v2), .second, .val (.long v3), .second, .val (.long v4), .second, .val (.long dl), .second, .val (.int sl), .val (.ref b2), .val (.int (if (sl &&& (1 : Int32)) = (0 : Int32) then (0 : Int32) else (1 : Int32))), .val (.int (if (sl &&& (2 : Int32)) = (0 : Int32) then (0 : Int32) else (1 : Int32))), .val (.int (if (sl &&& (4 : Int32)) = (0 : Int32) then (0 : Int32) else (1 : Int32))), .val (.int (if (sl &&& (8 : Int32)) = (0 : Int32) then (0 : Int32) else (1 : Int32))), .unset, .unset, .unset] [(.long (if (if (sl &&& (1 : Int32)) = (0 : Int32) then (0 : Int32) else (1 : Int32)) = (0 : Int32) then v1 else (v1 + dl))), (.ref b16), (.ref b16)])) t → Steps p.tables e below (T16.setTop (mkF m 78 #[.val (.long v1), .second, .val (.long v2), .second, .val (.long v3), .second, .val (.long v4), .second, .val (.long dl), .second, .val (.int sl), .val (.ref b2), .val (.int (if (sl &&& (1 : Int32)) = (0 : Int32) then (0 : Int32) else (1 : Int32))), .val (.int (if (sl &&& (2 : Int32)) = (0 : Int32) then (0 : Int32) else (1 : Int32))), .val (.int (if (sl &&& (4 : Int32)) = (0 : Int32) then (0 : Int32) else (1 : Int32))), .val (.int (if (sl &&& (8 : Int32)) = (0 : Int32) then (0 : Int32) else (1 : Int32))), .unset, .unset, .unset] [(.int (if (sl &&& (1 : Int32)) = (0 : Int32) then (0 : Int32) else (1 : Int32))), (.ref b16), (.ref b16)])) t := by
    intro t k
    show Steps p.tables e below (T16.setTop (mkF m 78 #[.val (.long v1), .second, .val (.long v2), .second, .val (.long v3), .second, .val (.long v4), .second, .val (.long dl), .second, .val (.int sl), .val (.ref b2), .val (.int (if (sl &&& (1 : Int32)) = (0 : Int32) then (0 : Int32) else (1 : Int32))), .val (.int (if (sl &&& (2 : Int32)) = (0 : Int32) then (0 : Int32) else (1 : Int32))), .val (.int (if (sl &&& (4 : Int32)) = (0 : Int32) then (0 : Int32) else (1 : Int32))), .val (.int (if (sl &&& (8 : Int32)) = (0 : Int32) then (0 : Int32) else (1 : Int32))), .unset, .unset, .unset] [(.int (if (sl &&& (1 : Int32)) = (0 : Int32) then (0 : Int32) else (1 : Int32))), (.ref b16), (.ref b16)])) _
    by_cases hc18 : (if (sl &&& (1 : Int32)) = (0 : Int32) then (0 : Int32) else (1 : Int32)) = (0 : Int32)
    · refine XS.ifYes X16.here hx rfl (pc0 := 78) (pc' := 88) rfl (hb hby at_78) rfl ((if0 _ _).trans (teq hc18).1) (by decide) (by decide) ?_
      show Steps p.tables e below (T16.setTop (mkF m 88 #[.val (.long v1), .second, .val (.long v2), .second, .val (.long v3), .second, .val (.long v4), .second, .val (.long dl), .second, .val (.int sl), .val (.ref b2), .val (.int (if (sl &&& (1 : Int32)) = (0 : Int32) then (0 : Int32) else (1 : Int32))), .val (.int (if (sl &&& (2 : Int32)) = (0 : Int32) then (0 : Int32) else (1 : Int32))), .val (.int (if (sl &&& (4 : Int32)) = (0 : Int32) then (0 : Int32) else (1 : Int32))), .val (.int (if (sl &&& (8 : Int32)) = (0 : Int32) then (0 : Int32) else (1 : Int32))), .unset, .unset, .unset] [(.ref b16), (.ref b16)])) _
      refine XS.lloadN X16.here hx rfl (hb hby at_88) rfl ?_
      simp only [if_pos hc18] at k
      exact k
    · refine XS.ifNo X16.here hx rfl (hb hby at_78) rfl ((if0 _ _).trans (feq hc18).1) ?_
      show Steps p.tables e below (T16.setTop (mkF m 81 #[.val (.long v1), .second, .val (.long v2), .second, .val (.long v3), .second, .val (.long v4), .second, .val (.long dl), .second, .val (.int sl), .val (.ref b2), .val (.int (if (sl &&& (1 : Int32)) = (0 : Int32) then (0 : Int32) else (1 : Int32))), .val (.int (if (sl &&& (2 : Int32)) = (0 : Int32) then (0 : Int32) else (1 : Int32))), .val (.int (if (sl &&& (4 : Int32)) = (0 : Int32) then (0 : Int32) else (1 : Int32))), .val (.int (if (sl &&& (8 : Int32)) = (0 : Int32) then (0 : Int32) else (1 : Int32))), .unset, .unset, .unset] [(.ref b16), (.ref b16)])) _
      refine XS.lloadN X16.here hx rfl (hb hby at_81) rfl ?_
      show Steps p.tables e below (T16.setTop (mkF m 82 #[.val (.long v1), .second, .val (.long v2), .second, .val (.long v3), .second, .val (.long v4), .second, .val (.long dl), .second, .val (.int sl), .val (.ref b2), .val (.int (if (sl &&& (1 : Int32)) = (0 : Int32) then (0 : Int32) else (1 : Int32))), .val (.int (if (sl &&& (2 : Int32)) = (0 : Int32) then (0 : Int32) else (1 : Int32))), .val (.int (if (sl &&& (4 : Int32)) = (0 : Int32) then (0 : Int32) else (1 : Int32))), .val (.int (if (sl &&& (8 : Int32)) = (0 : Int32) then (0 : Int32) else (1 : Int32))), .unset, .unset, .unset] [(.long v1), (.ref b16), (.ref b16)])) _
      refine XS.lload X16.here hx rfl (hb hby at_82) rfl ?_
      show Steps p.tables e below (T16.setTop (mkF m 84 #[.val (.long v1), .second, .val (.long v2), .second, .val (.long v3), .second, .val (.long v4), .second, .val (.long dl), .second, .val (.int sl), .val (.ref b2), .val (.int (if (sl &&& (1 : Int32)) = (0 : Int32) then (0 : Int32) else (1 : Int32))), .val (.int (if (sl &&& (2 : Int32)) = (0 : Int32) then (0 : Int32) else (1 : Int32))), .val (.int (if (sl &&& (4 : Int32)) = (0 : Int32) then (0 : Int32) else (1 : Int32))), .val (.int (if (sl &&& (8 : Int32)) = (0 : Int32) then (0 : Int32) else (1 : Int32))), .unset, .unset, .unset] [(.long dl), (.long v1), (.ref b16), (.ref b16)])) _
      refine XS.ladd X16.here hx rfl (hb hby at_84) rfl ?_
      show Steps p.tables e below (T16.setTop (mkF m 85 #[.val (.long v1), .second, .val (.long v2), .second, .val (.long v3), .second, .val (.long v4), .second, .val (.long dl), .second, .val (.int sl), .val (.ref b2), .val (.int (if (sl &&& (1 : Int32)) = (0 : Int32) then (0 : Int32) else (1 : Int32))), .val (.int (if (sl &&& (2 : Int32)) = (0 : Int32) then (0 : Int32) else (1 : Int32))), .val (.int (if (sl &&& (4 : Int32)) = (0 : Int32) then (0 : Int32) else (1 : Int32))), .val (.int (if (sl &&& (8 : Int32)) = (0 : Int32) then (0 : Int32) else (1 : Int32))), .unset, .unset, .unset] [(.long (v1 + dl)), (.ref b16), (.ref b16)])) _
      refine XS.goto X16.here hx rfl (pc0 := 85) (pc' := 89) rfl (hb hby at_85) (by decide) (by decide) ?_
      simp only [if_neg hc18] at k
      exact k
  refine own_go seg17 ?_
  show ∃ t o, Steps p.tables e below (T16.setTop (mkF m 89 #[.val (.long v1), .second, .val (.long v2), .second, .val (.long v3), .second, .val (.long v4), .second, .val (.long dl), .second, .val (.int sl), .val (.ref b2), .val (.int (if (sl &&& (1 : Int32)) = (0 : Int32) then (0 : Int32) else (1 : Int32))), .val (.int (if (sl &&& (2 : Int32)) = (0 : Int32) then (0 : Int32) else (1 : Int32))), .val (.int (if (sl &&& (4 : Int32)) = (0 : Int32) then (0 : Int32) else (1 : Int32))), .val (.int (if (sl &&& (8 : Int32)) = (0 : Int32) then (0 : Int32) else (1 : Int32))), .unset, .unset, .unset] [(.long (if (if (sl &&& (1 : Int32)) = (0 : Int32) then (0 : Int32) else (1 : Int32)) = (0 : Int32) then v1 else (v1 + dl))), (.ref b16), (.ref b16)])) t ∧ _
  refine own_go (fun _ => XS.iload X16.here hx rfl (hb hby at_89) rfl) ?_
  show ∃ t o, Steps p.tables e below (T16.setTop (mkF m 91 #[.val (.long v1), .second, .val (.long v2), .second, .val (.long v3), .second, .val (.long v4), .second, .val (.long dl), .second, .val (.int sl), .val (.ref b2), .val (.int (if (sl &&& (1 : Int32)) = (0 : Int32) then (0 : Int32) else (1 : Int32))), .val (.int (if (sl &&& (2 : Int32)) = (0 : Int32) then (0 : Int32) else (1 : Int32))), .val (.int (if (sl &&& (4 : Int32)) = (0 : Int32) then (0 : Int32) else (1 : Int32))), .val (.int (if (sl &&& (8 : Int32)) = (0 : Int32) then (0 : Int32) else (1 : Int32))), .unset, .unset, .unset] [(.int (if (sl &&& (2 : Int32)) = (0 : Int32) then (0 : Int32) else (1 : Int32))), (.long (if (if (sl &&& (1 : Int32)) = (0 : Int32) then (0 : Int32) else (1 : Int32)) = (0 : Int32) then v1 else (v1 + dl))), (.ref b16), (.ref b16)])) t ∧ _
  have seg19 : ∀ t, Steps p.tables e below (T16.setTop (mkF m 102 #[.val (.long v1), .second, .val (.long v2), .second, .val (.long v3), .second, .val (.long v4), .second, .val (.long dl), .second, .val (.int sl), .val (.ref b2), .val (.int (if (sl &&& (1 : Int32)) = (0 : Int32) then (0 : Int32) else (1 : Int32))), .val (.int (if (sl &&& (2 : Int32)) = (0 : Int32) then (0 : Int32) else (1 : Int32))), .val (.int (if (sl &&& (4 : Int32)) = (0 : Int32) then (0 : Int32) else (1 : Int32))), .val (.int (if (sl &&& (8 : Int32)) = (0 : Int32) then (0 : Int32) else (1 : Int32))), .unset, .unset, .unset] [(.long (if (if (sl &&& (2 : Int32)) = (0 : Int32) then (0 : Int32) else (1 : Int32)) = (0 : Int32) then v2 else (v2 + dl))), (.long (if (if (sl &&& (1 : Int32)) = (0 : Int32) then (0 : Int32) else (1 : Int32)) = (0 : Int32) then v1 else (v1 + dl))), (.ref b16), (.ref b16)])) t → Steps p.tables e below (T16.setTop (mkF m 91 #[.val (.long v1), .second, .val (.long v2), .second, .val (.long v3), .second, .val (.long v4), .second, .val (.long dl), .second, .val (.int sl), .val (.ref b2), .val (.int (if (sl &&& (1 : Int32)) = (0 : Int32) then (0 : Int32) else (1 : Int32))), .val (.int (if (sl &&& (2 : Int32)) = (0 : Int32) then (0 : Int32) else (1 : Int32))), .val (.int (if (sl &&& (4 : Int32)) = (0 : Int32) then (0 : Int32) else (1 : Int32))), .val (.int (if (sl &&& (8 : Int32)) = (0 : Int32) then (0 : Int32) else (1 : Int32))), .unset, .unset, .unset] [(.int (if (sl &&& (2 : Int32)) = (0 : Int32) then (0 : Int32) else (1 : Int32))), (.long (if (if (sl &&& (1 : Int32)) = (0 : Int32) then (0 : Int32) else (1 : Int32)) = (0 : Int32) then v1 else (v1 + dl))), (.ref b16), (.ref b16)])) t := by
    intro t k
    show Steps p.tables e below (T16.setTop (mkF m 91 #[.val (.long v1), .second, .val (.long v2), .second, .val (.long v3), .second, .val (.long v4), .second, .val (.long dl), .second, .val (.int sl), .val (.ref b2), .val (.int (if (sl &&& (1 : Int32)) = (0 : Int32) then (0 : Int32) else (1 : Int32))), .val (.int (if (sl &&& (2 : Int32)) = (0 : Int32) then (0 : Int32) else (1 : Int32))), .val (.int (if (sl &&& (4 : Int32)) = (0 : Int32) then (0 : Int32) else (1 : Int32))), .val (.int (if (sl &&& (8 : Int32)) = (0 : Int32) then (0 : Int32) else (1 : Int32))), .unset, .unset, .unset] [(.int (if (sl &&& (2 : Int32)) = (0 : Int32) then (0 : Int32) else (1 : Int32))), (.long (if (if (sl &&& (1 : Int32)) = (0 : Int32) then (0 : Int32) else (1 : Int32)) = (0 : Int32) then v1 else (v1 + dl))), (.ref b16), (.ref b16)])) _
    by_cases hc20 : (if (sl &&& (2 : Int32)) = (0 : Int32) then (0 : Int32) else (1 : Int32)) = (0 : Int32)
    · refine XS.ifYes X16.here hx rfl (pc0 := 91) (pc' := 101) rfl (hb hby at_91) rfl ((if0 _ _).trans (teq hc20).1) (by decide) (by decide) ?_
      show Steps p.tables e below (T16.setTop (mkF m 101 #[.val (.long v1), .second, .val (.long v2), .second, .val (.long v3), .second, .val (.long v4), .second, .val (.long dl), .second, .val (.int sl), .val (.ref b2), .val (.int (if (sl &&& (1 : Int32)) = (0 : Int32) then (0 : Int32) else (1 : Int32))), .val (.int (if (sl &&& (2 : Int32)) = (0 : Int32) then (0 : Int32) else (1 : Int32))), .val (.int (if (sl &&& (4 : Int32)) = (0 : Int32) then (0 : Int32) else (1 : Int32))), .val (.int (if (sl &&& (8 : Int32)) = (0 : Int32) then (0 : Int32) else (1 : Int32))), .unset, .unset, .unset] [(.long (if (if (sl &&& (1 : Int32)) = (0 : Int32) then (0 : Int32) else (1 : Int32)) = (0 : Int32) then v1 else (v1 + dl))), (.ref b16), (.ref b16)])) _
      refine XS.lloadN X16.here hx rfl (hb hby at_101) rfl ?_
      simp only [if_pos hc20] at k
      exact k
    · refine XS.ifNo X16.here hx rfl (hb hby at_91) rfl ((if0 _ _).trans (feq hc20).1) ?_
      show Steps p.tables e below (T16.setTop (mkF m 94 #[.val (.long v1), .second, .val (.long v2), .second, .val (.long v3), .second, .val (.long v4), .second, .val (.long dl), .second, .val (.int sl), .val (.ref b2), .val (.int (if (sl &&& (1 : Int32)) = (0 : Int32) then (0 : Int32) else (1 : Int32))), .val (.int (if (sl &&& (2 : Int32)) = (0 : Int32) then (0 : Int32) else (1 : Int32))), .val (.int (if (sl &&& (4 : Int32)) = (0 : Int32) then (0 : Int32) else (1 : Int32))), .val (.int (if (sl &&& (8 : Int32)) = (0 : Int32) then (0 : Int32) else (1 : Int32))), .unset, .unset, .unset] [(.long (if (if (sl &&& (1 : Int32)) = (0 : Int32) then (0 : Int32) else (1 : Int32)) = (0 : Int32) then v1 else (v1 + dl))), (.ref b16), (.ref b16)])) _
      refine XS.lloadN X16.here hx rfl (hb hby at_94) rfl ?_
      show Steps p.tables e below (T16.setTop (mkF m 95 #[.val (.long v1), .second, .val (.long v2), .second, .val (.long v3), .second, .val (.long v4), .second, .val (.long dl), .second, .val (.int sl), .val (.ref b2), .val (.int (if (sl &&& (1 : Int32)) = (0 : Int32) then (0 : Int32) else (1 : Int32))), .val (.int (if (sl &&& (2 : Int32)) = (0 : Int32) then (0 : Int32) else (1 : Int32))), .val (.int (if (sl &&& (4 : Int32)) = (0 : Int32) then (0 : Int32) else (1 : Int32))), .val (.int (if (sl &&& (8 : Int32)) = (0 : Int32) then (0 : Int32) else (1 : Int32))), .unset, .unset, .unset] [(.long v2), (.long (if (if (sl &&& (1 : Int32)) = (0 : Int32) then (0 : Int32) else (1 : Int32)) = (0 : Int32) then v1 else (v1 + dl))), (.ref b16), (.ref b16)])) _
      refine XS.lload X16.here hx rfl (hb hby at_95) rfl ?_
      show Steps p.tables e below (T16.setTop (mkF m 97 #[.val (.long v1), .second, .val (.long v2), .second, .val (.long v3), .second, .val (.long v4), .second, .val (.long dl), .second, .val (.int sl), .val (.ref b2), .val (.int (if (sl &&& (1 : Int32)) = (0 : Int32) then (0 : Int32) else (1 : Int32))), .val (.int (if (sl &&& (2 : Int32)) = (0 : Int32) then (0 : Int32) else (1 : Int32))), .val (.int (if (sl &&& (4 : Int32)) = (0 : Int32) then (0 : Int32) else (1 : Int32))), .val (.int (if (sl &&& (8 : Int32)) = (0 : Int32) then (0 : Int32) else (1 : Int32))), .unset, .unset, .unset] [(.long dl), (.long v2), (.long (if (if (sl &&& (1 : Int32)) = (0 : Int32) then (0 : Int32) else (1 : Int32)) = (0 : Int32) then v1 else (v1 + dl))), (.ref b16), (.ref b16)])) _
      refine XS.ladd X16.here hx rfl (hb hby at_97) rfl ?_
      show Steps p.tables e below (T16.setTop (mkF m 98 #[.val (.long v1), .second, .val (.long v2), .second, .val (.long v3), .second, .val (.long v4), .second, .val (.long dl), .second, .val (.int sl), .val (.ref b2), .val (.int (if (sl &&& (1 : Int32)) = (0 : Int32) then (0 : Int32) else (1 : Int32))), .val (.int (if (sl &&& (2 : Int32)) = (0 : Int32) then (0 : Int32) else (1 : Int32))), .val (.int (if (sl &&& (4 : Int32)) = (0 : Int32) then (0 : Int32) else (1 : Int32))), .val (.int (if (sl &&& (8 : Int32)) = (0 : Int32) then (0 : Int32) else (1 : Int32))), .unset, .unset, .unset] [(.long (v2 + dl)), (.long (if (if (sl &&& (1 : Int32)) = (0 : Int32) then (0 : Int32) else (1 : Int32)) = (0 : Int32) then v1 else (v1 + dl))), (.ref b16), (.ref b16)])) _
      refine XS.goto X16.here hx rfl (pc0 := 98) (pc' := 102) rfl (hb hby at_98) (by decide) (by decide) ?_
      simp only [if_neg hc20] at k
      exact k
  refine own_go seg19 ?_
  show ∃ t o, Steps p.tables e below (T16.setTop (mkF m 102 #[.val (.long v1), .second, .val (.long v2), .second, .val (.long v3), .second, .val (.long v4), .second, .val (.long dl), .second, .val (.int sl), .val (.ref b2), .val (.int (if (sl &&& (1 : Int32)) = (0 : Int32) then (0 : Int32) else (1 : Int32))), .val (.int (if (sl &&& (2 : Int32)) = (0 : Int32) then (0 : Int32) else (1 : Int32))), .val (.int (if (sl &&& (4 : Int32)) = (0 : Int32) then (0 : Int32) else (1 : Int32))), .val (.int (if (sl &&& (8 : Int32)) = (0 : Int32) then (0 : Int32) else (1 : Int32))), .unset, .unset, .unset] [(.long (if (if (sl &&& (2 : Int32)) = (0 : Int32) then (0 : Int32) else (1 : Int32)) = (0 : Int32) then v2 else (v2 + dl))), (.long (if (if (sl &&& (1 : Int32)) = (0 : Int32) then (0 : Int32) else (1 : Int32)) = (0 : Int32) then v1 else (v1 + dl))), (.ref b16), (.ref b16)])) t ∧ _
  refine own_go (fun _ => XS.iload X16.here hx rfl (hb hby at_102) rfl) ?_
  show ∃ t o, Steps p.tables e below (T16.setTop (mkF m 104 #[.val (.long v1), .second, .val (.long v2), .second, .val (.long v3), .second, .val (.long v4), .second, .val (.long dl), .second, .val (.int sl), .val (.ref b2), .val (.int (if (sl &&& (1 : Int32)) = (0 : Int32) then (0 : Int32) else (1 : Int32))), .val (.int (if (sl &&& (2 : Int32)) = (0 : Int32) then (0 : Int32) else (1 : Int32))), .val (.int (if (sl &&& (4 : Int32)) = (0 : Int32) then (0 : Int32) else (1 : Int32))), .val (.int (if (sl &&& (8 : Int32)) = (0 : Int32) then (0 : Int32) else (1 : Int32))), .unset, .unset, .unset] [(.int (if (sl &&& (4 : Int32)) = (0 : Int32) then (0 : Int32) else (1 : Int32))), (.long (if (if (sl &&& (2 : Int32)) = (0 : Int32) then (0 : Int32) else (1 : Int32)) = (0 : Int32) then v2 else (v2 + dl))), (.long (if (if (sl &&& (1 : Int32)) = (0 : Int32) then (0 : Int32) else (1 : Int32)) = (0 : Int32) then v1 else (v1 + dl))), (.ref b16), (.ref b16)])) t ∧ _
  have seg21 : ∀ t, Steps p.tables e below (T16.setTop (mkF m 117 #[.val (.long v1), .second, .val (.long v2), .second, .val (.long v3), .second, .val (.long v4), .second, .val (.long dl), .second, .val (.int sl), .val (.ref b2), .val (.int (if (sl &&& (1 : Int32)) = (0 : Int32) then (0 : Int32) else (1 : Int32))), .val (.int (if (sl &&& (2 : Int32)) = (0 : Int32) then (0 : Int32) else (1 : Int32))), .val (.int (if (sl &&& (4 : Int32)) = (0 : Int32) then (0 : Int32) else (1 : Int32))), .val (.int (if (sl &&& (8 : Int32)) = (0 : Int32) then (0 : Int32) else (1 : Int32))), .unset, .unset, .unset] [(.long (if (if (sl &&& (4 : Int32)) = (0 : Int32) then (0 : Int32) else (1 : Int32)) = (0 : Int32) then v3 else (v3 + dl))), (.long (if (if (sl &&& (2 : Int32)) = (0 : Int32) then (0 : Int32) else (1 : Int32)) = (0 : Int32) then v2 else (v2 + dl))), (.long (if (if (sl &&& (1 : Int32)) = (0 : Int32) then (0 : Int32) else (1 : Int32)) = (0 : Int32) then v1 else (v1 + dl))), (.ref b16), (.ref b16)])) t → Steps p.tables e below (T16.setTop (mkF m 104 #[.val (.long v1), .second, .val (.long v2), .second, .val (.long v3), .second, .val (.long v4), .second, .val (.long dl), .second, .val (.int sl), .val (.ref b2), .val (.int (if (sl &&& (1 : Int32)) = (0 : Int32) then (0 : Int32) else (1 : Int32))), .val (.int (if (sl &&& (2 : Int32)) = (0 : Int32) then (0 : Int32) else (1 : Int32))), .val (.int (if (sl &&& (4 : Int32)) = (0 : Int32) then (0 : Int32) else (1 : Int32))), .val (.int (if (sl &&& (8 : Int32)) = (0 : Int32) then (0 : Int32) else (1 : Int32))), .unset, .unset, .unset] [(.int (if (sl &&& (4 : Int32)) = (0 : Int32) then (0 : Int32) else (1 : Int32))), (.long (if (if (sl &&& (2 : Int32)) = (0 : Int32) then (0 : Int32) else (1 : Int32)) = (0 : Int32) then v2 else (v2 + dl))), (.long (if (if (sl &&& (1 : Int32)) = (0 : Int32) then (0 : Int32) else (1 : Int32)) = (0 : Int32) then v1 else (v1 + dl))), (.ref b16), (.ref b16)])) t := by
    intro t k
    show Steps p.tables e below (T16.setTop (mkF m 104 #[.val (.long v1), .second, .val (.long v2), .second, .val (.long v3), .second, .val (.long v4), .second, .val (.long dl), .second, .val (.int sl), .val (.ref b2), .val (.int (if (sl &&& (1 : Int32)) = (0 : Int32) then (0 : Int32) else (1 : Int32))), .val (.int (if (sl &&& (2 : Int32)) = (0 : Int32) then (0 : Int32) else (1 : Int32))), .val (.int (if (sl &&& (4 : Int32)) = (0 : Int32) then (0 : Int32) else (1 : Int32))), .val (.int (if (sl &&& (8 : Int32)) = (0 : Int32) then (0 : Int32) else (1 : Int32))), .unset, .unset, .unset] [(.int (if (sl &&& (4 : Int32)) = (0 : Int32) then (0 : Int32) else (1 : Int32))), (.long (if (if (sl &&& (2 : Int32)) = (0 : Int32) then (0 : Int32) else (1 : Int32)) = (0 : Int32) then v2 else (v2 + dl))), (.long (if (if (sl &&& (1 : Int32)) = (0 : Int32) then (0 : Int32) else (1 : Int32)) = (0 : Int32) then v1 else (v1 + dl))), (.ref b16), (.ref b16)])) _
    by_cases hc22 : (if (sl &&& (4 : Int32)) = (0 : Int32) then (0 : Int32) else (1 : Int32)) = (0 : Int32)
    · refine XS.ifYes X16.here hx rfl (pc0 := 104) (pc' := 115) rfl (hb hby at_104) rfl ((if0 _ _).trans (teq hc22).1) (by decide) (by decide) ?_
      show Steps p.tables e below (T16.setTop (mkF m 115 #[.val (.long v1), .second, .val (.long v2), .second, .val (.long v3), .second, .val (.long v4), .second, .val (.long dl), .second, .val (.int sl), .val (.ref b2), .val (.int (if (sl &&& (1 : Int32)) = (0 : Int32) then (0 : Int32) else (1 : Int32))), .val (.int (if (sl &&& (2 : Int32)) = (0 : Int32) then (0 : Int32) else (1 : Int32))), .val (.int (if (sl &&& (4 : Int32)) = (0 : Int32) then (0 : Int32) else (1 : Int32))), .val (.int (if (sl &&& (8 : Int32)) = (0 : Int32) then (0 : Int32) else (1 : Int32))), .unset, .unset, .unset] [(.long (if (if (sl &&& (2 : Int32)) = (0 : Int32) then (0 : Int32) else (1 : Int32)) = (0 : Int32) then v2 else (v2 + dl))), (.long (if (if (sl &&& (1 : Int32)) = (0 : Int32) then (0 : Int32) else (1 : Int32)) = (0 : Int32) then v1 else (v1 + dl))), (.ref b16), (.ref b16)])) _
      refine XS.lload X16.here hx rfl (hb hby at_115) rfl ?_
      simp only [if_pos hc22] at k
      exact k
    · refine XS.ifNo X16.here hx rfl (hb hby at_104) rfl ((if0 _ _).trans (feq hc22).1) ?_
      show Steps p.tables e below (T16.setTop (mkF m 107 #[.val (.long v1), .second, .val (.long v2), .second, .val (.long v3), .second, .val (.long v4), .second, .val (.long dl), .second, .val (.int sl), .val (.ref b2), .val (.int (if (sl &&& (1 : Int32)) = (0 : Int32) then (0 : Int32) else (1 : Int32))), .val (.int (if (sl &&& (2 : Int32)) = (0 : Int32) then (0 : Int32) else (1 : Int32))), .val (.int (if (sl &&& (4 : Int32)) = (0 : Int32) then (0 : Int32) else (1 : Int32))), .val (.int (if (sl &&& (8 : Int32)) = (0 : Int32) then (0 : Int32) else (1 : Int32))), .unset, .unset, .unset] [(.long (if (if (sl &&& (2 : Int32)) = (0 : Int32) then (0 : Int32) else (1 : Int32)) = (0 : Int32) then v2 else (v2 + dl))), (.long (if (if (sl &&& (1 : Int32)) = (0 : Int32) then (0 : Int32) else (1 : Int32)) = (0 : Int32) then v1 else (v1 + dl))), (.ref b16), (.ref b16)])) _
      refine XS.lload X16.here hx rfl (hb hby at_107) rfl ?_
      show Steps p.tables e below (T16.setTop (mkF m 109 #[.val (.long v1), .second, .val (.long v2), .second, .val (.long v3), .second, .val (.long v4), .second, .val (.long dl), .second, .val (.int sl), .val (.ref b2), .val (.int (if (sl &&& (1 : Int32)) = (0 : Int32) then (0 : Int32) else (1 : Int32))), .val (.int (if (sl &&& (2 : Int32)) = (0 : Int32) then (0 : Int32) else (1 : Int32))), .val (.int (if (sl &&& (4 : Int32)) = (0 : Int32) then (0 : Int32) else (1 : Int32))), .val (.int (if (sl &&& (8 : Int32)) = (0 : Int32) then (0 : Int32) else (1 : Int32))), .unset, .unset, .unset] [(.long v3), (.long (if (if (sl &&& (2 : Int32)) = (0 : Int32) then (0 : Int32) else (1 : Int32)) = (0 : Int32) then v2 else (v2 + dl))), (.long (if (if (sl &&& (1 : Int32)) = (0 : Int32) then (0 : Int32) else (1 : Int32)) = (0 : Int32) then v1 else (v1 + dl))), (.ref b16), (.ref b16)])) _
      refine XS.lload X16.here hx rfl (hb hby at_109) rfl ?_
      show Steps p.tables e below (T16.setTop (mkF m 111 #[.val (.long v1), .second, .val (.long v2), .second, .val (.long v3), .second, .val (.long v4), .second, .val (.long dl), .second, .val (.int sl), .val (.ref b2), .val (.int (if (sl &&& (1 : Int32)) = (0 : Int32) then (0 : Int32) else (1 : Int32))), .val (.int (if (sl &&& (2 : Int32)) = (0 : Int32) then (0 : Int32) else (1 : Int32))), .val (.int (if (sl &&& (4 : Int32)) = (0 : Int32) then (0 : Int32) else (1 : Int32))), .val (.int (if (sl &&& (8 : Int32)) = (0 : Int32) then (0 : Int32) else (1 : Int32))), .unset, .unset, .unset] [(.long dl), (.long v3), (.long (if (if (sl &&& (2 : Int32)) = (0 : Int32) then (0 : Int32) else (1 : Int32)) = (0 : Int32) then v2 else (v2 + dl))), (.long (if (if (sl &&& (1 : Int32)) = (0 : Int32) then (0 : Int32) else (1 : Int32)) = (0 : Int32) then v1 else (v1 + dl))), (.ref b16), (.ref b16)])) _
      refine XS.ladd X16.here hx rfl (hb hby at_111) rfl ?_
      show Steps p.tables e below (T16.setTop (mkF m 112 #[.val (.long v1), .second, .val (.long v2), .second, .val (.long v3), .second, .val (.long v4), .second, .val (.long dl), .second, .val (.int sl), .val (.ref b2), .val (.int (if (sl &&& (1 : Int32)) = (0 : Int32) then (0 : Int32) else (1 : Int32))), .val (.int (if (sl &&& (2 : Int32)) = (0 : Int32) then (0 : Int32) else (1 : Int32))), .val (.int (if (sl &&& (4 : Int32)) = (0 : Int32) then (0 : Int32) else (1 : Int32))), .val (.int (if (sl &&& (8 : Int32)) = (0 : Int32) then (0 : Int32) else (1 : Int32))), .unset, .unset, .unset] [(.long (v3 + dl)), (.long (if (if (sl &&& (2 : Int32)) = (0 : Int32) then (0 : Int32) else (1 : Int32)) = (0 : Int32) then v2 else (v2 + dl))), (.long (if (if (sl &&& (1 : Int32)) = (0 : Int32) then (0 : Int32) else (1 : Int32)) = (0 : Int32) then v1 else (v1 + dl))), (.ref b16), (.ref b16)])) _
      refine XS.goto X16.here hx rfl (pc0 := 112) (pc' := 117) rfl (hb hby at_112) (by decide) (by decide) ?_
      simp only [if_neg hc22] at k
      exact k
  refine own_go seg21 ?_
  show ∃ t o, Steps p.tables e below (T16.setTop (mkF m 117 #[.val (.long v1), .second, .val (.long v2), .second, .val (.long v3), .second, .val (.long v4), .second, .val (.long dl), .second, .val (.int sl), .val (.ref b2), .val (.int (if (sl &&& (1 : Int32)) = (0 : Int32) then (0 : Int32) else (1 : Int32))), .val (.int (if (sl &&& (2 : Int32)) = (0 : Int32) then (0 : Int32) else (1 : Int32))), .val (.int (if (sl &&& (4 : Int32)) = (0 : Int32) then (0 : Int32) else (1 : Int32))), .val (.int (if (sl &&& (8 : Int32)) = (0 : Int32) then (0 : Int32) else (1 : Int32))), .unset, .unset, .unset] [(.long (if (if (sl &&& (4 : Int32)) = (0 : Int32) then (0 : Int32) else (1 : Int32)) = (0 : Int32) then v3 else (v3 + dl))), (.long (if (if (sl &&& (2 : Int32)) = (0 : Int32) then (0 : Int32) else (1 : Int32)) = (0 : Int32) then v2 else (v2 + dl))), (.long (if (if (sl &&& (1 : Int32)) = (0 : Int32) then (0 : Int32) else (1 : Int32)) = (0 : Int32) then v1 else (v1 + dl))), (.ref b16), (.ref b16)])) t ∧ _
  refine own_go (fun _ => XS.iload X16.here hx rfl (hb hby at_117) rfl) ?_
  show ∃ t o, Steps p.tables e below (T16.setTop (mkF m 119 #[.val (.long v1), .second, .val (.long v2), .second, .val (.long v3), .second, .val (.long v4), .second, .val (.long dl), .second, .val (.int sl), .val (.ref b2), .val (.int (if (sl &&& (1 : Int32)) = (0 : Int32) then (0 : Int32) else (1 : Int32))), .val (.int (if (sl &&& (2 : Int32)) = (0 : Int32) then (0 : Int32) else (1 : Int32))), .val (.int (if (sl &&& (4 : Int32)) = (0 : Int32) then (0 : Int32) else (1 : Int32))), .val (.int (if (sl &&& (8 : Int32)) = (0 : Int32) then (0 : Int32) else (1 : Int32))), .unset, .unset, .unset] [(.int (if (sl &&& (8 : Int32)) = (0 : Int32) then (0 : Int32) else (1 : Int32))), (.long (if (if (sl &&& (4 : Int32)) = (0 : Int32) then (0 : Int32) else (1 : Int32)) = (0 : Int32) then v3 else (v3 + dl))), (.long (if (if (sl &&& (2 : Int32)) = (0 : Int32) then (0 : Int32) else (1 : Int32)) = (0 : Int32) then v2 else (v2 + dl))), (.long (if (if (sl &&& (1 : Int32)) = (0 : Int32) then (0 : Int32) else (1 : Int32)) = (0 : Int32) then v1 else (v1 + dl))), (.ref b16), (.ref b16)])) t ∧ _
  have seg23 : ∀ t, Steps p.tables e below (T16.setTop (mkF m 132 #[.val (.long v1), .second, .val (.long v2), .second, .val (.long v3), .second, .val (.long v4), .second, .val (.long dl), .second, .val (.int sl), .val (.ref b2), .val (.int (if (sl &&& (1 : Int32)) = (0 : Int32) then (0 : Int32) else (1 : Int32))), .val (.int (if (sl &&& (2 : Int32)) = (0 : Int32) then (0 : Int32) else (1 : Int32))), .val (.int (if (sl &&& (4 : Int32)) = (0 : Int32) then (0 : Int32) else (1 : Int32))), .val (.int (if (sl &&& (8 : Int32)) = (0 : Int32) then (0 : Int32) else (1 : Int32))), .unset, .unset, .unset] [(.long (if (if (sl &&& (8 : Int32)) = (0 : Int32) then (0 : Int32) else (1 : Int32)) = (0 : Int32) then v4 else (v4 + dl))), (.long (if (if (sl &&& (4 : Int32)) = (0 : Int32) then (0 : Int32) else (1 : Int32)) = (0 : Int32) then v3 else (v3 + dl))), (.long (if (if (sl &&& (2 : Int32)) = (0 : Int32) then (0 : Int32) else (1 : Int32)) = (0 : Int32) then v2 else (v2 + dl))), (.long (if (if (sl &&& (1 : Int32)) = (0 : Int32) then (0 : Int32) else (1 : Int32)) = (0 : Int32) then v1 else (v1 + dl))), (.ref b16), (.ref b16)])) t → Steps p.tables e below (T16.setTop (mkF m 119 #[.val (.long v1), .second, .val (.long v2), .second, .val (.long v3), .second, .val (.long v4), .second, .val (.long dl), .second, .val (.int sl), .val (.ref b2), .val (.int (if (sl &&& (1 : Int32)) = (0 : Int32) then (0 : Int32) else (1 : Int32))), .val (.int (if (sl &&& (2 : Int32)) = (0 : Int32) then (0 : Int32) else (1 : Int32))), .val (.int (if (sl &&& (4 : Int32)) = (0 : Int32) then (0 : Int32) else (1 : Int32))), .val (.int (if (sl &&& (8 : Int32)) = (0 : Int32) then (0 : Int32) else (1 : Int32))), .unset, .unset, .unset] [(.int (if (sl &&& (8 : Int32)) = (0 : Int32) then (0 : Int32) else (1 : Int32))), (.long (if (if (sl &&& (4 : Int32)) = (0 : Int32) then (0 : Int32) else (1 : Int32)) = (0 : Int32) then v3 else (v3 + dl))), (.long (if (if (sl &&& (2 : Int32)) = (0 : Int32) then (0 : Int32) else (1 : Int32)) = (0 : Int32) then v2 else (v2 + dl))), (.long (if (if (sl &&& (1 : Int32)) = (0 : Int32) then (0 : Int32) else (1 : Int32)) = (0 : Int32) then v1 else (v1 + dl))), (.ref b16), (.ref b16)])) t := by
    intro t k
    show Steps p.tables e below (T16.setTop (mkF m 119 #[.val (.long v1), .second, .val (.long v2), .second, .val (.long v3), .second, .val (.long v4), .second, .val (.long dl), .second, .val (.int sl), .val (.ref b2), .val (.int (if (sl &&& (1 : Int32)) = (0 : Int32) then (0 : Int32) else (1 : Int32))), .val (.int (if (sl &&& (2 : Int32)) = (0 : Int32) then (0 : Int32) else (1 : Int32))), .val (.int (if (sl &&& (4 : Int32)) = (0 : Int32) then (0 : Int32) else (1 : Int32))), .val (.int (if (sl &&& (8 : Int32)) = (0 : Int32) then (0 : Int32) else (1 : Int32))), .unset, .unset, .unset] [(.int (if (sl &&& (8 : Int32)) = (0 : Int32) then (0 : Int32) else (1 : Int32))), (.long (if (if (sl &&& (4 : Int32)) = (0 : Int32) then (0 : Int32) else (1 : Int32)) = (0 : Int32) then v3 else (v3 + dl))), (.long (if (if (sl &&& (2 : Int32)) = (0 : Int32) then (0 : Int32) else (1 : Int32)) = (0 : Int32) then v2 else (v2 + dl))), (.long (if (if (sl &&& (1 : Int32)) = (0 : Int32) then (0 : Int32) else (1 : Int32)) = (0 : Int32) then v1 else (v1 + dl))), (.ref b16), (.ref b16)])) _
    by_cases hc24 : (if (sl &&& (8 : Int32)) = (0 : Int32) then (0 : Int32) else (1 : Int32)) = (0 : Int32)
    · refine XS.ifYes X16.here hx rfl (pc0 := 119) (pc' := 130) rfl (hb hby at_119) rfl ((if0 _ _).trans (teq hc24).1) (by decide) (by decide) ?_
      show Steps p.tables e below (T16.setTop (mkF m 130 #[.val (.long v1), .second, .val (.long v2), .second, .val (.long v3), .second, .val (.long v4), .second, .val (.long dl), .second, .val (.int sl), .val (.ref b2), .val (.int (if (sl &&& (1 : Int32)) = (0 : Int32) then (0 : Int32) else (1 : Int32))), .val (.int (if (sl &&& (2 : Int32)) = (0 : Int32) then (0 : Int32) else (1 : Int32))), .val (.int (if (sl &&& (4 : Int32)) = (0 : Int32) then (0 : Int32) else (1 : Int32))), .val (.int (if (sl &&& (8 : Int32)) = (0 : Int32) then (0 : Int32) else (1 : Int32))), .unset, .unset, .unset] [(.long (if (if (sl &&& (4 : Int32)) = (0 : Int32) then (0 : Int32) else (1 : Int32)) = (0 : Int32) then v3 else (v3 + dl))), (.long (if (if (sl &&& (2 : Int32)) = (0 : Int32) then (0 : Int32) else (1 : Int32)) = (0 : Int32) then v2 else (v2 + dl))), (.long (if (if (sl &&& (1 : Int32)) = (0 : Int32) then (0 : Int32) else (1 : Int32)) = (0 : Int32) then v1 else (v1 + dl))), (.ref b16), (.ref b16)])) _
      refine XS.lload X16.here hx rfl (hb hby at_130) rfl ?_
      simp only [if_pos hc24] at k
      exact k
    · refine XS.ifNo X16.here hx rfl (hb hby at_119) rfl ((if0 _ _).trans (feq hc24).1) ?_
      show Steps p.tables e below (T16.setTop (mkF m 122 #[.val (.long v1), .second, .val (.long v2), .second, .val (.long v3), .second, .val (.long v4), .second, .val (.long dl), .second, .val (.int sl), .val (.ref b2), .val (.int (if (sl &&& (1 : Int32)) = (0 : Int32) then (0 : Int32) else (1 : Int32))), .val (.int (if (sl &&& (2 : Int32)) = (0 : Int32) then (0 : Int32) else (1 : Int32))), .val (.int (if (sl &&& (4 : Int32)) = (0 : Int32) then (0 : Int32) else (1 : Int32))), .val (.int (if (sl &&& (8 : Int32)) = (0 : Int32) then (0 : Int32) else (1 : Int32))), .unset, .unset, .unset] [(.long (if (if (sl &&& (4 : Int32)) = (0 : Int32) then (0 : Int32) else (1 : Int32)) = (0 : Int32) then v3 else (v3 + dl))), (.long (if (if (sl &&& (2 : Int32)) = (0 : Int32) then (0 : Int32) else (1 : Int32)) = (0 : Int32) then v2 else (v2 + dl))), (.long (if (if (sl &&& (1 : Int32)) = (0 : Int32) then (0 : Int32) else (1 : Int32)) = (0 : Int32) then v1 else (v1 + dl))), (.ref b16), (.ref b16)])) _
      refine XS.lload X16.here hx rfl (hb hby at_122) rfl ?_
      show Steps p.tables e below (T16.setTop (mkF m 124 #[.val (.long v1), .second, .val (.long v2), .second, .val (.long v3), .second, .val (.long v4), .second, .val (.long dl), .second, .val (.int sl), .val (.ref b2), .val (.int (if (sl &&& (1 : Int32)) = (0 : Int32) then (0 : Int32) else (1 : Int32))), .val (.int (if (sl &&& (2 : Int32)) = (0 : Int32) then (0 : Int32) else (1 : Int32))), .val (.int (if (sl &&& (4 : Int32)) = (0 : Int32) then (0 : Int32) else (1 : Int32))), .val (.int (if (sl &&& (8 : Int32)) = (0 : Int32) then (0 : Int32) else (1 : Int32))), .unset, .unset, .unset] [(.long v4), (.long (if (if (sl &&& (4 : Int32)) = (0 : Int32) then (0 : Int32) else (1 : Int32)) = (0 : Int32) then v3 else (v3 + dl))), (.long (if (if (sl &&& (2 : Int32)) = (0 : Int32) then (0 : Int32) else (1 : Int32)) = (0 : Int32) then v2 else (v2 + dl))), (.long (if (if (sl &&& (1 : Int32)) = (0 : Int32) then (0 : Int32) else (1 : Int32)) = (0 : Int32) then v1 else (v1 + dl))), (.ref b16), (.ref b16)])) _
      refine XS.lload X16.here hx rfl (hb hby at_124) rfl ?_
      show Steps p.tables e below (T16.setTop (mkF m 126 #[.val (.long v1), .second, .val (.long v2), .second, .val (.long v3), .second, .val (.long v4), .second, .val (.long dl), .second, .val (.int sl), .val (.ref b2), .val (.int (if (sl &&& (1 : Int32)) = (0 : Int32) then (0 : Int32) else (1 : Int32))), .val (.int (if (sl &&& (2 : Int32)) = (0 : Int32) then (0 : Int32) else (1 : Int32))), .val (.int (if (sl &&& (4 : Int32)) = (0 : Int32) then (0 : Int32) else (1 : Int32))), .val (.int (if (sl &&& (8 : Int32)) = (0 : Int32) then (0 : Int32) else (1 : Int32))), .unset, .unset, .unset] [(.long dl), (.long v4), (.long (if (if (sl &&& (4 : Int32)) = (0 : Int32) then (0 : Int32) else (1 : Int32)) = (0 : Int32) then v3 else (v3 + dl))), (.long (if (if (sl &&& (2 : Int32)) = (0 : Int32) then (0 : Int32) else (1 : Int32)) = (0 : Int32) then v2 else (v2 + dl))), (.long (if (if (sl &&& (1 : Int32)) = (0 : Int32) then (0 : Int32) else (1 : Int32)) = (0 : Int32) then v1 else (v1 + dl))), (.ref b16), (.ref b16)])) _
      refine XS.ladd X16.here hx rfl (hb hby at_126) rfl ?_
      show Steps p.tables e below (T16.setTop (mkF m 127 #[.val (.long v1), .second, .val (.long v2), .second, .val (.long v3), .second, .val (.long v4), .second, .val (.long dl), .second, .val (.int sl), .val (.ref b2), .val (.int (if (sl &&& (1 : Int32)) = (0 : Int32) then (0 : Int32) else (1 : Int32))), .val (.int (if (sl &&& (2 : Int32)) = (0 : Int32) then (0 : Int32) else (1 : Int32))), .val (.int (if (sl &&& (4 : Int32)) = (0 : Int32) then (0 : Int32) else (1 : Int32))), .val (.int (if (sl &&& (8 : Int32)) = (0 : Int32) then (0 : Int32) else (1 : Int32))), .unset, .unset, .unset] [(.long (v4 + dl)), (.long (if (if (sl &&& (4 : Int32)) = (0 : Int32) then (0 : Int32) else (1 : Int32)) = (0 : Int32) then v3 else (v3 + dl))), (.long (if (if (sl &&& (2 : Int32)) = (0 : Int32) then (0 : Int32) else (1 : Int32)) = (0 : Int32) then v2 else (v2 + dl))), (.long (if (if (sl &&& (1 : Int32)) = (0 : Int32) then (0 : Int32) else (1 : Int32)) = (0 : Int32) then v1 else (v1 + dl))), (.ref b16), (.ref b16)])) _
      refine XS.goto X16.here hx rfl (pc0 := 127) (pc' := 132) rfl (hb hby at_127) (by decide) (by decide) ?_
      simp only [if_neg hc24] at k
      exact k
  refine own_go seg23 ?_
  show ∃ t o, Steps p.tables e below (T16.setTop (mkF m 132 #[.val (.long v1), .second, .val (.long v2), .second, .val (.long v3), .second, .val (.long v4), .second, .val (.long dl), .second, .val (.int sl), .val (.ref b2), .val (.int (if (sl &&& (1 : Int32)) = (0 : Int32) then (0 : Int32) else (1 : Int32))), .val (.int (if (sl &&& (2 : Int32)) = (0 : Int32) then (0 : Int32) else (1 : Int32))), .val (.int (if (sl &&& (4 : Int32)) = (0 : Int32) then (0 : Int32) else (1 : Int32))), .val (.int (if (sl &&& (8 : Int32)) = (0 : Int32) then (0 : Int32) else (1 : Int32))), .unset, .unset, .unset] [(.long (if (if (sl &&& (8 : Int32)) = (0 : Int32) then (0 : Int32) else (1 : Int32)) = (0 : Int32) then v4 else (v4 + dl))), (.long (if (if (sl &&& (4 : Int32)) = (0 : Int32) then (0 : Int32) else (1 : Int32)) = (0 : Int32) then v3 else (v3 + dl))), (.long (if (if (sl &&& (2 : Int32)) = (0 : Int32) then (0 : Int32) else (1 : Int32)) = (0 : Int32) then v2 else (v2 + dl))), (.long (if (if (sl &&& (1 : Int32)) = (0 : Int32) then (0 : Int32) else (1 : Int32)) = (0 : Int32) then v1 else (v1 + dl))), (.ref b16), (.ref b16)])) t ∧ _
  have F25 : Old Z n0 h16 := ((Old.keep F3 Kp6 (allS ge4 all0)).ext E16)
  have ge26 : n0 ≤ b16 := by omega
  have zl27 : n0 ≤ h16.size := by omega
  obtain ⟨_, _, ⟨T28, L28, k28, n28⟩, -, X28, ⟨Lc28, hQ28, l28, y28, z28⟩, st28⟩ := X16.specialBack hx (y := (⟨"com/example/libtardy/libtardy/QueueCounts", "<init>", "(JJJJ)V"⟩ : MethodName)) rfl hown (mvT hZ (hw _ (List.mem_of_getElem? (i := 3) rfl))) (mvT hZ (hw _ (List.mem_of_getElem? (i := 4) rfl))) (mvT hZ (hw _ (List.mem_of_getElem? (i := 5) rfl))) (by decide) (backOf (W := 1) (rmInit l Z a0 hw [] b16 ((if (if (sl &&& (1 : Int32)) = (0 : Int32) then (0 : Int32) else (1 : Int32)) = (0 : Int32) then v1 else (v1 + dl))) ((if (if (sl &&& (2 : Int32)) = (0 : Int32) then (0 : Int32) else (1 : Int32)) = (0 : Int32) then v2 else (v2 + dl))) ((if (if (sl &&& (4 : Int32)) = (0 : Int32) then (0 : Int32) else (1 : Int32)) = (0 : Int32) then v3 else (v3 + dl))) ((if (if (sl &&& (8 : Int32)) = (0 : Int32) then (0 : Int32) else (1 : Int32)) = (0 : Int32) then v4 else (v4 + dl))) h16 n0 zl27 A16 F_waiting_b16 F_due_b16 F_inFlight_b16 F_dead_b16 F25 ge26) hZ (hw _ (List.mem_of_getElem? (i := 5) rfl)) (hw _ (List.mem_of_getElem? (i := 2) rfl)) (by decide) (by decide)) (g := (mkF m 132 #[.val (.long v1), .second, .val (.long v2), .second, .val (.long v3), .second, .val (.long v4), .second, .val (.long dl), .second, .val (.int sl), .val (.ref b2), .val (.int (if (sl &&& (1 : Int32)) = (0 : Int32) then (0 : Int32) else (1 : Int32))), .val (.int (if (sl &&& (2 : Int32)) = (0 : Int32) then (0 : Int32) else (1 : Int32))), .val (.int (if (sl &&& (4 : Int32)) = (0 : Int32) then (0 : Int32) else (1 : Int32))), .val (.int (if (sl &&& (8 : Int32)) = (0 : Int32) then (0 : Int32) else (1 : Int32))), .unset, .unset, .unset] [(.long (if (if (sl &&& (8 : Int32)) = (0 : Int32) then (0 : Int32) else (1 : Int32)) = (0 : Int32) then v4 else (v4 + dl))), (.long (if (if (sl &&& (4 : Int32)) = (0 : Int32) then (0 : Int32) else (1 : Int32)) = (0 : Int32) then v3 else (v3 + dl))), (.long (if (if (sl &&& (2 : Int32)) = (0 : Int32) then (0 : Int32) else (1 : Int32)) = (0 : Int32) then v2 else (v2 + dl))), (.long (if (if (sl &&& (1 : Int32)) = (0 : Int32) then (0 : Int32) else (1 : Int32)) = (0 : Int32) then v1 else (v1 + dl))), (.ref b16), (.ref b16)])) rfl (by rw [hml]; rfl) (Steps.refl _) (a := b16) (argsL := [(.long (if (if (sl &&& (1 : Int32)) = (0 : Int32) then (0 : Int32) else (1 : Int32)) = (0 : Int32) then v1 else (v1 + dl))), (.long (if (if (sl &&& (2 : Int32)) = (0 : Int32) then (0 : Int32) else (1 : Int32)) = (0 : Int32) then v2 else (v2 + dl))), (.long (if (if (sl &&& (4 : Int32)) = (0 : Int32) then (0 : Int32) else (1 : Int32)) = (0 : Int32) then v3 else (v3 + dl))), (.long (if (if (sl &&& (8 : Int32)) = (0 : Int32) then (0 : Int32) else (1 : Int32)) = (0 : Int32) then v4 else (v4 + dl)))]) (rest := [(.ref b16)]) (lenOf pd__28JJJJ_29V rfl) rfl (by show 2 * 0 + _ ≤ _; exact Nat.le_of_eq rfl) (hb hby at_132) (fun _ _ => ⟨rfl, e16, (by decide : 2 + 0 ≤ _), (by decide : 8 + 0 ≤ _)⟩)
  dsimp only [Pt.U, Pt.locs, Pt.cells, Pt.slots] at X28 l28 y28 z28 st28 hQ28
  subst l28 y28 z28
  obtain ⟨rfl, Nq28, Kp28, G28_0, G28_1, G28_2, G28_3, G28_4⟩ := hQ28
  have N28 := Fr.app N6 Nq28
  refine own_goT st28 ?_
  have le_28 : h16.size ≤ T28.heap.size := Kp28.1
  have sz29 : h0.size ≤ b16 := by omega
  have K28 : Keep h0 T28.heap [] := Keep.trans K16 Kp28 (allS (Or.inr sz29) all0)
  show ∃ t o, Steps p.tables e below (T28.setTop (mkF m 135 #[.val (.long v1), .second, .val (.long v2), .second, .val (.long v3), .second, .val (.long v4), .second, .val (.long dl), .second, .val (.int sl), .val (.ref b2), .val (.int (if (sl &&& (1 : Int32)) = (0 : Int32) then (0 : Int32) else (1 : Int32))), .val (.int (if (sl &&& (2 : Int32)) = (0 : Int32) then (0 : Int32) else (1 : Int32))), .val (.int (if (sl &&& (4 : Int32)) = (0 : Int32) then (0 : Int32) else (1 : Int32))), .val (.int (if (sl &&& (8 : Int32)) = (0 : Int32) then (0 : Int32) else (1 : Int32))), .unset, .unset, .unset] [(.ref b16)])) t ∧ _
  refine own_go (fun _ => XS.astore X28.here hx rfl (hb hby at_135) rfl rfl (l' := #[.val (.long v1), .second, .val (.long v2), .second, .val (.long v3), .second, .val (.long v4), .second, .val (.long dl), .second, .val (.int sl), .val (.ref b2), .val (.int (if (sl &&& (1 : Int32)) = (0 : Int32) then (0 : Int32) else (1 : Int32))), .val (.int (if (sl &&& (2 : Int32)) = (0 : Int32) then (0 : Int32) else (1 : Int32))), .val (.int (if (sl &&& (4 : Int32)) = (0 : Int32) then (0 : Int32) else (1 : Int32))), .val (.int (if (sl &&& (8 : Int32)) = (0 : Int32) then (0 : Int32) else (1 : Int32))), .val (.ref b16), .unset, .unset]) rfl) ?_
  show ∃ t o, Steps p.tables e below (T28.setTop (mkF m 137 #[.val (.long v1), .second, .val (.long v2), .second, .val (.long v3), .second, .val (.long v4), .second, .val (.long dl), .second, .val (.int sl), .val (.ref b2), .val (.int (if (sl &&& (1 : Int32)) = (0 : Int32) then (0 : Int32) else (1 : Int32))), .val (.int (if (sl &&& (2 : Int32)) = (0 : Int32) then (0 : Int32) else (1 : Int32))), .val (.int (if (sl &&& (4 : Int32)) = (0 : Int32) then (0 : Int32) else (1 : Int32))), .val (.int (if (sl &&& (8 : Int32)) = (0 : Int32) then (0 : Int32) else (1 : Int32))), .val (.ref b16), .unset, .unset] [])) t ∧ _
  refine own_go (fun _ => XS.iload X28.here hx rfl (hb hby at_137) rfl) ?_
  show ∃ t o, Steps p.tables e below (T28.setTop (mkF m 139 #[.val (.long v1), .second, .val (.long v2), .second, .val (.long v3), .second, .val (.long v4), .second, .val (.long dl), .second, .val (.int sl), .val (.ref b2), .val (.int (if (sl &&& (1 : Int32)) = (0 : Int32) then (0 : Int32) else (1 : Int32))), .val (.int (if (sl &&& (2 : Int32)) = (0 : Int32) then (0 : Int32) else (1 : Int32))), .val (.int (if (sl &&& (4 : Int32)) = (0 : Int32) then (0 : Int32) else (1 : Int32))), .val (.int (if (sl &&& (8 : Int32)) = (0 : Int32) then (0 : Int32) else (1 : Int32))), .val (.ref b16), .unset, .unset] [(.int sl)])) t ∧ _
  refine own_go (fun _ => XS.iconst X28.here hx rfl (hb hby at_139)) ?_
  show ∃ t o, Steps p.tables e below (T28.setTop (mkF m 140 #[.val (.long v1), .second, .val (.long v2), .second, .val (.long v3), .second, .val (.long v4), .second, .val (.long dl), .second, .val (.int sl), .val (.ref b2), .val (.int (if (sl &&& (1 : Int32)) = (0 : Int32) then (0 : Int32) else (1 : Int32))), .val (.int (if (sl &&& (2 : Int32)) = (0 : Int32) then (0 : Int32) else (1 : Int32))), .val (.int (if (sl &&& (4 : Int32)) = (0 : Int32) then (0 : Int32) else (1 : Int32))), .val (.int (if (sl &&& (8 : Int32)) = (0 : Int32) then (0 : Int32) else (1 : Int32))), .val (.ref b16), .unset, .unset] [(.int (4 : Int32)), (.int sl)])) t ∧ _
  refine own_go (fun _ => XS.iushr X28.here hx rfl (hb hby at_140) rfl) ?_
  show ∃ t o, Steps p.tables e below (T28.setTop (mkF m 141 #[.val (.long v1), .second, .val (.long v2), .second, .val (.long v3), .second, .val (.long v4), .second, .val (.long dl), .second, .val (.int sl), .val (.ref b2), .val (.int (if (sl &&& (1 : Int32)) = (0 : Int32) then (0 : Int32) else (1 : Int32))), .val (.int (if (sl &&& (2 : Int32)) = (0 : Int32) then (0 : Int32) else (1 : Int32))), .val (.int (if (sl &&& (4 : Int32)) = (0 : Int32) then (0 : Int32) else (1 : Int32))), .val (.int (if (sl &&& (8 : Int32)) = (0 : Int32) then (0 : Int32) else (1 : Int32))), .val (.ref b16), .unset, .unset] [(.int ((sl.toUInt32 >>> ((4 : Int32) &&& 31).toUInt32).toInt32))])) t ∧ _
  refine own_go (fun _ => XS.bipush X28.here hx rfl (hb hby at_141)) ?_
  show ∃ t o, Steps p.tables e below (T28.setTop (mkF m 143 #[.val (.long v1), .second, .val (.long v2), .second, .val (.long v3), .second, .val (.long v4), .second, .val (.long dl), .second, .val (.int sl), .val (.ref b2), .val (.int (if (sl &&& (1 : Int32)) = (0 : Int32) then (0 : Int32) else (1 : Int32))), .val (.int (if (sl &&& (2 : Int32)) = (0 : Int32) then (0 : Int32) else (1 : Int32))), .val (.int (if (sl &&& (4 : Int32)) = (0 : Int32) then (0 : Int32) else (1 : Int32))), .val (.int (if (sl &&& (8 : Int32)) = (0 : Int32) then (0 : Int32) else (1 : Int32))), .val (.ref b16), .unset, .unset] [(.int (7 : Int32)), (.int ((sl.toUInt32 >>> ((4 : Int32) &&& 31).toUInt32).toInt32))])) t ∧ _
  refine own_go (fun _ => XS.iand X28.here hx rfl (hb hby at_143) rfl) ?_
  show ∃ t o, Steps p.tables e below (T28.setTop (mkF m 144 #[.val (.long v1), .second, .val (.long v2), .second, .val (.long v3), .second, .val (.long v4), .second, .val (.long dl), .second, .val (.int sl), .val (.ref b2), .val (.int (if (sl &&& (1 : Int32)) = (0 : Int32) then (0 : Int32) else (1 : Int32))), .val (.int (if (sl &&& (2 : Int32)) = (0 : Int32) then (0 : Int32) else (1 : Int32))), .val (.int (if (sl &&& (4 : Int32)) = (0 : Int32) then (0 : Int32) else (1 : Int32))), .val (.int (if (sl &&& (8 : Int32)) = (0 : Int32) then (0 : Int32) else (1 : Int32))), .val (.ref b16), .unset, .unset] [(.int (((sl.toUInt32 >>> ((4 : Int32) &&& 31).toUInt32).toInt32) &&& (7 : Int32)))])) t ∧ _
  refine own_go (fun _ => XS.istore X28.here hx rfl (hb hby at_144) rfl (l' := #[.val (.long v1), .second, .val (.long v2), .second, .val (.long v3), .second, .val (.long v4), .second, .val (.long dl), .second, .val (.int sl), .val (.ref b2), .val (.int (if (sl &&& (1 : Int32)) = (0 : Int32) then (0 : Int32) else (1 : Int32))), .val (.int (if (sl &&& (2 : Int32)) = (0 : Int32) then (0 : Int32) else (1 : Int32))), .val (.int (if (sl &&& (4 : Int32)) = (0 : Int32) then (0 : Int32) else (1 : Int32))), .val (.int (if (sl &&& (8 : Int32)) = (0 : Int32) then (0 : Int32) else (1 : Int32))), .val (.ref b16), .val (.int (((sl.toUInt32 >>> ((4 : Int32) &&& 31).toUInt32).toInt32) &&& (7 : Int32))), .unset]) rfl) ?_
  show ∃ t o, Steps p.tables e below (T28.setTop (mkF m 146 #[.val (.long v1), .second, .val (.long v2), .second, .val (.long v3), .second, .val (.long v4), .second, .val (.long dl), .second, .val (.int sl), .val (.ref b2), .val (.int (if (sl &&& (1 : Int32)) = (0 : Int32) then (0 : Int32) else (1 : Int32))), .val (.int (if (sl &&& (2 : Int32)) = (0 : Int32) then (0 : Int32) else (1 : Int32))), .val (.int (if (sl &&& (4 : Int32)) = (0 : Int32) then (0 : Int32) else (1 : Int32))), .val (.int (if (sl &&& (8 : Int32)) = (0 : Int32) then (0 : Int32) else (1 : Int32))), .val (.ref b16), .val (.int (((sl.toUInt32 >>> ((4 : Int32) &&& 31).toUInt32).toInt32) &&& (7 : Int32))), .unset] [])) t ∧ _
  refine own_go (fun _ => XS.iload X28.here hx rfl (hb hby at_146) rfl) ?_
  show ∃ t o, Steps p.tables e below (T28.setTop (mkF m 148 #[.val (.long v1), .second, .val (.long v2), .second, .val (.long v3), .second, .val (.long v4), .second, .val (.long dl), .second, .val (.int sl), .val (.ref b2), .val (.int (if (sl &&& (1 : Int32)) = (0 : Int32) then (0 : Int32) else (1 : Int32))), .val (.int (if (sl &&& (2 : Int32)) = (0 : Int32) then (0 : Int32) else (1 : Int32))), .val (.int (if (sl &&& (4 : Int32)) = (0 : Int32) then (0 : Int32) else (1 : Int32))), .val (.int (if (sl &&& (8 : Int32)) = (0 : Int32) then (0 : Int32) else (1 : Int32))), .val (.ref b16), .val (.int (((sl.toUInt32 >>> ((4 : Int32) &&& 31).toUInt32).toInt32) &&& (7 : Int32))), .unset] [(.int (((sl.toUInt32 >>> ((4 : Int32) &&& 31).toUInt32).toInt32) &&& (7 : Int32)))])) t ∧ _
  by_cases hc30 : (((sl.toUInt32 >>> ((4 : Int32) &&& 31).toUInt32).toInt32) &&& (7 : Int32)) = (0 : Int32)
  · refine own_go (fun _ => XS.ifNo X28.here hx rfl (hb hby at_148) rfl ((if0 _ _).trans (teq hc30).2)) ?_
    show ∃ t o, Steps p.tables e below (T28.setTop (mkF m 151 #[.val (.long v1), .second, .val (.long v2), .second, .val (.long v3), .second, .val (.long v4), .second, .val (.long dl), .second, .val (.int sl), .val (.ref b2), .val (.int (if (sl &&& (1 : Int32)) = (0 : Int32) then (0 : Int32) else (1 : Int32))), .val (.int (if (sl &&& (2 : Int32)) = (0 : Int32) then (0 : Int32) else (1 : Int32))), .val (.int (if (sl &&& (4 : Int32)) = (0 : Int32) then (0 : Int32) else (1 : Int32))), .val (.int (if (sl &&& (8 : Int32)) = (0 : Int32) then (0 : Int32) else (1 : Int32))), .val (.ref b16), .val (.int (((sl.toUInt32 >>> ((4 : Int32) &&& 31).toUInt32).toInt32) &&& (7 : Int32))), .unset] [])) t ∧ _
    refine own_go (fun _ => XS.aload X28.here hx rfl (hb hby at_151) rfl rfl) ?_
    show ∃ t o, Steps p.tables e below (T28.setTop (mkF m 153 #[.val (.long v1), .second, .val (.long v2), .second, .val (.long v3), .second, .val (.long v4), .second, .val (.long dl), .second, .val (.int sl), .val (.ref b2), .val (.int (if (sl &&& (1 : Int32)) = (0 : Int32) then (0 : Int32) else (1 : Int32))), .val (.int (if (sl &&& (2 : Int32)) = (0 : Int32) then (0 : Int32) else (1 : Int32))), .val (.int (if (sl &&& (4 : Int32)) = (0 : Int32) then (0 : Int32) else (1 : Int32))), .val (.int (if (sl &&& (8 : Int32)) = (0 : Int32) then (0 : Int32) else (1 : Int32))), .val (.ref b16), .val (.int (((sl.toUInt32 >>> ((4 : Int32) &&& 31).toUInt32).toInt32) &&& (7 : Int32))), .unset] [(.ref b2)])) t ∧ _
    refine own_go (fun _ => XS.aconstNull X28.here hx rfl (hb hby at_153)) ?_
    show ∃ t o, Steps p.tables e below (T28.setTop (mkF m 154 #[.val (.long v1), .second, .val (.long v2), .second, .val (.long v3), .second, .val (.long v4), .second, .val (.long dl), .second, .val (.int sl), .val (.ref b2), .val (.int (if (sl &&& (1 : Int32)) = (0 : Int32) then (0 : Int32) else (1 : Int32))), .val (.int (if (sl &&& (2 : Int32)) = (0 : Int32) then (0 : Int32) else (1 : Int32))), .val (.int (if (sl &&& (4 : Int32)) = (0 : Int32) then (0 : Int32) else (1 : Int32))), .val (.int (if (sl &&& (8 : Int32)) = (0 : Int32) then (0 : Int32) else (1 : Int32))), .val (.ref b16), .val (.int (((sl.toUInt32 >>> ((4 : Int32) &&& 31).toUInt32).toInt32) &&& (7 : Int32))), .unset] [.null, (.ref b2)])) t ∧ _
    have F31 : Exa Z T28.heap b2 "com/example/libtardy/libtardy/QueueCounts" := (Exa.keep (Exa.ext E16 G6_0) Kp28)
    have F32 : Old Z n0 T28.heap := (Old.keep F25 Kp28 (allS ge26 all0))
    have zl33 : n0 ≤ T28.heap.size := by omega
    obtain ⟨cq34, kq34, q34a, q34b, q34c⟩ := isOf hZ rfl F31
    obtain ⟨_, _, ⟨T34, L34, k34, n34⟩, -, X34, ⟨Lc34, hQ34, l34, y34, z34⟩, st34⟩ := X28.virtualBack hx (y := (⟨"com/example/libtardy/libtardy/QueueCounts", "equals", "(Ljava/lang/Object;)Z"⟩ : MethodName)) (z := (⟨"com/example/libtardy/libtardy/QueueCounts", "equals", "(Ljava/lang/Object;)Z"⟩ : MethodName)) hown (mvT hZ (hw _ (List.mem_of_getElem? (i := 17) rfl))) (mvT hZ (hw _ (List.mem_of_getElem? (i := 18) rfl))) (notFace_of_selects (args := #[]) (mvT hZ (hw _ (List.mem_of_getElem? (i := 20) rfl)))) (mvT hZ (hw _ (List.mem_of_getElem? (i := 20) rfl))) (mvT hZ (hw _ (List.mem_of_getElem? (i := 19) rfl))) (by decide) (backOf (W := 0) (rmEqN l Z a0 hw [] b2 T28.heap n0 zl33 F32) hZ (hw _ (List.mem_of_getElem? (i := 21) rfl)) (hw _ (List.mem_of_getElem? (i := 2) rfl)) (by decide) (by decide)) q34a q34c (g := (mkF m 154 #[.val (.long v1), .second, .val (.long v2), .second, .val (.long v3), .second, .val (.long v4), .second, .val (.long dl), .second, .val (.int sl), .val (.ref b2), .val (.int (if (sl &&& (1 : Int32)) = (0 : Int32) then (0 : Int32) else (1 : Int32))), .val (.int (if (sl &&& (2 : Int32)) = (0 : Int32) then (0 : Int32) else (1 : Int32))), .val (.int (if (sl &&& (4 : Int32)) = (0 : Int32) then (0 : Int32) else (1 : Int32))), .val (.int (if (sl &&& (8 : Int32)) = (0 : Int32) then (0 : Int32) else (1 : Int32))), .val (.ref b16), .val (.int (((sl.toUInt32 >>> ((4 : Int32) &&& 31).toUInt32).toInt32) &&& (7 : Int32))), .unset] [.null, (.ref b2)])) rfl (by rw [hml]; rfl) (Steps.refl _) (argsL := [.null]) (rest := []) (lenOf pd__28Ljava_2flang_2fObject_3b_29Z rfl) rfl (by show 2 * 0 + _ ≤ _; exact Nat.le_of_eq rfl) (hb hby at_154) (fun _ _ => ⟨rfl, rfl, (by decide : 2 + 0 ≤ _), (by decide : 8 + 0 ≤ _)⟩)
    dsimp only [Pt.U, Pt.locs, Pt.cells, Pt.slots] at X34 l34 y34 z34 st34 hQ34
    subst l34 y34 z34
    obtain ⟨rfl, Nq34, e34⟩ := hQ34
    have N34 := Fr.app N28 Nq34
    refine own_goT st34 ?_
    show ∃ t o, Steps p.tables e below (T34.setTop (mkF m 157 #[.val (.long v1), .second, .val (.long v2), .second, .val (.long v3), .second, .val (.long v4), .second, .val (.long dl), .second, .val (.int sl), .val (.ref b2), .val (.int (if (sl &&& (1 : Int32)) = (0 : Int32) then (0 : Int32) else (1 : Int32))), .val (.int (if (sl &&& (2 : Int32)) = (0 : Int32) then (0 : Int32) else (1 : Int32))), .val (.int (if (sl &&& (4 : Int32)) = (0 : Int32) then (0 : Int32) else (1 : Int32))), .val (.int (if (sl &&& (8 : Int32)) = (0 : Int32) then (0 : Int32) else (1 : Int32))), .val (.ref b16), .val (.int (((sl.toUInt32 >>> ((4 : Int32) &&& 31).toUInt32).toInt32) &&& (7 : Int32))), .unset] [(.int (0 : Int32))])) t ∧ _
    refine own_go (fun _ => XS.ifNo X34.here hx rfl (hb hby at_157) rfl ((if0 _ _).trans (teq (by decide : (0 : Int32) = (0 : Int32))).2)) ?_
    show ∃ t o, Steps p.tables e below (T34.setTop (mkF m 160 #[.val (.long v1), .second, .val (.long v2), .second, .val (.long v3), .second, .val (.long v4), .second, .val (.long dl), .second, .val (.int sl), .val (.ref b2), .val (.int (if (sl &&& (1 : Int32)) = (0 : Int32) then (0 : Int32) else (1 : Int32))), .val (.int (if (sl &&& (2 : Int32)) = (0 : Int32) then (0 : Int32) else (1 : Int32))), .val (.int (if (sl &&& (4 : Int32)) = (0 : Int32) then (0 : Int32) else (1 : Int32))), .val (.int (if (sl &&& (8 : Int32)) = (0 : Int32) then (0 : Int32) else (1 : Int32))), .val (.ref b16), .val (.int (((sl.toUInt32 >>> ((4 : Int32) &&& 31).toUInt32).toInt32) &&& (7 : Int32))), .unset] [])) t ∧ _
    refine own_go (fun _ => XS.iconst X34.here hx rfl (hb hby at_160)) ?_
    show ∃ t o, Steps p.tables e below (T34.setTop (mkF m 161 #[.val (.long v1), .second, .val (.long v2), .second, .val (.long v3), .second, .val (.long v4), .second, .val (.long dl), .second, .val (.int sl), .val (.ref b2), .val (.int (if (sl &&& (1 : Int32)) = (0 : Int32) then (0 : Int32) else (1 : Int32))), .val (.int (if (sl &&& (2 : Int32)) = (0 : Int32) then (0 : Int32) else (1 : Int32))), .val (.int (if (sl &&& (4 : Int32)) = (0 : Int32) then (0 : Int32) else (1 : Int32))), .val (.int (if (sl &&& (8 : Int32)) = (0 : Int32) then (0 : Int32) else (1 : Int32))), .val (.ref b16), .val (.int (((sl.toUInt32 >>> ((4 : Int32) &&& 31).toUInt32).toInt32) &&& (7 : Int32))), .unset] [(.int (1 : Int32))])) t ∧ _
    refine own_go (fun _ => XS.goto X34.here hx rfl (pc0 := 161) (pc' := 165) rfl (hb hby at_161) (by decide) (by decide)) ?_
    show ∃ t o, Steps p.tables e below (T34.setTop (mkF m 165 #[.val (.long v1), .second, .val (.long v2), .second, .val (.long v3), .second, .val (.long v4), .second, .val (.long dl), .second, .val (.int sl), .val (.ref b2), .val (.int (if (sl &&& (1 : Int32)) = (0 : Int32) then (0 : Int32) else (1 : Int32))), .val (.int (if (sl &&& (2 : Int32)) = (0 : Int32) then (0 : Int32) else (1 : Int32))), .val (.int (if (sl &&& (4 : Int32)) = (0 : Int32) then (0 : Int32) else (1 : Int32))), .val (.int (if (sl &&& (8 : Int32)) = (0 : Int32) then (0 : Int32) else (1 : Int32))), .val (.ref b16), .val (.int (((sl.toUInt32 >>> ((4 : Int32) &&& 31).toUInt32).toInt32) &&& (7 : Int32))), .unset] [(.int (1 : Int32))])) t ∧ _
    obtain ⟨fs, hr, hrun, hended, hW, hsame⟩ := X34.leave (v := some (.int (1 : Int32))) (fun h => by rw [Bd.returns] at h; cases h)
    refine ⟨_, _, ?_, hrun, hended, _, _, rfl, ?_, ⟨_, rfl⟩, hW, hsame.mono (by decide) (by decide)⟩
    · exact retN X34 hx (t := .boolean) Bd.returns (by simp) (hb hby at_165) hr
    · show Q_rm0 Z v1 v2 v3 v4 dl sl ca cca h0 n0 _ T34.heap _
      rw [e34]
      exact ⟨rfl, N34, K28⟩
  · refine own_go (fun _ => XS.ifYes X28.here hx rfl (pc0 := 148) (pc' := 166) rfl (hb hby at_148) rfl ((if0 _ _).trans (feq hc30).2) (by decide) (by decide)) ?_
    show ∃ t o, Steps p.tables e below (T28.setTop (mkF m 166 #[.val (.long v1), .second, .val (.long v2), .second, .val (.long v3), .second, .val (.long v4), .second, .val (.long dl), .second, .val (.int sl), .val (.ref b2), .val (.int (if (sl &&& (1 : Int32)) = (0 : Int32) then (0 : Int32) else (1 : Int32))), .val (.int (if (sl &&& (2 : Int32)) = (0 : Int32) then (0 : Int32) else (1 : Int32))), .val (.int (if (sl &&& (4 : Int32)) = (0 : Int32) then (0 : Int32) else (1 : Int32))), .val (.int (if (sl &&& (8 : Int32)) = (0 : Int32) then (0 : Int32) else (1 : Int32))), .val (.ref b16), .val (.int (((sl.toUInt32 >>> ((4 : Int32) &&& 31).toUInt32).toInt32) &&& (7 : Int32))), .unset] [])) t ∧ _
    refine own_go (fun _ => XS.iload X28.here hx rfl (hb hby at_166) rfl) ?_
    show ∃ t o, Steps p.tables e below (T28.setTop (mkF m 168 #[.val (.long v1), .second, .val (.long v2), .second, .val (.long v3), .second, .val (.long v4), .second, .val (.long dl), .second, .val (.int sl), .val (.ref b2), .val (.int (if (sl &&& (1 : Int32)) = (0 : Int32) then (0 : Int32) else (1 : Int32))), .val (.int (if (sl &&& (2 : Int32)) = (0 : Int32) then (0 : Int32) else (1 : Int32))), .val (.int (if (sl &&& (4 : Int32)) = (0 : Int32) then (0 : Int32) else (1 : Int32))), .val (.int (if (sl &&& (8 : Int32)) = (0 : Int32) then (0 : Int32) else (1 : Int32))), .val (.ref b16), .val (.int (((sl.toUInt32 >>> ((4 : Int32) &&& 31).toUInt32).toInt32) &&& (7 : Int32))), .unset] [(.int (((sl.toUInt32 >>> ((4 : Int32) &&& 31).toUInt32).toInt32) &&& (7 : Int32)))])) t ∧ _
    refine own_go (fun _ => XS.iconst X28.here hx rfl (hb hby at_168)) ?_
    show ∃ t o, Steps p.tables e below (T28.setTop (mkF m 169 #[.val (.long v1), .second, .val (.long v2), .second, .val (.long v3), .second, .val (.long v4), .second, .val (.long dl), .second, .val (.int sl), .val (.ref b2), .val (.int (if (sl &&& (1 : Int32)) = (0 : Int32) then (0 : Int32) else (1 : Int32))), .val (.int (if (sl &&& (2 : Int32)) = (0 : Int32) then (0 : Int32) else (1 : Int32))), .val (.int (if (sl &&& (4 : Int32)) = (0 : Int32) then (0 : Int32) else (1 : Int32))), .val (.int (if (sl &&& (8 : Int32)) = (0 : Int32) then (0 : Int32) else (1 : Int32))), .val (.ref b16), .val (.int (((sl.toUInt32 >>> ((4 : Int32) &&& 31).toUInt32).toInt32) &&& (7 : Int32))), .unset] [(.int (1 : Int32)), (.int (((sl.toUInt32 >>> ((4 : Int32) &&& 31).toUInt32).toInt32) &&& (7 : Int32)))])) t ∧ _
    by_cases hc35 : (((sl.toUInt32 >>> ((4 : Int32) &&& 31).toUInt32).toInt32) &&& (7 : Int32)) = (1 : Int32)
    · refine own_go (fun _ => XS.icmpNo X28.here hx rfl (hb hby at_169) rfl (teq hc35).2) ?_
      show ∃ t o, Steps p.tables e below (T28.setTop (mkF m 172 #[.val (.long v1), .second, .val (.long v2), .second, .val (.long v3), .second, .val (.long v4), .second, .val (.long dl), .second, .val (.int sl), .val (.ref b2), .val (.int (if (sl &&& (1 : Int32)) = (0 : Int32) then (0 : Int32) else (1 : Int32))), .val (.int (if (sl &&& (2 : Int32)) = (0 : Int32) then (0 : Int32) else (1 : Int32))), .val (.int (if (sl &&& (4 : Int32)) = (0 : Int32) then (0 : Int32) else (1 : Int32))), .val (.int (if (sl &&& (8 : Int32)) = (0 : Int32) then (0 : Int32) else (1 : Int32))), .val (.ref b16), .val (.int (((sl.toUInt32 >>> ((4 : Int32) &&& 31).toUInt32).toInt32) &&& (7 : Int32))), .unset] [])) t ∧ _
      refine own_go (fun _ => XS.aload X28.here hx rfl (hb hby at_172) rfl rfl) ?_
      show ∃ t o, Steps p.tables e below (T28.setTop (mkF m 174 #[.val (.long v1), .second, .val (.long v2), .second, .val (.long v3), .second, .val (.long v4), .second, .val (.long dl), .second, .val (.int sl), .val (.ref b2), .val (.int (if (sl &&& (1 : Int32)) = (0 : Int32) then (0 : Int32) else (1 : Int32))), .val (.int (if (sl &&& (2 : Int32)) = (0 : Int32) then (0 : Int32) else (1 : Int32))), .val (.int (if (sl &&& (4 : Int32)) = (0 : Int32) then (0 : Int32) else (1 : Int32))), .val (.int (if (sl &&& (8 : Int32)) = (0 : Int32) then (0 : Int32) else (1 : Int32))), .val (.ref b16), .val (.int (((sl.toUInt32 >>> ((4 : Int32) &&& 31).toUInt32).toInt32) &&& (7 : Int32))), .unset] [(.ref b2)])) t ∧ _
      refine own_go (fun _ => XS.lloadN X28.here hx rfl (hb hby at_174) rfl) ?_
      show ∃ t o, Steps p.tables e below (T28.setTop (mkF m 175 #[.val (.long v1), .second, .val (.long v2), .second, .val (.long v3), .second, .val (.long v4), .second, .val (.long dl), .second, .val (.int sl), .val (.ref b2), .val (.int (if (sl &&& (1 : Int32)) = (0 : Int32) then (0 : Int32) else (1 : Int32))), .val (.int (if (sl &&& (2 : Int32)) = (0 : Int32) then (0 : Int32) else (1 : Int32))), .val (.int (if (sl &&& (4 : Int32)) = (0 : Int32) then (0 : Int32) else (1 : Int32))), .val (.int (if (sl &&& (8 : Int32)) = (0 : Int32) then (0 : Int32) else (1 : Int32))), .val (.ref b16), .val (.int (((sl.toUInt32 >>> ((4 : Int32) &&& 31).toUInt32).toInt32) &&& (7 : Int32))), .unset] [(.long v1), (.ref b2)])) t ∧ _
      have F36 : Old Z n0 T28.heap := (Old.keep F25 Kp28 (allS ge26 all0))
      have zl37 : n0 ≤ T28.heap.size := by omega
      obtain ⟨_, _, ⟨T38, L38, k38, n38⟩, -, X38, ⟨Lc38, hQ38, l38, y38, z38⟩, st38⟩ := Jvm.LawKit.callS X28 hx (y := (⟨"java/lang/Long", "valueOf", "(J)Ljava/lang/Long;"⟩ : MethodName)) hown (mvT hZ (hw _ (List.mem_of_getElem? (i := 24) rfl))) (mvT hZ (hw _ (List.mem_of_getElem? (i := 25) rfl))) (mvT hZ (hw _ (List.mem_of_getElem? (i := 26) rfl))) (mvT hZ (hw _ (List.mem_of_getElem? (i := 27) rfl))) (by decide) (backOf (W := 1) (rmLongOf l Z a0 hw [] v1 ca cca T28.heap n0 zl37 F36 P1 BX) hZ (hw _ (List.mem_of_getElem? (i := 27) rfl)) (hw _ (List.mem_of_getElem? (i := 26) rfl)) (by decide) (by decide)) (g := (mkF m 175 #[.val (.long v1), .second, .val (.long v2), .second, .val (.long v3), .second, .val (.long v4), .second, .val (.long dl), .second, .val (.int sl), .val (.ref b2), .val (.int (if (sl &&& (1 : Int32)) = (0 : Int32) then (0 : Int32) else (1 : Int32))), .val (.int (if (sl &&& (2 : Int32)) = (0 : Int32) then (0 : Int32) else (1 : Int32))), .val (.int (if (sl &&& (4 : Int32)) = (0 : Int32) then (0 : Int32) else (1 : Int32))), .val (.int (if (sl &&& (8 : Int32)) = (0 : Int32) then (0 : Int32) else (1 : Int32))), .val (.ref b16), .val (.int (((sl.toUInt32 >>> ((4 : Int32) &&& 31).toUInt32).toInt32) &&& (7 : Int32))), .unset] [(.long v1), (.ref b2)])) rfl (by rw [hml]; rfl) (argsL := [(.long v1)]) (rest := [(.ref b2)]) (lenOf pd__28J_29Ljava_2flang_2fLong_3b rfl) rfl (by show 2 * 0 + _ ≤ _; exact Nat.le_of_eq rfl) (hb hby at_175) (fun _ _ => ⟨rfl, rfl, (by decide : 2 + 1 ≤ _), (by decide : 8 + 1 ≤ _)⟩)
      dsimp only [Pt.U, Pt.locs, Pt.cells, Pt.slots] at X38 l38 y38 z38 st38 hQ38
      subst l38 y38 z38
      obtain ⟨b_38, rv_38, rfl, Nq38, Kp38, G38_0, G38_1⟩ := hQ38
      have N38 := Fr.app N28 Nq38
      refine own_go st38 ?_
      have le_38 : T28.heap.size ≤ T38.heap.size := Kp38.1
      have K38 : Keep h0 T38.heap [] := Keep.trans K28 Kp38 all0
      have lt_b_38 := (G38_0).lt
      show ∃ t o, Steps p.tables e below (T38.setTop (mkF m 178 #[.val (.long v1), .second, .val (.long v2), .second, .val (.long v3), .second, .val (.long v4), .second, .val (.long dl), .second, .val (.int sl), .val (.ref b2), .val (.int (if (sl &&& (1 : Int32)) = (0 : Int32) then (0 : Int32) else (1 : Int32))), .val (.int (if (sl &&& (2 : Int32)) = (0 : Int32) then (0 : Int32) else (1 : Int32))), .val (.int (if (sl &&& (4 : Int32)) = (0 : Int32) then (0 : Int32) else (1 : Int32))), .val (.int (if (sl &&& (8 : Int32)) = (0 : Int32) then (0 : Int32) else (1 : Int32))), .val (.ref b16), .val (.int (((sl.toUInt32 >>> ((4 : Int32) &&& 31).toUInt32).toInt32) &&& (7 : Int32))), .unset] [(.ref b_38), (.ref b2)])) t ∧ _
      have F39 : Exa Z T38.heap b2 "com/example/libtardy/libtardy/QueueCounts" := (Exa.keep (Exa.keep (Exa.ext E16 G6_0) Kp28) Kp38)
      have F40 : Old Z n0 T38.heap := (Old.keep F36 Kp38 all0)
      have zl41 : n0 ≤ T38.heap.size := by omega
      obtain ⟨cq42, kq42, q42a, q42b, q42c⟩ := isOf hZ rfl F39
      obtain ⟨_, _, ⟨T42, L42, k42, n42⟩, -, X42, ⟨Lc42, hQ42, l42, y42, z42⟩, st42⟩ := X38.virtualBack hx (y := (⟨"com/example/libtardy/libtardy/QueueCounts", "equals", "(Ljava/lang/Object;)Z"⟩ : MethodName)) (z := (⟨"com/example/libtardy/libtardy/QueueCounts", "equals", "(Ljava/lang/Object;)Z"⟩ : MethodName)) hown (mvT hZ (hw _ (List.mem_of_getElem? (i := 17) rfl))) (mvT hZ (hw _ (List.mem_of_getElem? (i := 18) rfl))) (notFace_of_selects (args := #[]) (mvT hZ (hw _ (List.mem_of_getElem? (i := 20) rfl)))) (mvT hZ (hw _ (List.mem_of_getElem? (i := 20) rfl))) (mvT hZ (hw _ (List.mem_of_getElem? (i := 19) rfl))) (by decide) (backOf (W := 0) (rmEqL l Z a0 hw [] b2 b_38 T38.heap n0 zl41 G38_0 F40) hZ (hw _ (List.mem_of_getElem? (i := 21) rfl)) (hw _ (List.mem_of_getElem? (i := 2) rfl)) (by decide) (by decide)) q42a q42c (g := (mkF m 178 #[.val (.long v1), .second, .val (.long v2), .second, .val (.long v3), .second, .val (.long v4), .second, .val (.long dl), .second, .val (.int sl), .val (.ref b2), .val (.int (if (sl &&& (1 : Int32)) = (0 : Int32) then (0 : Int32) else (1 : Int32))), .val (.int (if (sl &&& (2 : Int32)) = (0 : Int32) then (0 : Int32) else (1 : Int32))), .val (.int (if (sl &&& (4 : Int32)) = (0 : Int32) then (0 : Int32) else (1 : Int32))), .val (.int (if (sl &&& (8 : Int32)) = (0 : Int32) then (0 : Int32) else (1 : Int32))), .val (.ref b16), .val (.int (((sl.toUInt32 >>> ((4 : Int32) &&& 31).toUInt32).toInt32) &&& (7 : Int32))), .unset] [(.ref b_38), (.ref b2)])) rfl (by rw [hml]; rfl) (Steps.refl _) (argsL := [(.ref b_38)]) (rest := []) (lenOf pd__28Ljava_2flang_2fObject_3b_29Z rfl) rfl (by show 2 * 0 + _ ≤ _; exact Nat.le_of_eq rfl) (hb hby at_178) (fun _ _ => ⟨rfl, rfl, (by decide : 3 + 0 ≤ _), (by decide : 9 + 0 ≤ _)⟩)
      dsimp only [Pt.U, Pt.locs, Pt.cells, Pt.slots] at X42 l42 y42 z42 st42 hQ42
      subst l42 y42 z42
      obtain ⟨rfl, Nq42, e42⟩ := hQ42
      have N42 := Fr.app N38 Nq42
      refine own_goT st42 ?_
      show ∃ t o, Steps p.tables e below (T42.setTop (mkF m 181 #[.val (.long v1), .second, .val (.long v2), .second, .val (.long v3), .second, .val (.long v4), .second, .val (.long dl), .second, .val (.int sl), .val (.ref b2), .val (.int (if (sl &&& (1 : Int32)) = (0 : Int32) then (0 : Int32) else (1 : Int32))), .val (.int (if (sl &&& (2 : Int32)) = (0 : Int32) then (0 : Int32) else (1 : Int32))), .val (.int (if (sl &&& (4 : Int32)) = (0 : Int32) then (0 : Int32) else (1 : Int32))), .val (.int (if (sl &&& (8 : Int32)) = (0 : Int32) then (0 : Int32) else (1 : Int32))), .val (.ref b16), .val (.int (((sl.toUInt32 >>> ((4 : Int32) &&& 31).toUInt32).toInt32) &&& (7 : Int32))), .unset] [(.int (0 : Int32))])) t ∧ _
      refine own_go (fun _ => XS.ifNo X42.here hx rfl (hb hby at_181) rfl ((if0 _ _).trans (teq (by decide : (0 : Int32) = (0 : Int32))).2)) ?_
      show ∃ t o, Steps p.tables e below (T42.setTop (mkF m 184 #[.val (.long v1), .second, .val (.long v2), .second, .val (.long v3), .second, .val (.long v4), .second, .val (.long dl), .second, .val (.int sl), .val (.ref b2), .val (.int (if (sl &&& (1 : Int32)) = (0 : Int32) then (0 : Int32) else (1 : Int32))), .val (.int (if (sl &&& (2 : Int32)) = (0 : Int32) then (0 : Int32) else (1 : Int32))), .val (.int (if (sl &&& (4 : Int32)) = (0 : Int32) then (0 : Int32) else (1 : Int32))), .val (.int (if (sl &&& (8 : Int32)) = (0 : Int32) then (0 : Int32) else (1 : Int32))), .val (.ref b16), .val (.int (((sl.toUInt32 >>> ((4 : Int32) &&& 31).toUInt32).toInt32) &&& (7 : Int32))), .unset] [])) t ∧ _
      refine own_go (fun _ => XS.iconst X42.here hx rfl (hb hby at_184)) ?_
      show ∃ t o, Steps p.tables e below (T42.setTop (mkF m 185 #[.val (.long v1), .second, .val (.long v2), .second, .val (.long v3), .second, .val (.long v4), .second, .val (.long dl), .second, .val (.int sl), .val (.ref b2), .val (.int (if (sl &&& (1 : Int32)) = (0 : Int32) then (0 : Int32) else (1 : Int32))), .val (.int (if (sl &&& (2 : Int32)) = (0 : Int32) then (0 : Int32) else (1 : Int32))), .val (.int (if (sl &&& (4 : Int32)) = (0 : Int32) then (0 : Int32) else (1 : Int32))), .val (.int (if (sl &&& (8 : Int32)) = (0 : Int32) then (0 : Int32) else (1 : Int32))), .val (.ref b16), .val (.int (((sl.toUInt32 >>> ((4 : Int32) &&& 31).toUInt32).toInt32) &&& (7 : Int32))), .unset] [(.int (1 : Int32))])) t ∧ _
      refine own_go (fun _ => XS.goto X42.here hx rfl (pc0 := 185) (pc' := 189) rfl (hb hby at_185) (by decide) (by decide)) ?_
      show ∃ t o, Steps p.tables e below (T42.setTop (mkF m 189 #[.val (.long v1), .second, .val (.long v2), .second, .val (.long v3), .second, .val (.long v4), .second, .val (.long dl), .second, .val (.int sl), .val (.ref b2), .val (.int (if (sl &&& (1 : Int32)) = (0 : Int32) then (0 : Int32) else (1 : Int32))), .val (.int (if (sl &&& (2 : Int32)) = (0 : Int32) then (0 : Int32) else (1 : Int32))), .val (.int (if (sl &&& (4 : Int32)) = (0 : Int32) then (0 : Int32) else (1 : Int32))), .val (.int (if (sl &&& (8 : Int32)) = (0 : Int32) then (0 : Int32) else (1 : Int32))), .val (.ref b16), .val (.int (((sl.toUInt32 >>> ((4 : Int32) &&& 31).toUInt32).toInt32) &&& (7 : Int32))), .unset] [(.int (1 : Int32))])) t ∧ _
      obtain ⟨fs, hr, hrun, hended, hW, hsame⟩ := X42.leave (v := some (.int (1 : Int32))) (fun h => by rw [Bd.returns] at h; cases h)
      refine ⟨_, _, ?_, hrun, hended, _, _, rfl, ?_, ⟨_, rfl⟩, hW, hsame.mono (by decide) (by decide)⟩
      · exact retN X42 hx (t := .boolean) Bd.returns (by simp) (hb hby at_189) hr
      · show Q_rm0 Z v1 v2 v3 v4 dl sl ca cca h0 n0 _ T42.heap _
        rw [e42]
        exact ⟨rfl, N42, K38⟩
    · refine own_go (fun _ => XS.icmpYes X28.here hx rfl (pc0 := 169) (pc' := 190) rfl (hb hby at_169) rfl (feq hc35).2 (by decide) (by decide)) ?_
      show ∃ t o, Steps p.tables e below (T28.setTop (mkF m 190 #[.val (.long v1), .second, .val (.long v2), .second, .val (.long v3), .second, .val (.long v4), .second, .val (.long dl), .second, .val (.int sl), .val (.ref b2), .val (.int (if (sl &&& (1 : Int32)) = (0 : Int32) then (0 : Int32) else (1 : Int32))), .val (.int (if (sl &&& (2 : Int32)) = (0 : Int32) then (0 : Int32) else (1 : Int32))), .val (.int (if (sl &&& (4 : Int32)) = (0 : Int32) then (0 : Int32) else (1 : Int32))), .val (.int (if (sl &&& (8 : Int32)) = (0 : Int32) then (0 : Int32) else (1 : Int32))), .val (.ref b16), .val (.int (((sl.toUInt32 >>> ((4 : Int32) &&& 31).toUInt32).toInt32) &&& (7 : Int32))), .unset] [])) t ∧ _
      refine own_go (fun _ => XS.iload X28.here hx rfl (hb hby at_190) rfl) ?_
      show ∃ t o, Steps p.tables e below (T28.setTop (mkF m 192 #[.val (.long v1), .second, .val (.long v2), .second, .val (.long v3), .second, .val (.long v4), .second, .val (.long dl), .second, .val (.int sl), .val (.ref b2), .val (.int (if (sl &&& (1 : Int32)) = (0 : Int32) then (0 : Int32) else (1 : Int32))), .val (.int (if (sl &&& (2 : Int32)) = (0 : Int32) then (0 : Int32) else (1 : Int32))), .val (.int (if (sl &&& (4 : Int32)) = (0 : Int32) then (0 : Int32) else (1 : Int32))), .val (.int (if (sl &&& (8 : Int32)) = (0 : Int32) then (0 : Int32) else (1 : Int32))), .val (.ref b16), .val (.int (((sl.toUInt32 >>> ((4 : Int32) &&& 31).toUInt32).toInt32) &&& (7 : Int32))), .unset] [(.int (((sl.toUInt32 >>> ((4 : Int32) &&& 31).toUInt32).toInt32) &&& (7 : Int32)))])) t ∧ _
      refine own_go (fun _ => XS.iconst X28.here hx rfl (hb hby at_192)) ?_
      show ∃ t o, Steps p.tables e below (T28.setTop (mkF m 193 #[.val (.long v1), .second, .val (.long v2), .second, .val (.long v3), .second, .val (.long v4), .second, .val (.long dl), .second, .val (.int sl), .val (.ref b2), .val (.int (if (sl &&& (1 : Int32)) = (0 : Int32) then (0 : Int32) else (1 : Int32))), .val (.int (if (sl &&& (2 : Int32)) = (0 : Int32) then (0 : Int32) else (1 : Int32))), .val (.int (if (sl &&& (4 : Int32)) = (0 : Int32) then (0 : Int32) else (1 : Int32))), .val (.int (if (sl &&& (8 : Int32)) = (0 : Int32) then (0 : Int32) else (1 : Int32))), .val (.ref b16), .val (.int (((sl.toUInt32 >>> ((4 : Int32) &&& 31).toUInt32).toInt32) &&& (7 : Int32))), .unset] [(.int (2 : Int32)), (.int (((sl.toUInt32 >>> ((4 : Int32) &&& 31).toUInt32).toInt32) &&& (7 : Int32)))])) t ∧ _
      by_cases hc43 : (((sl.toUInt32 >>> ((4 : Int32) &&& 31).toUInt32).toInt32) &&& (7 : Int32)) = (2 : Int32)
      · refine own_go (fun _ => XS.icmpNo X28.here hx rfl (hb hby at_193) rfl (teq hc43).2) ?_
        show ∃ t o, Steps p.tables e below (T28.setTop (mkF m 196 #[.val (.long v1), .second, .val (.long v2), .second, .val (.long v3), .second, .val (.long v4), .second, .val (.long dl), .second, .val (.int sl), .val (.ref b2), .val (.int (if (sl &&& (1 : Int32)) = (0 : Int32) then (0 : Int32) else (1 : Int32))), .val (.int (if (sl &&& (2 : Int32)) = (0 : Int32) then (0 : Int32) else (1 : Int32))), .val (.int (if (sl &&& (4 : Int32)) = (0 : Int32) then (0 : Int32) else (1 : Int32))), .val (.int (if (sl &&& (8 : Int32)) = (0 : Int32) then (0 : Int32) else (1 : Int32))), .val (.ref b16), .val (.int (((sl.toUInt32 >>> ((4 : Int32) &&& 31).toUInt32).toInt32) &&& (7 : Int32))), .unset] [])) t ∧ _
        refine own_go (fun _ => XS.aload X28.here hx rfl (hb hby at_196) rfl rfl) ?_
        show ∃ t o, Steps p.tables e below (T28.setTop (mkF m 198 #[.val (.long v1), .second, .val (.long v2), .second, .val (.long v3), .second, .val (.long v4), .second, .val (.long dl), .second, .val (.int sl), .val (.ref b2), .val (.int (if (sl &&& (1 : Int32)) = (0 : Int32) then (0 : Int32) else (1 : Int32))), .val (.int (if (sl &&& (2 : Int32)) = (0 : Int32) then (0 : Int32) else (1 : Int32))), .val (.int (if (sl &&& (4 : Int32)) = (0 : Int32) then (0 : Int32) else (1 : Int32))), .val (.int (if (sl &&& (8 : Int32)) = (0 : Int32) then (0 : Int32) else (1 : Int32))), .val (.ref b16), .val (.int (((sl.toUInt32 >>> ((4 : Int32) &&& 31).toUInt32).toInt32) &&& (7 : Int32))), .unset] [(.ref b2)])) t ∧ _
        refine own_go (fun _ => XS.aload X28.here hx rfl (hb hby at_198) rfl rfl) ?_
        show ∃ t o, Steps p.tables e below (T28.setTop (mkF m 200 #[.val (.long v1), .second, .val (.long v2), .second, .val (.long v3), .second, .val (.long v4), .second, .val (.long dl), .second, .val (.int sl), .val (.ref b2), .val (.int (if (sl &&& (1 : Int32)) = (0 : Int32) then (0 : Int32) else (1 : Int32))), .val (.int (if (sl &&& (2 : Int32)) = (0 : Int32) then (0 : Int32) else (1 : Int32))), .val (.int (if (sl &&& (4 : Int32)) = (0 : Int32) then (0 : Int32) else (1 : Int32))), .val (.int (if (sl &&& (8 : Int32)) = (0 : Int32) then (0 : Int32) else (1 : Int32))), .val (.ref b16), .val (.int (((sl.toUInt32 >>> ((4 : Int32) &&& 31).toUInt32).toInt32) &&& (7 : Int32))), .unset] [(.ref b2), (.ref b2)])) t ∧ _
        have F44 : Exa Z T28.heap b2 "com/example/libtardy/libtardy/QueueCounts" := (Exa.keep (Exa.ext E16 G6_0) Kp28)
        have ne45 : b2 ≠ b16 := by omega
        have F46 : Fld Z T28.heap b2 "com/example/libtardy/libtardy/QueueCounts" "waiting" "J" (.long v1) := (Fld.keep (Fld.ext E16 G6_1) Kp28 (ninS ne45 nin0))
        have F47 : Fld Z T28.heap b2 "com/example/libtardy/libtardy/QueueCounts" "due" "J" (.long v2) := (Fld.keep (Fld.ext E16 G6_2) Kp28 (ninS ne45 nin0))
        have F48 : Fld Z T28.heap b2 "com/example/libtardy/libtardy/QueueCounts" "inFlight" "J" (.long v3) := (Fld.keep (Fld.ext E16 G6_3) Kp28 (ninS ne45 nin0))
        have F49 : Fld Z T28.heap b2 "com/example/libtardy/libtardy/QueueCounts" "dead" "J" (.long v4) := (Fld.keep (Fld.ext E16 G6_4) Kp28 (ninS ne45 nin0))
        have F50 : Old Z n0 T28.heap := (Old.keep F25 Kp28 (allS ge26 all0))
        have zl51 : n0 ≤ T28.heap.size := by omega
        obtain ⟨cq52, kq52, q52a, q52b, q52c⟩ := isOf hZ rfl F44
        obtain ⟨_, _, ⟨T52, L52, k52, n52⟩, -, X52, ⟨Lc52, hQ52, l52, y52, z52⟩, st52⟩ := X28.virtualBack hx (y := (⟨"com/example/libtardy/libtardy/QueueCounts", "equals", "(Ljava/lang/Object;)Z"⟩ : MethodName)) (z := (⟨"com/example/libtardy/libtardy/QueueCounts", "equals", "(Ljava/lang/Object;)Z"⟩ : MethodName)) hown (mvT hZ (hw _ (List.mem_of_getElem? (i := 17) rfl))) (mvT hZ (hw _ (List.mem_of_getElem? (i := 18) rfl))) (notFace_of_selects (args := #[]) (mvT hZ (hw _ (List.mem_of_getElem? (i := 20) rfl)))) (mvT hZ (hw _ (List.mem_of_getElem? (i := 20) rfl))) (mvT hZ (hw _ (List.mem_of_getElem? (i := 19) rfl))) (by decide) (backOf (W := 0) (rmEqS l Z a0 hw [] b2 b2 v1 v2 v3 v4 v1 v2 v3 v4 T28.heap n0 zl51 F46 F47 F48 F49 F46 F47 F48 F49 (Ins.self F44) F50) hZ (hw _ (List.mem_of_getElem? (i := 21) rfl)) (hw _ (List.mem_of_getElem? (i := 2) rfl)) (by decide) (by decide)) q52a q52c (g := (mkF m 200 #[.val (.long v1), .second, .val (.long v2), .second, .val (.long v3), .second, .val (.long v4), .second, .val (.long dl), .second, .val (.int sl), .val (.ref b2), .val (.int (if (sl &&& (1 : Int32)) = (0 : Int32) then (0 : Int32) else (1 : Int32))), .val (.int (if (sl &&& (2 : Int32)) = (0 : Int32) then (0 : Int32) else (1 : Int32))), .val (.int (if (sl &&& (4 : Int32)) = (0 : Int32) then (0 : Int32) else (1 : Int32))), .val (.int (if (sl &&& (8 : Int32)) = (0 : Int32) then (0 : Int32) else (1 : Int32))), .val (.ref b16), .val (.int (((sl.toUInt32 >>> ((4 : Int32) &&& 31).toUInt32).toInt32) &&& (7 : Int32))), .unset] [(.ref b2), (.ref b2)])) rfl (by rw [hml]; rfl) (Steps.refl _) (argsL := [(.ref b2)]) (rest := []) (lenOf pd__28Ljava_2flang_2fObject_3b_29Z rfl) rfl (by show 2 * 0 + _ ≤ _; exact Nat.le_of_eq rfl) (hb hby at_200) (fun _ _ => ⟨rfl, rfl, (by decide : 2 + 0 ≤ _), (by decide : 8 + 0 ≤ _)⟩)
        dsimp only [Pt.U, Pt.locs, Pt.cells, Pt.slots] at X52 l52 y52 z52 st52 hQ52
        subst l52 y52 z52
        obtain ⟨rfl, Nq52, e52⟩ := hQ52
        have N52 := Fr.app N28 Nq52
        refine own_goT st52 ?_
        show ∃ t o, Steps p.tables e below (T52.setTop (mkF m 203 #[.val (.long v1), .second, .val (.long v2), .second, .val (.long v3), .second, .val (.long v4), .second, .val (.long dl), .second, .val (.int sl), .val (.ref b2), .val (.int (if (sl &&& (1 : Int32)) = (0 : Int32) then (0 : Int32) else (1 : Int32))), .val (.int (if (sl &&& (2 : Int32)) = (0 : Int32) then (0 : Int32) else (1 : Int32))), .val (.int (if (sl &&& (4 : Int32)) = (0 : Int32) then (0 : Int32) else (1 : Int32))), .val (.int (if (sl &&& (8 : Int32)) = (0 : Int32) then (0 : Int32) else (1 : Int32))), .val (.ref b16), .val (.int (((sl.toUInt32 >>> ((4 : Int32) &&& 31).toUInt32).toInt32) &&& (7 : Int32))), .unset] [(.int (if v1 = v1 ∧ v2 = v2 ∧ v3 = v3 ∧ v4 = v4 then (1 : Int32) else (0 : Int32)))])) t ∧ _
        obtain ⟨fs, hr, hrun, hended, hW, hsame⟩ := X52.leave (v := some (.int (nar .boolean (if v1 = v1 ∧ v2 = v2 ∧ v3 = v3 ∧ v4 = v4 then (1 : Int32) else (0 : Int32))))) (fun h => by rw [Bd.returns] at h; cases h)
        refine ⟨_, _, ?_, hrun, hended, _, _, rfl, ?_, ⟨_, rfl⟩, hW, hsame.mono (by decide) (by decide)⟩
        · exact retN X52 hx (t := .boolean) Bd.returns (by simp) (hb hby at_203) hr
        · show Q_rm0 Z v1 v2 v3 v4 dl sl ca cca h0 n0 _ T52.heap _
          rw [e52]
          exact ⟨(by rw [if_pos ⟨rfl, rfl, rfl, rfl⟩]; rfl), N52, K28⟩
      · refine own_go (fun _ => XS.icmpYes X28.here hx rfl (pc0 := 193) (pc' := 204) rfl (hb hby at_193) rfl (feq hc43).2 (by decide) (by decide)) ?_
        show ∃ t o, Steps p.tables e below (T28.setTop (mkF m 204 #[.val (.long v1), .second, .val (.long v2), .second, .val (.long v3), .second, .val (.long v4), .second, .val (.long dl), .second, .val (.int sl), .val (.ref b2), .val (.int (if (sl &&& (1 : Int32)) = (0 : Int32) then (0 : Int32) else (1 : Int32))), .val (.int (if (sl &&& (2 : Int32)) = (0 : Int32) then (0 : Int32) else (1 : Int32))), .val (.int (if (sl &&& (4 : Int32)) = (0 : Int32) then (0 : Int32) else (1 : Int32))), .val (.int (if (sl &&& (8 : Int32)) = (0 : Int32) then (0 : Int32) else (1 : Int32))), .val (.ref b16), .val (.int (((sl.toUInt32 >>> ((4 : Int32) &&& 31).toUInt32).toInt32) &&& (7 : Int32))), .unset] [])) t ∧ _
        refine own_go (fun _ => XS.iload X28.here hx rfl (hb hby at_204) rfl) ?_
        show ∃ t o, Steps p.tables e below (T28.setTop (mkF m 206 #[.val (.long v1), .second, .val (.long v2), .second, .val (.long v3), .second, .val (.long v4), .second, .val (.long dl), .second, .val (.int sl), .val (.ref b2), .val (.int (if (sl &&& (1 : Int32)) = (0 : Int32) then (0 : Int32) else (1 : Int32))), .val (.int (if (sl &&& (2 : Int32)) = (0 : Int32) then (0 : Int32) else (1 : Int32))), .val (.int (if (sl &&& (4 : Int32)) = (0 : Int32) then (0 : Int32) else (1 : Int32))), .val (.int (if (sl &&& (8 : Int32)) = (0 : Int32) then (0 : Int32) else (1 : Int32))), .val (.ref b16), .val (.int (((sl.toUInt32 >>> ((4 : Int32) &&& 31).toUInt32).toInt32) &&& (7 : Int32))), .unset] [(.int sl)])) t ∧ _
        refine own_go (fun _ => XS.bipush X28.here hx rfl (hb hby at_206)) ?_
        show ∃ t o, Steps p.tables e below (T28.setTop (mkF m 208 #[.val (.long v1), .second, .val (.long v2), .second, .val (.long v3), .second, .val (.long v4), .second, .val (.long dl), .second, .val (.int sl), .val (.ref b2), .val (.int (if (sl &&& (1 : Int32)) = (0 : Int32) then (0 : Int32) else (1 : Int32))), .val (.int (if (sl &&& (2 : Int32)) = (0 : Int32) then (0 : Int32) else (1 : Int32))), .val (.int (if (sl &&& (4 : Int32)) = (0 : Int32) then (0 : Int32) else (1 : Int32))), .val (.int (if (sl &&& (8 : Int32)) = (0 : Int32) then (0 : Int32) else (1 : Int32))), .val (.ref b16), .val (.int (((sl.toUInt32 >>> ((4 : Int32) &&& 31).toUInt32).toInt32) &&& (7 : Int32))), .unset] [(.int (15 : Int32)), (.int sl)])) t ∧ _
        refine own_go (fun _ => XS.iand X28.here hx rfl (hb hby at_208) rfl) ?_
        show ∃ t o, Steps p.tables e below (T28.setTop (mkF m 209 #[.val (.long v1), .second, .val (.long v2), .second, .val (.long v3), .second, .val (.long v4), .second, .val (.long dl), .second, .val (.int sl), .val (.ref b2), .val (.int (if (sl &&& (1 : Int32)) = (0 : Int32) then (0 : Int32) else (1 : Int32))), .val (.int (if (sl &&& (2 : Int32)) = (0 : Int32) then (0 : Int32) else (1 : Int32))), .val (.int (if (sl &&& (4 : Int32)) = (0 : Int32) then (0 : Int32) else (1 : Int32))), .val (.int (if (sl &&& (8 : Int32)) = (0 : Int32) then (0 : Int32) else (1 : Int32))), .val (.ref b16), .val (.int (((sl.toUInt32 >>> ((4 : Int32) &&& 31).toUInt32).toInt32) &&& (7 : Int32))), .unset] [(.int (sl &&& (15 : Int32)))])) t ∧ _
        have seg53 : ∀ t, Steps p.tables e below (T28.setTop (mkF m 224 #[.val (.long v1), .second, .val (.long v2), .second, .val (.long v3), .second, .val (.long v4), .second, .val (.long dl), .second, .val (.int sl), .val (.ref b2), .val (.int (if (sl &&& (1 : Int32)) = (0 : Int32) then (0 : Int32) else (1 : Int32))), .val (.int (if (sl &&& (2 : Int32)) = (0 : Int32) then (0 : Int32) else (1 : Int32))), .val (.int (if (sl &&& (4 : Int32)) = (0 : Int32) then (0 : Int32) else (1 : Int32))), .val (.int (if (sl &&& (8 : Int32)) = (0 : Int32) then (0 : Int32) else (1 : Int32))), .val (.ref b16), .val (.int (((sl.toUInt32 >>> ((4 : Int32) &&& 31).toUInt32).toInt32) &&& (7 : Int32))), .unset] [(.int (if (sl &&& (15 : Int32)) = (0 : Int32) then (1 : Int32) else (if dl = (0 : Int64) then (1 : Int32) else (0 : Int32))))])) t → Steps p.tables e below (T28.setTop (mkF m 209 #[.val (.long v1), .second, .val (.long v2), .second, .val (.long v3), .second, .val (.long v4), .second, .val (.long dl), .second, .val (.int sl), .val (.ref b2), .val (.int (if (sl &&& (1 : Int32)) = (0 : Int32) then (0 : Int32) else (1 : Int32))), .val (.int (if (sl &&& (2 : Int32)) = (0 : Int32) then (0 : Int32) else (1 : Int32))), .val (.int (if (sl &&& (4 : Int32)) = (0 : Int32) then (0 : Int32) else (1 : Int32))), .val (.int (if (sl &&& (8 : Int32)) = (0 : Int32) then (0 : Int32) else (1 : Int32))), .val (.ref b16), .val (.int (((sl.toUInt32 >>> ((4 : Int32) &&& 31).toUInt32).toInt32) &&& (7 : Int32))), .unset] [(.int (sl &&& (15 : Int32)))])) t := by
          intro t k
          show Steps p.tables e below (T28.setTop (mkF m 209 #[.val (.long v1), .second, .val (.long v2), .second, .val (.long v3), .second, .val (.long v4), .second, .val (.long dl), .second, .val (.int sl), .val (.ref b2), .val (.int (if (sl &&& (1 : Int32)) = (0 : Int32) then (0 : Int32) else (1 : Int32))), .val (.int (if (sl &&& (2 : Int32)) = (0 : Int32) then (0 : Int32) else (1 : Int32))), .val (.int (if (sl &&& (4 : Int32)) = (0 : Int32) then (0 : Int32) else (1 : Int32))), .val (.int (if (sl &&& (8 : Int32)) = (0 : Int32) then (0 : Int32) else (1 : Int32))), .val (.ref b16), .val (.int (((sl.toUInt32 >>> ((4 : Int32) &&& 31).toUInt32).toInt32) &&& (7 : Int32))), .unset] [(.int (sl &&& (15 : Int32)))])) _
          by_cases hc54 : (sl &&& (15 : Int32)) = (0 : Int32)
          · refine XS.ifYes X28.here hx rfl (pc0 := 209) (pc' := 219) rfl (hb hby at_209) rfl ((if0 _ _).trans (teq hc54).1) (by decide) (by decide) ?_
            show Steps p.tables e below (T28.setTop (mkF m 219 #[.val (.long v1), .second, .val (.long v2), .second, .val (.long v3), .second, .val (.long v4), .second, .val (.long dl), .second, .val (.int sl), .val (.ref b2), .val (.int (if (sl &&& (1 : Int32)) = (0 : Int32) then (0 : Int32) else (1 : Int32))), .val (.int (if (sl &&& (2 : Int32)) = (0 : Int32) then (0 : Int32) else (1 : Int32))), .val (.int (if (sl &&& (4 : Int32)) = (0 : Int32) then (0 : Int32) else (1 : Int32))), .val (.int (if (sl &&& (8 : Int32)) = (0 : Int32) then (0 : Int32) else (1 : Int32))), .val (.ref b16), .val (.int (((sl.toUInt32 >>> ((4 : Int32) &&& 31).toUInt32).toInt32) &&& (7 : Int32))), .unset] [])) _
            refine XS.iconst X28.here hx rfl (hb hby at_219) ?_
            show Steps p.tables e below (T28.setTop (mkF m 220 #[.val (.long v1), .second, .val (.long v2), .second, .val (.long v3), .second, .val (.long v4), .second, .val (.long dl), .second, .val (.int sl), .val (.ref b2), .val (.int (if (sl &&& (1 : Int32)) = (0 : Int32) then (0 : Int32) else (1 : Int32))), .val (.int (if (sl &&& (2 : Int32)) = (0 : Int32) then (0 : Int32) else (1 : Int32))), .val (.int (if (sl &&& (4 : Int32)) = (0 : Int32) then (0 : Int32) else (1 : Int32))), .val (.int (if (sl &&& (8 : Int32)) = (0 : Int32) then (0 : Int32) else (1 : Int32))), .val (.ref b16), .val (.int (((sl.toUInt32 >>> ((4 : Int32) &&& 31).toUInt32).toInt32) &&& (7 : Int32))), .unset] [(.int (1 : Int32))])) _
            refine XS.goto X28.here hx rfl (pc0 := 220) (pc' := 224) rfl (hb hby at_220) (by decide) (by decide) ?_
            simp only [if_pos hc54] at k
            exact k
          · refine XS.ifNo X28.here hx rfl (hb hby at_209) rfl ((if0 _ _).trans (feq hc54).1) ?_
            show Steps p.tables e below (T28.setTop (mkF m 212 #[.val (.long v1), .second, .val (.long v2), .second, .val (.long v3), .second, .val (.long v4), .second, .val (.long dl), .second, .val (.int sl), .val (.ref b2), .val (.int (if (sl &&& (1 : Int32)) = (0 : Int32) then (0 : Int32) else (1 : Int32))), .val (.int (if (sl &&& (2 : Int32)) = (0 : Int32) then (0 : Int32) else (1 : Int32))), .val (.int (if (sl &&& (4 : Int32)) = (0 : Int32) then (0 : Int32) else (1 : Int32))), .val (.int (if (sl &&& (8 : Int32)) = (0 : Int32) then (0 : Int32) else (1 : Int32))), .val (.ref b16), .val (.int (((sl.toUInt32 >>> ((4 : Int32) &&& 31).toUInt32).toInt32) &&& (7 : Int32))), .unset] [])) _
            refine XS.lload X28.here hx rfl (hb hby at_212) rfl ?_
            show Steps p.tables e below (T28.setTop (mkF m 214 #[.val (.long v1), .second, .val (.long v2), .second, .val (.long v3), .second, .val (.long v4), .second, .val (.long dl), .second, .val (.int sl), .val (.ref b2), .val (.int (if (sl &&& (1 : Int32)) = (0 : Int32) then (0 : Int32) else (1 : Int32))), .val (.int (if (sl &&& (2 : Int32)) = (0 : Int32) then (0 : Int32) else (1 : Int32))), .val (.int (if (sl &&& (4 : Int32)) = (0 : Int32) then (0 : Int32) else (1 : Int32))), .val (.int (if (sl &&& (8 : Int32)) = (0 : Int32) then (0 : Int32) else (1 : Int32))), .val (.ref b16), .val (.int (((sl.toUInt32 >>> ((4 : Int32) &&& 31).toUInt32).toInt32) &&& (7 : Int32))), .unset] [(.long dl)])) _
            refine XS.lconst X28.here hx rfl (hb hby at_214) ?_
            show Steps p.tables e below (T28.setTop (mkF m 215 #[.val (.long v1), .second, .val (.long v2), .second, .val (.long v3), .second, .val (.long v4), .second, .val (.long dl), .second, .val (.int sl), .val (.ref b2), .val (.int (if (sl &&& (1 : Int32)) = (0 : Int32) then (0 : Int32) else (1 : Int32))), .val (.int (if (sl &&& (2 : Int32)) = (0 : Int32) then (0 : Int32) else (1 : Int32))), .val (.int (if (sl &&& (4 : Int32)) = (0 : Int32) then (0 : Int32) else (1 : Int32))), .val (.int (if (sl &&& (8 : Int32)) = (0 : Int32) then (0 : Int32) else (1 : Int32))), .val (.ref b16), .val (.int (((sl.toUInt32 >>> ((4 : Int32) &&& 31).toUInt32).toInt32) &&& (7 : Int32))), .unset] [(.long (0 : Int64)), (.long dl)])) _
            refine XS.lcmp X28.here hx rfl (hb hby at_215) rfl ?_
            show Steps p.tables e below (T28.setTop (mkF m 216 #[.val (.long v1), .second, .val (.long v2), .second, .val (.long v3), .second, .val (.long v4), .second, .val (.long dl), .second, .val (.int sl), .val (.ref b2), .val (.int (if (sl &&& (1 : Int32)) = (0 : Int32) then (0 : Int32) else (1 : Int32))), .val (.int (if (sl &&& (2 : Int32)) = (0 : Int32) then (0 : Int32) else (1 : Int32))), .val (.int (if (sl &&& (4 : Int32)) = (0 : Int32) then (0 : Int32) else (1 : Int32))), .val (.int (if (sl &&& (8 : Int32)) = (0 : Int32) then (0 : Int32) else (1 : Int32))), .val (.ref b16), .val (.int (((sl.toUInt32 >>> ((4 : Int32) &&& 31).toUInt32).toInt32) &&& (7 : Int32))), .unset] [(.int (lcmpW dl (0 : Int64)))])) _
            by_cases hc55 : dl = (0 : Int64)
            · refine XS.ifNo X28.here hx rfl (hb hby at_216) rfl ((if0 _ _).trans (teq ((lw_eq _ _).mpr hc55)).2) ?_
              show Steps p.tables e below (T28.setTop (mkF m 219 #[.val (.long v1), .second, .val (.long v2), .second, .val (.long v3), .second, .val (.long v4), .second, .val (.long dl), .second, .val (.int sl), .val (.ref b2), .val (.int (if (sl &&& (1 : Int32)) = (0 : Int32) then (0 : Int32) else (1 : Int32))), .val (.int (if (sl &&& (2 : Int32)) = (0 : Int32) then (0 : Int32) else (1 : Int32))), .val (.int (if (sl &&& (4 : Int32)) = (0 : Int32) then (0 : Int32) else (1 : Int32))), .val (.int (if (sl &&& (8 : Int32)) = (0 : Int32) then (0 : Int32) else (1 : Int32))), .val (.ref b16), .val (.int (((sl.toUInt32 >>> ((4 : Int32) &&& 31).toUInt32).toInt32) &&& (7 : Int32))), .unset] [])) _
              refine XS.iconst X28.here hx rfl (hb hby at_219) ?_
              show Steps p.tables e below (T28.setTop (mkF m 220 #[.val (.long v1), .second, .val (.long v2), .second, .val (.long v3), .second, .val (.long v4), .second, .val (.long dl), .second, .val (.int sl), .val (.ref b2), .val (.int (if (sl &&& (1 : Int32)) = (0 : Int32) then (0 : Int32) else (1 : Int32))), .val (.int (if (sl &&& (2 : Int32)) = (0 : Int32) then (0 : Int32) else (1 : Int32))), .val (.int (if (sl &&& (4 : Int32)) = (0 : Int32) then (0 : Int32) else (1 : Int32))), .val (.int (if (sl &&& (8 : Int32)) = (0 : Int32) then (0 : Int32) else (1 : Int32))), .val (.ref b16), .val (.int (((sl.toUInt32 >>> ((4 : Int32) &&& 31).toUInt32).toInt32) &&& (7 : Int32))), .unset] [(.int (1 : Int32))])) _
              refine XS.goto X28.here hx rfl (pc0 := 220) (pc' := 224) rfl (hb hby at_220) (by decide) (by decide) ?_
              simp only [if_neg hc54, if_pos hc55] at k
              exact k
            · refine XS.ifYes X28.here hx rfl (pc0 := 216) (pc' := 223) rfl (hb hby at_216) rfl ((if0 _ _).trans (feq (mt (lw_eq _ _).mp hc55)).2) (by decide) (by decide) ?_
              show Steps p.tables e below (T28.setTop (mkF m 223 #[.val (.long v1), .second, .val (.long v2), .second, .val (.long v3), .second, .val (.long v4), .second, .val (.long dl), .second, .val (.int sl), .val (.ref b2), .val (.int (if (sl &&& (1 : Int32)) = (0 : Int32) then (0 : Int32) else (1 : Int32))), .val (.int (if (sl &&& (2 : Int32)) = (0 : Int32) then (0 : Int32) else (1 : Int32))), .val (.int (if (sl &&& (4 : Int32)) = (0 : Int32) then (0 : Int32) else (1 : Int32))), .val (.int (if (sl &&& (8 : Int32)) = (0 : Int32) then (0 : Int32) else (1 : Int32))), .val (.ref b16), .val (.int (((sl.toUInt32 >>> ((4 : Int32) &&& 31).toUInt32).toInt32) &&& (7 : Int32))), .unset] [])) _
              refine XS.iconst X28.here hx rfl (hb hby at_223) ?_
              simp only [if_neg hc54, if_neg hc55] at k
              exact k
        refine own_go seg53 ?_
        show ∃ t o, Steps p.tables e below (T28.setTop (mkF m 224 #[.val (.long v1), .second, .val (.long v2), .second, .val (.long v3), .second, .val (.long v4), .second, .val (.long dl), .second, .val (.int sl), .val (.ref b2), .val (.int (if (sl &&& (1 : Int32)) = (0 : Int32) then (0 : Int32) else (1 : Int32))), .val (.int (if (sl &&& (2 : Int32)) = (0 : Int32) then (0 : Int32) else (1 : Int32))), .val (.int (if (sl &&& (4 : Int32)) = (0 : Int32) then (0 : Int32) else (1 : Int32))), .val (.int (if (sl &&& (8 : Int32)) = (0 : Int32) then (0 : Int32) else (1 : Int32))), .val (.ref b16), .val (.int (((sl.toUInt32 >>> ((4 : Int32) &&& 31).toUInt32).toInt32) &&& (7 : Int32))), .unset] [(.int (if (sl &&& (15 : Int32)) = (0 : Int32) then (1 : Int32) else (if dl = (0 : Int64) then (1 : Int32) else (0 : Int32))))])) t ∧ _
        refine own_go (fun _ => XS.istore X28.here hx rfl (hb hby at_224) rfl (l' := #[.val (.long v1), .second, .val (.long v2), .second, .val (.long v3), .second, .val (.long v4), .second, .val (.long dl), .second, .val (.int sl), .val (.ref b2), .val (.int (if (sl &&& (1 : Int32)) = (0 : Int32) then (0 : Int32) else (1 : Int32))), .val (.int (if (sl &&& (2 : Int32)) = (0 : Int32) then (0 : Int32) else (1 : Int32))), .val (.int (if (sl &&& (4 : Int32)) = (0 : Int32) then (0 : Int32) else (1 : Int32))), .val (.int (if (sl &&& (8 : Int32)) = (0 : Int32) then (0 : Int32) else (1 : Int32))), .val (.ref b16), .val (.int (((sl.toUInt32 >>> ((4 : Int32) &&& 31).toUInt32).toInt32) &&& (7 : Int32))), .val (.int (if (sl &&& (15 : Int32)) = (0 : Int32) then (1 : Int32) else (if dl = (0 : Int64) then (1 : Int32) else (0 : Int32))))]) rfl) ?_
        show ∃ t o, Steps p.tables e below (T28.setTop (mkF m 226 #[.val (.long v1), .second, .val (.long v2), .second, .val (.long v3), .second, .val (.long v4), .second, .val (.long dl), .second, .val (.int sl), .val (.ref b2), .val (.int (if (sl &&& (1 : Int32)) = (0 : Int32) then (0 : Int32) else (1 : Int32))), .val (.int (if (sl &&& (2 : Int32)) = (0 : Int32) then (0 : Int32) else (1 : Int32))), .val (.int (if (sl &&& (4 : Int32)) = (0 : Int32) then (0 : Int32) else (1 : Int32))), .val (.int (if (sl &&& (8 : Int32)) = (0 : Int32) then (0 : Int32) else (1 : Int32))), .val (.ref b16), .val (.int (((sl.toUInt32 >>> ((4 : Int32) &&& 31).toUInt32).toInt32) &&& (7 : Int32))), .val (.int (if (sl &&& (15 : Int32)) = (0 : Int32) then (1 : Int32) else (if dl = (0 : Int64) then (1 : Int32) else (0 : Int32))))] [])) t ∧ _
        refine own_go (fun _ => XS.aload X28.here hx rfl (hb hby at_226) rfl rfl) ?_
        show ∃ t o, Steps p.tables e below (T28.setTop (mkF m 228 #[.val (.long v1), .second, .val (.long v2), .second, .val (.long v3), .second, .val (.long v4), .second, .val (.long dl), .second, .val (.int sl), .val (.ref b2), .val (.int (if (sl &&& (1 : Int32)) = (0 : Int32) then (0 : Int32) else (1 : Int32))), .val (.int (if (sl &&& (2 : Int32)) = (0 : Int32) then (0 : Int32) else (1 : Int32))), .val (.int (if (sl &&& (4 : Int32)) = (0 : Int32) then (0 : Int32) else (1 : Int32))), .val (.int (if (sl &&& (8 : Int32)) = (0 : Int32) then (0 : Int32) else (1 : Int32))), .val (.ref b16), .val (.int (((sl.toUInt32 >>> ((4 : Int32) &&& 31).toUInt32).toInt32) &&& (7 : Int32))), .val (.int (if (sl &&& (15 : Int32)) = (0 : Int32) then (1 : Int32) else (if dl = (0 : Int64) then (1 : Int32) else (0 : Int32))))] [(.ref b2)])) t ∧ _
        refine own_go (fun _ => XS.aload X28.here hx rfl (hb hby at_228) rfl rfl) ?_
        show ∃ t o, Steps p.tables e below (T28.setTop (mkF m 230 #[.val (.long v1), .second, .val (.long v2), .second, .val (.long v3), .second, .val (.long v4), .second, .val (.long dl), .second, .val (.int sl), .val (.ref b2), .val (.int (if (sl &&& (1 : Int32)) = (0 : Int32) then (0 : Int32) else (1 : Int32))), .val (.int (if (sl &&& (2 : Int32)) = (0 : Int32) then (0 : Int32) else (1 : Int32))), .val (.int (if (sl &&& (4 : Int32)) = (0 : Int32) then (0 : Int32) else (1 : Int32))), .val (.int (if (sl &&& (8 : Int32)) = (0 : Int32) then (0 : Int32) else (1 : Int32))), .val (.ref b16), .val (.int (((sl.toUInt32 >>> ((4 : Int32) &&& 31).toUInt32).toInt32) &&& (7 : Int32))), .val (.int (if (sl &&& (15 : Int32)) = (0 : Int32) then (1 : Int32) else (if dl = (0 : Int64) then (1 : Int32) else (0 : Int32))))] [(.ref b16), (.ref b2)])) t ∧ _
        have F56 : Exa Z T28.heap b2 "com/example/libtardy/libtardy/QueueCounts" := (Exa.keep (Exa.ext E16 G6_0) Kp28)
        have ne57 : b2 ≠ b16 := by omega
        have F58 : Fld Z T28.heap b2 "com/example/libtardy/libtardy/QueueCounts" "waiting" "J" (.long v1) := (Fld.keep (Fld.ext E16 G6_1) Kp28 (ninS ne57 nin0))
        have F59 : Fld Z T28.heap b2 "com/example/libtardy/libtardy/QueueCounts" "due" "J" (.long v2) := (Fld.keep (Fld.ext E16 G6_2) Kp28 (ninS ne57 nin0))
        have F60 : Fld Z T28.heap b2 "com/example/libtardy/libtardy/QueueCounts" "inFlight" "J" (.long v3) := (Fld.keep (Fld.ext E16 G6_3) Kp28 (ninS ne57 nin0))
        have F61 : Fld Z T28.heap b2 "com/example/libtardy/libtardy/QueueCounts" "dead" "J" (.long v4) := (Fld.keep (Fld.ext E16 G6_4) Kp28 (ninS ne57 nin0))
        have F62 : Old Z n0 T28.heap := (Old.keep F25 Kp28 (allS ge26 all0))
        have zl63 : n0 ≤ T28.heap.size := by omega
        obtain ⟨cq64, kq64, q64a, q64b, q64c⟩ := isOf hZ rfl F56
        obtain ⟨_, _, ⟨T64, L64, k64, n64⟩, -, X64, ⟨Lc64, hQ64, l64, y64, z64⟩, st64⟩ := X28.virtualBack hx (y := (⟨"com/example/libtardy/libtardy/QueueCounts", "equals", "(Ljava/lang/Object;)Z"⟩ : MethodName)) (z := (⟨"com/example/libtardy/libtardy/QueueCounts", "equals", "(Ljava/lang/Object;)Z"⟩ : MethodName)) hown (mvT hZ (hw _ (List.mem_of_getElem? (i := 17) rfl))) (mvT hZ (hw _ (List.mem_of_getElem? (i := 18) rfl))) (notFace_of_selects (args := #[]) (mvT hZ (hw _ (List.mem_of_getElem? (i := 20) rfl)))) (mvT hZ (hw _ (List.mem_of_getElem? (i := 20) rfl))) (mvT hZ (hw _ (List.mem_of_getElem? (i := 19) rfl))) (by decide) (backOf (W := 0) (rmEqS l Z a0 hw [] b2 b16 v1 v2 v3 v4 ((if (if (sl &&& (1 : Int32)) = (0 : Int32) then (0 : Int32) else (1 : Int32)) = (0 : Int32) then v1 else (v1 + dl))) ((if (if (sl &&& (2 : Int32)) = (0 : Int32) then (0 : Int32) else (1 : Int32)) = (0 : Int32) then v2 else (v2 + dl))) ((if (if (sl &&& (4 : Int32)) = (0 : Int32) then (0 : Int32) else (1 : Int32)) = (0 : Int32) then v3 else (v3 + dl))) ((if (if (sl &&& (8 : Int32)) = (0 : Int32) then (0 : Int32) else (1 : Int32)) = (0 : Int32) then v4 else (v4 + dl))) T28.heap n0 zl63 F58 F59 F60 F61 G28_1 G28_2 G28_3 G28_4 (Ins.self G28_0) F62) hZ (hw _ (List.mem_of_getElem? (i := 21) rfl)) (hw _ (List.mem_of_getElem? (i := 2) rfl)) (by decide) (by decide)) q64a q64c (g := (mkF m 230 #[.val (.long v1), .second, .val (.long v2), .second, .val (.long v3), .second, .val (.long v4), .second, .val (.long dl), .second, .val (.int sl), .val (.ref b2), .val (.int (if (sl &&& (1 : Int32)) = (0 : Int32) then (0 : Int32) else (1 : Int32))), .val (.int (if (sl &&& (2 : Int32)) = (0 : Int32) then (0 : Int32) else (1 : Int32))), .val (.int (if (sl &&& (4 : Int32)) = (0 : Int32) then (0 : Int32) else (1 : Int32))), .val (.int (if (sl &&& (8 : Int32)) = (0 : Int32) then (0 : Int32) else (1 : Int32))), .val (.ref b16), .val (.int (((sl.toUInt32 >>> ((4 : Int32) &&& 31).toUInt32).toInt32) &&& (7 : Int32))), .val (.int (if (sl &&& (15 : Int32)) = (0 : Int32) then (1 : Int32) else (if dl = (0 : Int64) then (1 : Int32) else (0 : Int32))))] [(.ref b16), (.ref b2)])) rfl (by rw [hml]; rfl) (Steps.refl _) (argsL := [(.ref b16)]) (rest := []) (lenOf pd__28Ljava_2flang_2fObject_3b_29Z rfl) rfl (by show 2 * 0 + _ ≤ _; exact Nat.le_of_eq rfl) (hb hby at_230) (fun _ _ => ⟨rfl, rfl, (by decide : 2 + 0 ≤ _), (by decide : 8 + 0 ≤ _)⟩)
        dsimp only [Pt.U, Pt.locs, Pt.cells, Pt.slots] at X64 l64 y64 z64 st64 hQ64
        subst l64 y64 z64
        obtain ⟨rfl, Nq64, e64⟩ := hQ64
        have N64 := Fr.app N28 Nq64
        refine own_goT st64 ?_
        show ∃ t o, Steps p.tables e below (T64.setTop (mkF m 233 #[.val (.long v1), .second, .val (.long v2), .second, .val (.long v3), .second, .val (.long v4), .second, .val (.long dl), .second, .val (.int sl), .val (.ref b2), .val (.int (if (sl &&& (1 : Int32)) = (0 : Int32) then (0 : Int32) else (1 : Int32))), .val (.int (if (sl &&& (2 : Int32)) = (0 : Int32) then (0 : Int32) else (1 : Int32))), .val (.int (if (sl &&& (4 : Int32)) = (0 : Int32) then (0 : Int32) else (1 : Int32))), .val (.int (if (sl &&& (8 : Int32)) = (0 : Int32) then (0 : Int32) else (1 : Int32))), .val (.ref b16), .val (.int (((sl.toUInt32 >>> ((4 : Int32) &&& 31).toUInt32).toInt32) &&& (7 : Int32))), .val (.int (if (sl &&& (15 : Int32)) = (0 : Int32) then (1 : Int32) else (if dl = (0 : Int64) then (1 : Int32) else (0 : Int32))))] [(.int (if v1 = (if (if (sl &&& (1 : Int32)) = (0 : Int32) then (0 : Int32) else (1 : Int32)) = (0 : Int32) then v1 else (v1 + dl)) ∧ v2 = (if (if (sl &&& (2 : Int32)) = (0 : Int32) then (0 : Int32) else (1 : Int32)) = (0 : Int32) then v2 else (v2 + dl)) ∧ v3 = (if (if (sl &&& (4 : Int32)) = (0 : Int32) then (0 : Int32) else (1 : Int32)) = (0 : Int32) then v3 else (v3 + dl)) ∧ v4 = (if (if (sl &&& (8 : Int32)) = (0 : Int32) then (0 : Int32) else (1 : Int32)) = (0 : Int32) then v4 else (v4 + dl)) then (1 : Int32) else (0 : Int32)))])) t ∧ _
        refine own_go (fun _ => XS.iload X64.here hx rfl (hb hby at_233) rfl) ?_
        show ∃ t o, Steps p.tables e below (T64.setTop (mkF m 235 #[.val (.long v1), .second, .val (.long v2), .second, .val (.long v3), .second, .val (.long v4), .second, .val (.long dl), .second, .val (.int sl), .val (.ref b2), .val (.int (if (sl &&& (1 : Int32)) = (0 : Int32) then (0 : Int32) else (1 : Int32))), .val (.int (if (sl &&& (2 : Int32)) = (0 : Int32) then (0 : Int32) else (1 : Int32))), .val (.int (if (sl &&& (4 : Int32)) = (0 : Int32) then (0 : Int32) else (1 : Int32))), .val (.int (if (sl &&& (8 : Int32)) = (0 : Int32) then (0 : Int32) else (1 : Int32))), .val (.ref b16), .val (.int (((sl.toUInt32 >>> ((4 : Int32) &&& 31).toUInt32).toInt32) &&& (7 : Int32))), .val (.int (if (sl &&& (15 : Int32)) = (0 : Int32) then (1 : Int32) else (if dl = (0 : Int64) then (1 : Int32) else (0 : Int32))))] [(.int (if (sl &&& (15 : Int32)) = (0 : Int32) then (1 : Int32) else (if dl = (0 : Int64) then (1 : Int32) else (0 : Int32)))), (.int (if v1 = (if (if (sl &&& (1 : Int32)) = (0 : Int32) then (0 : Int32) else (1 : Int32)) = (0 : Int32) then v1 else (v1 + dl)) ∧ v2 = (if (if (sl &&& (2 : Int32)) = (0 : Int32) then (0 : Int32) else (1 : Int32)) = (0 : Int32) then v2 else (v2 + dl)) ∧ v3 = (if (if (sl &&& (4 : Int32)) = (0 : Int32) then (0 : Int32) else (1 : Int32)) = (0 : Int32) then v3 else (v3 + dl)) ∧ v4 = (if (if (sl &&& (8 : Int32)) = (0 : Int32) then (0 : Int32) else (1 : Int32)) = (0 : Int32) then v4 else (v4 + dl)) then (1 : Int32) else (0 : Int32)))])) t ∧ _
        have hd65 : (if v1 = (if (if (sl &&& (1 : Int32)) = (0 : Int32) then (0 : Int32) else (1 : Int32)) = (0 : Int32) then v1 else (v1 + dl)) ∧ v2 = (if (if (sl &&& (2 : Int32)) = (0 : Int32) then (0 : Int32) else (1 : Int32)) = (0 : Int32) then v2 else (v2 + dl)) ∧ v3 = (if (if (sl &&& (4 : Int32)) = (0 : Int32) then (0 : Int32) else (1 : Int32)) = (0 : Int32) then v3 else (v3 + dl)) ∧ v4 = (if (if (sl &&& (8 : Int32)) = (0 : Int32) then (0 : Int32) else (1 : Int32)) = (0 : Int32) then v4 else (v4 + dl)) then (1 : Int32) else (0 : Int32)) = (if (sl &&& (15 : Int32)) = (0 : Int32) then (1 : Int32) else (if dl = (0 : Int64) then (1 : Int32) else (0 : Int32))) := own_exp _ _ _ _ _ _ _ _ _ _ (own_bits sl)
        refine own_go (fun _ => XS.icmpNo X64.here hx rfl (hb hby at_235) rfl (teq hd65).2) ?_
        show ∃ t o, Steps p.tables e below (T64.setTop (mkF m 238 #[.val (.long v1), .second, .val (.long v2), .second, .val (.long v3), .second, .val (.long v4), .second, .val (.long dl), .second, .val (.int sl), .val (.ref b2), .val (.int (if (sl &&& (1 : Int32)) = (0 : Int32) then (0 : Int32) else (1 : Int32))), .val (.int (if (sl &&& (2 : Int32)) = (0 : Int32) then (0 : Int32) else (1 : Int32))), .val (.int (if (sl &&& (4 : Int32)) = (0 : Int32) then (0 : Int32) else (1 : Int32))), .val (.int (if (sl &&& (8 : Int32)) = (0 : Int32) then (0 : Int32) else (1 : Int32))), .val (.ref b16), .val (.int (((sl.toUInt32 >>> ((4 : Int32) &&& 31).toUInt32).toInt32) &&& (7 : Int32))), .val (.int (if (sl &&& (15 : Int32)) = (0 : Int32) then (1 : Int32) else (if dl = (0 : Int64) then (1 : Int32) else (0 : Int32))))] [])) t ∧ _
        refine own_go (fun _ => XS.aload X64.here hx rfl (hb hby at_238) rfl rfl) ?_
        show ∃ t o, Steps p.tables e below (T64.setTop (mkF m 240 #[.val (.long v1), .second, .val (.long v2), .second, .val (.long v3), .second, .val (.long v4), .second, .val (.long dl), .second, .val (.int sl), .val (.ref b2), .val (.int (if (sl &&& (1 : Int32)) = (0 : Int32) then (0 : Int32) else (1 : Int32))), .val (.int (if (sl &&& (2 : Int32)) = (0 : Int32) then (0 : Int32) else (1 : Int32))), .val (.int (if (sl &&& (4 : Int32)) = (0 : Int32) then (0 : Int32) else (1 : Int32))), .val (.int (if (sl &&& (8 : Int32)) = (0 : Int32) then (0 : Int32) else (1 : Int32))), .val (.ref b16), .val (.int (((sl.toUInt32 >>> ((4 : Int32) &&& 31).toUInt32).toInt32) &&& (7 : Int32))), .val (.int (if (sl &&& (15 : Int32)) = (0 : Int32) then (1 : Int32) else (if dl = (0 : Int64) then (1 : Int32) else (0 : Int32))))] [(.ref b16)])) t ∧ _
        refine own_go (fun _ => XS.aload X64.here hx rfl (hb hby at_240) rfl rfl) ?_
        show ∃ t o, Steps p.tables e below (T64.setTop (mkF m 242 #[.val (.long v1), .second, .val (.long v2), .second, .val (.long v3), .second, .val (.long v4), .second, .val (.long dl), .second, .val (.int sl), .val (.ref b2), .val (.int (if (sl &&& (1 : Int32)) = (0 : Int32) then (0 : Int32) else (1 : Int32))), .val (.int (if (sl &&& (2 : Int32)) = (0 : Int32) then (0 : Int32) else (1 : Int32))), .val (.int (if (sl &&& (4 : Int32)) = (0 : Int32) then (0 : Int32) else (1 : Int32))), .val (.int (if (sl &&& (8 : Int32)) = (0 : Int32) then (0 : Int32) else (1 : Int32))), .val (.ref b16), .val (.int (((sl.toUInt32 >>> ((4 : Int32) &&& 31).toUInt32).toInt32) &&& (7 : Int32))), .val (.int (if (sl &&& (15 : Int32)) = (0 : Int32) then (1 : Int32) else (if dl = (0 : Int64) then (1 : Int32) else (0 : Int32))))] [(.ref b2), (.ref b16)])) t ∧ _
        obtain ⟨cq66, kq66, q66a, q66b, q66c⟩ := isOf hZ e64 G28_0
        obtain ⟨_, _, ⟨T66, L66, k66, n66⟩, -, X66, ⟨Lc66, hQ66, l66, y66, z66⟩, st66⟩ := X64.virtualBack hx (y := (⟨"com/example/libtardy/libtardy/QueueCounts", "equals", "(Ljava/lang/Object;)Z"⟩ : MethodName)) (z := (⟨"com/example/libtardy/libtardy/QueueCounts", "equals", "(Ljava/lang/Object;)Z"⟩ : MethodName)) hown (mvT hZ (hw _ (List.mem_of_getElem? (i := 17) rfl))) (mvT hZ (hw _ (List.mem_of_getElem? (i := 18) rfl))) (notFace_of_selects (args := #[]) (mvT hZ (hw _ (List.mem_of_getElem? (i := 20) rfl)))) (mvT hZ (hw _ (List.mem_of_getElem? (i := 20) rfl))) (mvT hZ (hw _ (List.mem_of_getElem? (i := 19) rfl))) (by decide) (backOf (W := 0) (rmEqS l Z a0 hw [] b16 b2 ((if (if (sl &&& (1 : Int32)) = (0 : Int32) then (0 : Int32) else (1 : Int32)) = (0 : Int32) then v1 else (v1 + dl))) ((if (if (sl &&& (2 : Int32)) = (0 : Int32) then (0 : Int32) else (1 : Int32)) = (0 : Int32) then v2 else (v2 + dl))) ((if (if (sl &&& (4 : Int32)) = (0 : Int32) then (0 : Int32) else (1 : Int32)) = (0 : Int32) then v3 else (v3 + dl))) ((if (if (sl &&& (8 : Int32)) = (0 : Int32) then (0 : Int32) else (1 : Int32)) = (0 : Int32) then v4 else (v4 + dl))) v1 v2 v3 v4 T28.heap n0 zl63 G28_1 G28_2 G28_3 G28_4 F58 F59 F60 F61 (Ins.self F56) F62) hZ (hw _ (List.mem_of_getElem? (i := 21) rfl)) (hw _ (List.mem_of_getElem? (i := 2) rfl)) (by decide) (by decide)) q66a q66c (g := (mkF m 242 #[.val (.long v1), .second, .val (.long v2), .second, .val (.long v3), .second, .val (.long v4), .second, .val (.long dl), .second, .val (.int sl), .val (.ref b2), .val (.int (if (sl &&& (1 : Int32)) = (0 : Int32) then (0 : Int32) else (1 : Int32))), .val (.int (if (sl &&& (2 : Int32)) = (0 : Int32) then (0 : Int32) else (1 : Int32))), .val (.int (if (sl &&& (4 : Int32)) = (0 : Int32) then (0 : Int32) else (1 : Int32))), .val (.int (if (sl &&& (8 : Int32)) = (0 : Int32) then (0 : Int32) else (1 : Int32))), .val (.ref b16), .val (.int (((sl.toUInt32 >>> ((4 : Int32) &&& 31).toUInt32).toInt32) &&& (7 : Int32))), .val (.int (if (sl &&& (15 : Int32)) = (0 : Int32) then (1 : Int32) else (if dl = (0 : Int64) then (1 : Int32) else (0 : Int32))))] [(.ref b2), (.ref b16)])) rfl (by rw [hml]; rfl) (Steps.refl _) (argsL := [(.ref b2)]) (rest := []) (lenOf pd__28Ljava_2flang_2fObject_3b_29Z rfl) rfl (by show 2 * 0 + _ ≤ _; exact Nat.le_of_eq rfl) (hb hby at_242) (fun _ _ => ⟨rfl, e64, (by decide : 2 + 0 ≤ _), (by decide : 8 + 0 ≤ _)⟩)
        dsimp only [Pt.U, Pt.locs, Pt.cells, Pt.slots] at X66 l66 y66 z66 st66 hQ66
        subst l66 y66 z66
        obtain ⟨rfl, Nq66, e66⟩ := hQ66
        have N66 := Fr.app N64 Nq66
        refine own_goT st66 ?_
        show ∃ t o, Steps p.tables e below (T66.setTop (mkF m 245 #[.val (.long v1), .second, .val (.long v2), .second, .val (.long v3), .second, .val (.long v4), .second, .val (.long dl), .second, .val (.int sl), .val (.ref b2), .val (.int (if (sl &&& (1 : Int32)) = (0 : Int32) then (0 : Int32) else (1 : Int32))), .val (.int (if (sl &&& (2 : Int32)) = (0 : Int32) then (0 : Int32) else (1 : Int32))), .val (.int (if (sl &&& (4 : Int32)) = (0 : Int32) then (0 : Int32) else (1 : Int32))), .val (.int (if (sl &&& (8 : Int32)) = (0 : Int32) then (0 : Int32) else (1 : Int32))), .val (.ref b16), .val (.int (((sl.toUInt32 >>> ((4 : Int32) &&& 31).toUInt32).toInt32) &&& (7 : Int32))), .val (.int (if (sl &&& (15 : Int32)) = (0 : Int32) then (1 : Int32) else (if dl = (0 : Int64) then (1 : Int32) else (0 : Int32))))] [(.int (if (if (if (sl &&& (1 : Int32)) = (0 : Int32) then (0 : Int32) else (1 : Int32)) = (0 : Int32) then v1 else (v1 + dl)) = v1 ∧ (if (if (sl &&& (2 : Int32)) = (0 : Int32) then (0 : Int32) else (1 : Int32)) = (0 : Int32) then v2 else (v2 + dl)) = v2 ∧ (if (if (sl &&& (4 : Int32)) = (0 : Int32) then (0 : Int32) else (1 : Int32)) = (0 : Int32) then v3 else (v3 + dl)) = v3 ∧ (if (if (sl &&& (8 : Int32)) = (0 : Int32) then (0 : Int32) else (1 : Int32)) = (0 : Int32) then v4 else (v4 + dl)) = v4 then (1 : Int32) else (0 : Int32)))])) t ∧ _
        refine own_go (fun _ => XS.iload X66.here hx rfl (hb hby at_245) rfl) ?_
        show ∃ t o, Steps p.tables e below (T66.setTop (mkF m 247 #[.val (.long v1), .second, .val (.long v2), .second, .val (.long v3), .second, .val (.long v4), .second, .val (.long dl), .second, .val (.int sl), .val (.ref b2), .val (.int (if (sl &&& (1 : Int32)) = (0 : Int32) then (0 : Int32) else (1 : Int32))), .val (.int (if (sl &&& (2 : Int32)) = (0 : Int32) then (0 : Int32) else (1 : Int32))), .val (.int (if (sl &&& (4 : Int32)) = (0 : Int32) then (0 : Int32) else (1 : Int32))), .val (.int (if (sl &&& (8 : Int32)) = (0 : Int32) then (0 : Int32) else (1 : Int32))), .val (.ref b16), .val (.int (((sl.toUInt32 >>> ((4 : Int32) &&& 31).toUInt32).toInt32) &&& (7 : Int32))), .val (.int (if (sl &&& (15 : Int32)) = (0 : Int32) then (1 : Int32) else (if dl = (0 : Int64) then (1 : Int32) else (0 : Int32))))] [(.int (if (sl &&& (15 : Int32)) = (0 : Int32) then (1 : Int32) else (if dl = (0 : Int64) then (1 : Int32) else (0 : Int32)))), (.int (if (if (if (sl &&& (1 : Int32)) = (0 : Int32) then (0 : Int32) else (1 : Int32)) = (0 : Int32) then v1 else (v1 + dl)) = v1 ∧ (if (if (sl &&& (2 : Int32)) = (0 : Int32) then (0 : Int32) else (1 : Int32)) = (0 : Int32) then v2 else (v2 + dl)) = v2 ∧ (if (if (sl &&& (4 : Int32)) = (0 : Int32) then (0 : Int32) else (1 : Int32)) = (0 : Int32) then v3 else (v3 + dl)) = v3 ∧ (if (if (sl &&& (8 : Int32)) = (0 : Int32) then (0 : Int32) else (1 : Int32)) = (0 : Int32) then v4 else (v4 + dl)) = v4 then (1 : Int32) else (0 : Int32)))])) t ∧ _
        have hd67 : (if (if (if (sl &&& (1 : Int32)) = (0 : Int32) then (0 : Int32) else (1 : Int32)) = (0 : Int32) then v1 else (v1 + dl)) = v1 ∧ (if (if (sl &&& (2 : Int32)) = (0 : Int32) then (0 : Int32) else (1 : Int32)) = (0 : Int32) then v2 else (v2 + dl)) = v2 ∧ (if (if (sl &&& (4 : Int32)) = (0 : Int32) then (0 : Int32) else (1 : Int32)) = (0 : Int32) then v3 else (v3 + dl)) = v3 ∧ (if (if (sl &&& (8 : Int32)) = (0 : Int32) then (0 : Int32) else (1 : Int32)) = (0 : Int32) then v4 else (v4 + dl)) = v4 then (1 : Int32) else (0 : Int32)) = (if (sl &&& (15 : Int32)) = (0 : Int32) then (1 : Int32) else (if dl = (0 : Int64) then (1 : Int32) else (0 : Int32))) := (own_sym _ _ _ _ _ _ _ _).trans (own_exp _ _ _ _ _ _ _ _ _ _ (own_bits sl))
        refine own_go (fun _ => XS.icmpNo X66.here hx rfl (hb hby at_247) rfl (teq hd67).2) ?_
        show ∃ t o, Steps p.tables e below (T66.setTop (mkF m 250 #[.val (.long v1), .second, .val (.long v2), .second, .val (.long v3), .second, .val (.long v4), .second, .val (.long dl), .second, .val (.int sl), .val (.ref b2), .val (.int (if (sl &&& (1 : Int32)) = (0 : Int32) then (0 : Int32) else (1 : Int32))), .val (.int (if (sl &&& (2 : Int32)) = (0 : Int32) then (0 : Int32) else (1 : Int32))), .val (.int (if (sl &&& (4 : Int32)) = (0 : Int32) then (0 : Int32) else (1 : Int32))), .val (.int (if (sl &&& (8 : Int32)) = (0 : Int32) then (0 : Int32) else (1 : Int32))), .val (.ref b16), .val (.int (((sl.toUInt32 >>> ((4 : Int32) &&& 31).toUInt32).toInt32) &&& (7 : Int32))), .val (.int (if (sl &&& (15 : Int32)) = (0 : Int32) then (1 : Int32) else (if dl = (0 : Int64) then (1 : Int32) else (0 : Int32))))] [])) t ∧ _
        refine own_go (fun _ => XS.iconst X66.here hx rfl (hb hby at_250)) ?_
        show ∃ t o, Steps p.tables e below (T66.setTop (mkF m 251 #[.val (.long v1), .second, .val (.long v2), .second, .val (.long v3), .second, .val (.long v4), .second, .val (.long dl), .second, .val (.int sl), .val (.ref b2), .val (.int (if (sl &&& (1 : Int32)) = (0 : Int32) then (0 : Int32) else (1 : Int32))), .val (.int (if (sl &&& (2 : Int32)) = (0 : Int32) then (0 : Int32) else (1 : Int32))), .val (.int (if (sl &&& (4 : Int32)) = (0 : Int32) then (0 : Int32) else (1 : Int32))), .val (.int (if (sl &&& (8 : Int32)) = (0 : Int32) then (0 : Int32) else (1 : Int32))), .val (.ref b16), .val (.int (((sl.toUInt32 >>> ((4 : Int32) &&& 31).toUInt32).toInt32) &&& (7 : Int32))), .val (.int (if (sl &&& (15 : Int32)) = (0 : Int32) then (1 : Int32) else (if dl = (0 : Int64) then (1 : Int32) else (0 : Int32))))] [(.int (1 : Int32))])) t ∧ _
        refine own_go (fun _ => XS.goto X66.here hx rfl (pc0 := 251) (pc' := 255) rfl (hb hby at_251) (by decide) (by decide)) ?_
        show ∃ t o, Steps p.tables e below (T66.setTop (mkF m 255 #[.val (.long v1), .second, .val (.long v2), .second, .val (.long v3), .second, .val (.long v4), .second, .val (.long dl), .second, .val (.int sl), .val (.ref b2), .val (.int (if (sl &&& (1 : Int32)) = (0 : Int32) then (0 : Int32) else (1 : Int32))), .val (.int (if (sl &&& (2 : Int32)) = (0 : Int32) then (0 : Int32) else (1 : Int32))), .val (.int (if (sl &&& (4 : Int32)) = (0 : Int32) then (0 : Int32) else (1 : Int32))), .val (.int (if (sl &&& (8 : Int32)) = (0 : Int32) then (0 : Int32) else (1 : Int32))), .val (.ref b16), .val (.int (((sl.toUInt32 >>> ((4 : Int32) &&& 31).toUInt32).toInt32) &&& (7 : Int32))), .val (.int (if (sl &&& (15 : Int32)) = (0 : Int32) then (1 : Int32) else (if dl = (0 : Int64) then (1 : Int32) else (0 : Int32))))] [(.int (1 : Int32))])) t ∧ _
        obtain ⟨fs, hr, hrun, hended, hW, hsame⟩ := X66.leave (v := some (.int (1 : Int32))) (fun h => by rw [Bd.returns] at h; cases h)
        refine ⟨_, _, ?_, hrun, hended, _, _, rfl, ?_, ⟨_, rfl⟩, hW, hsame.mono (by decide) (by decide)⟩
        · exact retN X66 hx (t := .boolean) Bd.returns (by simp) (hb hby at_255) hr
        · show Q_rm0 Z v1 v2 v3 v4 dl sl ca cca h0 n0 _ T66.heap _
          rw [e66]
          exact ⟨rfl, N66, K28⟩
set_option maxRecDepth 65536 in
set_option maxHeartbeats 40000000 in
theorem comes_1 {Post : Tables → Env → Array Value → State → Outcome → State → Prop} (hpost : ∀ tb e args s v u, (limb_1_1.after args s (.returned v) u = true ∧ limb_1_2.after args s (.returned v) u = true ∧ True) → FrameEnd s (.returned v) u (Jvm.fieldLocs frame_1_writes args s ++ Jvm.arrayLocs frame_1_arrays args s ++ Jvm.staticLocs frame_1_statics s) 16 128 → Post tb e args s (.returned v) u) :
    ArmFor flags0 classFile x code maxLocals ret World_1 tables_1 room_1 Calls_1 rest_1 Pre_1 Post := by
  intro l hfl _ _ p e ha hc hk s m args below hf hA hF happ hP
  obtain ⟨hcalls, hrest, hpre⟩ := hP
  obtain ⟨-, -, -, hnamed, -, -, -, hat⟩ := (Spec.applies_iff hf).mp happ
  obtain ⟨hg, hn⟩ := and_e (Cond.before_iff.mp (show (Jvm.Cond.and given_1 narrow_1).before args s = true from hpre))
  obtain ⟨g1, g2⟩ := and_e hg
  obtain ⟨g3, g4⟩ := and_e g2
  obtain ⟨g5, g6⟩ := and_e g4
  obtain ⟨g7, g8⟩ := and_e g6
  obtain ⟨g9, g10⟩ := and_e g8
  obtain ⟨g11, g12⟩ := and_e g10
  obtain ⟨w0, w1, w2, w3, w4, w5, rfl⟩ : ∃ w0 w1 w2 w3 w4 w5 : Value, args = #[w0, w1, w2, w3, w4, w5] := by
    have hs : args.size = 6 := by simpa [Cond.value, given_1] using g1
    obtain ⟨L⟩ := args
    match L, hs with
    | [w0, w1, w2, w3, w4, w5], _ => exact ⟨w0, w1, w2, w3, w4, w5, rfl⟩
  have hw := fun d (hd : d ∈ tables_1) => atoms_spec (ws := Jvm.Cond.code x code maxLocals ret :: tables_1) hat d (List.mem_cons_of_mem _ hd)
  have hfit : Fit s := fun {y c} hc i hi => by
    obtain ⟨ha, rfl⟩ := Array.getElem?_eq_some_iff.mp hc
    have q := List.all_eq_true.mp ((Array.all_eq_true_iff_forall_mem.mp hF) _ (Array.getElem_mem ha)) i (List.mem_range.mpr hi)
    simpa [Array.getElem?_eq_getElem hi] using q
  obtain ⟨hsets, hown0⟩ := atoms_of _ (rest_1_c_eq ▸ (show rest_1_c.before _ s = true from hrest))
  have hr0 := Cond.before_iff.mp hown0
  obtain ⟨i0, ei0⟩ := isL_v g3
  obtain rfl : w0 = (.long i0) := Option.some.inj ei0
  obtain ⟨i1, ei1⟩ := isL_v g5
  obtain rfl : w1 = (.long i1) := Option.some.inj ei1
  obtain ⟨i2, ei2⟩ := isL_v g7
  obtain rfl : w2 = (.long i2) := Option.some.inj ei2
  obtain ⟨i3, ei3⟩ := isL_v g9
  obtain rfl : w3 = (.long i3) := Option.some.inj ei3
  obtain ⟨i4, ei4⟩ := isL_v g11
  obtain rfl : w4 = (.long i4) := Option.some.inj ei4
  obtain ⟨i5, ei5⟩ := is_v g12
  obtain rfl : w5 = (.int i5) := Option.some.inj ei5
  have LA : (Jvm.Cond.arrayOf (Jvm.Term.static "java/lang/Long$LongCache" "cache" "[Ljava/lang/Long;") (Jvm.ClassFile.FieldType.object "java/lang/Long")).value _ s none s [] = some true := Cond.before_iff.mp (hsets _ (List.mem_of_getElem? (i := 2) rfl))
  obtain ⟨caL, evL⟩ := arr_v LA
  have SCL : Sta s s.heap "java/lang/Long$LongCache" "cache" "[Ljava/lang/Long;" (.ref caL) := Sta.start evL (Or.inl (hsets _ (List.mem_of_getElem? (i := 1) rfl)))
  obtain ⟨ccL, ARL⟩ := Arr.start evL LA
  have LNL : (Jvm.Cond.eq (Jvm.Term.length (Jvm.Term.static "java/lang/Long$LongCache" "cache" "[Ljava/lang/Long;")) (Jvm.Term.int (256 : Int32))).value _ s none s [] = some true := Cond.before_iff.mp (hsets _ (List.mem_of_getElem? (i := 4) rfl))
  have ALL := Cond.before_iff.mp (hsets _ (List.mem_of_getElem? (i := 5) rfl))
  have BXL : Bxs s caL ccL "java/lang/Long" "J" (256 : Int32) own_lval := own_bxsL evL ARL LNL ALL
  have OLD := Old.start s
  obtain ⟨n, o, h1, h2, h3, _, L, rfl, ⟨rfl, N, -⟩, hq⟩ := rm0 l s _ hw tables_1 i0 i1 i2 i3 i4 i5 caL ccL s.heap s.heap.size (Nat.le_refl _) OLD SCL BXL p e ha hc hk s m _ below hf ((Spec.applies_iff_loose hf).mp happ).1 ⟨rfl, State.Warmed39.refl s, rfl⟩ trivial
  refine ⟨n, _, h1, h2, h3, hpost _ _ _ _ _ _ ⟨Cond.after_iff.mpr rfl, Cond.after_iff.mpr (eq_i res_at (Term.int_eval (1)) rfl), trivial⟩ ⟨hq.1, hq.2.1, (hq.2.2.sift fun y hy => Or.inr (N y hy)).mono (by decide) (by decide)⟩⟩
theorem main_1_1 : Claimed_1_1 := comes_1 fun _ _ _ _ _ _ h hF => ⟨h.1, hF⟩
theorem main_1_2 : Claimed_1_2 := comes_1 fun _ _ _ _ _ _ h hF => ⟨h.2.1, hF⟩
end Jvm.Pilot.@@N@@
namespace Jvm.Pilot.@@N@@
open Jvm Jvm.ClassFile Sem Op Lib Jvm.Free Jvm.Stand Jvm.Pilot.@@N@@.Jvm.D
/-! MADE BY PROGRAM (witnessworld.py) out of the Statement's table words and the real class files: 16 classes; the members and pool entries that the words name. The judged class is class 1, her method 1. -/
namespace start1
open Jvm.ClassFile
def u (s : String) : CpInfo := .utf8 (stringToUtf16 s)
/-- a pool by its gaps: so many unusable entries, then the entry; so many at the end -/
def gap : Nat → List CpInfo → List CpInfo
  | 0, r => r
  | n + 1, r => .unusable :: gap n r
def poolList (es : List (Nat × CpInfo)) (last : Nat) : List CpInfo := es.foldr (fun e r => gap e.1 (e.2 :: r)) (gap last [])
def pool (es : List (Nat × CpInfo)) (last : Nat) : Array CpInfo := ⟨poolList es last⟩
def fileOf (pool : Array CpInfo) (this : Nat) (attrs : Array Attribute := #[]) (ms : Array MethodInfo := #[]) (fl : Nat := 33) (sup : Nat := 0) (ifs : Array Nat := #[]) (fds : Array FieldInfo := #[]) : ClassFile where
  minorVersion := 0
  majorVersion := 65
  constantPool := pool
  accessFlags := fl
  thisClass := this
  superClass := sup
  interfaces := ifs
  fields := fds
  methods := ms
  attributes := attrs
def plain (name : String) (sup : Option ClassId) : Class where
  name := name
  kind := .ordinary
  loader := none
  accessFlags := 33
  super := sup
  interfaces := #[]
  cf := none
  fields := #[]
  methods := #[]
  instanceTypes := #[]
  staticTypes := #[]
  resolved := #[]
  callSites := []
  init := .initialized
  statics := none
  mirror := none

def pool0 : Array CpInfo := pool [(5, u "<init>"), (0, u "()V"), (1, .class_ 10), (1, u "java/lang/Object")] 113

def k0c0 : Code := { maxStack := 0, maxLocals := 1, code := object_method_1_code, exceptionTable := #[], attributes := #[] }
def k0m0 : Method := { name := "<init>", desc := "()V", sig := { parameters := [], returnType := none }, accessFlags := 1, code := some k0c0 }
/-- java/lang/Object -/
def k0 : Class := { plain "java/lang/Object" none with
  accessFlags := 33
  interfaces := #[]
  cf := some (fileOf pool0 8 #[] #[{ accessFlags := 1, nameIndex := 5, descriptorIndex := 6, attributes := #[] }] 33 0 #[] #[])
  fields := #[]
  methods := #[k0m0]
  instanceTypes := #[]
  staticTypes := #[]
  resolved := Array.replicate 124 none
  statics := none }

def pool1 : Array CpInfo := pool [(2, .class_ 4), (1, u "java/lang/Object"), (0, u "<init>"), (0, u "()V"), (0, .class_ 8), (0, u "com/example/libtardy/libtardy/QueueCounts"), (0, .methodref 7 10), (0, .nameAndType 5 11), (0, u "(JJJJ)V"), (0, .methodref 7 13), (0, .nameAndType 14 15), (0, u "equals"), (0, u "(Ljava/lang/Object;)Z"), (0, .methodref 17 18), (0, .class_ 19), (0, .nameAndType 20 21), (0, u "java/lang/Long"), (0, u "valueOf"), (0, u "(J)Ljava/lang/Long;"), (0, .class_ 23), (0, u "com/example/libtardy/libtardy/QueueCountsEqualsPinLaw"), (2, u "law"), (0, u "(JJJJJI)Z")] 3

def k1m0 : Method := { name := "<init>", desc := "()V", sig := { parameters := [], returnType := none }, accessFlags := 1, code := none }
def k1c1 : Code := { maxStack := 12, maxLocals := 19, code := code, exceptionTable := #[], attributes := #[] }
def k1m1 : Method := { name := "law", desc := "(JJJJJI)Z", sig := { parameters := [.long, .long, .long, .long, .long, .int], returnType := some .boolean }, accessFlags := 9, code := some k1c1 }
/-- com/example/libtardy/libtardy/QueueCountsEqualsPinLaw -/
def k1 : Class := { plain "com/example/libtardy/libtardy/QueueCountsEqualsPinLaw" (some 0) with
  accessFlags := 49
  interfaces := #[]
  cf := some (fileOf pool1 22 #[] #[{ accessFlags := 1, nameIndex := 5, descriptorIndex := 6, attributes := #[] }, { accessFlags := 9, nameIndex := 26, descriptorIndex := 27, attributes := #[] }] 49 2 #[] #[])
  fields := #[]
  methods := #[k1m0, k1m1]
  instanceTypes := #[]
  staticTypes := #[]
  resolved := Array.replicate 31 none
  statics := none }

def pool2 : Array CpInfo := pool [(1, .methodref 2 3), (0, .class_ 4), (0, .nameAndType 5 6), (0, u "java/lang/Object"), (0, u "<init>"), (0, u "()V"), (0, .fieldref 8 9), (0, .class_ 10), (0, .nameAndType 11 12), (0, u "com/example/libtardy/libtardy/QueueCounts"), (0, u "waiting"), (0, u "J"), (0, .fieldref 8 14), (0, .nameAndType 15 12), (0, u "due"), (0, .fieldref 8 17), (0, .nameAndType 18 12), (0, u "inFlight"), (0, .fieldref 8 20), (0, .nameAndType 21 12), (0, u "dead"), (16, u "(JJJJ)V"), (3, u "equals"), (0, u "(Ljava/lang/Object;)Z")] 22

def k2c0 : Code := { maxStack := 3, maxLocals := 9, code := prog_5_method_1_code, exceptionTable := #[], attributes := #[] }
def k2m0 : Method := { name := "<init>", desc := "(JJJJ)V", sig := { parameters := [.long, .long, .long, .long], returnType := none }, accessFlags := 0, code := some k2c0 }
def k2c1 : Code := { maxStack := 4, maxLocals := 3, code := prog_5_method_6_code, exceptionTable := #[], attributes := #[] }
def k2m1 : Method := { name := "equals", desc := "(Ljava/lang/Object;)Z", sig := { parameters := [(.object "java/lang/Object")], returnType := some .boolean }, accessFlags := 1, code := some k2c1 }
/-- com/example/libtardy/libtardy/QueueCounts -/
def k2 : Class := { plain "com/example/libtardy/libtardy/QueueCounts" (some 0) with
  accessFlags := 33
  interfaces := #[]
  cf := some (fileOf pool2 8 #[] #[{ accessFlags := 0, nameIndex := 5, descriptorIndex := 38, attributes := #[] }, { accessFlags := 1, nameIndex := 42, descriptorIndex := 43, attributes := #[] }] 33 2 #[] #[{ accessFlags := 18, nameIndex := 11, descriptorIndex := 12, attributes := #[] }, { accessFlags := 18, nameIndex := 15, descriptorIndex := 12, attributes := #[] }, { accessFlags := 18, nameIndex := 18, descriptorIndex := 12, attributes := #[] }, { accessFlags := 18, nameIndex := 21, descriptorIndex := 12, attributes := #[] }])
  fields := #[{ name := "waiting", type := .long, accessFlags := 18, slot := 0, constantValue := 0 }, { name := "due", type := .long, accessFlags := 18, slot := 1, constantValue := 0 }, { name := "inFlight", type := .long, accessFlags := 18, slot := 2, constantValue := 0 }, { name := "dead", type := .long, accessFlags := 18, slot := 3, constantValue := 0 }]
  methods := #[k2m0, k2m1]
  instanceTypes := #[.long, .long, .long, .long]
  staticTypes := #[]
  resolved := Array.replicate 66 none
  statics := none }

def pool3 : Array CpInfo := pool [(1, .class_ 2), (0, u "java/io/Serializable"), (0, .class_ 4), (0, u "java/lang/Object")] 2

/-- java/io/Serializable -/
def k3 : Class := { plain "java/io/Serializable" (some 0) with
  accessFlags := 1537
  interfaces := #[]
  cf := some (fileOf pool3 1 #[] #[] 1537 3 #[] #[])
  fields := #[]
  methods := #[]
  instanceTypes := #[]
  staticTypes := #[]
  resolved := Array.replicate 7 none
  statics := none }

def pool4 : Array CpInfo := pool [(1, .methodref 2 3), (0, .class_ 4), (0, .nameAndType 5 6), (0, u "java/lang/Object"), (0, u "<init>"), (0, u "()V"), (1, .class_ 10), (1, u "java/lang/Number"), (2, .class_ 14), (0, u "java/io/Serializable"), (0, u "serialVersionUID"), (0, u "J")] 20

def k4c0 : Code := { maxStack := 1, maxLocals := 1, code := jdk_18_method_1_code, exceptionTable := #[], attributes := #[] }
def k4m0 : Method := { name := "<init>", desc := "()V", sig := { parameters := [], returnType := none }, accessFlags := 1, code := some k4c0 }
/-- java/lang/Number -/
def k4 : Class := { plain "java/lang/Number" (some 0) with
  accessFlags := 1057
  interfaces := #[3]
  cf := some (fileOf pool4 8 #[] #[{ accessFlags := 1, nameIndex := 5, descriptorIndex := 6, attributes := #[] }] 1057 2 #[13] #[{ accessFlags := 26, nameIndex := 15, descriptorIndex := 16, attributes := #[] }])
  fields := #[{ name := "serialVersionUID", type := .long, accessFlags := 26, slot := 0, constantValue := 0 }]
  methods := #[k4m0]
  instanceTypes := #[]
  staticTypes := #[.long]
  resolved := Array.replicate 37 none
  statics := none }

def pool5 : Array CpInfo := pool [(1, .class_ 2), (0, u "java/lang/Comparable"), (0, .class_ 4), (0, u "java/lang/Object")] 7

/-- java/lang/Comparable -/
def k5 : Class := { plain "java/lang/Comparable" (some 0) with
  accessFlags := 1537
  interfaces := #[]
  cf := some (fileOf pool5 1 #[] #[] 1537 3 #[] #[])
  fields := #[]
  methods := #[]
  instanceTypes := #[]
  staticTypes := #[]
  resolved := Array.replicate 12 none
  statics := none }

def pool6 : Array CpInfo := pool [(1, .class_ 2), (0, u "java/lang/constant/Constable"), (0, .class_ 4), (0, u "java/lang/Object")] 6

/-- java/lang/constant/Constable -/
def k6 : Class := { plain "java/lang/constant/Constable" (some 0) with
  accessFlags := 1537
  interfaces := #[]
  cf := some (fileOf pool6 1 #[] #[] 1537 3 #[] #[])
  fields := #[]
  methods := #[]
  instanceTypes := #[]
  staticTypes := #[]
  resolved := Array.replicate 11 none
  statics := none }

def pool7 : Array CpInfo := pool [(1, .class_ 2), (0, u "java/lang/constant/ConstantDesc"), (0, .class_ 4), (0, u "java/lang/Object")] 32

/-- java/lang/constant/ConstantDesc -/
def k7 : Class := { plain "java/lang/constant/ConstantDesc" (some 0) with
  accessFlags := 1537
  interfaces := #[]
  cf := some (fileOf pool7 1 #[] #[] 1537 3 #[] #[])
  fields := #[]
  methods := #[]
  instanceTypes := #[]
  staticTypes := #[]
  resolved := Array.replicate 37 none
  statics := none }

def pool8 : Array CpInfo := pool [(1, .class_ 2), (0, u "java/lang/Long"), (55, .nameAndType 59 60), (0, u "<init>"), (0, u "()V"), (24, u "valueOf"), (143, u "(J)Ljava/lang/Long;"), (0, .long 18446744073709551488), (1, .long 127), (1, .fieldref 235 236), (0, .class_ 237), (0, .nameAndType 238 239), (0, u "java/lang/Long$LongCache"), (0, u "cache"), (0, u "[Ljava/lang/Long;"), (0, .methodref 1 241), (0, .nameAndType 59 242), (0, u "(J)V"), (27, .methodref 271 58), (0, .class_ 272), (0, u "java/lang/Number"), (0, .fieldref 1 274), (0, .nameAndType 275 276), (0, u "value"), (0, u "J"), (84, u "TYPE"), (0, u "Ljava/lang/Class;"), (0, .class_ 364), (0, u "java/lang/Comparable"), (0, .class_ 366), (0, u "java/lang/constant/Constable"), (0, .class_ 368), (0, u "java/lang/constant/ConstantDesc"), (0, u "MIN_VALUE"), (1, u "MAX_VALUE"), (4, u "SIZE"), (0, u "I"), (1, u "BYTES"), (1, u "serialVersionUID")] 142

def k8c0 : Code := { maxStack := 4, maxLocals := 3, code := jdk_35_method_24_code, exceptionTable := #[], attributes := #[] }
def k8m0 : Method := { name := "valueOf", desc := "(J)Ljava/lang/Long;", sig := { parameters := [.long], returnType := some (.object "java/lang/Long") }, accessFlags := 9, code := some k8c0 }
def k8c1 : Code := { maxStack := 3, maxLocals := 3, code := jdk_35_method_26_code, exceptionTable := #[], attributes := #[] }
def k8m1 : Method := { name := "<init>", desc := "(J)V", sig := { parameters := [.long], returnType := none }, accessFlags := 1, code := some k8c1 }
/-- java/lang/Long -/
def k8 : Class := { plain "java/lang/Long" (some 4) with
  accessFlags := 49
  interfaces := #[5, 6, 7]
  cf := some (fileOf pool8 1 #[.nestMembers #[235]] #[{ accessFlags := 9, nameIndex := 85, descriptorIndex := 229, attributes := #[] }, { accessFlags := 1, nameIndex := 59, descriptorIndex := 242, attributes := #[] }] 49 271 #[363, 365, 367] #[{ accessFlags := 25, nameIndex := 369, descriptorIndex := 276, attributes := #[] }, { accessFlags := 25, nameIndex := 371, descriptorIndex := 276, attributes := #[] }, { accessFlags := 25, nameIndex := 361, descriptorIndex := 362, attributes := #[] }, { accessFlags := 18, nameIndex := 275, descriptorIndex := 276, attributes := #[] }, { accessFlags := 25, nameIndex := 376, descriptorIndex := 377, attributes := #[] }, { accessFlags := 25, nameIndex := 379, descriptorIndex := 377, attributes := #[] }, { accessFlags := 26, nameIndex := 381, descriptorIndex := 276, attributes := #[] }])
  fields := #[{ name := "MIN_VALUE", type := .long, accessFlags := 25, slot := 0, constantValue := 0 }, { name := "MAX_VALUE", type := .long, accessFlags := 25, slot := 1, constantValue := 0 }, { name := "TYPE", type := (.object "java/lang/Class"), accessFlags := 25, slot := 2, constantValue := 0 }, { name := "value", type := .long, accessFlags := 18, slot := 0, constantValue := 0 }, { name := "SIZE", type := .int, accessFlags := 25, slot := 3, constantValue := 0 }, { name := "BYTES", type := .int, accessFlags := 25, slot := 4, constantValue := 0 }, { name := "serialVersionUID", type := .long, accessFlags := 26, slot := 5, constantValue := 0 }]
  methods := #[k8m0, k8m1]
  instanceTypes := #[.long]
  staticTypes := #[.long, .long, (.object "java/lang/Class"), .int, .int, .long]
  resolved := Array.replicate 524 none
  statics := none }

def pool9 : Array CpInfo := pool [(2, .class_ 4), (1, u "java/lang/Object"), (0, u "<init>"), (0, u "()V"), (0, .class_ 8), (0, u "java/lang/Long"), (7, .class_ 18), (1, u "java/lang/Long$LongCache"), (0, u "$assertionsDisabled"), (0, u "Z"), (8, u "archivedCache"), (0, u "[Ljava/lang/Long;"), (7, u "cache")] 24

def k9m0 : Method := { name := "<init>", desc := "()V", sig := { parameters := [], returnType := none }, accessFlags := 2, code := none }
/-- java/lang/Long$LongCache -/
def k9 : Class := { plain "java/lang/Long$LongCache" (some 0) with
  accessFlags := 48
  interfaces := #[]
  cf := some (fileOf pool9 16 #[.nestHost 7] #[{ accessFlags := 2, nameIndex := 5, descriptorIndex := 6, attributes := #[] }] 48 2 #[] #[{ accessFlags := 24, nameIndex := 38, descriptorIndex := 30, attributes := #[] }, { accessFlags := 8, nameIndex := 29, descriptorIndex := 30, attributes := #[] }, { accessFlags := 4120, nameIndex := 19, descriptorIndex := 20, attributes := #[] }])
  fields := #[{ name := "cache", type := (.array (.object "java/lang/Long")), accessFlags := 24, slot := 0, constantValue := 0 }, { name := "archivedCache", type := (.array (.object "java/lang/Long")), accessFlags := 8, slot := 1, constantValue := 0 }, { name := "$assertionsDisabled", type := .boolean, accessFlags := 4120, slot := 2, constantValue := 0 }]
  methods := #[k9m0]
  instanceTypes := #[]
  staticTypes := #[(.array (.object "java/lang/Long")), (.array (.object "java/lang/Long")), .boolean]
  resolved := Array.replicate 63 none
  statics := some 0 }

def pool10 : Array CpInfo := pool [(1, u "java/lang/Cloneable"), (0, .class_ 1), (0, u "java/lang/Object"), (0, .class_ 3)] 3

/-- java/lang/Cloneable -/
def k10 : Class := { plain "java/lang/Cloneable" (some 0) with
  accessFlags := 1537
  interfaces := #[]
  cf := some (fileOf pool10 2 #[] #[] 1537 4 #[] #[])
  fields := #[]
  methods := #[]
  instanceTypes := #[]
  staticTypes := #[]
  resolved := Array.replicate 8 none
  statics := none }

/-- the primitive byte -/
def k11 : Class := { plain "byte" none with kind := .primitive 'B', accessFlags := 0x411 }
/-- [B -/
def k12 : Class := { plain "[B" (some 0) with kind := .array 11 .byte, interfaces := #[10, 3], accessFlags := 1041 }

/-- the primitive int -/
def k13 : Class := { plain "int" none with kind := .primitive 'I', accessFlags := 0x411 }
/-- [I -/
def k14 : Class := { plain "[I" (some 0) with kind := .array 13 .int, interfaces := #[10, 3], accessFlags := 1041 }

/-- [Ljava/lang/Long; -/
def k15 : Class := { plain "[Ljava/lang/Long;" (some 0) with kind := .array 8 (.object "java/lang/Long"), interfaces := #[10, 3], accessFlags := 1041 }

def heap : Heap := #[{ cls := 9, slots := #[.ref 1, .null, .int 0], vm := .statics 9 },
  { cls := 15, slots := #[.ref 2, .ref 3, .ref 4, .ref 5, .ref 6, .ref 7, .ref 8, .ref 9, .ref 10, .ref 11, .ref 12, .ref 13, .ref 14, .ref 15, .ref 16, .ref 17, .ref 18, .ref 19, .ref 20, .ref 21, .ref 22, .ref 23, .ref 24, .ref 25, .ref 26, .ref 27, .ref 28, .ref 29, .ref 30, .ref 31, .ref 32, .ref 33, .ref 34, .ref 35, .ref 36, .ref 37, .ref 38, .ref 39, .ref 40, .ref 41, .ref 42, .ref 43, .ref 44, .ref 45, .ref 46, .ref 47, .ref 48, .ref 49, .ref 50, .ref 51, .ref 52, .ref 53, .ref 54, .ref 55, .ref 56, .ref 57, .ref 58, .ref 59, .ref 60, .ref 61, .ref 62, .ref 63, .ref 64, .ref 65, .ref 66, .ref 67, .ref 68, .ref 69, .ref 70, .ref 71, .ref 72, .ref 73, .ref 74, .ref 75, .ref 76, .ref 77, .ref 78, .ref 79, .ref 80, .ref 81, .ref 82, .ref 83, .ref 84, .ref 85, .ref 86, .ref 87, .ref 88, .ref 89, .ref 90, .ref 91, .ref 92, .ref 93, .ref 94, .ref 95, .ref 96, .ref 97, .ref 98, .ref 99, .ref 100, .ref 101, .ref 102, .ref 103, .ref 104, .ref 105, .ref 106, .ref 107, .ref 108, .ref 109, .ref 110, .ref 111, .ref 112, .ref 113, .ref 114, .ref 115, .ref 116, .ref 117, .ref 118, .ref 119, .ref 120, .ref 121, .ref 122, .ref 123, .ref 124, .ref 125, .ref 126, .ref 127, .ref 128, .ref 129, .ref 130, .ref 131, .ref 132, .ref 133, .ref 134, .ref 135, .ref 136, .ref 137, .ref 138, .ref 139, .ref 140, .ref 141, .ref 142, .ref 143, .ref 144, .ref 145, .ref 146, .ref 147, .ref 148, .ref 149, .ref 150, .ref 151, .ref 152, .ref 153, .ref 154, .ref 155, .ref 156, .ref 157, .ref 158, .ref 159, .ref 160, .ref 161, .ref 162, .ref 163, .ref 164, .ref 165, .ref 166, .ref 167, .ref 168, .ref 169, .ref 170, .ref 171, .ref 172, .ref 173, .ref 174, .ref 175, .ref 176, .ref 177, .ref 178, .ref 179, .ref 180, .ref 181, .ref 182, .ref 183, .ref 184, .ref 185, .ref 186, .ref 187, .ref 188, .ref 189, .ref 190, .ref 191, .ref 192, .ref 193, .ref 194, .ref 195, .ref 196, .ref 197, .ref 198, .ref 199, .ref 200, .ref 201, .ref 202, .ref 203, .ref 204, .ref 205, .ref 206, .ref 207, .ref 208, .ref 209, .ref 210, .ref 211, .ref 212, .ref 213, .ref 214, .ref 215, .ref 216, .ref 217, .ref 218, .ref 219, .ref 220, .ref 221, .ref 222, .ref 223, .ref 224, .ref 225, .ref 226, .ref 227, .ref 228, .ref 229, .ref 230, .ref 231, .ref 232, .ref 233, .ref 234, .ref 235, .ref 236, .ref 237, .ref 238, .ref 239, .ref 240, .ref 241, .ref 242, .ref 243, .ref 244, .ref 245, .ref 246, .ref 247, .ref 248, .ref 249, .ref 250, .ref 251, .ref 252, .ref 253, .ref 254, .ref 255, .ref 256, .ref 257], vm := .none },
  { cls := 8, slots := #[.long (-128)], vm := .none },
  { cls := 8, slots := #[.long (-127)], vm := .none },
  { cls := 8, slots := #[.long (-126)], vm := .none },
  { cls := 8, slots := #[.long (-125)], vm := .none },
  { cls := 8, slots := #[.long (-124)], vm := .none },
  { cls := 8, slots := #[.long (-123)], vm := .none },
  { cls := 8, slots := #[.long (-122)], vm := .none },
  { cls := 8, slots := #[.long (-121)], vm := .none },
  { cls := 8, slots := #[.long (-120)], vm := .none },
  { cls := 8, slots := #[.long (-119)], vm := .none },
  { cls := 8, slots := #[.long (-118)], vm := .none },
  { cls := 8, slots := #[.long (-117)], vm := .none },
  { cls := 8, slots := #[.long (-116)], vm := .none },
  { cls := 8, slots := #[.long (-115)], vm := .none },
  { cls := 8, slots := #[.long (-114)], vm := .none },
  { cls := 8, slots := #[.long (-113)], vm := .none },
  { cls := 8, slots := #[.long (-112)], vm := .none },
  { cls := 8, slots := #[.long (-111)], vm := .none },
  { cls := 8, slots := #[.long (-110)], vm := .none },
  { cls := 8, slots := #[.long (-109)], vm := .none },
  { cls := 8, slots := #[.long (-108)], vm := .none },
  { cls := 8, slots := #[.long (-107)], vm := .none },
  { cls := 8, slots := #[.long (-106)], vm := .none },
  { cls := 8, slots := #[.long (-105)], vm := .none },
  { cls := 8, slots := #[.long (-104)], vm := .none },
  { cls := 8, slots := #[.long (-103)], vm := .none },
  { cls := 8, slots := #[.long (-102)], vm := .none },
  { cls := 8, slots := #[.long (-101)], vm := .none },
  { cls := 8, slots := #[.long (-100)], vm := .none },
  { cls := 8, slots := #[.long (-99)], vm := .none },
  { cls := 8, slots := #[.long (-98)], vm := .none },
  { cls := 8, slots := #[.long (-97)], vm := .none },
  { cls := 8, slots := #[.long (-96)], vm := .none },
  { cls := 8, slots := #[.long (-95)], vm := .none },
  { cls := 8, slots := #[.long (-94)], vm := .none },
  { cls := 8, slots := #[.long (-93)], vm := .none },
  { cls := 8, slots := #[.long (-92)], vm := .none },
  { cls := 8, slots := #[.long (-91)], vm := .none },
  { cls := 8, slots := #[.long (-90)], vm := .none },
  { cls := 8, slots := #[.long (-89)], vm := .none },
  { cls := 8, slots := #[.long (-88)], vm := .none },
  { cls := 8, slots := #[.long (-87)], vm := .none },
  { cls := 8, slots := #[.long (-86)], vm := .none },
  { cls := 8, slots := #[.long (-85)], vm := .none },
  { cls := 8, slots := #[.long (-84)], vm := .none },
  { cls := 8, slots := #[.long (-83)], vm := .none },
  { cls := 8, slots := #[.long (-82)], vm := .none },
  { cls := 8, slots := #[.long (-81)], vm := .none },
  { cls := 8, slots := #[.long (-80)], vm := .none },
  { cls := 8, slots := #[.long (-79)], vm := .none },
  { cls := 8, slots := #[.long (-78)], vm := .none },
  { cls := 8, slots := #[.long (-77)], vm := .none },
  { cls := 8, slots := #[.long (-76)], vm := .none },
  { cls := 8, slots := #[.long (-75)], vm := .none },
  { cls := 8, slots := #[.long (-74)], vm := .none },
  { cls := 8, slots := #[.long (-73)], vm := .none },
  { cls := 8, slots := #[.long (-72)], vm := .none },
  { cls := 8, slots := #[.long (-71)], vm := .none },
  { cls := 8, slots := #[.long (-70)], vm := .none },
  { cls := 8, slots := #[.long (-69)], vm := .none },
  { cls := 8, slots := #[.long (-68)], vm := .none },
  { cls := 8, slots := #[.long (-67)], vm := .none },
  { cls := 8, slots := #[.long (-66)], vm := .none },
  { cls := 8, slots := #[.long (-65)], vm := .none },
  { cls := 8, slots := #[.long (-64)], vm := .none },
  { cls := 8, slots := #[.long (-63)], vm := .none },
  { cls := 8, slots := #[.long (-62)], vm := .none },
  { cls := 8, slots := #[.long (-61)], vm := .none },
  { cls := 8, slots := #[.long (-60)], vm := .none },
  { cls := 8, slots := #[.long (-59)], vm := .none },
  { cls := 8, slots := #[.long (-58)], vm := .none },
  { cls := 8, slots := #[.long (-57)], vm := .none },
  { cls := 8, slots := #[.long (-56)], vm := .none },
  { cls := 8, slots := #[.long (-55)], vm := .none },
  { cls := 8, slots := #[.long (-54)], vm := .none },
  { cls := 8, slots := #[.long (-53)], vm := .none },
  { cls := 8, slots := #[.long (-52)], vm := .none },
  { cls := 8, slots := #[.long (-51)], vm := .none },
  { cls := 8, slots := #[.long (-50)], vm := .none },
  { cls := 8, slots := #[.long (-49)], vm := .none },
  { cls := 8, slots := #[.long (-48)], vm := .none },
  { cls := 8, slots := #[.long (-47)], vm := .none },
  { cls := 8, slots := #[.long (-46)], vm := .none },
  { cls := 8, slots := #[.long (-45)], vm := .none },
  { cls := 8, slots := #[.long (-44)], vm := .none },
  { cls := 8, slots := #[.long (-43)], vm := .none },
  { cls := 8, slots := #[.long (-42)], vm := .none },
  { cls := 8, slots := #[.long (-41)], vm := .none },
  { cls := 8, slots := #[.long (-40)], vm := .none },
  { cls := 8, slots := #[.long (-39)], vm := .none },
  { cls := 8, slots := #[.long (-38)], vm := .none },
  { cls := 8, slots := #[.long (-37)], vm := .none },
  { cls := 8, slots := #[.long (-36)], vm := .none },
  { cls := 8, slots := #[.long (-35)], vm := .none },
  { cls := 8, slots := #[.long (-34)], vm := .none },
  { cls := 8, slots := #[.long (-33)], vm := .none },
  { cls := 8, slots := #[.long (-32)], vm := .none },
  { cls := 8, slots := #[.long (-31)], vm := .none },
  { cls := 8, slots := #[.long (-30)], vm := .none },
  { cls := 8, slots := #[.long (-29)], vm := .none },
  { cls := 8, slots := #[.long (-28)], vm := .none },
  { cls := 8, slots := #[.long (-27)], vm := .none },
  { cls := 8, slots := #[.long (-26)], vm := .none },
  { cls := 8, slots := #[.long (-25)], vm := .none },
  { cls := 8, slots := #[.long (-24)], vm := .none },
  { cls := 8, slots := #[.long (-23)], vm := .none },
  { cls := 8, slots := #[.long (-22)], vm := .none },
  { cls := 8, slots := #[.long (-21)], vm := .none },
  { cls := 8, slots := #[.long (-20)], vm := .none },
  { cls := 8, slots := #[.long (-19)], vm := .none },
  { cls := 8, slots := #[.long (-18)], vm := .none },
  { cls := 8, slots := #[.long (-17)], vm := .none },
  { cls := 8, slots := #[.long (-16)], vm := .none },
  { cls := 8, slots := #[.long (-15)], vm := .none },
  { cls := 8, slots := #[.long (-14)], vm := .none },
  { cls := 8, slots := #[.long (-13)], vm := .none },
  { cls := 8, slots := #[.long (-12)], vm := .none },
  { cls := 8, slots := #[.long (-11)], vm := .none },
  { cls := 8, slots := #[.long (-10)], vm := .none },
  { cls := 8, slots := #[.long (-9)], vm := .none },
  { cls := 8, slots := #[.long (-8)], vm := .none },
  { cls := 8, slots := #[.long (-7)], vm := .none },
  { cls := 8, slots := #[.long (-6)], vm := .none },
  { cls := 8, slots := #[.long (-5)], vm := .none },
  { cls := 8, slots := #[.long (-4)], vm := .none },
  { cls := 8, slots := #[.long (-3)], vm := .none },
  { cls := 8, slots := #[.long (-2)], vm := .none },
  { cls := 8, slots := #[.long (-1)], vm := .none },
  { cls := 8, slots := #[.long 0], vm := .none },
  { cls := 8, slots := #[.long 1], vm := .none },
  { cls := 8, slots := #[.long 2], vm := .none },
  { cls := 8, slots := #[.long 3], vm := .none },
  { cls := 8, slots := #[.long 4], vm := .none },
  { cls := 8, slots := #[.long 5], vm := .none },
  { cls := 8, slots := #[.long 6], vm := .none },
  { cls := 8, slots := #[.long 7], vm := .none },
  { cls := 8, slots := #[.long 8], vm := .none },
  { cls := 8, slots := #[.long 9], vm := .none },
  { cls := 8, slots := #[.long 10], vm := .none },
  { cls := 8, slots := #[.long 11], vm := .none },
  { cls := 8, slots := #[.long 12], vm := .none },
  { cls := 8, slots := #[.long 13], vm := .none },
  { cls := 8, slots := #[.long 14], vm := .none },
  { cls := 8, slots := #[.long 15], vm := .none },
  { cls := 8, slots := #[.long 16], vm := .none },
  { cls := 8, slots := #[.long 17], vm := .none },
  { cls := 8, slots := #[.long 18], vm := .none },
  { cls := 8, slots := #[.long 19], vm := .none },
  { cls := 8, slots := #[.long 20], vm := .none },
  { cls := 8, slots := #[.long 21], vm := .none },
  { cls := 8, slots := #[.long 22], vm := .none },
  { cls := 8, slots := #[.long 23], vm := .none },
  { cls := 8, slots := #[.long 24], vm := .none },
  { cls := 8, slots := #[.long 25], vm := .none },
  { cls := 8, slots := #[.long 26], vm := .none },
  { cls := 8, slots := #[.long 27], vm := .none },
  { cls := 8, slots := #[.long 28], vm := .none },
  { cls := 8, slots := #[.long 29], vm := .none },
  { cls := 8, slots := #[.long 30], vm := .none },
  { cls := 8, slots := #[.long 31], vm := .none },
  { cls := 8, slots := #[.long 32], vm := .none },
  { cls := 8, slots := #[.long 33], vm := .none },
  { cls := 8, slots := #[.long 34], vm := .none },
  { cls := 8, slots := #[.long 35], vm := .none },
  { cls := 8, slots := #[.long 36], vm := .none },
  { cls := 8, slots := #[.long 37], vm := .none },
  { cls := 8, slots := #[.long 38], vm := .none },
  { cls := 8, slots := #[.long 39], vm := .none },
  { cls := 8, slots := #[.long 40], vm := .none },
  { cls := 8, slots := #[.long 41], vm := .none },
  { cls := 8, slots := #[.long 42], vm := .none },
  { cls := 8, slots := #[.long 43], vm := .none },
  { cls := 8, slots := #[.long 44], vm := .none },
  { cls := 8, slots := #[.long 45], vm := .none },
  { cls := 8, slots := #[.long 46], vm := .none },
  { cls := 8, slots := #[.long 47], vm := .none },
  { cls := 8, slots := #[.long 48], vm := .none },
  { cls := 8, slots := #[.long 49], vm := .none },
  { cls := 8, slots := #[.long 50], vm := .none },
  { cls := 8, slots := #[.long 51], vm := .none },
  { cls := 8, slots := #[.long 52], vm := .none },
  { cls := 8, slots := #[.long 53], vm := .none },
  { cls := 8, slots := #[.long 54], vm := .none },
  { cls := 8, slots := #[.long 55], vm := .none },
  { cls := 8, slots := #[.long 56], vm := .none },
  { cls := 8, slots := #[.long 57], vm := .none },
  { cls := 8, slots := #[.long 58], vm := .none },
  { cls := 8, slots := #[.long 59], vm := .none },
  { cls := 8, slots := #[.long 60], vm := .none },
  { cls := 8, slots := #[.long 61], vm := .none },
  { cls := 8, slots := #[.long 62], vm := .none },
  { cls := 8, slots := #[.long 63], vm := .none },
  { cls := 8, slots := #[.long 64], vm := .none },
  { cls := 8, slots := #[.long 65], vm := .none },
  { cls := 8, slots := #[.long 66], vm := .none },
  { cls := 8, slots := #[.long 67], vm := .none },
  { cls := 8, slots := #[.long 68], vm := .none },
  { cls := 8, slots := #[.long 69], vm := .none },
  { cls := 8, slots := #[.long 70], vm := .none },
  { cls := 8, slots := #[.long 71], vm := .none },
  { cls := 8, slots := #[.long 72], vm := .none },
  { cls := 8, slots := #[.long 73], vm := .none },
  { cls := 8, slots := #[.long 74], vm := .none },
  { cls := 8, slots := #[.long 75], vm := .none },
  { cls := 8, slots := #[.long 76], vm := .none },
  { cls := 8, slots := #[.long 77], vm := .none },
  { cls := 8, slots := #[.long 78], vm := .none },
  { cls := 8, slots := #[.long 79], vm := .none },
  { cls := 8, slots := #[.long 80], vm := .none },
  { cls := 8, slots := #[.long 81], vm := .none },
  { cls := 8, slots := #[.long 82], vm := .none },
  { cls := 8, slots := #[.long 83], vm := .none },
  { cls := 8, slots := #[.long 84], vm := .none },
  { cls := 8, slots := #[.long 85], vm := .none },
  { cls := 8, slots := #[.long 86], vm := .none },
  { cls := 8, slots := #[.long 87], vm := .none },
  { cls := 8, slots := #[.long 88], vm := .none },
  { cls := 8, slots := #[.long 89], vm := .none },
  { cls := 8, slots := #[.long 90], vm := .none },
  { cls := 8, slots := #[.long 91], vm := .none },
  { cls := 8, slots := #[.long 92], vm := .none },
  { cls := 8, slots := #[.long 93], vm := .none },
  { cls := 8, slots := #[.long 94], vm := .none },
  { cls := 8, slots := #[.long 95], vm := .none },
  { cls := 8, slots := #[.long 96], vm := .none },
  { cls := 8, slots := #[.long 97], vm := .none },
  { cls := 8, slots := #[.long 98], vm := .none },
  { cls := 8, slots := #[.long 99], vm := .none },
  { cls := 8, slots := #[.long 100], vm := .none },
  { cls := 8, slots := #[.long 101], vm := .none },
  { cls := 8, slots := #[.long 102], vm := .none },
  { cls := 8, slots := #[.long 103], vm := .none },
  { cls := 8, slots := #[.long 104], vm := .none },
  { cls := 8, slots := #[.long 105], vm := .none },
  { cls := 8, slots := #[.long 106], vm := .none },
  { cls := 8, slots := #[.long 107], vm := .none },
  { cls := 8, slots := #[.long 108], vm := .none },
  { cls := 8, slots := #[.long 109], vm := .none },
  { cls := 8, slots := #[.long 110], vm := .none },
  { cls := 8, slots := #[.long 111], vm := .none },
  { cls := 8, slots := #[.long 112], vm := .none },
  { cls := 8, slots := #[.long 113], vm := .none },
  { cls := 8, slots := #[.long 114], vm := .none },
  { cls := 8, slots := #[.long 115], vm := .none },
  { cls := 8, slots := #[.long 116], vm := .none },
  { cls := 8, slots := #[.long 117], vm := .none },
  { cls := 8, slots := #[.long 118], vm := .none },
  { cls := 8, slots := #[.long 119], vm := .none },
  { cls := 8, slots := #[.long 120], vm := .none },
  { cls := 8, slots := #[.long 121], vm := .none },
  { cls := 8, slots := #[.long 122], vm := .none },
  { cls := 8, slots := #[.long 123], vm := .none },
  { cls := 8, slots := #[.long 124], vm := .none },
  { cls := 8, slots := #[.long 125], vm := .none },
  { cls := 8, slots := #[.long 126], vm := .none },
  { cls := 8, slots := #[.long 127], vm := .none }]
def classes : Array Class := #[k0, k1, k2, k3, k4, k5, k6, k7, k8, k9, k10, k11, k12, k13, k14, k15]
def interned : List (Array UInt16 × Addr) := []
def slotsUsed : Nat := 515
def theMethod : MethodId := ⟨1, 1⟩
def args0 : Array Value := #[.long 5, .long 7, .long 6, .long 8, .long 3, .int 0]
def aboutOver (below : List Frame) : State where
  vm := { classes := classes, interned := interned.toArray }
  heap := heap
  slotsUsed := slotsUsed
  threads := #[{ frames := .invoking theMethod args0 :: below }]
def below0 : List Frame := [.native { method := ⟨0, 0⟩, args := #[] }]
def about1 : State := aboutOver below0
def p0 : Program := .bare "" "" ""
def e0 : Env := launch0.env 0 0 0
theorem w_frames : about1.frames = Frame.invoking theMethod args0 :: below0 := rfl
set_option maxRecDepth 65536 in
theorem w_args : argsFit about1.vm theMethod args0 = true := by decide +kernel
set_option maxRecDepth 65536 in
theorem w_heap : heapFits about1 = true := by decide +kernel
set_option maxRecDepth 65536 in
theorem w_runnable : about1.curStatus? = some .runnable := by decide +kernel
set_option maxRecDepth 65536 in
theorem w_alone : about1.alone = true := by decide +kernel
set_option maxRecDepth 65536 in
theorem w_named : about1.methodNamed? x = some theMethod := by decide +kernel
set_option maxRecDepth 65536 in
theorem w_hears : about1.hears theMethod below0 = true := by decide +kernel
set_option maxRecDepth 65536 in
theorem w_ripe : about1.ripe theMethod args0 below0 = true := by decide +kernel
theorem w_running : about1.status = .running := rfl
set_option maxRecDepth 65536 in
theorem w_room : about1.hasRoom e0.platform room_1 = true :=
  launch0.hasRoom_least _ room_1 (by decide +kernel) (by decide +kernel) (by decide +kernel) (by decide +kernel) (by decide +kernel) (by decide +kernel)
theorem allAtoms_all (ts : List Jvm.Cond) (a : Array Jvm.Value) (st : Jvm.State) : (allAtoms ts).before a st = ts.all (fun c => c.before a st) := by
  induction ts with
  | nil => rfl
  | cons c t ih =>
    show (Jvm.Cond.and c (allAtoms t)).before a st = _
    rw [Jvm.Cond.before_and, ih, List.all_cons]
def words1 : List Jvm.Cond := Jvm.Cond.code x code maxLocals ret :: tables_1
/-- a 'code' word, met by the world's own term for the bytes: nothing is compared byte by byte -/
theorem code_word {y : MethodName} {bytes : ByteArray} {mx : Nat} {rt : Option FieldType} {a : Array Value} {s : State} {m : MethodId} {meth : Method} {c : Code} (h1 : s.methodNamed? y = some m) (h2 : s.vm.method? m = some meth) (h3 : meth.code = some c) (h4 : c.code = bytes)
    (h5 : (c.maxLocals == mx && c.exceptionTable.isEmpty && decide (c.maxStack ≤ mostOperands) && decide (meth.sig.returnType = rt) && !meth.locks && decide (parseMethodDescriptor y.desc = some meth.sig)) = true) : (Jvm.Cond.code y bytes mx rt).before a s = true := by
  simp only [Bool.and_eq_true, beq_iff_eq, Bool.not_eq_true', decide_eq_true_eq] at h5
  obtain ⟨⟨⟨⟨⟨g1, g2⟩, g3⟩, g4⟩, g5⟩, g6⟩ := h5
  simp [Cond.before, Cond.holds, Cond.value, h1, h2, h3, h4, g1, g2, g3, g4, g5, g6]
def isCode : Jvm.Cond → Bool
  | .code _ _ _ _ => true
  | _ => false
theorem all_split {L : List Jvm.Cond} {P : Jvm.Cond → Bool} (h1 : L.all (fun c => isCode c || P c) = true) (h2 : ∀ c ∈ L.filter isCode, P c = true) : L.all P = true := by
  refine List.all_eq_true.mpr fun c hc => ?_
  have h := List.all_eq_true.mp h1 c hc
  rcases Bool.eq_false_or_eq_true (isCode c) with hi | hi
  · exact h2 c (List.mem_filter.mpr ⟨hc, hi⟩)
  · simpa [hi] using h
set_option maxRecDepth 65536 in
theorem w_c0 : (Jvm.Cond.code x code maxLocals ret).before args0 about1 = true := code_word (m := ⟨1, 1⟩) (meth := k1m1) (c := k1c1) (by decide +kernel) rfl rfl rfl (by decide +kernel)
set_option maxRecDepth 65536 in
theorem w_c1 : (Jvm.Cond.code ({ cls := "com/example/libtardy/libtardy/QueueCounts", name := "<init>", desc := "(JJJJ)V" } : Jvm.MethodName) prog_5_method_1_code (9 : Nat) (Option.none : Option Jvm.ClassFile.FieldType)).before args0 about1 = true := code_word (m := ⟨2, 0⟩) (meth := k2m0) (c := k2c0) (by decide +kernel) rfl rfl rfl (by decide +kernel)
set_option maxRecDepth 65536 in
theorem w_c2 : (Jvm.Cond.code ({ cls := "java/lang/Object", name := "<init>", desc := "()V" } : Jvm.MethodName) object_method_1_code (1 : Nat) (Option.none : Option Jvm.ClassFile.FieldType)).before args0 about1 = true := code_word (m := ⟨0, 0⟩) (meth := k0m0) (c := k0c0) (by decide +kernel) rfl rfl rfl (by decide +kernel)
set_option maxRecDepth 65536 in
theorem w_c3 : (Jvm.Cond.code ({ cls := "com/example/libtardy/libtardy/QueueCounts", name := "equals", desc := "(Ljava/lang/Object;)Z" } : Jvm.MethodName) prog_5_method_6_code (3 : Nat) (Option.some Jvm.ClassFile.FieldType.boolean)).before args0 about1 = true := code_word (m := ⟨2, 1⟩) (meth := k2m1) (c := k2c1) (by decide +kernel) rfl rfl rfl (by decide +kernel)
set_option maxRecDepth 65536 in
theorem w_c4 : (Jvm.Cond.code ({ cls := "java/lang/Long", name := "valueOf", desc := "(J)Ljava/lang/Long;" } : Jvm.MethodName) jdk_35_method_24_code (3 : Nat) (Option.some (Jvm.ClassFile.FieldType.object "java/lang/Long"))).before args0 about1 = true := code_word (m := ⟨8, 0⟩) (meth := k8m0) (c := k8c0) (by decide +kernel) rfl rfl rfl (by decide +kernel)
set_option maxRecDepth 65536 in
theorem w_c5 : (Jvm.Cond.code ({ cls := "java/lang/Long", name := "<init>", desc := "(J)V" } : Jvm.MethodName) jdk_35_method_26_code (3 : Nat) (Option.none : Option Jvm.ClassFile.FieldType)).before args0 about1 = true := code_word (m := ⟨8, 1⟩) (meth := k8m1) (c := k8c1) (by decide +kernel) rfl rfl rfl (by decide +kernel)
set_option maxRecDepth 65536 in
theorem w_c6 : (Jvm.Cond.code ({ cls := "java/lang/Number", name := "<init>", desc := "()V" } : Jvm.MethodName) jdk_18_method_1_code (1 : Nat) (Option.none : Option Jvm.ClassFile.FieldType)).before args0 about1 = true := code_word (m := ⟨4, 0⟩) (meth := k4m0) (c := k4c0) (by decide +kernel) rfl rfl rfl (by decide +kernel)
def codes1 : List Jvm.Cond := [Jvm.Cond.code x code maxLocals ret, Jvm.Cond.code ({ cls := "com/example/libtardy/libtardy/QueueCounts", name := "<init>", desc := "(JJJJ)V" } : Jvm.MethodName) prog_5_method_1_code (9 : Nat) (Option.none : Option Jvm.ClassFile.FieldType), Jvm.Cond.code ({ cls := "java/lang/Object", name := "<init>", desc := "()V" } : Jvm.MethodName) object_method_1_code (1 : Nat) (Option.none : Option Jvm.ClassFile.FieldType), Jvm.Cond.code ({ cls := "com/example/libtardy/libtardy/QueueCounts", name := "equals", desc := "(Ljava/lang/Object;)Z" } : Jvm.MethodName) prog_5_method_6_code (3 : Nat) (Option.some Jvm.ClassFile.FieldType.boolean), Jvm.Cond.code ({ cls := "java/lang/Long", name := "valueOf", desc := "(J)Ljava/lang/Long;" } : Jvm.MethodName) jdk_35_method_24_code (3 : Nat) (Option.some (Jvm.ClassFile.FieldType.object "java/lang/Long")), Jvm.Cond.code ({ cls := "java/lang/Long", name := "<init>", desc := "(J)V" } : Jvm.MethodName) jdk_35_method_26_code (3 : Nat) (Option.none : Option Jvm.ClassFile.FieldType), Jvm.Cond.code ({ cls := "java/lang/Number", name := "<init>", desc := "()V" } : Jvm.MethodName) jdk_18_method_1_code (1 : Nat) (Option.none : Option Jvm.ClassFile.FieldType)]
set_option maxRecDepth 65536 in
theorem codes_eq : words1.filter isCode = codes1 := rfl
theorem w_codes : ∀ c ∈ words1.filter isCode, c.before args0 about1 = true := by
  rw [codes_eq]
  intro c hc
  simp only [codes1, List.mem_cons, List.not_mem_nil, or_false] at hc
  rcases hc with rfl | rfl | rfl | rfl | rfl | rfl | rfl
  · exact w_c0
  · exact w_c1
  · exact w_c2
  · exact w_c3
  · exact w_c4
  · exact w_c5
  · exact w_c6
set_option maxRecDepth 65536 in
theorem w_t1 : (words1.take 24).all (fun c => isCode c || c.before args0 about1) = true := by decide +kernel
set_option maxRecDepth 65536 in
theorem w_t2 : ((words1.drop 24).take 24).all (fun c => isCode c || c.before args0 about1) = true := by decide +kernel
set_option maxRecDepth 65536 in
theorem w_t3 : ((words1.drop 24).drop 24).all (fun c => isCode c || c.before args0 about1) = true := by decide +kernel
theorem w_tables : (allAtoms (Jvm.Cond.code x code maxLocals ret :: tables_1)).before args0 about1 = true := by
  rw [allAtoms_all]
  show words1.all (fun c => c.before args0 about1) = true
  refine all_split ?_ w_codes
  rw [← List.take_append_drop 24 words1, List.all_append, w_t1, ← List.take_append_drop 24 (words1.drop 24), List.all_append, w_t2, w_t3]
  rfl
set_option maxRecDepth 65536 in
theorem w_rest : rest_1_c.before args0 about1 = true := by decide +kernel
set_option maxRecDepth 65536 in
theorem w_case : (Jvm.Cond.and given_1 narrow_1).before args0 about1 = true := by decide +kernel
theorem w_applies : (headSpec (Jvm.Cond.code x code maxLocals ret :: tables_1) room_1).applies x e0.platform about1 = true :=
  (Spec.applies_iff w_frames).mpr ⟨w_running, w_runnable, w_alone, w_named, w_hears, w_ripe, w_room, w_tables⟩
theorem atStart : AtStart classFile x code maxLocals ret World_1 tables_1 room_1 Calls_1 rest_1 Pre_1 launch0 p0 e0 about1 theMethod args0 below0 :=
  ⟨lists_1, trivial, launch0.admits_env _ _ _, launch0.least_env, fairChoices_fair.cas, fairChoices_fair.clock, w_frames, w_args, w_heap, w_applies, trivial, w_rest, w_case⟩
end start1
theorem witness_1 : WitnessClaimed_1 := ⟨start1.p0, start1.e0, start1.about1, start1.theMethod, start1.args0, start1.below0, start1.atStart⟩
end Jvm.Pilot.@@N@@
