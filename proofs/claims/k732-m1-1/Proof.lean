import JvmDerived
import JvmDerived.Pilot.@@N@@Statement
import JvmDerived.Pilot.@@N@@Code
set_option linter.unusedVariables false
set_option linter.unusedSimpArgs false
namespace Jvm.RoadKit
open Sem ClassFile Op Lib Jvm.Stand Jvm.Free Jvm.LawKit
section New
variable {p : Program} {l : Launch} {e : Env} {R : Room} {s : State} {m : MethodId} {args : Array Value} {below : List Frame} {meth : Method} {c : Code} {T : State} {locs : List Loc} {cells slots : Nat}
theorem retI (X : Stand p l e R s m args below meth c T locs cells slots) (hx : p.tables.exec = Jvm.exec) {pc : Nat} {Ls : Array Slot} {z : Int32} {rest : List Value} (hret : meth.sig.returnType = some .int) (hd : decode c.code pc = .ok (.ireturn, 1)) {fs : List Frame}
    (hl : ∀ (f : JFrame) (acts : List Action), f.method = m → f.locked = none → f.entered = [] → (doReturn e (T.setTop f) acts (some (.int z))).1 = T.setFrames fs) : Steps p.tables e below (T.setTop (mkF m pc Ls (.int z :: rest))) (T.setFrames fs) := by
  have hm' : T.vm.method? m = some meth := X.method'
  have hn : narrow .int (.int z) = .int z := rfl
  show Steps p.tables e below (T.setTop { method := m, pc := pc, locals := Ls, stack := _ :: rest, locked := none }) _
  jvm_step X.here [X.here.top, hx, hd, hm', hret, hn]
  first | (intro acts; rw [hl _ acts rfl rfl rfl]) | rw [hl _ _ rfl rfl rfl]
  exact Steps.refl _
end New
end Jvm.RoadKit
namespace Jvm.Pilot.@@N@@
open Jvm Jvm.ClassFile Sem Op Lib Jvm.Free Jvm.Stand Jvm.LawKit Jvm.RoadKit Bundle Jvm.Pilot.@@N@@.Jvm.D
theorem own_go {tb : Tables} {e : Env} {below : List Frame} {A B : State} {P : State → Outcome → Prop} (st : ∀ t, Steps tb e below B t → Steps tb e below A t) (k : ∃ t o, Steps tb e below B t ∧ P t o) : ∃ t o, Steps tb e below A t ∧ P t o := by
  obtain ⟨t, o, h1, h2⟩ := k
  exact ⟨t, o, st t h1, h2⟩
theorem own_goT {tb : Tables} {e : Env} {below : List Frame} {A B : State} {P : State → Outcome → Prop} (st : Steps tb e below A B) (k : ∃ t o, Steps tb e below B t ∧ P t o) : ∃ t o, Steps tb e below A t ∧ P t o := by
  obtain ⟨t, o, h1, h2⟩ := k
  exact ⟨t, o, st.trans h1, h2⟩
theorem own_nfo {args : Array Value} {s : State} {C : String} {x y z : MethodName} (hsel : (Jvm.Cond.selects C x z).before args s = true) (e : z.cls = y.cls) : NotFace s y := fun r0 h0 => by
  obtain ⟨c2, r2, m2, q1, q2, q3, q4, kP, hkP, hkPi⟩ := Cond.selects_spec hsel
  have a1 := findClass_of_methodNamed q3
  have a2 := findClass_of_methodNamed h0
  rw [e] at a1
  have e2 := Option.some.inj (a1.symm.trans a2)
  exact ⟨kP, by rw [← e2]; exact hkP, hkPi⟩
theorem own_keep_le {h h' : Heap} {ws : List Addr} (K : Keep h h' ws) : h.size ≤ h'.size := K.1
theorem own_and3 (k : Int32) : k &&& 3 = 0 ∨ k &&& 3 = 1 ∨ k &&& 3 = 2 ∨ k &&& 3 = 3 := by
  have h := c_mask k 3 2 (by decide) (by decide)
  have h1 : ((2 ^ 2 : Nat) : Int) = 4 := rfl
  rw [h1] at h
  have h2 : (k &&& 3).toInt = 0 ∨ (k &&& 3).toInt = 1 ∨ (k &&& 3).toInt = 2 ∨ (k &&& 3).toInt = 3 := by omega
  rcases h2 with h2 | h2 | h2 | h2
  · exact Or.inl (Int32.toInt_inj.mp h2)
  · exact Or.inr (Or.inl (Int32.toInt_inj.mp h2))
  · exact Or.inr (Or.inr (Or.inl (Int32.toInt_inj.mp h2)))
  · exact Or.inr (Or.inr (Or.inr (Int32.toInt_inj.mp h2)))
theorem ef_rm1 (m : MethodId) (x0 : Int32) : entryFrame m #[(.int x0)] 1 = mkF m 0 #[.val (.int x0)] [] := by first | (simp [entryFrame, mkF, argsToLocals, Value.category]; done) | rfl
theorem d1_0 : decode method_2_code 0 = .ok (.iload_n 0, 1) := by decide +kernel
theorem d1_1 : decode method_2_code 1 = .ok (.ifCond .ne 7, 3) := by decide +kernel
theorem d1_4 : decode method_2_code 4 = .ok (.getstatic 7, 3) := by decide +kernel
theorem d1_7 : decode method_2_code 7 = .ok (.areturn, 1) := by decide +kernel
theorem d1_8 : decode method_2_code 8 = .ok (.iload_n 0, 1) := by decide +kernel
theorem d1_9 : decode method_2_code 9 = .ok (.iconst 1, 1) := by decide +kernel
theorem d1_10 : decode method_2_code 10 = .ok (.if_icmp .ne 7, 3) := by decide +kernel
theorem d1_13 : decode method_2_code 13 = .ok (.getstatic 13, 3) := by decide +kernel
theorem d1_16 : decode method_2_code 16 = .ok (.areturn, 1) := by decide +kernel
theorem d1_17 : decode method_2_code 17 = .ok (.iload_n 0, 1) := by decide +kernel
theorem d1_18 : decode method_2_code 18 = .ok (.iconst 2, 1) := by decide +kernel
theorem d1_19 : decode method_2_code 19 = .ok (.if_icmp .ne 7, 3) := by decide +kernel
theorem d1_22 : decode method_2_code 22 = .ok (.getstatic 16, 3) := by decide +kernel
theorem d1_25 : decode method_2_code 25 = .ok (.areturn, 1) := by decide +kernel
theorem d1_26 : decode method_2_code 26 = .ok (.getstatic 19, 3) := by decide +kernel
theorem d1_29 : decode method_2_code 29 = .ok (.areturn, 1) := by decide +kernel
theorem pn_com_example_ipomoea_ipomoea_job_JobStateIsFinalPinLaw : plainName "com/example/ipomoea/ipomoea/job/JobStateIsFinalPinLaw" = true := by first | (simp [plainName, overriddenIn]; done) | decide +kernel
def Q_rm1 (Z : State) (p1 : Int32) (w0 : Addr) (w1 : Addr) (w2 : Addr) (w3 : Addr) (h0 : Heap) (n0 : Nat) (v : Option Value) (h : Heap) (L : List Loc) : Prop := v = some (.ref (if p1 = (0 : Int32) then w0 else if p1 = (1 : Int32) then w1 else if p1 = (2 : Int32) then w2 else w3)) ∧ Fr n0 L ∧ h = h0
set_option maxRecDepth 65536 in
set_option maxHeartbeats 40000000 in
theorem rm1 (l : Launch) (Z : State) (a0 : Array Value) (hw : ∀ d ∈ tables_1, d.before a0 Z = true) (ws : List Jvm.Cond) (p1 : Int32) (w0 : Addr) (w1 : Addr) (w2 : Addr) (w3 : Addr) (h0 : Heap) (n0 : Nat) (Z0 : n0 ≤ h0.size) (OLD : Old Z n0 h0) (P1 : Sta Z Z.heap "com/example/ipomoea/ipomoea/job/JobState" "ENABLED" "Lcom/example/ipomoea/ipomoea/job/JobState;" (.ref w0)) (P2 : Sta Z Z.heap "com/example/ipomoea/ipomoea/job/JobState" "DISABLED" "Lcom/example/ipomoea/ipomoea/job/JobState;" (.ref w1)) (P3 : Sta Z Z.heap "com/example/ipomoea/ipomoea/job/JobState" "COMPLETED" "Lcom/example/ipomoea/ipomoea/job/JobState;" (.ref w2)) (P4 : Sta Z Z.heap "com/example/ipomoea/ipomoea/job/JobState" "FAULTED" "Lcom/example/ipomoea/ipomoea/job/JobState;" (.ref w3)) :
    MetFree l (⟨"com/example/ipomoea/ipomoea/job/JobStateIsFinalPinLaw", "pick", "(I)Lcom/example/ipomoea/ipomoea/job/JobState;"⟩ : MethodName) (head1 (Jvm.Cond.code (⟨"com/example/ipomoea/ipomoea/job/JobStateIsFinalPinLaw", "pick", "(I)Lcom/example/ipomoea/ipomoea/job/JobState;"⟩ : MethodName) method_2_code 1 (some (.object "com/example/ipomoea/ipomoea/job/JobState")) :: ws) ({ frames := 0, cells := 0, slots := 0, locals := 0 } : Room)) (fun a U => a = #[(.int p1)] ∧ Z.Warmed39 U.vm ∧ U.heap = h0) (fun _ _ _ _ _ => True) (fun _ U o U' => ∃ v L, o = .returned v ∧ Q_rm1 Z p1 w0 w1 w2 w3 h0 n0 v U'.heap L ∧ FrameEnd U o U' L ({ frames := 0, cells := 0, slots := 0, locals := 0 } : Room).cells ({ frames := 0, cells := 0, slots := 0, locals := 0 } : Room).slots) := by
  refine MetFree.of_bodySF (plainFor_of_name pn_com_example_ipomoea_ipomoea_job_JobStateIsFinalPinLaw) hisR ?_
  intro p e s m args below meth c s₁ Bd hml0 hP hK
  obtain ⟨rfl, hZ, hh⟩ := hP
  have hx := Bd.exec
  have hby := Bd.bytes
  have hml : c.maxLocals = 1 := hml0
  have hown : s.vm.findClass "com/example/ipomoea/ipomoea/job/JobStateIsFinalPinLaw" = some m.cls := findClass_of_methodNamed Bd.named
  have hnm := (name_of_methodNamed Bd.named Bd.method).1
  have X0 : Stand p l e ({ frames := 0, cells := 0, slots := 0, locals := 0 } : Room) s m #[(.int p1)] below meth c s₁ [] 0 0 := Stand.of_body Bd
  have e0 : s₁.heap = h0 := by rw [← hh, Bd.state]; rfl
  have N0 := Fr.nil n0
  have pre0 : ∀ t, Steps p.tables e below (s₁.setTop (mkF m 0 #[.val (.int p1)] [])) t → Steps p.tables e below (s₁.setTop (entryFrame m #[(.int p1)] 1)) t := fun t k => castTop (ef_rm1 m p1) k
  have oz := OLD.1
  refine own_go (B := s₁.setTop (mkF m 0 #[.val (.int p1)] [])) pre0 ?_
  show ∃ t o, Steps p.tables e below (s₁.setTop (mkF m 0 #[.val (.int p1)] [])) t ∧ _
  refine own_go (fun _ => XS.iloadN X0.here hx rfl (hb hby d1_0) rfl) ?_
  show ∃ t o, Steps p.tables e below (s₁.setTop (mkF m 1 #[.val (.int p1)] [(.int p1)])) t ∧ _
  by_cases hc5 : p1 = (0 : Int32)
  · refine own_go (fun _ => XS.ifNo X0.here hx rfl (hb hby d1_1) rfl ((if0 _ _).trans (teq hc5).2)) ?_
    show ∃ t o, Steps p.tables e below (s₁.setTop (mkF m 4 #[.val (.int p1)] [])) t ∧ _
    obtain ⟨T6, X6, e6, st6⟩ := getS2 X0 hx hZ hown (host := "") (Or.inl (hw _ (List.mem_of_getElem? (i := 4) rfl))) Via.refl e0 (Sta.ext OLD.2 P1) (g := (mkF m 4 #[.val (.int p1)] [])) rfl (hb hby d1_4)
    refine own_go st6 ?_
    show ∃ t o, Steps p.tables e below (T6.setTop (mkF m 7 #[.val (.int p1)] [(.ref w0)])) t ∧ _
    obtain ⟨fs, hr, hrun, hended, hW, hsame⟩ := X6.leave (v := some (.ref w0)) (fun h => by rw [Bd.returns] at h; cases h)
    refine ⟨_, _, ?_, hrun, hended, _, _, rfl, ?_, ⟨_, rfl⟩, hW, hsame.mono (by decide) (by decide)⟩
    · jvm_step X6.here [X6.here.top, hx, (hb hby d1_7), X6.method', Bd.returns, Value.isRef, FieldType.isReference]
      first | (intro acts; rw [hr _ acts rfl rfl rfl]) | rw [hr _ _ rfl rfl rfl]
      exact Steps.refl _
    · show Q_rm1 Z p1 w0 w1 w2 w3 h0 n0 _ T6.heap _
      rw [e6]
      exact ⟨(by simp only [if_pos hc5]), N0, rfl⟩
  · refine own_go (fun _ => XS.ifYes X0.here hx rfl (pc0 := 1) (pc' := 8) rfl (hb hby d1_1) rfl ((if0 _ _).trans (feq hc5).2) (by decide) (by decide)) ?_
    show ∃ t o, Steps p.tables e below (s₁.setTop (mkF m 8 #[.val (.int p1)] [])) t ∧ _
    refine own_go (fun _ => XS.iloadN X0.here hx rfl (hb hby d1_8) rfl) ?_
    show ∃ t o, Steps p.tables e below (s₁.setTop (mkF m 9 #[.val (.int p1)] [(.int p1)])) t ∧ _
    refine own_go (fun _ => XS.iconst X0.here hx rfl (hb hby d1_9)) ?_
    show ∃ t o, Steps p.tables e below (s₁.setTop (mkF m 10 #[.val (.int p1)] [(.int (1 : Int32)), (.int p1)])) t ∧ _
    by_cases hc7 : p1 = (1 : Int32)
    · refine own_go (fun _ => XS.icmpNo X0.here hx rfl (hb hby d1_10) rfl (teq hc7).2) ?_
      show ∃ t o, Steps p.tables e below (s₁.setTop (mkF m 13 #[.val (.int p1)] [])) t ∧ _
      obtain ⟨T8, X8, e8, st8⟩ := getS2 X0 hx hZ hown (host := "") (Or.inl (hw _ (List.mem_of_getElem? (i := 18) rfl))) Via.refl e0 (Sta.ext OLD.2 P2) (g := (mkF m 13 #[.val (.int p1)] [])) rfl (hb hby d1_13)
      refine own_go st8 ?_
      show ∃ t o, Steps p.tables e below (T8.setTop (mkF m 16 #[.val (.int p1)] [(.ref w1)])) t ∧ _
      obtain ⟨fs, hr, hrun, hended, hW, hsame⟩ := X8.leave (v := some (.ref w1)) (fun h => by rw [Bd.returns] at h; cases h)
      refine ⟨_, _, ?_, hrun, hended, _, _, rfl, ?_, ⟨_, rfl⟩, hW, hsame.mono (by decide) (by decide)⟩
      · jvm_step X8.here [X8.here.top, hx, (hb hby d1_16), X8.method', Bd.returns, Value.isRef, FieldType.isReference]
        first | (intro acts; rw [hr _ acts rfl rfl rfl]) | rw [hr _ _ rfl rfl rfl]
        exact Steps.refl _
      · show Q_rm1 Z p1 w0 w1 w2 w3 h0 n0 _ T8.heap _
        rw [e8]
        exact ⟨(by simp only [if_neg hc5, if_pos hc7]), N0, rfl⟩
    · refine own_go (fun _ => XS.icmpYes X0.here hx rfl (pc0 := 10) (pc' := 17) rfl (hb hby d1_10) rfl (feq hc7).2 (by decide) (by decide)) ?_
      show ∃ t o, Steps p.tables e below (s₁.setTop (mkF m 17 #[.val (.int p1)] [])) t ∧ _
      refine own_go (fun _ => XS.iloadN X0.here hx rfl (hb hby d1_17) rfl) ?_
      show ∃ t o, Steps p.tables e below (s₁.setTop (mkF m 18 #[.val (.int p1)] [(.int p1)])) t ∧ _
      refine own_go (fun _ => XS.iconst X0.here hx rfl (hb hby d1_18)) ?_
      show ∃ t o, Steps p.tables e below (s₁.setTop (mkF m 19 #[.val (.int p1)] [(.int (2 : Int32)), (.int p1)])) t ∧ _
      by_cases hc9 : p1 = (2 : Int32)
      · refine own_go (fun _ => XS.icmpNo X0.here hx rfl (hb hby d1_19) rfl (teq hc9).2) ?_
        show ∃ t o, Steps p.tables e below (s₁.setTop (mkF m 22 #[.val (.int p1)] [])) t ∧ _
        obtain ⟨T10, X10, e10, st10⟩ := getS2 X0 hx hZ hown (host := "") (Or.inl (hw _ (List.mem_of_getElem? (i := 17) rfl))) Via.refl e0 (Sta.ext OLD.2 P3) (g := (mkF m 22 #[.val (.int p1)] [])) rfl (hb hby d1_22)
        refine own_go st10 ?_
        show ∃ t o, Steps p.tables e below (T10.setTop (mkF m 25 #[.val (.int p1)] [(.ref w2)])) t ∧ _
        obtain ⟨fs, hr, hrun, hended, hW, hsame⟩ := X10.leave (v := some (.ref w2)) (fun h => by rw [Bd.returns] at h; cases h)
        refine ⟨_, _, ?_, hrun, hended, _, _, rfl, ?_, ⟨_, rfl⟩, hW, hsame.mono (by decide) (by decide)⟩
        · jvm_step X10.here [X10.here.top, hx, (hb hby d1_25), X10.method', Bd.returns, Value.isRef, FieldType.isReference]
          first | (intro acts; rw [hr _ acts rfl rfl rfl]) | rw [hr _ _ rfl rfl rfl]
          exact Steps.refl _
        · show Q_rm1 Z p1 w0 w1 w2 w3 h0 n0 _ T10.heap _
          rw [e10]
          exact ⟨(by simp only [if_neg hc5, if_neg hc7, if_pos hc9]), N0, rfl⟩
      · refine own_go (fun _ => XS.icmpYes X0.here hx rfl (pc0 := 19) (pc' := 26) rfl (hb hby d1_19) rfl (feq hc9).2 (by decide) (by decide)) ?_
        show ∃ t o, Steps p.tables e below (s₁.setTop (mkF m 26 #[.val (.int p1)] [])) t ∧ _
        obtain ⟨T11, X11, e11, st11⟩ := getS2 X0 hx hZ hown (host := "") (Or.inl (hw _ (List.mem_of_getElem? (i := 16) rfl))) Via.refl e0 (Sta.ext OLD.2 P4) (g := (mkF m 26 #[.val (.int p1)] [])) rfl (hb hby d1_26)
        refine own_go st11 ?_
        show ∃ t o, Steps p.tables e below (T11.setTop (mkF m 29 #[.val (.int p1)] [(.ref w3)])) t ∧ _
        obtain ⟨fs, hr, hrun, hended, hW, hsame⟩ := X11.leave (v := some (.ref w3)) (fun h => by rw [Bd.returns] at h; cases h)
        refine ⟨_, _, ?_, hrun, hended, _, _, rfl, ?_, ⟨_, rfl⟩, hW, hsame.mono (by decide) (by decide)⟩
        · jvm_step X11.here [X11.here.top, hx, (hb hby d1_29), X11.method', Bd.returns, Value.isRef, FieldType.isReference]
          first | (intro acts; rw [hr _ acts rfl rfl rfl]) | rw [hr _ _ rfl rfl rfl]
          exact Steps.refl _
        · show Q_rm1 Z p1 w0 w1 w2 w3 h0 n0 _ T11.heap _
          rw [e11]
          exact ⟨(by simp only [if_neg hc5, if_neg hc7, if_neg hc9]), N0, rfl⟩
theorem ef_rm2 (m : MethodId) (x0 : Addr) : entryFrame m #[(.ref x0)] 1 = mkF m 0 #[.val (.ref x0)] [] := by first | (simp [entryFrame, mkF, argsToLocals, Value.category]; done) | rfl
theorem d2_0 : decode prog_15_method_4_code 0 = .ok (.aload_n 0, 1) := by decide +kernel
theorem d2_1 : decode prog_15_method_4_code 1 = .ok (.getstatic 10, 3) := by decide +kernel
theorem d2_4 : decode prog_15_method_4_code 4 = .ok (.if_acmp .eq 10, 3) := by decide +kernel
theorem d2_14 : decode prog_15_method_4_code 14 = .ok (.iconst 1, 1) := by decide +kernel
theorem d2_15 : decode prog_15_method_4_code 15 = .ok (.goto 4, 3) := by decide +kernel
theorem d2_19 : decode prog_15_method_4_code 19 = .ok (.ireturn, 1) := by decide +kernel
theorem d2_7 : decode prog_15_method_4_code 7 = .ok (.aload_n 0, 1) := by decide +kernel
theorem d2_8 : decode prog_15_method_4_code 8 = .ok (.getstatic 13, 3) := by decide +kernel
theorem d2_11 : decode prog_15_method_4_code 11 = .ok (.if_acmp .ne 7, 3) := by decide +kernel
theorem d2_18 : decode prog_15_method_4_code 18 = .ok (.iconst 0, 1) := by decide +kernel
theorem pn_com_example_ipomoea_ipomoea_job_JobState : plainName "com/example/ipomoea/ipomoea/job/JobState" = true := by first | (simp [plainName, overriddenIn]; done) | decide +kernel
def Q_rm2 (Z : State) (o1 : Addr) (w2 : Addr) (w3 : Addr) (h0 : Heap) (n0 : Nat) (v : Option Value) (h : Heap) (L : List Loc) : Prop := v = some (.int (if o1 = w2 then (1 : Int32) else if o1 = w3 then (1 : Int32) else (0 : Int32))) ∧ Fr n0 L ∧ h = h0
set_option maxRecDepth 65536 in
set_option maxHeartbeats 40000000 in
theorem rm2 (l : Launch) (Z : State) (a0 : Array Value) (hw : ∀ d ∈ tables_1, d.before a0 Z = true) (ws : List Jvm.Cond) (o1 : Addr) (w2 : Addr) (w3 : Addr) (h0 : Heap) (n0 : Nat) (Z0 : n0 ≤ h0.size) (OLD : Old Z n0 h0) (P1 : Sta Z Z.heap "com/example/ipomoea/ipomoea/job/JobState" "COMPLETED" "Lcom/example/ipomoea/ipomoea/job/JobState;" (.ref w2)) (P2 : Sta Z Z.heap "com/example/ipomoea/ipomoea/job/JobState" "FAULTED" "Lcom/example/ipomoea/ipomoea/job/JobState;" (.ref w3)) :
    MetFree l (⟨"com/example/ipomoea/ipomoea/job/JobState", "isFinal", "()Z"⟩ : MethodName) (head1 (Jvm.Cond.code (⟨"com/example/ipomoea/ipomoea/job/JobState", "isFinal", "()Z"⟩ : MethodName) prog_15_method_4_code 1 (some .boolean) :: ws) ({ frames := 0, cells := 0, slots := 0, locals := 0 } : Room)) (fun a U => a = #[(.ref o1)] ∧ Z.Warmed39 U.vm ∧ U.heap = h0) (fun _ _ _ _ _ => True) (fun _ U o U' => ∃ v L, o = .returned v ∧ Q_rm2 Z o1 w2 w3 h0 n0 v U'.heap L ∧ FrameEnd U o U' L ({ frames := 0, cells := 0, slots := 0, locals := 0 } : Room).cells ({ frames := 0, cells := 0, slots := 0, locals := 0 } : Room).slots) := by
  refine MetFree.of_bodySF (plainFor_of_name pn_com_example_ipomoea_ipomoea_job_JobState) hisR ?_
  intro p e s m args below meth c s₁ Bd hml0 hP hK
  obtain ⟨rfl, hZ, hh⟩ := hP
  have hx := Bd.exec
  have hby := Bd.bytes
  have hml : c.maxLocals = 1 := hml0
  have hown : s.vm.findClass "com/example/ipomoea/ipomoea/job/JobState" = some m.cls := findClass_of_methodNamed Bd.named
  have hnm := (name_of_methodNamed Bd.named Bd.method).1
  have X0 : Stand p l e ({ frames := 0, cells := 0, slots := 0, locals := 0 } : Room) s m #[(.ref o1)] below meth c s₁ [] 0 0 := Stand.of_body Bd
  have e0 : s₁.heap = h0 := by rw [← hh, Bd.state]; rfl
  have N0 := Fr.nil n0
  have pre0 : ∀ t, Steps p.tables e below (s₁.setTop (mkF m 0 #[.val (.ref o1)] [])) t → Steps p.tables e below (s₁.setTop (entryFrame m #[(.ref o1)] 1)) t := fun t k => castTop (ef_rm2 m o1) k
  have oz := OLD.1
  refine own_go (B := s₁.setTop (mkF m 0 #[.val (.ref o1)] [])) pre0 ?_
  show ∃ t o, Steps p.tables e below (s₁.setTop (mkF m 0 #[.val (.ref o1)] [])) t ∧ _
  refine own_go (fun _ => XS.aloadN X0.here hx rfl (hb hby d2_0) rfl rfl) ?_
  show ∃ t o, Steps p.tables e below (s₁.setTop (mkF m 1 #[.val (.ref o1)] [(.ref o1)])) t ∧ _
  obtain ⟨T3, X3, e3, st3⟩ := getS2 X0 hx hZ hown (host := "") (Or.inl (hw _ (List.mem_of_getElem? (i := 12) rfl))) Via.refl e0 (Sta.ext OLD.2 P1) (g := (mkF m 1 #[.val (.ref o1)] [(.ref o1)])) rfl (hb hby d2_1)
  refine own_go st3 ?_
  show ∃ t o, Steps p.tables e below (T3.setTop (mkF m 4 #[.val (.ref o1)] [(.ref w2), (.ref o1)])) t ∧ _
  by_cases hc4 : o1 = w2
  · refine own_go (fun _ => Jvm.RoadKit.acmp (g := (mkF m 4 #[.val (.ref o1)] [(.ref w2), (.ref o1)])) X3 hx rfl rfl rfl (pc0 := 4) (pc' := 14) (same := true) rfl (hb hby d2_4) rfl (decide_eq_true (congrArg Value.ref hc4)) (by decide) (by decide)) ?_
    show ∃ t o, Steps p.tables e below (T3.setTop (mkF m 14 #[.val (.ref o1)] [])) t ∧ _
    refine own_go (fun _ => XS.iconst X3.here hx rfl (hb hby d2_14)) ?_
    show ∃ t o, Steps p.tables e below (T3.setTop (mkF m 15 #[.val (.ref o1)] [(.int (1 : Int32))])) t ∧ _
    refine own_go (fun _ => XS.goto X3.here hx rfl (pc0 := 15) (pc' := 19) rfl (hb hby d2_15) (by decide) (by decide)) ?_
    show ∃ t o, Steps p.tables e below (T3.setTop (mkF m 19 #[.val (.ref o1)] [(.int (1 : Int32))])) t ∧ _
    obtain ⟨fs, hr, hrun, hended, hW, hsame⟩ := X3.leave (v := some (.int (1 : Int32))) (fun h => by rw [Bd.returns] at h; cases h)
    refine ⟨_, _, ?_, hrun, hended, _, _, rfl, ?_, ⟨_, rfl⟩, hW, hsame.mono (by decide) (by decide)⟩
    · exact retN X3 hx (t := .boolean) Bd.returns (by simp) (hb hby d2_19) hr
    · show Q_rm2 Z o1 w2 w3 h0 n0 _ T3.heap _
      rw [e3]
      exact ⟨(by simp only [if_pos hc4]), N0, rfl⟩
  · refine own_go (fun _ => Jvm.RoadKit.acmp (g := (mkF m 4 #[.val (.ref o1)] [(.ref w2), (.ref o1)])) X3 hx rfl rfl rfl (pc0 := 4) (pc' := 7) (same := false) rfl (hb hby d2_4) rfl (decide_eq_false fun q => hc4 (Value.ref.inj q)) (by decide) (by decide)) ?_
    show ∃ t o, Steps p.tables e below (T3.setTop (mkF m 7 #[.val (.ref o1)] [])) t ∧ _
    refine own_go (fun _ => XS.aloadN X3.here hx rfl (hb hby d2_7) rfl rfl) ?_
    show ∃ t o, Steps p.tables e below (T3.setTop (mkF m 8 #[.val (.ref o1)] [(.ref o1)])) t ∧ _
    obtain ⟨T5, X5, e5, st5⟩ := getS2 X3 hx hZ hown (host := "") (Or.inl (hw _ (List.mem_of_getElem? (i := 14) rfl))) Via.refl e3 (Sta.ext OLD.2 P2) (g := (mkF m 8 #[.val (.ref o1)] [(.ref o1)])) rfl (hb hby d2_8)
    refine own_go st5 ?_
    show ∃ t o, Steps p.tables e below (T5.setTop (mkF m 11 #[.val (.ref o1)] [(.ref w3), (.ref o1)])) t ∧ _
    by_cases hc6 : o1 = w3
    · refine own_go (fun _ => Jvm.RoadKit.acmp (g := (mkF m 11 #[.val (.ref o1)] [(.ref w3), (.ref o1)])) X5 hx rfl rfl rfl (pc0 := 11) (pc' := 14) (same := true) rfl (hb hby d2_11) rfl (decide_eq_true (congrArg Value.ref hc6)) (by decide) (by decide)) ?_
      show ∃ t o, Steps p.tables e below (T5.setTop (mkF m 14 #[.val (.ref o1)] [])) t ∧ _
      refine own_go (fun _ => XS.iconst X5.here hx rfl (hb hby d2_14)) ?_
      show ∃ t o, Steps p.tables e below (T5.setTop (mkF m 15 #[.val (.ref o1)] [(.int (1 : Int32))])) t ∧ _
      refine own_go (fun _ => XS.goto X5.here hx rfl (pc0 := 15) (pc' := 19) rfl (hb hby d2_15) (by decide) (by decide)) ?_
      show ∃ t o, Steps p.tables e below (T5.setTop (mkF m 19 #[.val (.ref o1)] [(.int (1 : Int32))])) t ∧ _
      obtain ⟨fs, hr, hrun, hended, hW, hsame⟩ := X5.leave (v := some (.int (1 : Int32))) (fun h => by rw [Bd.returns] at h; cases h)
      refine ⟨_, _, ?_, hrun, hended, _, _, rfl, ?_, ⟨_, rfl⟩, hW, hsame.mono (by decide) (by decide)⟩
      · exact retN X5 hx (t := .boolean) Bd.returns (by simp) (hb hby d2_19) hr
      · show Q_rm2 Z o1 w2 w3 h0 n0 _ T5.heap _
        rw [e5]
        exact ⟨(by simp only [if_neg hc4, if_pos hc6]), N0, rfl⟩
    · refine own_go (fun _ => Jvm.RoadKit.acmp (g := (mkF m 11 #[.val (.ref o1)] [(.ref w3), (.ref o1)])) X5 hx rfl rfl rfl (pc0 := 11) (pc' := 18) (same := false) rfl (hb hby d2_11) rfl (decide_eq_false fun q => hc6 (Value.ref.inj q)) (by decide) (by decide)) ?_
      show ∃ t o, Steps p.tables e below (T5.setTop (mkF m 18 #[.val (.ref o1)] [])) t ∧ _
      refine own_go (fun _ => XS.iconst X5.here hx rfl (hb hby d2_18)) ?_
      show ∃ t o, Steps p.tables e below (T5.setTop (mkF m 19 #[.val (.ref o1)] [(.int (0 : Int32))])) t ∧ _
      obtain ⟨fs, hr, hrun, hended, hW, hsame⟩ := X5.leave (v := some (.int (0 : Int32))) (fun h => by rw [Bd.returns] at h; cases h)
      refine ⟨_, _, ?_, hrun, hended, _, _, rfl, ?_, ⟨_, rfl⟩, hW, hsame.mono (by decide) (by decide)⟩
      · exact retN X5 hx (t := .boolean) Bd.returns (by simp) (hb hby d2_19) hr
      · show Q_rm2 Z o1 w2 w3 h0 n0 _ T5.heap _
        rw [e5]
        exact ⟨(by simp only [if_neg hc4, if_neg hc6]), N0, rfl⟩
theorem ef_rm0 (m : MethodId) (x0 : Int32) : entryFrame m #[(.int x0)] maxLocals = mkF m 0 #[.val (.int x0), .unset, .unset, .unset] [] := by first | (simp [entryFrame, mkF, argsToLocals, Value.category, maxLocals]; done) | rfl
theorem pd_h2ff911f7 : parseMethodDescriptor "(I)Lcom/example/ipomoea/ipomoea/job/JobState;" = some ⟨[.int], some (.object "com/example/ipomoea/ipomoea/job/JobState")⟩ := by decide +kernel
theorem pd__28_29Z : parseMethodDescriptor "()Z" = some ⟨[], some .boolean⟩ := by decide +kernel
def Q_rm0 (Z : State) (k1 : Int32) (w0 : Addr) (w1 : Addr) (w2 : Addr) (w3 : Addr) (h0 : Heap) (n0 : Nat) (v : Option Value) (h : Heap) (L : List Loc) : Prop := v = some (.int (1 : Int32)) ∧ Fr n0 L ∧ Keep h0 h []
set_option maxRecDepth 65536 in
set_option maxHeartbeats 40000000 in
theorem rm0 (l : Launch) (Z : State) (a0 : Array Value) (hw : ∀ d ∈ tables_1, d.before a0 Z = true) (ws : List Jvm.Cond) (k1 : Int32) (w0 : Addr) (w1 : Addr) (w2 : Addr) (w3 : Addr) (h0 : Heap) (n0 : Nat) (Z0 : n0 ≤ h0.size) (OLD : Old Z n0 h0) (P1 : Sta Z Z.heap "com/example/ipomoea/ipomoea/job/JobState" "ENABLED" "Lcom/example/ipomoea/ipomoea/job/JobState;" (.ref w0)) (P2 : Sta Z Z.heap "com/example/ipomoea/ipomoea/job/JobState" "DISABLED" "Lcom/example/ipomoea/ipomoea/job/JobState;" (.ref w1)) (P3 : Sta Z Z.heap "com/example/ipomoea/ipomoea/job/JobState" "COMPLETED" "Lcom/example/ipomoea/ipomoea/job/JobState;" (.ref w2)) (P4 : Sta Z Z.heap "com/example/ipomoea/ipomoea/job/JobState" "FAULTED" "Lcom/example/ipomoea/ipomoea/job/JobState;" (.ref w3)) (P5 : Exa Z Z.heap w0 "com/example/ipomoea/ipomoea/job/JobState") (P6 : Exa Z Z.heap w1 "com/example/ipomoea/ipomoea/job/JobState") (P7 : Exa Z Z.heap w2 "com/example/ipomoea/ipomoea/job/JobState") (P8 : Exa Z Z.heap w3 "com/example/ipomoea/ipomoea/job/JobState") (n02 : ¬ (w0 = w2)) (n03 : ¬ (w0 = w3)) (n12 : ¬ (w1 = w2)) (n13 : ¬ (w1 = w3)) :
    MetFree l x (head1 (Jvm.Cond.code x code maxLocals ret :: ws) room_1) (fun a U => a = #[(.int k1)] ∧ Z.Warmed39 U.vm ∧ U.heap = h0) (fun _ _ _ _ _ => True) (fun _ U o U' => ∃ v L, o = .returned v ∧ Q_rm0 Z k1 w0 w1 w2 w3 h0 n0 v U'.heap L ∧ FrameEnd U o U' L room_1.cells room_1.slots) := by
  refine MetFree.of_bodySF (plainFor_of_name pn_com_example_ipomoea_ipomoea_job_JobStateIsFinalPinLaw) hisR ?_
  intro p e s m args below meth c s₁ Bd hml0 hP hK
  obtain ⟨rfl, hZ, hh⟩ := hP
  have hx := Bd.exec
  have hby := Bd.bytes
  have hml : c.maxLocals = 4 := hml0
  have hown : s.vm.findClass "com/example/ipomoea/ipomoea/job/JobStateIsFinalPinLaw" = some m.cls := findClass_of_methodNamed Bd.named
  have hnm := (name_of_methodNamed Bd.named Bd.method).1
  have X0 : Stand p l e room_1 s m #[(.int k1)] below meth c s₁ [] 0 0 := Stand.of_body Bd
  have e0 : s₁.heap = h0 := by rw [← hh, Bd.state]; rfl
  have N0 := Fr.nil n0
  have pre0 : ∀ t, Steps p.tables e below (s₁.setTop (mkF m 0 #[.val (.int k1), .unset, .unset, .unset] [])) t → Steps p.tables e below (s₁.setTop (entryFrame m #[(.int k1)] maxLocals)) t := fun t k => castTop (ef_rm0 m k1) k
  have oz := OLD.1
  have lt_w0 := P5.lt
  have lt_w1 := P6.lt
  have lt_w2 := P7.lt
  have lt_w3 := P8.lt
  refine own_go (B := s₁.setTop (mkF m 0 #[.val (.int k1), .unset, .unset, .unset] [])) pre0 ?_
  show ∃ t o, Steps p.tables e below (s₁.setTop (mkF m 0 #[.val (.int k1), .unset, .unset, .unset] [])) t ∧ _
  refine own_go (fun _ => XS.iloadN X0.here hx rfl (hb hby at_0) rfl) ?_
  show ∃ t o, Steps p.tables e below (s₁.setTop (mkF m 1 #[.val (.int k1), .unset, .unset, .unset] [(.int k1)])) t ∧ _
  refine own_go (fun _ => XS.iconst X0.here hx rfl (hb hby at_1)) ?_
  show ∃ t o, Steps p.tables e below (s₁.setTop (mkF m 2 #[.val (.int k1), .unset, .unset, .unset] [(.int (3 : Int32)), (.int k1)])) t ∧ _
  refine own_go (fun _ => XS.iand X0.here hx rfl (hb hby at_2) rfl) ?_
  show ∃ t o, Steps p.tables e below (s₁.setTop (mkF m 3 #[.val (.int k1), .unset, .unset, .unset] [(.int (k1 &&& (3 : Int32)))])) t ∧ _
  refine own_go (fun _ => XS.istoreN X0.here hx rfl (hb hby at_3) rfl (l' := #[.val (.int k1), .val (.int (k1 &&& (3 : Int32))), .unset, .unset]) rfl) ?_
  show ∃ t o, Steps p.tables e below (s₁.setTop (mkF m 4 #[.val (.int k1), .val (.int (k1 &&& (3 : Int32))), .unset, .unset] [])) t ∧ _
  rcases own_and3 k1 with hk | hk | hk | hk
  · rw [hk]
    show ∃ t o, Steps p.tables e below (s₁.setTop (mkF m 4 #[.val (.int k1), .val (.int (0 : Int32)), .unset, .unset] [])) t ∧ _
    refine own_go (fun _ => XS.iloadN X0.here hx rfl (hb hby at_4) rfl) ?_
    show ∃ t o, Steps p.tables e below (s₁.setTop (mkF m 5 #[.val (.int k1), .val (.int (0 : Int32)), .unset, .unset] [(.int (0 : Int32))])) t ∧ _
    obtain ⟨_, _, ⟨T9, L9, k9, n9⟩, -, X9, ⟨Lc9, hQ9, l9, y9, z9⟩, st9⟩ := Jvm.LawKit.callS X0 hx (y := (⟨"com/example/ipomoea/ipomoea/job/JobStateIsFinalPinLaw", "pick", "(I)Lcom/example/ipomoea/ipomoea/job/JobState;"⟩ : MethodName)) hown (mvT hZ (hw _ (List.mem_of_getElem? (i := 0) rfl))) (mvT hZ (hw _ (List.mem_of_getElem? (i := 1) rfl))) (mvT hZ (hw _ (List.mem_of_getElem? (i := 2) rfl))) (mvT hZ (hw _ (List.mem_of_getElem? (i := 3) rfl))) (by decide) (backOf (W := 0) (rm1 l Z a0 hw [] (0 : Int32) w0 w1 w2 w3 h0 n0 Z0 OLD P1 P2 P3 P4) hZ (hw _ (List.mem_of_getElem? (i := 3) rfl)) (hw _ (List.mem_of_getElem? (i := 2) rfl)) (by decide) (by decide)) (g := (mkF m 5 #[.val (.int k1), .val (.int (0 : Int32)), .unset, .unset] [(.int (0 : Int32))])) rfl (by rw [hml]; rfl) (argsL := [(.int (0 : Int32))]) (rest := []) (lenOf pd_h2ff911f7 rfl) rfl (by show 2 * 0 + _ ≤ _; exact Nat.le_of_eq rfl) (hb hby at_5) (fun _ _ => ⟨rfl, e0, (by decide : 0 + 0 ≤ _), (by decide : 0 + 0 ≤ _)⟩)
    dsimp only [Pt.U, Pt.locs, Pt.cells, Pt.slots] at X9 l9 y9 z9 st9 hQ9
    subst l9 y9 z9
    obtain ⟨rfl, Nq9, e9⟩ := hQ9
    have N9 := Fr.app N0 Nq9
    refine own_go st9 ?_
    show ∃ t o, Steps p.tables e below (T9.setTop (mkF m 8 #[.val (.int k1), .val (.int (0 : Int32)), .unset, .unset] [(.ref (if (0 : Int32) = (0 : Int32) then w0 else if (0 : Int32) = (1 : Int32) then w1 else if (0 : Int32) = (2 : Int32) then w2 else w3))])) t ∧ _
    rw [show (if (0 : Int32) = (0 : Int32) then w0 else if (0 : Int32) = (1 : Int32) then w1 else if (0 : Int32) = (2 : Int32) then w2 else w3) = w0 from rfl]
    show ∃ t o, Steps p.tables e below (T9.setTop (mkF m 8 #[.val (.int k1), .val (.int (0 : Int32)), .unset, .unset] [(.ref w0)])) t ∧ _
    refine own_go (fun _ => XS.astoreN X9.here hx rfl (hb hby at_8) rfl rfl (l' := #[.val (.int k1), .val (.int (0 : Int32)), .val (.ref w0), .unset]) rfl) ?_
    show ∃ t o, Steps p.tables e below (T9.setTop (mkF m 9 #[.val (.int k1), .val (.int (0 : Int32)), .val (.ref w0), .unset] [])) t ∧ _
    refine own_go (fun _ => XS.iloadN X9.here hx rfl (hb hby at_9) rfl) ?_
    show ∃ t o, Steps p.tables e below (T9.setTop (mkF m 10 #[.val (.int k1), .val (.int (0 : Int32)), .val (.ref w0), .unset] [(.int (0 : Int32))])) t ∧ _
    refine own_go (fun _ => XS.iconst X9.here hx rfl (hb hby at_10)) ?_
    show ∃ t o, Steps p.tables e below (T9.setTop (mkF m 11 #[.val (.int k1), .val (.int (0 : Int32)), .val (.ref w0), .unset] [(.int (2 : Int32)), (.int (0 : Int32))])) t ∧ _
    refine own_go (fun _ => XS.icmpNo X9.here hx rfl (hb hby at_11) rfl (feq (by decide : ¬ ((0 : Int32) = (2 : Int32)))).1) ?_
    show ∃ t o, Steps p.tables e below (T9.setTop (mkF m 14 #[.val (.int k1), .val (.int (0 : Int32)), .val (.ref w0), .unset] [])) t ∧ _
    refine own_go (fun _ => XS.iloadN X9.here hx rfl (hb hby at_14) rfl) ?_
    show ∃ t o, Steps p.tables e below (T9.setTop (mkF m 15 #[.val (.int k1), .val (.int (0 : Int32)), .val (.ref w0), .unset] [(.int (0 : Int32))])) t ∧ _
    refine own_go (fun _ => XS.iconst X9.here hx rfl (hb hby at_15)) ?_
    show ∃ t o, Steps p.tables e below (T9.setTop (mkF m 16 #[.val (.int k1), .val (.int (0 : Int32)), .val (.ref w0), .unset] [(.int (3 : Int32)), (.int (0 : Int32))])) t ∧ _
    refine own_go (fun _ => XS.icmpYes X9.here hx rfl (pc0 := 16) (pc' := 23) rfl (hb hby at_16) rfl (feq (by decide : ¬ ((0 : Int32) = (3 : Int32)))).2 (by decide) (by decide)) ?_
    show ∃ t o, Steps p.tables e below (T9.setTop (mkF m 23 #[.val (.int k1), .val (.int (0 : Int32)), .val (.ref w0), .unset] [])) t ∧ _
    refine own_go (fun _ => XS.iconst X9.here hx rfl (hb hby at_23)) ?_
    show ∃ t o, Steps p.tables e below (T9.setTop (mkF m 24 #[.val (.int k1), .val (.int (0 : Int32)), .val (.ref w0), .unset] [(.int (0 : Int32))])) t ∧ _
    refine own_go (fun _ => XS.istoreN X9.here hx rfl (hb hby at_24) rfl (l' := #[.val (.int k1), .val (.int (0 : Int32)), .val (.ref w0), .val (.int (0 : Int32))]) rfl) ?_
    show ∃ t o, Steps p.tables e below (T9.setTop (mkF m 25 #[.val (.int k1), .val (.int (0 : Int32)), .val (.ref w0), .val (.int (0 : Int32))] [])) t ∧ _
    refine own_go (fun _ => XS.aloadN X9.here hx rfl (hb hby at_25) rfl rfl) ?_
    show ∃ t o, Steps p.tables e below (T9.setTop (mkF m 26 #[.val (.int k1), .val (.int (0 : Int32)), .val (.ref w0), .val (.int (0 : Int32))] [(.ref w0)])) t ∧ _
    have F10 : Exa Z h0 w0 "com/example/ipomoea/ipomoea/job/JobState" := Exa.ext OLD.2 P5
    obtain ⟨cq11, kq11, q11a, q11b, q11c⟩ := isOf hZ e9 F10
    obtain ⟨_, _, ⟨T11, L11, k11, n11⟩, -, X11, ⟨Lc11, hQ11, l11, y11, z11⟩, st11⟩ := X9.virtualBack hx (y := (⟨"com/example/ipomoea/ipomoea/job/JobState", "isFinal", "()Z"⟩ : MethodName)) (z := (⟨"com/example/ipomoea/ipomoea/job/JobState", "isFinal", "()Z"⟩ : MethodName)) hown (mvT hZ (hw _ (List.mem_of_getElem? (i := 7) rfl))) (mvT hZ (hw _ (List.mem_of_getElem? (i := 8) rfl))) (notFace_of_selects (args := #[]) (mvT hZ (hw _ (List.mem_of_getElem? (i := 10) rfl)))) (mvT hZ (hw _ (List.mem_of_getElem? (i := 10) rfl))) (mvT hZ (hw _ (List.mem_of_getElem? (i := 9) rfl))) (by decide) (backOf (W := 0) (rm2 l Z a0 hw [] w0 w2 w3 h0 n0 Z0 OLD P3 P4) hZ (hw _ (List.mem_of_getElem? (i := 11) rfl)) (hw _ (List.mem_of_getElem? (i := 5) rfl)) (by decide) (by decide)) q11a q11c (g := (mkF m 26 #[.val (.int k1), .val (.int (0 : Int32)), .val (.ref w0), .val (.int (0 : Int32))] [(.ref w0)])) rfl (by rw [hml]; rfl) (Steps.refl _) (argsL := []) (rest := []) (lenOf pd__28_29Z rfl) rfl (by show 2 * 0 + _ ≤ _; exact Nat.le_of_eq rfl) (hb hby at_26) (fun _ _ => ⟨rfl, e9, (by decide : 0 + 0 ≤ _), (by decide : 0 + 0 ≤ _)⟩)
    dsimp only [Pt.U, Pt.locs, Pt.cells, Pt.slots] at X11 l11 y11 z11 st11 hQ11
    subst l11 y11 z11
    obtain ⟨rfl, Nq11, e11⟩ := hQ11
    have N11 := Fr.app N9 Nq11
    refine own_goT st11 ?_
    show ∃ t o, Steps p.tables e below (T11.setTop (mkF m 29 #[.val (.int k1), .val (.int (0 : Int32)), .val (.ref w0), .val (.int (0 : Int32))] [(.int (if w0 = w2 then (1 : Int32) else if w0 = w3 then (1 : Int32) else (0 : Int32)))])) t ∧ _
    refine own_go (fun _ => XS.iloadN X11.here hx rfl (hb hby at_29) rfl) ?_
    show ∃ t o, Steps p.tables e below (T11.setTop (mkF m 30 #[.val (.int k1), .val (.int (0 : Int32)), .val (.ref w0), .val (.int (0 : Int32))] [(.int (0 : Int32)), (.int (if w0 = w2 then (1 : Int32) else if w0 = w3 then (1 : Int32) else (0 : Int32)))])) t ∧ _
    have hd12 : (if w0 = w2 then (1 : Int32) else if w0 = w3 then (1 : Int32) else (0 : Int32)) = (0 : Int32) := by simp [n02, n03, n12, n13]
    refine own_go (fun _ => XS.icmpNo X11.here hx rfl (hb hby at_30) rfl (teq hd12).2) ?_
    show ∃ t o, Steps p.tables e below (T11.setTop (mkF m 33 #[.val (.int k1), .val (.int (0 : Int32)), .val (.ref w0), .val (.int (0 : Int32))] [])) t ∧ _
    refine own_go (fun _ => XS.iconst X11.here hx rfl (hb hby at_33)) ?_
    show ∃ t o, Steps p.tables e below (T11.setTop (mkF m 34 #[.val (.int k1), .val (.int (0 : Int32)), .val (.ref w0), .val (.int (0 : Int32))] [(.int (1 : Int32))])) t ∧ _
    refine own_go (fun _ => XS.goto X11.here hx rfl (pc0 := 34) (pc' := 38) rfl (hb hby at_34) (by decide) (by decide)) ?_
    show ∃ t o, Steps p.tables e below (T11.setTop (mkF m 38 #[.val (.int k1), .val (.int (0 : Int32)), .val (.ref w0), .val (.int (0 : Int32))] [(.int (1 : Int32))])) t ∧ _
    obtain ⟨fs, hr, hrun, hended, hW, hsame⟩ := X11.leave (v := some (.int (1 : Int32))) (fun h => by rw [Bd.returns] at h; cases h)
    refine ⟨_, _, ?_, hrun, hended, _, _, rfl, ?_, ⟨_, rfl⟩, hW, hsame.mono (by decide) (by decide)⟩
    · exact retN X11 hx (t := .boolean) Bd.returns (by simp) (hb hby at_38) hr
    · show Q_rm0 Z k1 w0 w1 w2 w3 h0 n0 _ T11.heap _
      rw [e11]
      exact ⟨rfl, N11, (Keep.refl h0 [])⟩
  · rw [hk]
    show ∃ t o, Steps p.tables e below (s₁.setTop (mkF m 4 #[.val (.int k1), .val (.int (1 : Int32)), .unset, .unset] [])) t ∧ _
    refine own_go (fun _ => XS.iloadN X0.here hx rfl (hb hby at_4) rfl) ?_
    show ∃ t o, Steps p.tables e below (s₁.setTop (mkF m 5 #[.val (.int k1), .val (.int (1 : Int32)), .unset, .unset] [(.int (1 : Int32))])) t ∧ _
    obtain ⟨_, _, ⟨T13, L13, k13, n13⟩, -, X13, ⟨Lc13, hQ13, l13, y13, z13⟩, st13⟩ := Jvm.LawKit.callS X0 hx (y := (⟨"com/example/ipomoea/ipomoea/job/JobStateIsFinalPinLaw", "pick", "(I)Lcom/example/ipomoea/ipomoea/job/JobState;"⟩ : MethodName)) hown (mvT hZ (hw _ (List.mem_of_getElem? (i := 0) rfl))) (mvT hZ (hw _ (List.mem_of_getElem? (i := 1) rfl))) (mvT hZ (hw _ (List.mem_of_getElem? (i := 2) rfl))) (mvT hZ (hw _ (List.mem_of_getElem? (i := 3) rfl))) (by decide) (backOf (W := 0) (rm1 l Z a0 hw [] (1 : Int32) w0 w1 w2 w3 h0 n0 Z0 OLD P1 P2 P3 P4) hZ (hw _ (List.mem_of_getElem? (i := 3) rfl)) (hw _ (List.mem_of_getElem? (i := 2) rfl)) (by decide) (by decide)) (g := (mkF m 5 #[.val (.int k1), .val (.int (1 : Int32)), .unset, .unset] [(.int (1 : Int32))])) rfl (by rw [hml]; rfl) (argsL := [(.int (1 : Int32))]) (rest := []) (lenOf pd_h2ff911f7 rfl) rfl (by show 2 * 0 + _ ≤ _; exact Nat.le_of_eq rfl) (hb hby at_5) (fun _ _ => ⟨rfl, e0, (by decide : 0 + 0 ≤ _), (by decide : 0 + 0 ≤ _)⟩)
    dsimp only [Pt.U, Pt.locs, Pt.cells, Pt.slots] at X13 l13 y13 z13 st13 hQ13
    subst l13 y13 z13
    obtain ⟨rfl, Nq13, e13⟩ := hQ13
    have N13 := Fr.app N0 Nq13
    refine own_go st13 ?_
    show ∃ t o, Steps p.tables e below (T13.setTop (mkF m 8 #[.val (.int k1), .val (.int (1 : Int32)), .unset, .unset] [(.ref (if (1 : Int32) = (0 : Int32) then w0 else if (1 : Int32) = (1 : Int32) then w1 else if (1 : Int32) = (2 : Int32) then w2 else w3))])) t ∧ _
    rw [show (if (1 : Int32) = (0 : Int32) then w0 else if (1 : Int32) = (1 : Int32) then w1 else if (1 : Int32) = (2 : Int32) then w2 else w3) = w1 from rfl]
    show ∃ t o, Steps p.tables e below (T13.setTop (mkF m 8 #[.val (.int k1), .val (.int (1 : Int32)), .unset, .unset] [(.ref w1)])) t ∧ _
    refine own_go (fun _ => XS.astoreN X13.here hx rfl (hb hby at_8) rfl rfl (l' := #[.val (.int k1), .val (.int (1 : Int32)), .val (.ref w1), .unset]) rfl) ?_
    show ∃ t o, Steps p.tables e below (T13.setTop (mkF m 9 #[.val (.int k1), .val (.int (1 : Int32)), .val (.ref w1), .unset] [])) t ∧ _
    refine own_go (fun _ => XS.iloadN X13.here hx rfl (hb hby at_9) rfl) ?_
    show ∃ t o, Steps p.tables e below (T13.setTop (mkF m 10 #[.val (.int k1), .val (.int (1 : Int32)), .val (.ref w1), .unset] [(.int (1 : Int32))])) t ∧ _
    refine own_go (fun _ => XS.iconst X13.here hx rfl (hb hby at_10)) ?_
    show ∃ t o, Steps p.tables e below (T13.setTop (mkF m 11 #[.val (.int k1), .val (.int (1 : Int32)), .val (.ref w1), .unset] [(.int (2 : Int32)), (.int (1 : Int32))])) t ∧ _
    refine own_go (fun _ => XS.icmpNo X13.here hx rfl (hb hby at_11) rfl (feq (by decide : ¬ ((1 : Int32) = (2 : Int32)))).1) ?_
    show ∃ t o, Steps p.tables e below (T13.setTop (mkF m 14 #[.val (.int k1), .val (.int (1 : Int32)), .val (.ref w1), .unset] [])) t ∧ _
    refine own_go (fun _ => XS.iloadN X13.here hx rfl (hb hby at_14) rfl) ?_
    show ∃ t o, Steps p.tables e below (T13.setTop (mkF m 15 #[.val (.int k1), .val (.int (1 : Int32)), .val (.ref w1), .unset] [(.int (1 : Int32))])) t ∧ _
    refine own_go (fun _ => XS.iconst X13.here hx rfl (hb hby at_15)) ?_
    show ∃ t o, Steps p.tables e below (T13.setTop (mkF m 16 #[.val (.int k1), .val (.int (1 : Int32)), .val (.ref w1), .unset] [(.int (3 : Int32)), (.int (1 : Int32))])) t ∧ _
    refine own_go (fun _ => XS.icmpYes X13.here hx rfl (pc0 := 16) (pc' := 23) rfl (hb hby at_16) rfl (feq (by decide : ¬ ((1 : Int32) = (3 : Int32)))).2 (by decide) (by decide)) ?_
    show ∃ t o, Steps p.tables e below (T13.setTop (mkF m 23 #[.val (.int k1), .val (.int (1 : Int32)), .val (.ref w1), .unset] [])) t ∧ _
    refine own_go (fun _ => XS.iconst X13.here hx rfl (hb hby at_23)) ?_
    show ∃ t o, Steps p.tables e below (T13.setTop (mkF m 24 #[.val (.int k1), .val (.int (1 : Int32)), .val (.ref w1), .unset] [(.int (0 : Int32))])) t ∧ _
    refine own_go (fun _ => XS.istoreN X13.here hx rfl (hb hby at_24) rfl (l' := #[.val (.int k1), .val (.int (1 : Int32)), .val (.ref w1), .val (.int (0 : Int32))]) rfl) ?_
    show ∃ t o, Steps p.tables e below (T13.setTop (mkF m 25 #[.val (.int k1), .val (.int (1 : Int32)), .val (.ref w1), .val (.int (0 : Int32))] [])) t ∧ _
    refine own_go (fun _ => XS.aloadN X13.here hx rfl (hb hby at_25) rfl rfl) ?_
    show ∃ t o, Steps p.tables e below (T13.setTop (mkF m 26 #[.val (.int k1), .val (.int (1 : Int32)), .val (.ref w1), .val (.int (0 : Int32))] [(.ref w1)])) t ∧ _
    have F14 : Exa Z h0 w1 "com/example/ipomoea/ipomoea/job/JobState" := Exa.ext OLD.2 P6
    obtain ⟨cq15, kq15, q15a, q15b, q15c⟩ := isOf hZ e13 F14
    obtain ⟨_, _, ⟨T15, L15, k15, n15⟩, -, X15, ⟨Lc15, hQ15, l15, y15, z15⟩, st15⟩ := X13.virtualBack hx (y := (⟨"com/example/ipomoea/ipomoea/job/JobState", "isFinal", "()Z"⟩ : MethodName)) (z := (⟨"com/example/ipomoea/ipomoea/job/JobState", "isFinal", "()Z"⟩ : MethodName)) hown (mvT hZ (hw _ (List.mem_of_getElem? (i := 7) rfl))) (mvT hZ (hw _ (List.mem_of_getElem? (i := 8) rfl))) (notFace_of_selects (args := #[]) (mvT hZ (hw _ (List.mem_of_getElem? (i := 10) rfl)))) (mvT hZ (hw _ (List.mem_of_getElem? (i := 10) rfl))) (mvT hZ (hw _ (List.mem_of_getElem? (i := 9) rfl))) (by decide) (backOf (W := 0) (rm2 l Z a0 hw [] w1 w2 w3 h0 n0 Z0 OLD P3 P4) hZ (hw _ (List.mem_of_getElem? (i := 11) rfl)) (hw _ (List.mem_of_getElem? (i := 5) rfl)) (by decide) (by decide)) q15a q15c (g := (mkF m 26 #[.val (.int k1), .val (.int (1 : Int32)), .val (.ref w1), .val (.int (0 : Int32))] [(.ref w1)])) rfl (by rw [hml]; rfl) (Steps.refl _) (argsL := []) (rest := []) (lenOf pd__28_29Z rfl) rfl (by show 2 * 0 + _ ≤ _; exact Nat.le_of_eq rfl) (hb hby at_26) (fun _ _ => ⟨rfl, e13, (by decide : 0 + 0 ≤ _), (by decide : 0 + 0 ≤ _)⟩)
    dsimp only [Pt.U, Pt.locs, Pt.cells, Pt.slots] at X15 l15 y15 z15 st15 hQ15
    subst l15 y15 z15
    obtain ⟨rfl, Nq15, e15⟩ := hQ15
    have N15 := Fr.app N13 Nq15
    refine own_goT st15 ?_
    show ∃ t o, Steps p.tables e below (T15.setTop (mkF m 29 #[.val (.int k1), .val (.int (1 : Int32)), .val (.ref w1), .val (.int (0 : Int32))] [(.int (if w1 = w2 then (1 : Int32) else if w1 = w3 then (1 : Int32) else (0 : Int32)))])) t ∧ _
    refine own_go (fun _ => XS.iloadN X15.here hx rfl (hb hby at_29) rfl) ?_
    show ∃ t o, Steps p.tables e below (T15.setTop (mkF m 30 #[.val (.int k1), .val (.int (1 : Int32)), .val (.ref w1), .val (.int (0 : Int32))] [(.int (0 : Int32)), (.int (if w1 = w2 then (1 : Int32) else if w1 = w3 then (1 : Int32) else (0 : Int32)))])) t ∧ _
    have hd16 : (if w1 = w2 then (1 : Int32) else if w1 = w3 then (1 : Int32) else (0 : Int32)) = (0 : Int32) := by simp [n02, n03, n12, n13]
    refine own_go (fun _ => XS.icmpNo X15.here hx rfl (hb hby at_30) rfl (teq hd16).2) ?_
    show ∃ t o, Steps p.tables e below (T15.setTop (mkF m 33 #[.val (.int k1), .val (.int (1 : Int32)), .val (.ref w1), .val (.int (0 : Int32))] [])) t ∧ _
    refine own_go (fun _ => XS.iconst X15.here hx rfl (hb hby at_33)) ?_
    show ∃ t o, Steps p.tables e below (T15.setTop (mkF m 34 #[.val (.int k1), .val (.int (1 : Int32)), .val (.ref w1), .val (.int (0 : Int32))] [(.int (1 : Int32))])) t ∧ _
    refine own_go (fun _ => XS.goto X15.here hx rfl (pc0 := 34) (pc' := 38) rfl (hb hby at_34) (by decide) (by decide)) ?_
    show ∃ t o, Steps p.tables e below (T15.setTop (mkF m 38 #[.val (.int k1), .val (.int (1 : Int32)), .val (.ref w1), .val (.int (0 : Int32))] [(.int (1 : Int32))])) t ∧ _
    obtain ⟨fs, hr, hrun, hended, hW, hsame⟩ := X15.leave (v := some (.int (1 : Int32))) (fun h => by rw [Bd.returns] at h; cases h)
    refine ⟨_, _, ?_, hrun, hended, _, _, rfl, ?_, ⟨_, rfl⟩, hW, hsame.mono (by decide) (by decide)⟩
    · exact retN X15 hx (t := .boolean) Bd.returns (by simp) (hb hby at_38) hr
    · show Q_rm0 Z k1 w0 w1 w2 w3 h0 n0 _ T15.heap _
      rw [e15]
      exact ⟨rfl, N15, (Keep.refl h0 [])⟩
  · rw [hk]
    show ∃ t o, Steps p.tables e below (s₁.setTop (mkF m 4 #[.val (.int k1), .val (.int (2 : Int32)), .unset, .unset] [])) t ∧ _
    refine own_go (fun _ => XS.iloadN X0.here hx rfl (hb hby at_4) rfl) ?_
    show ∃ t o, Steps p.tables e below (s₁.setTop (mkF m 5 #[.val (.int k1), .val (.int (2 : Int32)), .unset, .unset] [(.int (2 : Int32))])) t ∧ _
    obtain ⟨_, _, ⟨T17, L17, k17, n17⟩, -, X17, ⟨Lc17, hQ17, l17, y17, z17⟩, st17⟩ := Jvm.LawKit.callS X0 hx (y := (⟨"com/example/ipomoea/ipomoea/job/JobStateIsFinalPinLaw", "pick", "(I)Lcom/example/ipomoea/ipomoea/job/JobState;"⟩ : MethodName)) hown (mvT hZ (hw _ (List.mem_of_getElem? (i := 0) rfl))) (mvT hZ (hw _ (List.mem_of_getElem? (i := 1) rfl))) (mvT hZ (hw _ (List.mem_of_getElem? (i := 2) rfl))) (mvT hZ (hw _ (List.mem_of_getElem? (i := 3) rfl))) (by decide) (backOf (W := 0) (rm1 l Z a0 hw [] (2 : Int32) w0 w1 w2 w3 h0 n0 Z0 OLD P1 P2 P3 P4) hZ (hw _ (List.mem_of_getElem? (i := 3) rfl)) (hw _ (List.mem_of_getElem? (i := 2) rfl)) (by decide) (by decide)) (g := (mkF m 5 #[.val (.int k1), .val (.int (2 : Int32)), .unset, .unset] [(.int (2 : Int32))])) rfl (by rw [hml]; rfl) (argsL := [(.int (2 : Int32))]) (rest := []) (lenOf pd_h2ff911f7 rfl) rfl (by show 2 * 0 + _ ≤ _; exact Nat.le_of_eq rfl) (hb hby at_5) (fun _ _ => ⟨rfl, e0, (by decide : 0 + 0 ≤ _), (by decide : 0 + 0 ≤ _)⟩)
    dsimp only [Pt.U, Pt.locs, Pt.cells, Pt.slots] at X17 l17 y17 z17 st17 hQ17
    subst l17 y17 z17
    obtain ⟨rfl, Nq17, e17⟩ := hQ17
    have N17 := Fr.app N0 Nq17
    refine own_go st17 ?_
    show ∃ t o, Steps p.tables e below (T17.setTop (mkF m 8 #[.val (.int k1), .val (.int (2 : Int32)), .unset, .unset] [(.ref (if (2 : Int32) = (0 : Int32) then w0 else if (2 : Int32) = (1 : Int32) then w1 else if (2 : Int32) = (2 : Int32) then w2 else w3))])) t ∧ _
    rw [show (if (2 : Int32) = (0 : Int32) then w0 else if (2 : Int32) = (1 : Int32) then w1 else if (2 : Int32) = (2 : Int32) then w2 else w3) = w2 from rfl]
    show ∃ t o, Steps p.tables e below (T17.setTop (mkF m 8 #[.val (.int k1), .val (.int (2 : Int32)), .unset, .unset] [(.ref w2)])) t ∧ _
    refine own_go (fun _ => XS.astoreN X17.here hx rfl (hb hby at_8) rfl rfl (l' := #[.val (.int k1), .val (.int (2 : Int32)), .val (.ref w2), .unset]) rfl) ?_
    show ∃ t o, Steps p.tables e below (T17.setTop (mkF m 9 #[.val (.int k1), .val (.int (2 : Int32)), .val (.ref w2), .unset] [])) t ∧ _
    refine own_go (fun _ => XS.iloadN X17.here hx rfl (hb hby at_9) rfl) ?_
    show ∃ t o, Steps p.tables e below (T17.setTop (mkF m 10 #[.val (.int k1), .val (.int (2 : Int32)), .val (.ref w2), .unset] [(.int (2 : Int32))])) t ∧ _
    refine own_go (fun _ => XS.iconst X17.here hx rfl (hb hby at_10)) ?_
    show ∃ t o, Steps p.tables e below (T17.setTop (mkF m 11 #[.val (.int k1), .val (.int (2 : Int32)), .val (.ref w2), .unset] [(.int (2 : Int32)), (.int (2 : Int32))])) t ∧ _
    refine own_go (fun _ => XS.icmpYes X17.here hx rfl (pc0 := 11) (pc' := 19) rfl (hb hby at_11) rfl (teq (by decide : (2 : Int32) = (2 : Int32))).1 (by decide) (by decide)) ?_
    show ∃ t o, Steps p.tables e below (T17.setTop (mkF m 19 #[.val (.int k1), .val (.int (2 : Int32)), .val (.ref w2), .unset] [])) t ∧ _
    refine own_go (fun _ => XS.iconst X17.here hx rfl (hb hby at_19)) ?_
    show ∃ t o, Steps p.tables e below (T17.setTop (mkF m 20 #[.val (.int k1), .val (.int (2 : Int32)), .val (.ref w2), .unset] [(.int (1 : Int32))])) t ∧ _
    refine own_go (fun _ => XS.goto X17.here hx rfl (pc0 := 20) (pc' := 24) rfl (hb hby at_20) (by decide) (by decide)) ?_
    show ∃ t o, Steps p.tables e below (T17.setTop (mkF m 24 #[.val (.int k1), .val (.int (2 : Int32)), .val (.ref w2), .unset] [(.int (1 : Int32))])) t ∧ _
    refine own_go (fun _ => XS.istoreN X17.here hx rfl (hb hby at_24) rfl (l' := #[.val (.int k1), .val (.int (2 : Int32)), .val (.ref w2), .val (.int (1 : Int32))]) rfl) ?_
    show ∃ t o, Steps p.tables e below (T17.setTop (mkF m 25 #[.val (.int k1), .val (.int (2 : Int32)), .val (.ref w2), .val (.int (1 : Int32))] [])) t ∧ _
    refine own_go (fun _ => XS.aloadN X17.here hx rfl (hb hby at_25) rfl rfl) ?_
    show ∃ t o, Steps p.tables e below (T17.setTop (mkF m 26 #[.val (.int k1), .val (.int (2 : Int32)), .val (.ref w2), .val (.int (1 : Int32))] [(.ref w2)])) t ∧ _
    have F18 : Exa Z h0 w2 "com/example/ipomoea/ipomoea/job/JobState" := Exa.ext OLD.2 P7
    obtain ⟨cq19, kq19, q19a, q19b, q19c⟩ := isOf hZ e17 F18
    obtain ⟨_, _, ⟨T19, L19, k19, n19⟩, -, X19, ⟨Lc19, hQ19, l19, y19, z19⟩, st19⟩ := X17.virtualBack hx (y := (⟨"com/example/ipomoea/ipomoea/job/JobState", "isFinal", "()Z"⟩ : MethodName)) (z := (⟨"com/example/ipomoea/ipomoea/job/JobState", "isFinal", "()Z"⟩ : MethodName)) hown (mvT hZ (hw _ (List.mem_of_getElem? (i := 7) rfl))) (mvT hZ (hw _ (List.mem_of_getElem? (i := 8) rfl))) (notFace_of_selects (args := #[]) (mvT hZ (hw _ (List.mem_of_getElem? (i := 10) rfl)))) (mvT hZ (hw _ (List.mem_of_getElem? (i := 10) rfl))) (mvT hZ (hw _ (List.mem_of_getElem? (i := 9) rfl))) (by decide) (backOf (W := 0) (rm2 l Z a0 hw [] w2 w2 w3 h0 n0 Z0 OLD P3 P4) hZ (hw _ (List.mem_of_getElem? (i := 11) rfl)) (hw _ (List.mem_of_getElem? (i := 5) rfl)) (by decide) (by decide)) q19a q19c (g := (mkF m 26 #[.val (.int k1), .val (.int (2 : Int32)), .val (.ref w2), .val (.int (1 : Int32))] [(.ref w2)])) rfl (by rw [hml]; rfl) (Steps.refl _) (argsL := []) (rest := []) (lenOf pd__28_29Z rfl) rfl (by show 2 * 0 + _ ≤ _; exact Nat.le_of_eq rfl) (hb hby at_26) (fun _ _ => ⟨rfl, e17, (by decide : 0 + 0 ≤ _), (by decide : 0 + 0 ≤ _)⟩)
    dsimp only [Pt.U, Pt.locs, Pt.cells, Pt.slots] at X19 l19 y19 z19 st19 hQ19
    subst l19 y19 z19
    obtain ⟨rfl, Nq19, e19⟩ := hQ19
    have N19 := Fr.app N17 Nq19
    refine own_goT st19 ?_
    show ∃ t o, Steps p.tables e below (T19.setTop (mkF m 29 #[.val (.int k1), .val (.int (2 : Int32)), .val (.ref w2), .val (.int (1 : Int32))] [(.int (if w2 = w2 then (1 : Int32) else if w2 = w3 then (1 : Int32) else (0 : Int32)))])) t ∧ _
    refine own_go (fun _ => XS.iloadN X19.here hx rfl (hb hby at_29) rfl) ?_
    show ∃ t o, Steps p.tables e below (T19.setTop (mkF m 30 #[.val (.int k1), .val (.int (2 : Int32)), .val (.ref w2), .val (.int (1 : Int32))] [(.int (1 : Int32)), (.int (if w2 = w2 then (1 : Int32) else if w2 = w3 then (1 : Int32) else (0 : Int32)))])) t ∧ _
    have hd20 : (if w2 = w2 then (1 : Int32) else if w2 = w3 then (1 : Int32) else (0 : Int32)) = (1 : Int32) := by simp [n02, n03, n12, n13]
    refine own_go (fun _ => XS.icmpNo X19.here hx rfl (hb hby at_30) rfl (teq hd20).2) ?_
    show ∃ t o, Steps p.tables e below (T19.setTop (mkF m 33 #[.val (.int k1), .val (.int (2 : Int32)), .val (.ref w2), .val (.int (1 : Int32))] [])) t ∧ _
    refine own_go (fun _ => XS.iconst X19.here hx rfl (hb hby at_33)) ?_
    show ∃ t o, Steps p.tables e below (T19.setTop (mkF m 34 #[.val (.int k1), .val (.int (2 : Int32)), .val (.ref w2), .val (.int (1 : Int32))] [(.int (1 : Int32))])) t ∧ _
    refine own_go (fun _ => XS.goto X19.here hx rfl (pc0 := 34) (pc' := 38) rfl (hb hby at_34) (by decide) (by decide)) ?_
    show ∃ t o, Steps p.tables e below (T19.setTop (mkF m 38 #[.val (.int k1), .val (.int (2 : Int32)), .val (.ref w2), .val (.int (1 : Int32))] [(.int (1 : Int32))])) t ∧ _
    obtain ⟨fs, hr, hrun, hended, hW, hsame⟩ := X19.leave (v := some (.int (1 : Int32))) (fun h => by rw [Bd.returns] at h; cases h)
    refine ⟨_, _, ?_, hrun, hended, _, _, rfl, ?_, ⟨_, rfl⟩, hW, hsame.mono (by decide) (by decide)⟩
    · exact retN X19 hx (t := .boolean) Bd.returns (by simp) (hb hby at_38) hr
    · show Q_rm0 Z k1 w0 w1 w2 w3 h0 n0 _ T19.heap _
      rw [e19]
      exact ⟨rfl, N19, (Keep.refl h0 [])⟩
  · rw [hk]
    show ∃ t o, Steps p.tables e below (s₁.setTop (mkF m 4 #[.val (.int k1), .val (.int (3 : Int32)), .unset, .unset] [])) t ∧ _
    refine own_go (fun _ => XS.iloadN X0.here hx rfl (hb hby at_4) rfl) ?_
    show ∃ t o, Steps p.tables e below (s₁.setTop (mkF m 5 #[.val (.int k1), .val (.int (3 : Int32)), .unset, .unset] [(.int (3 : Int32))])) t ∧ _
    obtain ⟨_, _, ⟨T21, L21, k21, n21⟩, -, X21, ⟨Lc21, hQ21, l21, y21, z21⟩, st21⟩ := Jvm.LawKit.callS X0 hx (y := (⟨"com/example/ipomoea/ipomoea/job/JobStateIsFinalPinLaw", "pick", "(I)Lcom/example/ipomoea/ipomoea/job/JobState;"⟩ : MethodName)) hown (mvT hZ (hw _ (List.mem_of_getElem? (i := 0) rfl))) (mvT hZ (hw _ (List.mem_of_getElem? (i := 1) rfl))) (mvT hZ (hw _ (List.mem_of_getElem? (i := 2) rfl))) (mvT hZ (hw _ (List.mem_of_getElem? (i := 3) rfl))) (by decide) (backOf (W := 0) (rm1 l Z a0 hw [] (3 : Int32) w0 w1 w2 w3 h0 n0 Z0 OLD P1 P2 P3 P4) hZ (hw _ (List.mem_of_getElem? (i := 3) rfl)) (hw _ (List.mem_of_getElem? (i := 2) rfl)) (by decide) (by decide)) (g := (mkF m 5 #[.val (.int k1), .val (.int (3 : Int32)), .unset, .unset] [(.int (3 : Int32))])) rfl (by rw [hml]; rfl) (argsL := [(.int (3 : Int32))]) (rest := []) (lenOf pd_h2ff911f7 rfl) rfl (by show 2 * 0 + _ ≤ _; exact Nat.le_of_eq rfl) (hb hby at_5) (fun _ _ => ⟨rfl, e0, (by decide : 0 + 0 ≤ _), (by decide : 0 + 0 ≤ _)⟩)
    dsimp only [Pt.U, Pt.locs, Pt.cells, Pt.slots] at X21 l21 y21 z21 st21 hQ21
    subst l21 y21 z21
    obtain ⟨rfl, Nq21, e21⟩ := hQ21
    have N21 := Fr.app N0 Nq21
    refine own_go st21 ?_
    show ∃ t o, Steps p.tables e below (T21.setTop (mkF m 8 #[.val (.int k1), .val (.int (3 : Int32)), .unset, .unset] [(.ref (if (3 : Int32) = (0 : Int32) then w0 else if (3 : Int32) = (1 : Int32) then w1 else if (3 : Int32) = (2 : Int32) then w2 else w3))])) t ∧ _
    rw [show (if (3 : Int32) = (0 : Int32) then w0 else if (3 : Int32) = (1 : Int32) then w1 else if (3 : Int32) = (2 : Int32) then w2 else w3) = w3 from rfl]
    show ∃ t o, Steps p.tables e below (T21.setTop (mkF m 8 #[.val (.int k1), .val (.int (3 : Int32)), .unset, .unset] [(.ref w3)])) t ∧ _
    refine own_go (fun _ => XS.astoreN X21.here hx rfl (hb hby at_8) rfl rfl (l' := #[.val (.int k1), .val (.int (3 : Int32)), .val (.ref w3), .unset]) rfl) ?_
    show ∃ t o, Steps p.tables e below (T21.setTop (mkF m 9 #[.val (.int k1), .val (.int (3 : Int32)), .val (.ref w3), .unset] [])) t ∧ _
    refine own_go (fun _ => XS.iloadN X21.here hx rfl (hb hby at_9) rfl) ?_
    show ∃ t o, Steps p.tables e below (T21.setTop (mkF m 10 #[.val (.int k1), .val (.int (3 : Int32)), .val (.ref w3), .unset] [(.int (3 : Int32))])) t ∧ _
    refine own_go (fun _ => XS.iconst X21.here hx rfl (hb hby at_10)) ?_
    show ∃ t o, Steps p.tables e below (T21.setTop (mkF m 11 #[.val (.int k1), .val (.int (3 : Int32)), .val (.ref w3), .unset] [(.int (2 : Int32)), (.int (3 : Int32))])) t ∧ _
    refine own_go (fun _ => XS.icmpNo X21.here hx rfl (hb hby at_11) rfl (feq (by decide : ¬ ((3 : Int32) = (2 : Int32)))).1) ?_
    show ∃ t o, Steps p.tables e below (T21.setTop (mkF m 14 #[.val (.int k1), .val (.int (3 : Int32)), .val (.ref w3), .unset] [])) t ∧ _
    refine own_go (fun _ => XS.iloadN X21.here hx rfl (hb hby at_14) rfl) ?_
    show ∃ t o, Steps p.tables e below (T21.setTop (mkF m 15 #[.val (.int k1), .val (.int (3 : Int32)), .val (.ref w3), .unset] [(.int (3 : Int32))])) t ∧ _
    refine own_go (fun _ => XS.iconst X21.here hx rfl (hb hby at_15)) ?_
    show ∃ t o, Steps p.tables e below (T21.setTop (mkF m 16 #[.val (.int k1), .val (.int (3 : Int32)), .val (.ref w3), .unset] [(.int (3 : Int32)), (.int (3 : Int32))])) t ∧ _
    refine own_go (fun _ => XS.icmpNo X21.here hx rfl (hb hby at_16) rfl (teq (by decide : (3 : Int32) = (3 : Int32))).2) ?_
    show ∃ t o, Steps p.tables e below (T21.setTop (mkF m 19 #[.val (.int k1), .val (.int (3 : Int32)), .val (.ref w3), .unset] [])) t ∧ _
    refine own_go (fun _ => XS.iconst X21.here hx rfl (hb hby at_19)) ?_
    show ∃ t o, Steps p.tables e below (T21.setTop (mkF m 20 #[.val (.int k1), .val (.int (3 : Int32)), .val (.ref w3), .unset] [(.int (1 : Int32))])) t ∧ _
    refine own_go (fun _ => XS.goto X21.here hx rfl (pc0 := 20) (pc' := 24) rfl (hb hby at_20) (by decide) (by decide)) ?_
    show ∃ t o, Steps p.tables e below (T21.setTop (mkF m 24 #[.val (.int k1), .val (.int (3 : Int32)), .val (.ref w3), .unset] [(.int (1 : Int32))])) t ∧ _
    refine own_go (fun _ => XS.istoreN X21.here hx rfl (hb hby at_24) rfl (l' := #[.val (.int k1), .val (.int (3 : Int32)), .val (.ref w3), .val (.int (1 : Int32))]) rfl) ?_
    show ∃ t o, Steps p.tables e below (T21.setTop (mkF m 25 #[.val (.int k1), .val (.int (3 : Int32)), .val (.ref w3), .val (.int (1 : Int32))] [])) t ∧ _
    refine own_go (fun _ => XS.aloadN X21.here hx rfl (hb hby at_25) rfl rfl) ?_
    show ∃ t o, Steps p.tables e below (T21.setTop (mkF m 26 #[.val (.int k1), .val (.int (3 : Int32)), .val (.ref w3), .val (.int (1 : Int32))] [(.ref w3)])) t ∧ _
    have F22 : Exa Z h0 w3 "com/example/ipomoea/ipomoea/job/JobState" := Exa.ext OLD.2 P8
    obtain ⟨cq23, kq23, q23a, q23b, q23c⟩ := isOf hZ e21 F22
    obtain ⟨_, _, ⟨T23, L23, k23, n23⟩, -, X23, ⟨Lc23, hQ23, l23, y23, z23⟩, st23⟩ := X21.virtualBack hx (y := (⟨"com/example/ipomoea/ipomoea/job/JobState", "isFinal", "()Z"⟩ : MethodName)) (z := (⟨"com/example/ipomoea/ipomoea/job/JobState", "isFinal", "()Z"⟩ : MethodName)) hown (mvT hZ (hw _ (List.mem_of_getElem? (i := 7) rfl))) (mvT hZ (hw _ (List.mem_of_getElem? (i := 8) rfl))) (notFace_of_selects (args := #[]) (mvT hZ (hw _ (List.mem_of_getElem? (i := 10) rfl)))) (mvT hZ (hw _ (List.mem_of_getElem? (i := 10) rfl))) (mvT hZ (hw _ (List.mem_of_getElem? (i := 9) rfl))) (by decide) (backOf (W := 0) (rm2 l Z a0 hw [] w3 w2 w3 h0 n0 Z0 OLD P3 P4) hZ (hw _ (List.mem_of_getElem? (i := 11) rfl)) (hw _ (List.mem_of_getElem? (i := 5) rfl)) (by decide) (by decide)) q23a q23c (g := (mkF m 26 #[.val (.int k1), .val (.int (3 : Int32)), .val (.ref w3), .val (.int (1 : Int32))] [(.ref w3)])) rfl (by rw [hml]; rfl) (Steps.refl _) (argsL := []) (rest := []) (lenOf pd__28_29Z rfl) rfl (by show 2 * 0 + _ ≤ _; exact Nat.le_of_eq rfl) (hb hby at_26) (fun _ _ => ⟨rfl, e21, (by decide : 0 + 0 ≤ _), (by decide : 0 + 0 ≤ _)⟩)
    dsimp only [Pt.U, Pt.locs, Pt.cells, Pt.slots] at X23 l23 y23 z23 st23 hQ23
    subst l23 y23 z23
    obtain ⟨rfl, Nq23, e23⟩ := hQ23
    have N23 := Fr.app N21 Nq23
    refine own_goT st23 ?_
    show ∃ t o, Steps p.tables e below (T23.setTop (mkF m 29 #[.val (.int k1), .val (.int (3 : Int32)), .val (.ref w3), .val (.int (1 : Int32))] [(.int (if w3 = w2 then (1 : Int32) else if w3 = w3 then (1 : Int32) else (0 : Int32)))])) t ∧ _
    refine own_go (fun _ => XS.iloadN X23.here hx rfl (hb hby at_29) rfl) ?_
    show ∃ t o, Steps p.tables e below (T23.setTop (mkF m 30 #[.val (.int k1), .val (.int (3 : Int32)), .val (.ref w3), .val (.int (1 : Int32))] [(.int (1 : Int32)), (.int (if w3 = w2 then (1 : Int32) else if w3 = w3 then (1 : Int32) else (0 : Int32)))])) t ∧ _
    have hd24 : (if w3 = w2 then (1 : Int32) else if w3 = w3 then (1 : Int32) else (0 : Int32)) = (1 : Int32) := by simp [n02, n03, n12, n13]
    refine own_go (fun _ => XS.icmpNo X23.here hx rfl (hb hby at_30) rfl (teq hd24).2) ?_
    show ∃ t o, Steps p.tables e below (T23.setTop (mkF m 33 #[.val (.int k1), .val (.int (3 : Int32)), .val (.ref w3), .val (.int (1 : Int32))] [])) t ∧ _
    refine own_go (fun _ => XS.iconst X23.here hx rfl (hb hby at_33)) ?_
    show ∃ t o, Steps p.tables e below (T23.setTop (mkF m 34 #[.val (.int k1), .val (.int (3 : Int32)), .val (.ref w3), .val (.int (1 : Int32))] [(.int (1 : Int32))])) t ∧ _
    refine own_go (fun _ => XS.goto X23.here hx rfl (pc0 := 34) (pc' := 38) rfl (hb hby at_34) (by decide) (by decide)) ?_
    show ∃ t o, Steps p.tables e below (T23.setTop (mkF m 38 #[.val (.int k1), .val (.int (3 : Int32)), .val (.ref w3), .val (.int (1 : Int32))] [(.int (1 : Int32))])) t ∧ _
    obtain ⟨fs, hr, hrun, hended, hW, hsame⟩ := X23.leave (v := some (.int (1 : Int32))) (fun h => by rw [Bd.returns] at h; cases h)
    refine ⟨_, _, ?_, hrun, hended, _, _, rfl, ?_, ⟨_, rfl⟩, hW, hsame.mono (by decide) (by decide)⟩
    · exact retN X23 hx (t := .boolean) Bd.returns (by simp) (hb hby at_38) hr
    · show Q_rm0 Z k1 w0 w1 w2 w3 h0 n0 _ T23.heap _
      rw [e23]
      exact ⟨rfl, N23, (Keep.refl h0 [])⟩
set_option maxRecDepth 65536 in
set_option maxHeartbeats 40000000 in
theorem comes_1 {Post : Tables → Env → Array Value → State → Outcome → State → Prop} (hpost : ∀ tb e args s v u, (limb_1_1.after args s (.returned v) u = true ∧ limb_1_2.after args s (.returned v) u = true ∧ True) → FrameEnd s (.returned v) u (Jvm.fieldLocs frame_1_writes args s ++ Jvm.arrayLocs frame_1_arrays args s ++ Jvm.staticLocs frame_1_statics s) 0 0 → Post tb e args s (.returned v) u) :
    ArmFor flags0 classFile x code maxLocals ret World_1 tables_1 room_1 Calls_1 rest_1 Pre_1 Post := by
  intro l hfl _ _ p e ha hc hk s m args below hf hA hF happ hP
  obtain ⟨hcalls, hrest, hpre⟩ := hP
  obtain ⟨-, -, -, hnamed, -, -, -, hat⟩ := (Spec.applies_iff hf).mp happ
  obtain ⟨hg, hn⟩ := and_e (Cond.before_iff.mp (show (Jvm.Cond.and given_1 narrow_1).before args s = true from hpre))
  obtain ⟨g1, g2⟩ := and_e hg
  obtain ⟨w0, rfl⟩ : ∃ w0 : Value, args = #[w0] := by
    have hs : args.size = 1 := by simpa [Cond.value, given_1] using g1
    obtain ⟨L⟩ := args
    match L, hs with
    | [w0], _ => exact ⟨w0, rfl⟩
  have hw := fun d (hd : d ∈ tables_1) => atoms_spec (ws := Jvm.Cond.code x code maxLocals ret :: tables_1) hat d (List.mem_cons_of_mem _ hd)
  have hfit : Fit s := fun {y c} hc i hi => by
    obtain ⟨ha, rfl⟩ := Array.getElem?_eq_some_iff.mp hc
    have q := List.all_eq_true.mp ((Array.all_eq_true_iff_forall_mem.mp hF) _ (Array.getElem_mem ha)) i (List.mem_range.mpr hi)
    simpa [Array.getElem?_eq_getElem hi] using q
  obtain ⟨i0, ei0⟩ := is_v g2
  obtain rfl : w0 = (.int i0) := Option.some.inj ei0
  obtain ⟨exa0, hn0⟩ := and_e hn
  obtain ⟨exa2, hn1⟩ := and_e hn0
  obtain ⟨ord0, hn2⟩ := and_e hn1
  obtain ⟨ord2, hn3⟩ := and_e hn2
  obtain ⟨exa3, hn4⟩ := and_e hn3
  obtain ⟨ord3, hn5⟩ := and_e hn4
  obtain ⟨exa1, hn6⟩ := and_e hn5
  have ord1 := hn6
  obtain ⟨w0, ev0⟩ := exa_v exa0
  have E0 : Exa s s.heap w0 "com/example/ipomoea/ipomoea/job/JobState" := Exa.start ev0 exa0
  have S0 : Sta s s.heap "com/example/ipomoea/ipomoea/job/JobState" "ENABLED" "Lcom/example/ipomoea/ipomoea/job/JobState;" (.ref w0) := Sta.start ev0 (Or.inr ⟨(hw _ (List.mem_of_getElem? (i := 5) rfl)), (hw _ (List.mem_of_getElem? (i := 6) rfl))⟩)
  have O0 : Fld s s.heap w0 "java/lang/Enum" "ordinal" "I" (.int (0 : Int32)) := Fld.start ((fld_at ev0).symm.trans (eqv_i (Term.int_eval (0 : Int32)) ord0))
  obtain ⟨w1, ev1⟩ := exa_v exa1
  have E1 : Exa s s.heap w1 "com/example/ipomoea/ipomoea/job/JobState" := Exa.start ev1 exa1
  have S1 : Sta s s.heap "com/example/ipomoea/ipomoea/job/JobState" "DISABLED" "Lcom/example/ipomoea/ipomoea/job/JobState;" (.ref w1) := Sta.start ev1 (Or.inr ⟨(hw _ (List.mem_of_getElem? (i := 5) rfl)), (hw _ (List.mem_of_getElem? (i := 19) rfl))⟩)
  have O1 : Fld s s.heap w1 "java/lang/Enum" "ordinal" "I" (.int (1 : Int32)) := Fld.start ((fld_at ev1).symm.trans (eqv_i (Term.int_eval (1 : Int32)) ord1))
  obtain ⟨w2, ev2⟩ := exa_v exa2
  have E2 : Exa s s.heap w2 "com/example/ipomoea/ipomoea/job/JobState" := Exa.start ev2 exa2
  have S2 : Sta s s.heap "com/example/ipomoea/ipomoea/job/JobState" "COMPLETED" "Lcom/example/ipomoea/ipomoea/job/JobState;" (.ref w2) := Sta.start ev2 (Or.inr ⟨(hw _ (List.mem_of_getElem? (i := 5) rfl)), (hw _ (List.mem_of_getElem? (i := 13) rfl))⟩)
  have O2 : Fld s s.heap w2 "java/lang/Enum" "ordinal" "I" (.int (2 : Int32)) := Fld.start ((fld_at ev2).symm.trans (eqv_i (Term.int_eval (2 : Int32)) ord2))
  obtain ⟨w3, ev3⟩ := exa_v exa3
  have E3 : Exa s s.heap w3 "com/example/ipomoea/ipomoea/job/JobState" := Exa.start ev3 exa3
  have S3 : Sta s s.heap "com/example/ipomoea/ipomoea/job/JobState" "FAULTED" "Lcom/example/ipomoea/ipomoea/job/JobState;" (.ref w3) := Sta.start ev3 (Or.inr ⟨(hw _ (List.mem_of_getElem? (i := 5) rfl)), (hw _ (List.mem_of_getElem? (i := 15) rfl))⟩)
  have O3 : Fld s s.heap w3 "java/lang/Enum" "ordinal" "I" (.int (3 : Int32)) := Fld.start ((fld_at ev3).symm.trans (eqv_i (Term.int_eval (3 : Int32)) ord3))
  have n02 : ¬ (w0 = w2) := Fld.ne O0 O2 (by decide)
  have n03 : ¬ (w0 = w3) := Fld.ne O0 O3 (by decide)
  have n12 : ¬ (w1 = w2) := Fld.ne O1 O2 (by decide)
  have n13 : ¬ (w1 = w3) := Fld.ne O1 O3 (by decide)
  have OLD := Old.start s
  obtain ⟨n, o, h1, h2, h3, _, L, rfl, ⟨rfl, N, -⟩, hq⟩ := rm0 l s _ hw tables_1 i0 w0 w1 w2 w3 s.heap s.heap.size (Nat.le_refl _) OLD S0 S1 S2 S3 E0 E1 E2 E3 n02 n03 n12 n13 p e ha hc hk s m _ below hf ((Spec.applies_iff_loose hf).mp happ).1 ⟨rfl, State.Warmed39.refl s, rfl⟩ trivial
  refine ⟨n, _, h1, h2, h3, hpost _ _ _ _ _ _ ⟨Cond.after_iff.mpr rfl, Cond.after_iff.mpr (eq_i res_at (Term.int_eval (1)) rfl), trivial⟩ ⟨hq.1, hq.2.1, (hq.2.2.sift fun y hy => Or.inr (N y hy)).mono (by decide) (by decide)⟩⟩
theorem main_1_1 : Claimed_1_1 := comes_1 fun _ _ _ _ _ _ h hF => ⟨h.1, hF⟩
theorem main_1_2 : Claimed_1_2 := comes_1 fun _ _ _ _ _ _ h hF => ⟨h.2.1, hF⟩
end Jvm.Pilot.@@N@@
namespace Jvm.Pilot.@@N@@
open Jvm Jvm.ClassFile Sem Op Lib Jvm.Free Jvm.Stand Jvm.Pilot.@@N@@.Jvm.D
/-! MADE BY PROGRAM (witnessworld.py) out of the Statement's table words and the real class files: 12 classes; the members and pool entries that the words name. The judged class is class 1, her method 2. -/
namespace start1
open Jvm.ClassFile
def u (s : String) : CpInfo := .utf8 (stringToUtf16 s)
/-- a pool by its gaps: so many unusable entries, then the entry; so many at the end -/
def gap : Nat → List CpInfo → List CpInfo
  | 0, r => r
  | n + 1, r => .unusable :: gap n r
def poolList (es : List (Nat × CpInfo)) (last : Nat) : List CpInfo := es.foldr (fun e r => gap e.1 (e.2 :: r)) (gap last [])
def pool (es : List (Nat × CpInfo)) (last : Nat) : Array CpInfo := ⟨poolList es last⟩
def fileOf (pool : Array CpInfo) (this : Nat) (attrs : Array Attribute := #[]) (ms : Array MethodInfo := #[]) (fl : Nat := 33) (sup : Nat := 0) (ifs : Array Nat := #[]) (fds : Array FieldInfo := #[]) : ClassFile where
  minorVersion := 0
  majorVersion := 65
  constantPool := pool
  accessFlags := fl
  thisClass := this
  superClass := sup
  interfaces := ifs
  fields := fds
  methods := ms
  attributes := attrs
def plain (name : String) (sup : Option ClassId) : Class where
  name := name
  kind := .ordinary
  loader := none
  accessFlags := 33
  super := sup
  interfaces := #[]
  cf := none
  fields := #[]
  methods := #[]
  instanceTypes := #[]
  staticTypes := #[]
  resolved := #[]
  callSites := []
  init := .initialized
  statics := none
  mirror := none

def pool0 : Array CpInfo := pool [(5, u "<init>"), (0, u "()V"), (1, .class_ 10), (1, u "java/lang/Object")] 113

def k0m0 : Method := { name := "<init>", desc := "()V", sig := { parameters := [], returnType := none }, accessFlags := 1, code := none }
/-- java/lang/Object -/
def k0 : Class := { plain "java/lang/Object" none with
  accessFlags := 33
  interfaces := #[]
  cf := some (fileOf pool0 8 #[] #[{ accessFlags := 1, nameIndex := 5, descriptorIndex := 6, attributes := #[] }] 33 0 #[] #[])
  fields := #[]
  methods := #[k0m0]
  instanceTypes := #[]
  staticTypes := #[]
  resolved := Array.replicate 124 none
  statics := none }

def pool1 : Array CpInfo := pool [(2, .class_ 4), (1, u "java/lang/Object"), (0, u "<init>"), (0, u "()V"), (0, .fieldref 8 9), (0, .class_ 10), (0, .nameAndType 11 12), (0, u "com/example/ipomoea/ipomoea/job/JobState"), (0, u "ENABLED"), (0, u "Lcom/example/ipomoea/ipomoea/job/JobState;"), (0, .fieldref 8 14), (0, .nameAndType 15 12), (0, u "DISABLED"), (0, .fieldref 8 17), (0, .nameAndType 18 12), (0, u "COMPLETED"), (0, .fieldref 8 20), (0, .nameAndType 21 12), (0, u "FAULTED"), (0, .methodref 23 24), (0, .class_ 25), (0, .nameAndType 26 27), (0, u "com/example/ipomoea/ipomoea/job/JobStateIsFinalPinLaw"), (0, u "pick"), (0, u "(I)Lcom/example/ipomoea/ipomoea/job/JobState;"), (0, .methodref 8 29), (0, .nameAndType 30 31), (0, u "isFinal"), (0, u "()Z"), (3, u "law"), (0, u "(I)Z")] 2

def k1m0 : Method := { name := "<init>", desc := "()V", sig := { parameters := [], returnType := none }, accessFlags := 2, code := none }
def k1c1 : Code := { maxStack := 2, maxLocals := 1, code := method_2_code, exceptionTable := #[], attributes := #[] }
def k1m1 : Method := { name := "pick", desc := "(I)Lcom/example/ipomoea/ipomoea/job/JobState;", sig := { parameters := [.int], returnType := some (.object "com/example/ipomoea/ipomoea/job/JobState") }, accessFlags := 10, code := some k1c1 }
def k1c2 : Code := { maxStack := 2, maxLocals := 4, code := code, exceptionTable := #[], attributes := #[] }
def k1m2 : Method := { name := "law", desc := "(I)Z", sig := { parameters := [.int], returnType := some .boolean }, accessFlags := 9, code := some k1c2 }
/-- com/example/ipomoea/ipomoea/job/JobStateIsFinalPinLaw -/
def k1 : Class := { plain "com/example/ipomoea/ipomoea/job/JobStateIsFinalPinLaw" (some 0) with
  accessFlags := 49
  interfaces := #[]
  cf := some (fileOf pool1 23 #[] #[{ accessFlags := 2, nameIndex := 5, descriptorIndex := 6, attributes := #[] }, { accessFlags := 10, nameIndex := 26, descriptorIndex := 27, attributes := #[] }, { accessFlags := 9, nameIndex := 35, descriptorIndex := 36, attributes := #[] }] 49 2 #[] #[])
  fields := #[]
  methods := #[k1m0, k1m1, k1m2]
  instanceTypes := #[]
  staticTypes := #[]
  resolved := Array.replicate 39 none
  statics := none }

def pool2 : Array CpInfo := pool [(1, .class_ 2), (0, u "java/lang/constant/Constable"), (0, .class_ 4), (0, u "java/lang/Object")] 6

/-- java/lang/constant/Constable -/
def k2 : Class := { plain "java/lang/constant/Constable" (some 0) with
  accessFlags := 1537
  interfaces := #[]
  cf := some (fileOf pool2 1 #[] #[] 1537 3 #[] #[])
  fields := #[]
  methods := #[]
  instanceTypes := #[]
  staticTypes := #[]
  resolved := Array.replicate 11 none
  statics := none }

def pool3 : Array CpInfo := pool [(1, .class_ 2), (0, u "java/lang/Comparable"), (0, .class_ 4), (0, u "java/lang/Object")] 7

/-- java/lang/Comparable -/
def k3 : Class := { plain "java/lang/Comparable" (some 0) with
  accessFlags := 1537
  interfaces := #[]
  cf := some (fileOf pool3 1 #[] #[] 1537 3 #[] #[])
  fields := #[]
  methods := #[]
  instanceTypes := #[]
  staticTypes := #[]
  resolved := Array.replicate 12 none
  statics := none }

def pool4 : Array CpInfo := pool [(1, .class_ 2), (0, u "java/io/Serializable"), (0, .class_ 4), (0, u "java/lang/Object")] 2

/-- java/io/Serializable -/
def k4 : Class := { plain "java/io/Serializable" (some 0) with
  accessFlags := 1537
  interfaces := #[]
  cf := some (fileOf pool4 1 #[] #[] 1537 3 #[] #[])
  fields := #[]
  methods := #[]
  instanceTypes := #[]
  staticTypes := #[]
  resolved := Array.replicate 7 none
  statics := none }

def pool5 : Array CpInfo := pool [(2, .class_ 4), (1, u "java/lang/Enum"), (0, u "name"), (0, u "Ljava/lang/String;"), (2, u "ordinal"), (0, u "I"), (1, .class_ 14), (1, u "java/lang/Object"), (4, u "hash"), (86, .class_ 108), (1, u "java/lang/Enum$EnumDesc"), (2, .class_ 112), (0, u "java/lang/constant/Constable"), (0, .class_ 114), (0, u "java/lang/Comparable"), (0, .class_ 116), (0, u "java/io/Serializable")] 87

/-- java/lang/Enum -/
def k5 : Class := { plain "java/lang/Enum" (some 0) with
  accessFlags := 1057
  interfaces := #[2, 3, 4]
  cf := some (fileOf pool5 2 #[.nestMembers #[106]] #[] 1057 12 #[111, 113, 115] #[{ accessFlags := 18, nameIndex := 5, descriptorIndex := 6, attributes := #[] }, { accessFlags := 18, nameIndex := 9, descriptorIndex := 10, attributes := #[] }, { accessFlags := 2, nameIndex := 19, descriptorIndex := 10, attributes := #[] }])
  fields := #[{ name := "name", type := (.object "java/lang/String"), accessFlags := 18, slot := 0, constantValue := 0 }, { name := "ordinal", type := .int, accessFlags := 18, slot := 1, constantValue := 0 }, { name := "hash", type := .int, accessFlags := 2, slot := 2, constantValue := 0 }]
  methods := #[]
  instanceTypes := #[(.object "java/lang/String"), .int, .int]
  staticTypes := #[]
  resolved := Array.replicate 204 none
  statics := none }

def pool6 : Array CpInfo := pool [(1, .class_ 2), (0, u "com/example/ipomoea/ipomoea/job/JobState"), (2, u "ENABLED"), (0, u "Lcom/example/ipomoea/ipomoea/job/JobState;"), (2, u "DISABLED"), (0, .fieldref 1 11), (0, .nameAndType 12 6), (0, u "COMPLETED"), (0, .fieldref 1 14), (0, .nameAndType 15 6), (0, u "FAULTED"), (2, u "$VALUES"), (0, u "[Lcom/example/ipomoea/ipomoea/job/JobState;"), (6, .class_ 28), (1, u "java/lang/Enum"), (22, u "isFinal"), (0, u "()Z")] 5

def k6c0 : Code := { maxStack := 2, maxLocals := 1, code := prog_15_method_4_code, exceptionTable := #[], attributes := #[] }
def k6m0 : Method := { name := "isFinal", desc := "()Z", sig := { parameters := [], returnType := some .boolean }, accessFlags := 1, code := some k6c0 }
/-- com/example/ipomoea/ipomoea/job/JobState -/
def k6 : Class := { plain "com/example/ipomoea/ipomoea/job/JobState" (some 5) with
  accessFlags := 16433
  interfaces := #[]
  cf := some (fileOf pool6 1 #[] #[{ accessFlags := 1, nameIndex := 51, descriptorIndex := 52, attributes := #[] }] 16433 26 #[] #[{ accessFlags := 16409, nameIndex := 5, descriptorIndex := 6, attributes := #[] }, { accessFlags := 16409, nameIndex := 9, descriptorIndex := 6, attributes := #[] }, { accessFlags := 16409, nameIndex := 12, descriptorIndex := 6, attributes := #[] }, { accessFlags := 16409, nameIndex := 15, descriptorIndex := 6, attributes := #[] }, { accessFlags := 4122, nameIndex := 18, descriptorIndex := 19, attributes := #[] }])
  fields := #[{ name := "ENABLED", type := (.object "com/example/ipomoea/ipomoea/job/JobState"), accessFlags := 16409, slot := 0, constantValue := 0 }, { name := "DISABLED", type := (.object "com/example/ipomoea/ipomoea/job/JobState"), accessFlags := 16409, slot := 1, constantValue := 0 }, { name := "COMPLETED", type := (.object "com/example/ipomoea/ipomoea/job/JobState"), accessFlags := 16409, slot := 2, constantValue := 0 }, { name := "FAULTED", type := (.object "com/example/ipomoea/ipomoea/job/JobState"), accessFlags := 16409, slot := 3, constantValue := 0 }, { name := "$VALUES", type := (.array (.object "com/example/ipomoea/ipomoea/job/JobState")), accessFlags := 4122, slot := 4, constantValue := 0 }]
  methods := #[k6m0]
  instanceTypes := #[(.object "java/lang/String"), .int, .int]
  staticTypes := #[(.object "com/example/ipomoea/ipomoea/job/JobState"), (.object "com/example/ipomoea/ipomoea/job/JobState"), (.object "com/example/ipomoea/ipomoea/job/JobState"), (.object "com/example/ipomoea/ipomoea/job/JobState"), (.array (.object "com/example/ipomoea/ipomoea/job/JobState"))]
  resolved := Array.replicate 58 none
  statics := some 0 }

def pool7 : Array CpInfo := pool [(1, u "java/lang/Cloneable"), (0, .class_ 1), (0, u "java/lang/Object"), (0, .class_ 3)] 3

/-- java/lang/Cloneable -/
def k7 : Class := { plain "java/lang/Cloneable" (some 0) with
  accessFlags := 1537
  interfaces := #[]
  cf := some (fileOf pool7 2 #[] #[] 1537 4 #[] #[])
  fields := #[]
  methods := #[]
  instanceTypes := #[]
  staticTypes := #[]
  resolved := Array.replicate 8 none
  statics := none }

/-- the primitive byte -/
def k8 : Class := { plain "byte" none with kind := .primitive 'B', accessFlags := 0x411 }
/-- [B -/
def k9 : Class := { plain "[B" (some 0) with kind := .array 8 .byte, interfaces := #[7, 4], accessFlags := 1041 }

/-- the primitive int -/
def k10 : Class := { plain "int" none with kind := .primitive 'I', accessFlags := 0x411 }
/-- [I -/
def k11 : Class := { plain "[I" (some 0) with kind := .array 10 .int, interfaces := #[7, 4], accessFlags := 1041 }

def heap : Heap := #[{ cls := 6, slots := #[.ref 1, .ref 2, .ref 3, .ref 4, .null], vm := .statics 6 },
  { cls := 6, slots := #[.null, .int 0, .int 0], vm := .none },
  { cls := 6, slots := #[.null, .int 1, .int 0], vm := .none },
  { cls := 6, slots := #[.null, .int 2, .int 0], vm := .none },
  { cls := 6, slots := #[.null, .int 3, .int 0], vm := .none }]
def classes : Array Class := #[k0, k1, k2, k3, k4, k5, k6, k7, k8, k9, k10, k11]
def interned : List (Array UInt16 × Addr) := []
def slotsUsed : Nat := 17
def theMethod : MethodId := ⟨1, 2⟩
def args0 : Array Value := #[.int 5]
def aboutOver (below : List Frame) : State where
  vm := { classes := classes, interned := interned.toArray }
  heap := heap
  slotsUsed := slotsUsed
  threads := #[{ frames := .invoking theMethod args0 :: below }]
def below0 : List Frame := [.native { method := ⟨0, 0⟩, args := #[] }]
def about1 : State := aboutOver below0
def p0 : Program := .bare "" "" ""
def e0 : Env := launch0.env 0 0 0
theorem w_frames : about1.frames = Frame.invoking theMethod args0 :: below0 := rfl
set_option maxRecDepth 65536 in
theorem w_args : argsFit about1.vm theMethod args0 = true := by decide +kernel
set_option maxRecDepth 65536 in
theorem w_heap : heapFits about1 = true := by decide +kernel
set_option maxRecDepth 65536 in
theorem w_runnable : about1.curStatus? = some .runnable := by decide +kernel
set_option maxRecDepth 65536 in
theorem w_alone : about1.alone = true := by decide +kernel
set_option maxRecDepth 65536 in
theorem w_named : about1.methodNamed? x = some theMethod := by decide +kernel
set_option maxRecDepth 65536 in
theorem w_hears : about1.hears theMethod below0 = true := by decide +kernel
set_option maxRecDepth 65536 in
theorem w_ripe : about1.ripe theMethod args0 below0 = true := by decide +kernel
theorem w_running : about1.status = .running := rfl
set_option maxRecDepth 65536 in
theorem w_room : about1.hasRoom e0.platform room_1 = true :=
  launch0.hasRoom_least _ room_1 (by decide +kernel) (by decide +kernel) (by decide +kernel) (by decide +kernel) (by decide +kernel) (by decide +kernel)
theorem allAtoms_all (ts : List Jvm.Cond) (a : Array Jvm.Value) (st : Jvm.State) : (allAtoms ts).before a st = ts.all (fun c => c.before a st) := by
  induction ts with
  | nil => rfl
  | cons c t ih =>
    show (Jvm.Cond.and c (allAtoms t)).before a st = _
    rw [Jvm.Cond.before_and, ih, List.all_cons]
def words1 : List Jvm.Cond := Jvm.Cond.code x code maxLocals ret :: tables_1
/-- a 'code' word, met by the world's own term for the bytes: nothing is compared byte by byte -/
theorem code_word {y : MethodName} {bytes : ByteArray} {mx : Nat} {rt : Option FieldType} {a : Array Value} {s : State} {m : MethodId} {meth : Method} {c : Code} (h1 : s.methodNamed? y = some m) (h2 : s.vm.method? m = some meth) (h3 : meth.code = some c) (h4 : c.code = bytes)
    (h5 : (c.maxLocals == mx && c.exceptionTable.isEmpty && decide (c.maxStack ≤ mostOperands) && decide (meth.sig.returnType = rt) && !meth.locks && decide (parseMethodDescriptor y.desc = some meth.sig)) = true) : (Jvm.Cond.code y bytes mx rt).before a s = true := by
  simp only [Bool.and_eq_true, beq_iff_eq, Bool.not_eq_true', decide_eq_true_eq] at h5
  obtain ⟨⟨⟨⟨⟨g1, g2⟩, g3⟩, g4⟩, g5⟩, g6⟩ := h5
  simp [Cond.before, Cond.holds, Cond.value, h1, h2, h3, h4, g1, g2, g3, g4, g5, g6]
def isCode : Jvm.Cond → Bool
  | .code _ _ _ _ => true
  | _ => false
theorem all_split {L : List Jvm.Cond} {P : Jvm.Cond → Bool} (h1 : L.all (fun c => isCode c || P c) = true) (h2 : ∀ c ∈ L.filter isCode, P c = true) : L.all P = true := by
  refine List.all_eq_true.mpr fun c hc => ?_
  have h := List.all_eq_true.mp h1 c hc
  rcases Bool.eq_false_or_eq_true (isCode c) with hi | hi
  · exact h2 c (List.mem_filter.mpr ⟨hc, hi⟩)
  · simpa [hi] using h
set_option maxRecDepth 65536 in
theorem w_c0 : (Jvm.Cond.code x code maxLocals ret).before args0 about1 = true := code_word (m := ⟨1, 2⟩) (meth := k1m2) (c := k1c2) (by decide +kernel) rfl rfl rfl (by decide +kernel)
set_option maxRecDepth 65536 in
theorem w_c1 : (Jvm.Cond.code ({ cls := "com/example/ipomoea/ipomoea/job/JobStateIsFinalPinLaw", name := "pick", desc := "(I)Lcom/example/ipomoea/ipomoea/job/JobState;" } : Jvm.MethodName) method_2_code (1 : Nat) (Option.some (Jvm.ClassFile.FieldType.object "com/example/ipomoea/ipomoea/job/JobState"))).before args0 about1 = true := code_word (m := ⟨1, 1⟩) (meth := k1m1) (c := k1c1) (by decide +kernel) rfl rfl rfl (by decide +kernel)
set_option maxRecDepth 65536 in
theorem w_c2 : (Jvm.Cond.code ({ cls := "com/example/ipomoea/ipomoea/job/JobState", name := "isFinal", desc := "()Z" } : Jvm.MethodName) prog_15_method_4_code (1 : Nat) (Option.some Jvm.ClassFile.FieldType.boolean)).before args0 about1 = true := code_word (m := ⟨6, 0⟩) (meth := k6m0) (c := k6c0) (by decide +kernel) rfl rfl rfl (by decide +kernel)
def codes1 : List Jvm.Cond := [Jvm.Cond.code x code maxLocals ret, Jvm.Cond.code ({ cls := "com/example/ipomoea/ipomoea/job/JobStateIsFinalPinLaw", name := "pick", desc := "(I)Lcom/example/ipomoea/ipomoea/job/JobState;" } : Jvm.MethodName) method_2_code (1 : Nat) (Option.some (Jvm.ClassFile.FieldType.object "com/example/ipomoea/ipomoea/job/JobState")), Jvm.Cond.code ({ cls := "com/example/ipomoea/ipomoea/job/JobState", name := "isFinal", desc := "()Z" } : Jvm.MethodName) prog_15_method_4_code (1 : Nat) (Option.some Jvm.ClassFile.FieldType.boolean)]
set_option maxRecDepth 65536 in
theorem codes_eq : words1.filter isCode = codes1 := rfl
theorem w_codes : ∀ c ∈ words1.filter isCode, c.before args0 about1 = true := by
  rw [codes_eq]
  intro c hc
  simp only [codes1, List.mem_cons, List.not_mem_nil, or_false] at hc
  rcases hc with rfl | rfl | rfl
  · exact w_c0
  · exact w_c1
  · exact w_c2
set_option maxRecDepth 65536 in
theorem w_t1 : words1.all (fun c => isCode c || c.before args0 about1) = true := by decide +kernel
theorem w_tables : (allAtoms (Jvm.Cond.code x code maxLocals ret :: tables_1)).before args0 about1 = true := by
  rw [allAtoms_all]
  show words1.all (fun c => c.before args0 about1) = true
  refine all_split ?_ w_codes
  rw [w_t1]
set_option maxRecDepth 65536 in
theorem w_case : (Jvm.Cond.and given_1 narrow_1).before args0 about1 = true := by decide +kernel
theorem w_applies : (headSpec (Jvm.Cond.code x code maxLocals ret :: tables_1) room_1).applies x e0.platform about1 = true :=
  (Spec.applies_iff w_frames).mpr ⟨w_running, w_runnable, w_alone, w_named, w_hears, w_ripe, w_room, w_tables⟩
theorem atStart : AtStart classFile x code maxLocals ret World_1 tables_1 room_1 Calls_1 rest_1 Pre_1 launch0 p0 e0 about1 theMethod args0 below0 :=
  ⟨lists_1, trivial, launch0.admits_env _ _ _, launch0.least_env, fairChoices_fair.cas, fairChoices_fair.clock, w_frames, w_args, w_heap, w_applies, trivial, trivial, w_case⟩
end start1
theorem witness_1 : WitnessClaimed_1 := ⟨start1.p0, start1.e0, start1.about1, start1.theMethod, start1.args0, start1.below0, start1.atStart⟩
end Jvm.Pilot.@@N@@
