import JvmDerived
import JvmDerived.Pilot.@@N@@Statement
import JvmDerived.Pilot.@@N@@Code
set_option linter.unusedVariables false
set_option linter.unusedSimpArgs false
namespace Jvm.RoadKit
open Sem ClassFile Op Lib Jvm.Stand Jvm.Free Jvm.LawKit
section New
variable {p : Program} {l : Launch} {e : Env} {R : Room} {s : State} {m : MethodId} {args : Array Value} {below : List Frame} {meth : Method} {c : Code} {T : State} {locs : List Loc} {cells slots : Nat}
theorem retI (X : Stand p l e R s m args below meth c T locs cells slots) (hx : p.tables.exec = Jvm.exec) {pc : Nat} {Ls : Array Slot} {z : Int32} {rest : List Value} (hret : meth.sig.returnType = some .int) (hd : decode c.code pc = .ok (.ireturn, 1)) {fs : List Frame}
    (hl : ∀ (f : JFrame) (acts : List Action), f.method = m → f.locked = none → f.entered = [] → (doReturn e (T.setTop f) acts (some (.int z))).1 = T.setFrames fs) : Steps p.tables e below (T.setTop (mkF m pc Ls (.int z :: rest))) (T.setFrames fs) := by
  have hm' : T.vm.method? m = some meth := X.method'
  have hn : narrow .int (.int z) = .int z := rfl
  show Steps p.tables e below (T.setTop { method := m, pc := pc, locals := Ls, stack := _ :: rest, locked := none }) _
  jvm_step X.here [X.here.top, hx, hd, hm', hret, hn]
  first | (intro acts; rw [hl _ acts rfl rfl rfl]) | rw [hl _ _ rfl rfl rfl]
  exact Steps.refl _
end New
end Jvm.RoadKit
namespace Jvm.Pilot.@@N@@
open Jvm Jvm.ClassFile Sem Op Lib Jvm.Free Jvm.Stand Jvm.LawKit Jvm.RoadKit Bundle Jvm.Pilot.@@N@@.Jvm.D
theorem own_go {tb : Tables} {e : Env} {below : List Frame} {A B : State} {P : State → Outcome → Prop} (st : ∀ t, Steps tb e below B t → Steps tb e below A t) (k : ∃ t o, Steps tb e below B t ∧ P t o) : ∃ t o, Steps tb e below A t ∧ P t o := by
  obtain ⟨t, o, h1, h2⟩ := k
  exact ⟨t, o, st t h1, h2⟩
theorem own_goT {tb : Tables} {e : Env} {below : List Frame} {A B : State} {P : State → Outcome → Prop} (st : Steps tb e below A B) (k : ∃ t o, Steps tb e below B t ∧ P t o) : ∃ t o, Steps tb e below A t ∧ P t o := by
  obtain ⟨t, o, h1, h2⟩ := k
  exact ⟨t, o, st.trans h1, h2⟩
theorem own_nfo {args : Array Value} {s : State} {C : String} {x y z : MethodName} (hsel : (Jvm.Cond.selects C x z).before args s = true) (e : z.cls = y.cls) : NotFace s y := fun r0 h0 => by
  obtain ⟨c2, r2, m2, q1, q2, q3, q4, kP, hkP, hkPi⟩ := Cond.selects_spec hsel
  have a1 := findClass_of_methodNamed q3
  have a2 := findClass_of_methodNamed h0
  rw [e] at a1
  have e2 := Option.some.inj (a1.symm.trans a2)
  exact ⟨kP, by rw [← e2]; exact hkP, hkPi⟩
theorem own_keep_le {h h' : Heap} {ws : List Addr} (K : Keep h h' ws) : h.size ≤ h'.size := K.1
theorem ef_rmInit (m : MethodId) (x0 : Addr) (x1 : Addr) : entryFrame m #[(.ref x0), (.ref x1), .null, .null] 4 = mkF m 0 #[.val (.ref x0), .val (.ref x1), .val .null, .val .null] [] := by first | (simp [entryFrame, mkF, argsToLocals, Value.category]; done) | rfl
theorem d2_0 : decode prog_12_method_1_code 0 = .ok (.aload_n 0, 1) := by decide +kernel
theorem d2_1 : decode prog_12_method_1_code 1 = .ok (.invokespecial 1, 3) := by decide +kernel
theorem d2_4 : decode prog_12_method_1_code 4 = .ok (.aload_n 0, 1) := by decide +kernel
theorem d2_5 : decode prog_12_method_1_code 5 = .ok (.aload_n 1, 1) := by decide +kernel
theorem d2_6 : decode prog_12_method_1_code 6 = .ok (.putfield 7, 3) := by decide +kernel
theorem d2_9 : decode prog_12_method_1_code 9 = .ok (.aload_n 0, 1) := by decide +kernel
theorem d2_10 : decode prog_12_method_1_code 10 = .ok (.aload_n 2, 1) := by decide +kernel
theorem d2_11 : decode prog_12_method_1_code 11 = .ok (.putfield 13, 3) := by decide +kernel
theorem d2_14 : decode prog_12_method_1_code 14 = .ok (.aload_n 0, 1) := by decide +kernel
theorem d2_15 : decode prog_12_method_1_code 15 = .ok (.aload_n 3, 1) := by decide +kernel
theorem d2_16 : decode prog_12_method_1_code 16 = .ok (.putfield 17, 3) := by decide +kernel
theorem d2_19 : decode prog_12_method_1_code 19 = .ok (.return_, 1) := by decide +kernel
theorem pn_com_example_earnest_roster_earnestroster_MergeResult : plainName "com/example/earnest_roster/earnestroster/MergeResult" = true := by first | (simp [plainName, overriddenIn]; done) | decide +kernel
def Q_rmInit (Z : State) (a1 : Addr) (wS : Addr) (h0 : Heap) (n0 : Nat) (v : Option Value) (h : Heap) (L : List Loc) : Prop := v = none ∧ Fr n0 L ∧ Keep h0 h [a1] ∧ Exa Z h a1 "com/example/earnest_roster/earnestroster/MergeResult" ∧ Fld Z h a1 "com/example/earnest_roster/earnestroster/MergeResult" "status" "Lcom/example/earnest_roster/earnestroster/MergeResult$Status;" (.ref wS) ∧ Fld Z h a1 "com/example/earnest_roster/earnestroster/MergeResult" "id" "Ljava/lang/String;" .null ∧ Fld Z h a1 "com/example/earnest_roster/earnestroster/MergeResult" "error" "Lcom/example/earnest_roster/earnestroster/ApiError;" .null
set_option maxRecDepth 65536 in
set_option maxHeartbeats 40000000 in
theorem rmInit (l : Launch) (Z : State) (a0 : Array Value) (hw : ∀ d ∈ tables_1, d.before a0 Z = true) (ws : List Jvm.Cond) (a1 : Addr) (wS : Addr) (h0 : Heap) (n0 : Nat) (Z0 : n0 ≤ h0.size) (P1 : Exa Z h0 a1 "com/example/earnest_roster/earnestroster/MergeResult") (P2 : Fld Z h0 a1 "com/example/earnest_roster/earnestroster/MergeResult" "status" "Lcom/example/earnest_roster/earnestroster/MergeResult$Status;" .null) (P3 : Fld Z h0 a1 "com/example/earnest_roster/earnestroster/MergeResult" "id" "Ljava/lang/String;" .null) (P4 : Fld Z h0 a1 "com/example/earnest_roster/earnestroster/MergeResult" "error" "Lcom/example/earnest_roster/earnestroster/ApiError;" .null) (OLD : Old Z n0 h0) (ga : n0 ≤ a1) :
    MetFree l (⟨"com/example/earnest_roster/earnestroster/MergeResult", "<init>", "(Lcom/example/earnest_roster/earnestroster/MergeResult$Status;Ljava/lang/String;Lcom/example/earnest_roster/earnestroster/ApiError;)V"⟩ : MethodName) (head1 (Jvm.Cond.code (⟨"com/example/earnest_roster/earnestroster/MergeResult", "<init>", "(Lcom/example/earnest_roster/earnestroster/MergeResult$Status;Ljava/lang/String;Lcom/example/earnest_roster/earnestroster/ApiError;)V"⟩ : MethodName) prog_12_method_1_code 4 none :: ws) ({ frames := 1, cells := 0, slots := 0, locals := 12 } : Room)) (fun a U => a = #[(.ref a1), (.ref wS), .null, .null] ∧ Z.Warmed39 U.vm ∧ U.heap = h0) (fun _ _ _ _ _ => True) (fun _ U o U' => ∃ v L, o = .returned v ∧ Q_rmInit Z a1 wS h0 n0 v U'.heap L ∧ FrameEnd U o U' L ({ frames := 1, cells := 0, slots := 0, locals := 12 } : Room).cells ({ frames := 1, cells := 0, slots := 0, locals := 12 } : Room).slots) := by
  refine MetFree.of_bodySF (plainFor_of_name pn_com_example_earnest_roster_earnestroster_MergeResult) hisR ?_
  intro p e s m args below meth c s₁ Bd hml0 hP hK
  obtain ⟨rfl, hZ, hh⟩ := hP
  have hx := Bd.exec
  have hby := Bd.bytes
  have hml : c.maxLocals = 4 := hml0
  have hown : s.vm.findClass "com/example/earnest_roster/earnestroster/MergeResult" = some m.cls := findClass_of_methodNamed Bd.named
  have hnm := (name_of_methodNamed Bd.named Bd.method).1
  have X0 : Stand p l e ({ frames := 1, cells := 0, slots := 0, locals := 12 } : Room) s m #[(.ref a1), (.ref wS), .null, .null] below meth c s₁ [] 0 0 := Stand.of_body Bd
  have e0 : s₁.heap = h0 := by rw [← hh, Bd.state]; rfl
  have N0 := Fr.nil n0
  have pre0 : ∀ t, Steps p.tables e below (s₁.setTop (mkF m 0 #[.val (.ref a1), .val (.ref wS), .val .null, .val .null] [])) t → Steps p.tables e below (s₁.setTop (entryFrame m #[(.ref a1), (.ref wS), .null, .null] 4)) t := fun t k => castTop (ef_rmInit m a1 wS) k
  have oz := OLD.1
  have lt_a1 := P1.lt
  refine own_go (B := s₁.setTop (mkF m 0 #[.val (.ref a1), .val (.ref wS), .val .null, .val .null] [])) pre0 ?_
  show ∃ t o, Steps p.tables e below (s₁.setTop (mkF m 0 #[.val (.ref a1), .val (.ref wS), .val .null, .val .null] [])) t ∧ _
  refine own_go (fun _ => XS.aloadN X0.here hx rfl (hb hby d2_0) rfl rfl) ?_
  show ∃ t o, Steps p.tables e below (s₁.setTop (mkF m 1 #[.val (.ref a1), .val (.ref wS), .val .null, .val .null] [(.ref a1)])) t ∧ _
  obtain ⟨T5, X5, e5, st5⟩ := initO X0 hx hZ hown (hw _ (List.mem_of_getElem? (i := 12) rfl)) (hw _ (List.mem_of_getElem? (i := 13) rfl)) (hw _ (List.mem_of_getElem? (i := 14) rfl)) e0 (g := (mkF m 1 #[.val (.ref a1), .val (.ref wS), .val .null, .val .null] [(.ref a1)])) rfl (by rw [hml]; rfl) rfl (hb hby d2_1) (by decide) (W := 0) (by show 2 * 0 + _ ≤ _; exact Nat.le_of_eq rfl) (by decide)
  refine own_go st5 ?_
  show ∃ t o, Steps p.tables e below (T5.setTop (mkF m 4 #[.val (.ref a1), .val (.ref wS), .val .null, .val .null] [])) t ∧ _
  refine own_go (fun _ => XS.aloadN X5.here hx rfl (hb hby d2_4) rfl rfl) ?_
  show ∃ t o, Steps p.tables e below (T5.setTop (mkF m 5 #[.val (.ref a1), .val (.ref wS), .val .null, .val .null] [(.ref a1)])) t ∧ _
  refine own_go (fun _ => XS.aloadN X5.here hx rfl (hb hby d2_5) rfl rfl) ?_
  show ∃ t o, Steps p.tables e below (T5.setTop (mkF m 6 #[.val (.ref a1), .val (.ref wS), .val .null, .val .null] [(.ref wS), (.ref a1)])) t ∧ _
  obtain ⟨T6, h6, X6, e6, W6, st6⟩ := putF X5 hx hZ hown (host := "") (Or.inl (hw _ (List.mem_of_getElem? (i := 15) rfl))) Via.refl e5 P2 P1 (Or.inr ⟨(hw _ (List.mem_of_getElem? (i := 16) rfl)), rfl, hnm⟩) (hw _ (List.mem_of_getElem? (i := 5) rfl)) (ty := (.object "com/example/earnest_roster/earnestroster/MergeResult$Status")) (by decide) rfl rfl (g := (mkF m 6 #[.val (.ref a1), .val (.ref wS), .val .null, .val .null] [(.ref wS), (.ref a1)])) rfl rfl (hb hby d2_6)
  refine own_go st6 ?_
  have le_6 : h0.size ≤ h6.size := Nat.le_of_eq W6.size.symm
  have K6 : Keep h0 h6 [a1] := Keep.wr (Keep.refl h0 [a1]) W6 (Or.inl (List.mem_of_getElem? (i := 0) rfl))
  have N6 := Fr.snoc X6 N0 ga
  have Fw6 := Fld.same W6 P2
  show ∃ t o, Steps p.tables e below (T6.setTop (mkF m 9 #[.val (.ref a1), .val (.ref wS), .val .null, .val .null] [])) t ∧ _
  refine own_go (fun _ => XS.aloadN X6.here hx rfl (hb hby d2_9) rfl rfl) ?_
  show ∃ t o, Steps p.tables e below (T6.setTop (mkF m 10 #[.val (.ref a1), .val (.ref wS), .val .null, .val .null] [(.ref a1)])) t ∧ _
  refine own_go (fun _ => XS.aloadN X6.here hx rfl (hb hby d2_10) rfl rfl) ?_
  show ∃ t o, Steps p.tables e below (T6.setTop (mkF m 11 #[.val (.ref a1), .val (.ref wS), .val .null, .val .null] [.null, (.ref a1)])) t ∧ _
  have F7 : Exa Z h6 a1 "com/example/earnest_roster/earnestroster/MergeResult" := (Exa.wr W6 P1)
  have F8 : Fld Z h6 a1 "com/example/earnest_roster/earnestroster/MergeResult" "id" "Ljava/lang/String;" .null := (Fld.other W6 P3 (Or.inr (slot_ne (a0 := a0) (Or.inr (hw _ (List.mem_of_getElem? (i := 18) rfl))) (Or.inr (hw _ (List.mem_of_getElem? (i := 16) rfl))) (by decide) (t := (.object "java/lang/String")) (t' := (.object "com/example/earnest_roster/earnestroster/MergeResult$Status")) (by decide) (by decide))))
  obtain ⟨T9, h9, X9, e9, W9, st9⟩ := putF X6 hx hZ hown (host := "") (Or.inl (hw _ (List.mem_of_getElem? (i := 17) rfl))) Via.refl e6 F8 F7 (Or.inr ⟨(hw _ (List.mem_of_getElem? (i := 18) rfl)), rfl, hnm⟩) (hw _ (List.mem_of_getElem? (i := 5) rfl)) (ty := (.object "java/lang/String")) (by decide) rfl rfl (g := (mkF m 11 #[.val (.ref a1), .val (.ref wS), .val .null, .val .null] [.null, (.ref a1)])) rfl rfl (hb hby d2_11)
  refine own_go st9 ?_
  have le_9 : h6.size ≤ h9.size := Nat.le_of_eq W9.size.symm
  have K9 : Keep h0 h9 [a1] := Keep.wr K6 W9 (Or.inl (List.mem_of_getElem? (i := 0) rfl))
  have N9 := Fr.snoc X9 N6 ga
  have Fw9 := Fld.same W9 F8
  show ∃ t o, Steps p.tables e below (T9.setTop (mkF m 14 #[.val (.ref a1), .val (.ref wS), .val .null, .val .null] [])) t ∧ _
  refine own_go (fun _ => XS.aloadN X9.here hx rfl (hb hby d2_14) rfl rfl) ?_
  show ∃ t o, Steps p.tables e below (T9.setTop (mkF m 15 #[.val (.ref a1), .val (.ref wS), .val .null, .val .null] [(.ref a1)])) t ∧ _
  refine own_go (fun _ => XS.aloadN X9.here hx rfl (hb hby d2_15) rfl rfl) ?_
  show ∃ t o, Steps p.tables e below (T9.setTop (mkF m 16 #[.val (.ref a1), .val (.ref wS), .val .null, .val .null] [.null, (.ref a1)])) t ∧ _
  have F10 : Exa Z h9 a1 "com/example/earnest_roster/earnestroster/MergeResult" := (Exa.wr W9 F7)
  have F11 : Fld Z h9 a1 "com/example/earnest_roster/earnestroster/MergeResult" "error" "Lcom/example/earnest_roster/earnestroster/ApiError;" .null := (Fld.other W9 (Fld.other W6 P4 (Or.inr (slot_ne (a0 := a0) (Or.inr (hw _ (List.mem_of_getElem? (i := 20) rfl))) (Or.inr (hw _ (List.mem_of_getElem? (i := 16) rfl))) (by decide) (t := (.object "com/example/earnest_roster/earnestroster/ApiError")) (t' := (.object "com/example/earnest_roster/earnestroster/MergeResult$Status")) (by decide) (by decide)))) (Or.inr (slot_ne (a0 := a0) (Or.inr (hw _ (List.mem_of_getElem? (i := 20) rfl))) (Or.inr (hw _ (List.mem_of_getElem? (i := 18) rfl))) (by decide) (t := (.object "com/example/earnest_roster/earnestroster/ApiError")) (t' := (.object "java/lang/String")) (by decide) (by decide))))
  obtain ⟨T12, h12, X12, e12, W12, st12⟩ := putF X9 hx hZ hown (host := "") (Or.inl (hw _ (List.mem_of_getElem? (i := 19) rfl))) Via.refl e9 F11 F10 (Or.inr ⟨(hw _ (List.mem_of_getElem? (i := 20) rfl)), rfl, hnm⟩) (hw _ (List.mem_of_getElem? (i := 5) rfl)) (ty := (.object "com/example/earnest_roster/earnestroster/ApiError")) (by decide) rfl rfl (g := (mkF m 16 #[.val (.ref a1), .val (.ref wS), .val .null, .val .null] [.null, (.ref a1)])) rfl rfl (hb hby d2_16)
  refine own_go st12 ?_
  have le_12 : h9.size ≤ h12.size := Nat.le_of_eq W12.size.symm
  have K12 : Keep h0 h12 [a1] := Keep.wr K9 W12 (Or.inl (List.mem_of_getElem? (i := 0) rfl))
  have N12 := Fr.snoc X12 N9 ga
  have Fw12 := Fld.same W12 F11
  show ∃ t o, Steps p.tables e below (T12.setTop (mkF m 19 #[.val (.ref a1), .val (.ref wS), .val .null, .val .null] [])) t ∧ _
  have F13 : Exa Z h12 a1 "com/example/earnest_roster/earnestroster/MergeResult" := (Exa.wr W12 F10)
  have F14 : Fld Z h12 a1 "com/example/earnest_roster/earnestroster/MergeResult" "status" "Lcom/example/earnest_roster/earnestroster/MergeResult$Status;" (.ref wS) := (Fld.other W12 (Fld.other W9 Fw6 (Or.inr (slot_ne (a0 := a0) (Or.inr (hw _ (List.mem_of_getElem? (i := 16) rfl))) (Or.inr (hw _ (List.mem_of_getElem? (i := 18) rfl))) (by decide) (t := (.object "com/example/earnest_roster/earnestroster/MergeResult$Status")) (t' := (.object "java/lang/String")) (by decide) (by decide)))) (Or.inr (slot_ne (a0 := a0) (Or.inr (hw _ (List.mem_of_getElem? (i := 16) rfl))) (Or.inr (hw _ (List.mem_of_getElem? (i := 20) rfl))) (by decide) (t := (.object "com/example/earnest_roster/earnestroster/MergeResult$Status")) (t' := (.object "com/example/earnest_roster/earnestroster/ApiError")) (by decide) (by decide))))
  have F15 : Fld Z h12 a1 "com/example/earnest_roster/earnestroster/MergeResult" "id" "Ljava/lang/String;" .null := (Fld.other W12 Fw9 (Or.inr (slot_ne (a0 := a0) (Or.inr (hw _ (List.mem_of_getElem? (i := 18) rfl))) (Or.inr (hw _ (List.mem_of_getElem? (i := 20) rfl))) (by decide) (t := (.object "java/lang/String")) (t' := (.object "com/example/earnest_roster/earnestroster/ApiError")) (by decide) (by decide))))
  obtain ⟨fs, hr, hrun, hended, hW, hsame⟩ := X12.leave (v := none) (fun _ => rfl)
  refine ⟨_, _, ?_, hrun, hended, _, _, rfl, ?_, ⟨_, rfl⟩, hW, hsame.mono (by decide) (by decide)⟩
  · exact X12.returnOut hx Bd.returns (hb hby d2_19) hr
  · show Q_rmInit Z a1 wS h0 n0 _ T12.heap _
    rw [e12]
    exact ⟨rfl, N12, K12, F13, F14, F15, Fw12⟩
theorem ef_rmSkip (m : MethodId)  : entryFrame m #[] 0 = mkF m 0 #[] [] := by first | (simp [entryFrame, mkF, argsToLocals, Value.category]; done) | rfl
theorem d1_0 : decode prog_12_method_3_code 0 = .ok (.new 8, 3) := by decide +kernel
theorem d1_3 : decode prog_12_method_3_code 3 = .ok (.dup, 1) := by decide +kernel
theorem d1_4 : decode prog_12_method_3_code 4 = .ok (.getstatic 24, 3) := by decide +kernel
theorem d1_7 : decode prog_12_method_3_code 7 = .ok (.aconst_null, 1) := by decide +kernel
theorem d1_8 : decode prog_12_method_3_code 8 = .ok (.aconst_null, 1) := by decide +kernel
theorem d1_9 : decode prog_12_method_3_code 9 = .ok (.invokespecial 21, 3) := by decide +kernel
theorem pd_h59be610d : parseMethodDescriptor "(Lcom/example/earnest_roster/earnestroster/MergeResult$Status;Ljava/lang/String;Lcom/example/earnest_roster/earnestroster/ApiError;)V" = some ⟨[(.object "com/example/earnest_roster/earnestroster/MergeResult$Status"), (.object "java/lang/String"), (.object "com/example/earnest_roster/earnestroster/ApiError")], none⟩ := by decide +kernel
theorem d1_12 : decode prog_12_method_3_code 12 = .ok (.areturn, 1) := by decide +kernel
def Q_rmSkip (Z : State) (wS : Addr) (h0 : Heap) (n0 : Nat) (v : Option Value) (h : Heap) (L : List Loc) : Prop := ∃ (b : Addr), v = some (.ref b) ∧ Fr n0 L ∧ Keep h0 h [] ∧ Exa Z h b "com/example/earnest_roster/earnestroster/MergeResult" ∧ Fld Z h b "com/example/earnest_roster/earnestroster/MergeResult" "status" "Lcom/example/earnest_roster/earnestroster/MergeResult$Status;" (.ref wS) ∧ Fld Z h b "com/example/earnest_roster/earnestroster/MergeResult" "id" "Ljava/lang/String;" .null ∧ Fld Z h b "com/example/earnest_roster/earnestroster/MergeResult" "error" "Lcom/example/earnest_roster/earnestroster/ApiError;" .null ∧ (h0.size ≤ b)
set_option maxRecDepth 65536 in
set_option maxHeartbeats 40000000 in
theorem rmSkip (l : Launch) (Z : State) (a0 : Array Value) (hw : ∀ d ∈ tables_1, d.before a0 Z = true) (ws : List Jvm.Cond) (wS : Addr) (h0 : Heap) (n0 : Nat) (Z0 : n0 ≤ h0.size) (OLD : Old Z n0 h0) (P1 : Sta Z Z.heap "com/example/earnest_roster/earnestroster/MergeResult$Status" "SKIPPED" "Lcom/example/earnest_roster/earnestroster/MergeResult$Status;" (.ref wS)) :
    MetFree l (⟨"com/example/earnest_roster/earnestroster/MergeResult", "skipped", "()Lcom/example/earnest_roster/earnestroster/MergeResult;"⟩ : MethodName) (head1 (Jvm.Cond.code (⟨"com/example/earnest_roster/earnestroster/MergeResult", "skipped", "()Lcom/example/earnest_roster/earnestroster/MergeResult;"⟩ : MethodName) prog_12_method_3_code 0 (some (.object "com/example/earnest_roster/earnestroster/MergeResult")) :: ws) ({ frames := 2, cells := 1, slots := 3, locals := 28 } : Room)) (fun a U => a = #[] ∧ Z.Warmed39 U.vm ∧ U.heap = h0) (fun _ _ _ _ _ => True) (fun _ U o U' => ∃ v L, o = .returned v ∧ Q_rmSkip Z wS h0 n0 v U'.heap L ∧ FrameEnd U o U' L ({ frames := 2, cells := 1, slots := 3, locals := 28 } : Room).cells ({ frames := 2, cells := 1, slots := 3, locals := 28 } : Room).slots) := by
  refine MetFree.of_bodySF (plainFor_of_name pn_com_example_earnest_roster_earnestroster_MergeResult) hisR ?_
  intro p e s m args below meth c s₁ Bd hml0 hP hK
  obtain ⟨rfl, hZ, hh⟩ := hP
  have hx := Bd.exec
  have hby := Bd.bytes
  have hml : c.maxLocals = 0 := hml0
  have hown : s.vm.findClass "com/example/earnest_roster/earnestroster/MergeResult" = some m.cls := findClass_of_methodNamed Bd.named
  have hnm := (name_of_methodNamed Bd.named Bd.method).1
  have X0 : Stand p l e ({ frames := 2, cells := 1, slots := 3, locals := 28 } : Room) s m #[] below meth c s₁ [] 0 0 := Stand.of_body Bd
  have e0 : s₁.heap = h0 := by rw [← hh, Bd.state]; rfl
  have N0 := Fr.nil n0
  have pre0 : ∀ t, Steps p.tables e below (s₁.setTop (mkF m 0 #[] [])) t → Steps p.tables e below (s₁.setTop (entryFrame m #[] 0)) t := fun t k => castTop (ef_rmSkip m ) k
  have oz := OLD.1
  refine own_go (B := s₁.setTop (mkF m 0 #[] [])) pre0 ?_
  show ∃ t o, Steps p.tables e below (s₁.setTop (mkF m 0 #[] [])) t ∧ _
  obtain ⟨T2, h2, X2, e2, E2, A2, D2, -, st2⟩ := newO X0 hx hZ hown (hw _ (List.mem_of_getElem? (i := 4) rfl)) (hw _ (List.mem_of_getElem? (i := 5) rfl)) (hw _ (List.mem_of_getElem? (i := 2) rfl)) e0 (g := (mkF m 0 #[] [])) rfl (hb hby d1_0) (by decide) (by decide)
  obtain ⟨b2, g2⟩ : ∃ z, z = h0.size := ⟨_, rfl⟩
  rw [← g2] at A2 D2 st2
  refine own_go st2 ?_
  have le_2 : h0.size ≤ h2.size := E2.1
  have lt_b2 : b2 < h2.size := A2.lt
  have F_status_b2 : Fld Z h2 b2 "com/example/earnest_roster/earnestroster/MergeResult" "status" "Lcom/example/earnest_roster/earnestroster/MergeResult$Status;" .null := D2 (Or.inr (hw _ (List.mem_of_getElem? (i := 16) rfl))) (ty := (.object "com/example/earnest_roster/earnestroster/MergeResult$Status")) (by decide)
  have F_id_b2 : Fld Z h2 b2 "com/example/earnest_roster/earnestroster/MergeResult" "id" "Ljava/lang/String;" .null := D2 (Or.inr (hw _ (List.mem_of_getElem? (i := 18) rfl))) (ty := (.object "java/lang/String")) (by decide)
  have F_error_b2 : Fld Z h2 b2 "com/example/earnest_roster/earnestroster/MergeResult" "error" "Lcom/example/earnest_roster/earnestroster/ApiError;" .null := D2 (Or.inr (hw _ (List.mem_of_getElem? (i := 20) rfl))) (ty := (.object "com/example/earnest_roster/earnestroster/ApiError")) (by decide)
  have K2 : Keep h0 h2 [] := Keep.ext (Keep.refl h0 []) E2
  show ∃ t o, Steps p.tables e below (T2.setTop (mkF m 3 #[] [(.ref b2)])) t ∧ _
  refine own_go (fun _ => XS.dup X2.here hx rfl (hb hby d1_3) rfl rfl) ?_
  show ∃ t o, Steps p.tables e below (T2.setTop (mkF m 4 #[] [(.ref b2), (.ref b2)])) t ∧ _
  have F3 : Old Z n0 h2 := (OLD.ext E2)
  obtain ⟨T4, X4, e4, st4⟩ := getS2 X2 hx hZ hown (host := "") (Or.inl (hw _ (List.mem_of_getElem? (i := 6) rfl))) Via.refl e2 (Sta.ext F3.2 P1) (g := (mkF m 4 #[] [(.ref b2), (.ref b2)])) rfl (hb hby d1_4)
  refine own_go st4 ?_
  show ∃ t o, Steps p.tables e below (T4.setTop (mkF m 7 #[] [(.ref wS), (.ref b2), (.ref b2)])) t ∧ _
  refine own_go (fun _ => XS.aconstNull X4.here hx rfl (hb hby d1_7)) ?_
  show ∃ t o, Steps p.tables e below (T4.setTop (mkF m 8 #[] [.null, (.ref wS), (.ref b2), (.ref b2)])) t ∧ _
  refine own_go (fun _ => XS.aconstNull X4.here hx rfl (hb hby d1_8)) ?_
  show ∃ t o, Steps p.tables e below (T4.setTop (mkF m 9 #[] [.null, .null, (.ref wS), (.ref b2), (.ref b2)])) t ∧ _
  have ge5 : n0 ≤ b2 := by omega
  have zl6 : n0 ≤ h2.size := by omega
  obtain ⟨_, _, ⟨T7, L7, k7, n7⟩, -, X7, ⟨Lc7, hQ7, l7, y7, z7⟩, st7⟩ := X4.specialBack hx (y := (⟨"com/example/earnest_roster/earnestroster/MergeResult", "<init>", "(Lcom/example/earnest_roster/earnestroster/MergeResult$Status;Ljava/lang/String;Lcom/example/earnest_roster/earnestroster/ApiError;)V"⟩ : MethodName)) rfl hown (mvT hZ (hw _ (List.mem_of_getElem? (i := 9) rfl))) (mvT hZ (hw _ (List.mem_of_getElem? (i := 10) rfl))) (mvT hZ (hw _ (List.mem_of_getElem? (i := 11) rfl))) (by decide) (backOf (W := 1) (rmInit l Z a0 hw [] b2 wS h2 n0 zl6 A2 F_status_b2 F_id_b2 F_error_b2 F3 ge5) hZ (hw _ (List.mem_of_getElem? (i := 11) rfl)) (hw _ (List.mem_of_getElem? (i := 2) rfl)) (by decide) (by decide)) (g := (mkF m 9 #[] [.null, .null, (.ref wS), (.ref b2), (.ref b2)])) rfl (by rw [hml]; rfl) (Steps.refl _) (a := b2) (argsL := [(.ref wS), .null, .null]) (rest := [(.ref b2)]) (lenOf pd_h59be610d rfl) rfl (by show 2 * 0 + _ ≤ _; exact Nat.le_of_eq rfl) (hb hby d1_9) (fun _ _ => ⟨rfl, e4, (by decide : 1 + 0 ≤ _), (by decide : 3 + 0 ≤ _)⟩)
  dsimp only [Pt.U, Pt.locs, Pt.cells, Pt.slots] at X7 l7 y7 z7 st7 hQ7
  subst l7 y7 z7
  obtain ⟨rfl, Nq7, Kp7, G7_0, G7_1, G7_2, G7_3⟩ := hQ7
  have N7 := Fr.app N0 Nq7
  refine own_goT st7 ?_
  have le_7 : h2.size ≤ T7.heap.size := Kp7.1
  have sz8 : h0.size ≤ b2 := by omega
  have K7 : Keep h0 T7.heap [] := Keep.trans K2 Kp7 (allS (Or.inr sz8) all0)
  show ∃ t o, Steps p.tables e below (T7.setTop (mkF m 12 #[] [(.ref b2)])) t ∧ _
  obtain ⟨fs, hr, hrun, hended, hW, hsame⟩ := X7.leave (v := some (.ref b2)) (fun h => by rw [Bd.returns] at h; cases h)
  refine ⟨_, _, ?_, hrun, hended, _, _, rfl, ?_, ⟨_, rfl⟩, hW, hsame.mono (by decide) (by decide)⟩
  · jvm_step X7.here [X7.here.top, hx, (hb hby d1_12), X7.method', Bd.returns, Value.isRef, FieldType.isReference]
    first | (intro acts; rw [hr _ acts rfl rfl rfl]) | rw [hr _ _ rfl rfl rfl]
    exact Steps.refl _
  · show Q_rmSkip Z wS h0 n0 _ T7.heap _
    exact ⟨b2, rfl, N7, K7, G7_0, G7_1, G7_2, G7_3, (by omega)⟩
theorem ef_rmGetS (m : MethodId) (x0 : Addr) : entryFrame m #[(.ref x0)] 1 = mkF m 0 #[.val (.ref x0)] [] := by first | (simp [entryFrame, mkF, argsToLocals, Value.category]; done) | rfl
theorem d5_0 : decode prog_12_method_5_code 0 = .ok (.aload_n 0, 1) := by decide +kernel
theorem d5_1 : decode prog_12_method_5_code 1 = .ok (.getfield 7, 3) := by decide +kernel
theorem d5_4 : decode prog_12_method_5_code 4 = .ok (.areturn, 1) := by decide +kernel
def Q_rmGetS (Z : State) (a1 : Addr) (wS : Addr) (h0 : Heap) (n0 : Nat) (v : Option Value) (h : Heap) (L : List Loc) : Prop := v = some (.ref wS) ∧ Fr n0 L ∧ h = h0
set_option maxRecDepth 65536 in
set_option maxHeartbeats 40000000 in
theorem rmGetS (l : Launch) (Z : State) (a0 : Array Value) (hw : ∀ d ∈ tables_1, d.before a0 Z = true) (ws : List Jvm.Cond) (a1 : Addr) (wS : Addr) (h0 : Heap) (n0 : Nat) (Z0 : n0 ≤ h0.size) (P1 : Fld Z h0 a1 "com/example/earnest_roster/earnestroster/MergeResult" "status" "Lcom/example/earnest_roster/earnestroster/MergeResult$Status;" (.ref wS)) (OLD : Old Z n0 h0) :
    MetFree l (⟨"com/example/earnest_roster/earnestroster/MergeResult", "getStatus", "()Lcom/example/earnest_roster/earnestroster/MergeResult$Status;"⟩ : MethodName) (head1 (Jvm.Cond.code (⟨"com/example/earnest_roster/earnestroster/MergeResult", "getStatus", "()Lcom/example/earnest_roster/earnestroster/MergeResult$Status;"⟩ : MethodName) prog_12_method_5_code 1 (some (.object "com/example/earnest_roster/earnestroster/MergeResult$Status")) :: ws) ({ frames := 0, cells := 0, slots := 0, locals := 0 } : Room)) (fun a U => a = #[(.ref a1)] ∧ Z.Warmed39 U.vm ∧ U.heap = h0) (fun _ _ _ _ _ => True) (fun _ U o U' => ∃ v L, o = .returned v ∧ Q_rmGetS Z a1 wS h0 n0 v U'.heap L ∧ FrameEnd U o U' L ({ frames := 0, cells := 0, slots := 0, locals := 0 } : Room).cells ({ frames := 0, cells := 0, slots := 0, locals := 0 } : Room).slots) := by
  refine MetFree.of_bodySF (plainFor_of_name pn_com_example_earnest_roster_earnestroster_MergeResult) hisR ?_
  intro p e s m args below meth c s₁ Bd hml0 hP hK
  obtain ⟨rfl, hZ, hh⟩ := hP
  have hx := Bd.exec
  have hby := Bd.bytes
  have hml : c.maxLocals = 1 := hml0
  have hown : s.vm.findClass "com/example/earnest_roster/earnestroster/MergeResult" = some m.cls := findClass_of_methodNamed Bd.named
  have hnm := (name_of_methodNamed Bd.named Bd.method).1
  have X0 : Stand p l e ({ frames := 0, cells := 0, slots := 0, locals := 0 } : Room) s m #[(.ref a1)] below meth c s₁ [] 0 0 := Stand.of_body Bd
  have e0 : s₁.heap = h0 := by rw [← hh, Bd.state]; rfl
  have N0 := Fr.nil n0
  have pre0 : ∀ t, Steps p.tables e below (s₁.setTop (mkF m 0 #[.val (.ref a1)] [])) t → Steps p.tables e below (s₁.setTop (entryFrame m #[(.ref a1)] 1)) t := fun t k => castTop (ef_rmGetS m a1) k
  have oz := OLD.1
  have lt_a1 := P1.lt
  refine own_go (B := s₁.setTop (mkF m 0 #[.val (.ref a1)] [])) pre0 ?_
  show ∃ t o, Steps p.tables e below (s₁.setTop (mkF m 0 #[.val (.ref a1)] [])) t ∧ _
  refine own_go (fun _ => XS.aloadN X0.here hx rfl (hb hby d5_0) rfl rfl) ?_
  show ∃ t o, Steps p.tables e below (s₁.setTop (mkF m 1 #[.val (.ref a1)] [(.ref a1)])) t ∧ _
  obtain ⟨T2, X2, e2, st2⟩ := getF X0 hx hZ hown (host := "") (Or.inl (hw _ (List.mem_of_getElem? (i := 15) rfl))) Via.refl e0 P1 (g := (mkF m 1 #[.val (.ref a1)] [(.ref a1)])) rfl rfl (hb hby d5_1)
  refine own_go st2 ?_
  show ∃ t o, Steps p.tables e below (T2.setTop (mkF m 4 #[.val (.ref a1)] [(.ref wS)])) t ∧ _
  obtain ⟨fs, hr, hrun, hended, hW, hsame⟩ := X2.leave (v := some (.ref wS)) (fun h => by rw [Bd.returns] at h; cases h)
  refine ⟨_, _, ?_, hrun, hended, _, _, rfl, ?_, ⟨_, rfl⟩, hW, hsame.mono (by decide) (by decide)⟩
  · jvm_step X2.here [X2.here.top, hx, (hb hby d5_4), X2.method', Bd.returns, Value.isRef, FieldType.isReference]
    first | (intro acts; rw [hr _ acts rfl rfl rfl]) | rw [hr _ _ rfl rfl rfl]
    exact Steps.refl _
  · show Q_rmGetS Z a1 wS h0 n0 _ T2.heap _
    rw [e2]
    exact ⟨rfl, N0, rfl⟩
theorem ef_rmGetI (m : MethodId) (x0 : Addr) : entryFrame m #[(.ref x0)] 1 = mkF m 0 #[.val (.ref x0)] [] := by first | (simp [entryFrame, mkF, argsToLocals, Value.category]; done) | rfl
theorem d6_0 : decode prog_12_method_6_code 0 = .ok (.aload_n 0, 1) := by decide +kernel
theorem d6_1 : decode prog_12_method_6_code 1 = .ok (.getfield 13, 3) := by decide +kernel
theorem d6_4 : decode prog_12_method_6_code 4 = .ok (.areturn, 1) := by decide +kernel
def Q_rmGetI (Z : State) (a1 : Addr) (h0 : Heap) (n0 : Nat) (v : Option Value) (h : Heap) (L : List Loc) : Prop := v = some .null ∧ Fr n0 L ∧ h = h0
set_option maxRecDepth 65536 in
set_option maxHeartbeats 40000000 in
theorem rmGetI (l : Launch) (Z : State) (a0 : Array Value) (hw : ∀ d ∈ tables_1, d.before a0 Z = true) (ws : List Jvm.Cond) (a1 : Addr) (h0 : Heap) (n0 : Nat) (Z0 : n0 ≤ h0.size) (P1 : Fld Z h0 a1 "com/example/earnest_roster/earnestroster/MergeResult" "id" "Ljava/lang/String;" .null) (OLD : Old Z n0 h0) :
    MetFree l (⟨"com/example/earnest_roster/earnestroster/MergeResult", "getId", "()Ljava/lang/String;"⟩ : MethodName) (head1 (Jvm.Cond.code (⟨"com/example/earnest_roster/earnestroster/MergeResult", "getId", "()Ljava/lang/String;"⟩ : MethodName) prog_12_method_6_code 1 (some (.object "java/lang/String")) :: ws) ({ frames := 0, cells := 0, slots := 0, locals := 0 } : Room)) (fun a U => a = #[(.ref a1)] ∧ Z.Warmed39 U.vm ∧ U.heap = h0) (fun _ _ _ _ _ => True) (fun _ U o U' => ∃ v L, o = .returned v ∧ Q_rmGetI Z a1 h0 n0 v U'.heap L ∧ FrameEnd U o U' L ({ frames := 0, cells := 0, slots := 0, locals := 0 } : Room).cells ({ frames := 0, cells := 0, slots := 0, locals := 0 } : Room).slots) := by
  refine MetFree.of_bodySF (plainFor_of_name pn_com_example_earnest_roster_earnestroster_MergeResult) hisR ?_
  intro p e s m args below meth c s₁ Bd hml0 hP hK
  obtain ⟨rfl, hZ, hh⟩ := hP
  have hx := Bd.exec
  have hby := Bd.bytes
  have hml : c.maxLocals = 1 := hml0
  have hown : s.vm.findClass "com/example/earnest_roster/earnestroster/MergeResult" = some m.cls := findClass_of_methodNamed Bd.named
  have hnm := (name_of_methodNamed Bd.named Bd.method).1
  have X0 : Stand p l e ({ frames := 0, cells := 0, slots := 0, locals := 0 } : Room) s m #[(.ref a1)] below meth c s₁ [] 0 0 := Stand.of_body Bd
  have e0 : s₁.heap = h0 := by rw [← hh, Bd.state]; rfl
  have N0 := Fr.nil n0
  have pre0 : ∀ t, Steps p.tables e below (s₁.setTop (mkF m 0 #[.val (.ref a1)] [])) t → Steps p.tables e below (s₁.setTop (entryFrame m #[(.ref a1)] 1)) t := fun t k => castTop (ef_rmGetI m a1) k
  have oz := OLD.1
  have lt_a1 := P1.lt
  refine own_go (B := s₁.setTop (mkF m 0 #[.val (.ref a1)] [])) pre0 ?_
  show ∃ t o, Steps p.tables e below (s₁.setTop (mkF m 0 #[.val (.ref a1)] [])) t ∧ _
  refine own_go (fun _ => XS.aloadN X0.here hx rfl (hb hby d6_0) rfl rfl) ?_
  show ∃ t o, Steps p.tables e below (s₁.setTop (mkF m 1 #[.val (.ref a1)] [(.ref a1)])) t ∧ _
  obtain ⟨T2, X2, e2, st2⟩ := getF X0 hx hZ hown (host := "") (Or.inl (hw _ (List.mem_of_getElem? (i := 17) rfl))) Via.refl e0 P1 (g := (mkF m 1 #[.val (.ref a1)] [(.ref a1)])) rfl rfl (hb hby d6_1)
  refine own_go st2 ?_
  show ∃ t o, Steps p.tables e below (T2.setTop (mkF m 4 #[.val (.ref a1)] [.null])) t ∧ _
  obtain ⟨fs, hr, hrun, hended, hW, hsame⟩ := X2.leave (v := some .null) (fun h => by rw [Bd.returns] at h; cases h)
  refine ⟨_, _, ?_, hrun, hended, _, _, rfl, ?_, ⟨_, rfl⟩, hW, hsame.mono (by decide) (by decide)⟩
  · jvm_step X2.here [X2.here.top, hx, (hb hby d6_4), X2.method', Bd.returns, Value.isRef, FieldType.isReference]
    first | (intro acts; rw [hr _ acts rfl rfl rfl]) | rw [hr _ _ rfl rfl rfl]
    exact Steps.refl _
  · show Q_rmGetI Z a1 h0 n0 _ T2.heap _
    rw [e2]
    exact ⟨rfl, N0, rfl⟩
theorem ef_rmGetE (m : MethodId) (x0 : Addr) : entryFrame m #[(.ref x0)] 1 = mkF m 0 #[.val (.ref x0)] [] := by first | (simp [entryFrame, mkF, argsToLocals, Value.category]; done) | rfl
theorem d7_0 : decode prog_12_method_7_code 0 = .ok (.aload_n 0, 1) := by decide +kernel
theorem d7_1 : decode prog_12_method_7_code 1 = .ok (.getfield 17, 3) := by decide +kernel
theorem d7_4 : decode prog_12_method_7_code 4 = .ok (.areturn, 1) := by decide +kernel
def Q_rmGetE (Z : State) (a1 : Addr) (h0 : Heap) (n0 : Nat) (v : Option Value) (h : Heap) (L : List Loc) : Prop := v = some .null ∧ Fr n0 L ∧ h = h0
set_option maxRecDepth 65536 in
set_option maxHeartbeats 40000000 in
theorem rmGetE (l : Launch) (Z : State) (a0 : Array Value) (hw : ∀ d ∈ tables_1, d.before a0 Z = true) (ws : List Jvm.Cond) (a1 : Addr) (h0 : Heap) (n0 : Nat) (Z0 : n0 ≤ h0.size) (P1 : Fld Z h0 a1 "com/example/earnest_roster/earnestroster/MergeResult" "error" "Lcom/example/earnest_roster/earnestroster/ApiError;" .null) (OLD : Old Z n0 h0) :
    MetFree l (⟨"com/example/earnest_roster/earnestroster/MergeResult", "getError", "()Lcom/example/earnest_roster/earnestroster/ApiError;"⟩ : MethodName) (head1 (Jvm.Cond.code (⟨"com/example/earnest_roster/earnestroster/MergeResult", "getError", "()Lcom/example/earnest_roster/earnestroster/ApiError;"⟩ : MethodName) prog_12_method_7_code 1 (some (.object "com/example/earnest_roster/earnestroster/ApiError")) :: ws) ({ frames := 0, cells := 0, slots := 0, locals := 0 } : Room)) (fun a U => a = #[(.ref a1)] ∧ Z.Warmed39 U.vm ∧ U.heap = h0) (fun _ _ _ _ _ => True) (fun _ U o U' => ∃ v L, o = .returned v ∧ Q_rmGetE Z a1 h0 n0 v U'.heap L ∧ FrameEnd U o U' L ({ frames := 0, cells := 0, slots := 0, locals := 0 } : Room).cells ({ frames := 0, cells := 0, slots := 0, locals := 0 } : Room).slots) := by
  refine MetFree.of_bodySF (plainFor_of_name pn_com_example_earnest_roster_earnestroster_MergeResult) hisR ?_
  intro p e s m args below meth c s₁ Bd hml0 hP hK
  obtain ⟨rfl, hZ, hh⟩ := hP
  have hx := Bd.exec
  have hby := Bd.bytes
  have hml : c.maxLocals = 1 := hml0
  have hown : s.vm.findClass "com/example/earnest_roster/earnestroster/MergeResult" = some m.cls := findClass_of_methodNamed Bd.named
  have hnm := (name_of_methodNamed Bd.named Bd.method).1
  have X0 : Stand p l e ({ frames := 0, cells := 0, slots := 0, locals := 0 } : Room) s m #[(.ref a1)] below meth c s₁ [] 0 0 := Stand.of_body Bd
  have e0 : s₁.heap = h0 := by rw [← hh, Bd.state]; rfl
  have N0 := Fr.nil n0
  have pre0 : ∀ t, Steps p.tables e below (s₁.setTop (mkF m 0 #[.val (.ref a1)] [])) t → Steps p.tables e below (s₁.setTop (entryFrame m #[(.ref a1)] 1)) t := fun t k => castTop (ef_rmGetE m a1) k
  have oz := OLD.1
  have lt_a1 := P1.lt
  refine own_go (B := s₁.setTop (mkF m 0 #[.val (.ref a1)] [])) pre0 ?_
  show ∃ t o, Steps p.tables e below (s₁.setTop (mkF m 0 #[.val (.ref a1)] [])) t ∧ _
  refine own_go (fun _ => XS.aloadN X0.here hx rfl (hb hby d7_0) rfl rfl) ?_
  show ∃ t o, Steps p.tables e below (s₁.setTop (mkF m 1 #[.val (.ref a1)] [(.ref a1)])) t ∧ _
  obtain ⟨T2, X2, e2, st2⟩ := getF X0 hx hZ hown (host := "") (Or.inl (hw _ (List.mem_of_getElem? (i := 19) rfl))) Via.refl e0 P1 (g := (mkF m 1 #[.val (.ref a1)] [(.ref a1)])) rfl rfl (hb hby d7_1)
  refine own_go st2 ?_
  show ∃ t o, Steps p.tables e below (T2.setTop (mkF m 4 #[.val (.ref a1)] [.null])) t ∧ _
  obtain ⟨fs, hr, hrun, hended, hW, hsame⟩ := X2.leave (v := some .null) (fun h => by rw [Bd.returns] at h; cases h)
  refine ⟨_, _, ?_, hrun, hended, _, _, rfl, ?_, ⟨_, rfl⟩, hW, hsame.mono (by decide) (by decide)⟩
  · jvm_step X2.here [X2.here.top, hx, (hb hby d7_4), X2.method', Bd.returns, Value.isRef, FieldType.isReference]
    first | (intro acts; rw [hr _ acts rfl rfl rfl]) | rw [hr _ _ rfl rfl rfl]
    exact Steps.refl _
  · show Q_rmGetE Z a1 h0 n0 _ T2.heap _
    rw [e2]
    exact ⟨rfl, N0, rfl⟩
theorem ef_rmShape (m : MethodId) (x0 : Addr) : entryFrame m #[(.ref x0)] 1 = mkF m 0 #[.val (.ref x0)] [] := by first | (simp [entryFrame, mkF, argsToLocals, Value.category]; done) | rfl
theorem d4_0 : decode method_2_code 0 = .ok (.aload_n 0, 1) := by decide +kernel
theorem d4_1 : decode method_2_code 1 = .ok (.ifnonnull 5, 3) := by decide +kernel
theorem d4_6 : decode method_2_code 6 = .ok (.aload_n 0, 1) := by decide +kernel
theorem d4_7 : decode method_2_code 7 = .ok (.invokevirtual 7, 3) := by decide +kernel
theorem pd_h841489b0 : parseMethodDescriptor "()Lcom/example/earnest_roster/earnestroster/MergeResult$Status;" = some ⟨[], some (.object "com/example/earnest_roster/earnestroster/MergeResult$Status")⟩ := by decide +kernel
theorem d4_10 : decode method_2_code 10 = .ok (.getstatic 13, 3) := by decide +kernel
theorem d4_13 : decode method_2_code 13 = .ok (.if_acmp .eq 5, 3) := by decide +kernel
theorem d4_18 : decode method_2_code 18 = .ok (.aload_n 0, 1) := by decide +kernel
theorem d4_19 : decode method_2_code 19 = .ok (.invokevirtual 19, 3) := by decide +kernel
theorem pd__28_29Ljava_2flang_2fString_3b : parseMethodDescriptor "()Ljava/lang/String;" = some ⟨[], some (.object "java/lang/String")⟩ := by decide +kernel
theorem d4_22 : decode method_2_code 22 = .ok (.ifnull 5, 3) := by decide +kernel
theorem d4_27 : decode method_2_code 27 = .ok (.aload_n 0, 1) := by decide +kernel
theorem d4_28 : decode method_2_code 28 = .ok (.invokevirtual 23, 3) := by decide +kernel
theorem pd_h9e993125 : parseMethodDescriptor "()Lcom/example/earnest_roster/earnestroster/ApiError;" = some ⟨[], some (.object "com/example/earnest_roster/earnestroster/ApiError")⟩ := by decide +kernel
theorem d4_31 : decode method_2_code 31 = .ok (.ifnonnull 7, 3) := by decide +kernel
theorem d4_34 : decode method_2_code 34 = .ok (.iconst 1, 1) := by decide +kernel
theorem d4_35 : decode method_2_code 35 = .ok (.goto 4, 3) := by decide +kernel
theorem d4_39 : decode method_2_code 39 = .ok (.ireturn, 1) := by decide +kernel
theorem pn_com_example_earnest_roster_earnestroster_MergeResultSkippedPinLaw : plainName "com/example/earnest_roster/earnestroster/MergeResultSkippedPinLaw" = true := by first | (simp [plainName, overriddenIn]; done) | decide +kernel
def Q_rmShape (Z : State) (a1 : Addr) (wS : Addr) (h0 : Heap) (n0 : Nat) (v : Option Value) (h : Heap) (L : List Loc) : Prop := v = some (.int (1 : Int32)) ∧ Fr n0 L ∧ h = h0
set_option maxRecDepth 65536 in
set_option maxHeartbeats 40000000 in
theorem rmShape (l : Launch) (Z : State) (a0 : Array Value) (hw : ∀ d ∈ tables_1, d.before a0 Z = true) (ws : List Jvm.Cond) (a1 : Addr) (wS : Addr) (h0 : Heap) (n0 : Nat) (Z0 : n0 ≤ h0.size) (P1 : Exa Z h0 a1 "com/example/earnest_roster/earnestroster/MergeResult") (P2 : Fld Z h0 a1 "com/example/earnest_roster/earnestroster/MergeResult" "status" "Lcom/example/earnest_roster/earnestroster/MergeResult$Status;" (.ref wS)) (P3 : Fld Z h0 a1 "com/example/earnest_roster/earnestroster/MergeResult" "id" "Ljava/lang/String;" .null) (P4 : Fld Z h0 a1 "com/example/earnest_roster/earnestroster/MergeResult" "error" "Lcom/example/earnest_roster/earnestroster/ApiError;" .null) (OLD : Old Z n0 h0) (P5 : Sta Z Z.heap "com/example/earnest_roster/earnestroster/MergeResult$Status" "SKIPPED" "Lcom/example/earnest_roster/earnestroster/MergeResult$Status;" (.ref wS)) :
    MetFree l (⟨"com/example/earnest_roster/earnestroster/MergeResultSkippedPinLaw", "isSkippedShape", "(Lcom/example/earnest_roster/earnestroster/MergeResult;)Z"⟩ : MethodName) (head1 (Jvm.Cond.code (⟨"com/example/earnest_roster/earnestroster/MergeResultSkippedPinLaw", "isSkippedShape", "(Lcom/example/earnest_roster/earnestroster/MergeResult;)Z"⟩ : MethodName) method_2_code 1 (some .boolean) :: ws) ({ frames := 1, cells := 0, slots := 0, locals := 12 } : Room)) (fun a U => a = #[(.ref a1)] ∧ Z.Warmed39 U.vm ∧ U.heap = h0) (fun _ _ _ _ _ => True) (fun _ U o U' => ∃ v L, o = .returned v ∧ Q_rmShape Z a1 wS h0 n0 v U'.heap L ∧ FrameEnd U o U' L ({ frames := 1, cells := 0, slots := 0, locals := 12 } : Room).cells ({ frames := 1, cells := 0, slots := 0, locals := 12 } : Room).slots) := by
  refine MetFree.of_bodySF (plainFor_of_name pn_com_example_earnest_roster_earnestroster_MergeResultSkippedPinLaw) hisR ?_
  intro p e s m args below meth c s₁ Bd hml0 hP hK
  obtain ⟨rfl, hZ, hh⟩ := hP
  have hx := Bd.exec
  have hby := Bd.bytes
  have hml : c.maxLocals = 1 := hml0
  have hown : s.vm.findClass "com/example/earnest_roster/earnestroster/MergeResultSkippedPinLaw" = some m.cls := findClass_of_methodNamed Bd.named
  have hnm := (name_of_methodNamed Bd.named Bd.method).1
  have X0 : Stand p l e ({ frames := 1, cells := 0, slots := 0, locals := 12 } : Room) s m #[(.ref a1)] below meth c s₁ [] 0 0 := Stand.of_body Bd
  have e0 : s₁.heap = h0 := by rw [← hh, Bd.state]; rfl
  have N0 := Fr.nil n0
  have pre0 : ∀ t, Steps p.tables e below (s₁.setTop (mkF m 0 #[.val (.ref a1)] [])) t → Steps p.tables e below (s₁.setTop (entryFrame m #[(.ref a1)] 1)) t := fun t k => castTop (ef_rmShape m a1) k
  have oz := OLD.1
  have lt_a1 := P1.lt
  refine own_go (B := s₁.setTop (mkF m 0 #[.val (.ref a1)] [])) pre0 ?_
  show ∃ t o, Steps p.tables e below (s₁.setTop (mkF m 0 #[.val (.ref a1)] [])) t ∧ _
  refine own_go (fun _ => XS.aloadN X0.here hx rfl (hb hby d4_0) rfl rfl) ?_
  show ∃ t o, Steps p.tables e below (s₁.setTop (mkF m 1 #[.val (.ref a1)] [(.ref a1)])) t ∧ _
  refine own_go (fun _ => XS.ifnonnullYes X0.here hx rfl (pc0 := 1) (pc' := 6) rfl (hb hby d4_1) rfl (by decide) (by decide)) ?_
  show ∃ t o, Steps p.tables e below (s₁.setTop (mkF m 6 #[.val (.ref a1)] [])) t ∧ _
  refine own_go (fun _ => XS.aloadN X0.here hx rfl (hb hby d4_6) rfl rfl) ?_
  show ∃ t o, Steps p.tables e below (s₁.setTop (mkF m 7 #[.val (.ref a1)] [(.ref a1)])) t ∧ _
  obtain ⟨cq6, kq6, q6a, q6b, q6c⟩ := isOf hZ e0 P1
  obtain ⟨_, _, ⟨T6, L6, k6, n6⟩, -, X6, ⟨Lc6, hQ6, l6, y6, z6⟩, st6⟩ := X0.virtualBack hx (y := (⟨"com/example/earnest_roster/earnestroster/MergeResult", "getStatus", "()Lcom/example/earnest_roster/earnestroster/MergeResult$Status;"⟩ : MethodName)) (z := (⟨"com/example/earnest_roster/earnestroster/MergeResult", "getStatus", "()Lcom/example/earnest_roster/earnestroster/MergeResult$Status;"⟩ : MethodName)) hown (mvT hZ (hw _ (List.mem_of_getElem? (i := 25) rfl))) (mvT hZ (hw _ (List.mem_of_getElem? (i := 26) rfl))) (notFace_of_selects (args := #[]) (mvT hZ (hw _ (List.mem_of_getElem? (i := 28) rfl)))) (mvT hZ (hw _ (List.mem_of_getElem? (i := 28) rfl))) (mvT hZ (hw _ (List.mem_of_getElem? (i := 27) rfl))) (by decide) (backOf (W := 0) (rmGetS l Z a0 hw [] a1 wS h0 n0 Z0 P2 OLD) hZ (hw _ (List.mem_of_getElem? (i := 29) rfl)) (hw _ (List.mem_of_getElem? (i := 2) rfl)) (by decide) (by decide)) q6a q6c (g := (mkF m 7 #[.val (.ref a1)] [(.ref a1)])) rfl (by rw [hml]; rfl) (Steps.refl _) (argsL := []) (rest := []) (lenOf pd_h841489b0 rfl) rfl (by show 2 * 0 + _ ≤ _; exact Nat.le_of_eq rfl) (hb hby d4_7) (fun _ _ => ⟨rfl, e0, (by decide : 0 + 0 ≤ _), (by decide : 0 + 0 ≤ _)⟩)
  dsimp only [Pt.U, Pt.locs, Pt.cells, Pt.slots] at X6 l6 y6 z6 st6 hQ6
  subst l6 y6 z6
  obtain ⟨rfl, Nq6, e6⟩ := hQ6
  have N6 := Fr.app N0 Nq6
  refine own_goT st6 ?_
  show ∃ t o, Steps p.tables e below (T6.setTop (mkF m 10 #[.val (.ref a1)] [(.ref wS)])) t ∧ _
  obtain ⟨T7, X7, e7, st7⟩ := getS2 X6 hx hZ hown (host := "") (Or.inl (hw _ (List.mem_of_getElem? (i := 30) rfl))) Via.refl e6 (Sta.ext OLD.2 P5) (g := (mkF m 10 #[.val (.ref a1)] [(.ref wS)])) rfl (hb hby d4_10)
  refine own_go st7 ?_
  show ∃ t o, Steps p.tables e below (T7.setTop (mkF m 13 #[.val (.ref a1)] [(.ref wS), (.ref wS)])) t ∧ _
  refine own_go (fun _ => Jvm.RoadKit.acmp (g := (mkF m 13 #[.val (.ref a1)] [(.ref wS), (.ref wS)])) X7 hx rfl rfl rfl (pc0 := 13) (pc' := 18) (same := true) rfl (hb hby d4_13) rfl (decide_eq_true rfl) (by decide) (by decide)) ?_
  show ∃ t o, Steps p.tables e below (T7.setTop (mkF m 18 #[.val (.ref a1)] [])) t ∧ _
  refine own_go (fun _ => XS.aloadN X7.here hx rfl (hb hby d4_18) rfl rfl) ?_
  show ∃ t o, Steps p.tables e below (T7.setTop (mkF m 19 #[.val (.ref a1)] [(.ref a1)])) t ∧ _
  obtain ⟨cq8, kq8, q8a, q8b, q8c⟩ := isOf hZ e7 P1
  obtain ⟨_, _, ⟨T8, L8, k8, n8⟩, -, X8, ⟨Lc8, hQ8, l8, y8, z8⟩, st8⟩ := X7.virtualBack hx (y := (⟨"com/example/earnest_roster/earnestroster/MergeResult", "getId", "()Ljava/lang/String;"⟩ : MethodName)) (z := (⟨"com/example/earnest_roster/earnestroster/MergeResult", "getId", "()Ljava/lang/String;"⟩ : MethodName)) hown (mvT hZ (hw _ (List.mem_of_getElem? (i := 31) rfl))) (mvT hZ (hw _ (List.mem_of_getElem? (i := 32) rfl))) (notFace_of_selects (args := #[]) (mvT hZ (hw _ (List.mem_of_getElem? (i := 34) rfl)))) (mvT hZ (hw _ (List.mem_of_getElem? (i := 34) rfl))) (mvT hZ (hw _ (List.mem_of_getElem? (i := 33) rfl))) (by decide) (backOf (W := 0) (rmGetI l Z a0 hw [] a1 h0 n0 Z0 P3 OLD) hZ (hw _ (List.mem_of_getElem? (i := 35) rfl)) (hw _ (List.mem_of_getElem? (i := 2) rfl)) (by decide) (by decide)) q8a q8c (g := (mkF m 19 #[.val (.ref a1)] [(.ref a1)])) rfl (by rw [hml]; rfl) (Steps.refl _) (argsL := []) (rest := []) (lenOf pd__28_29Ljava_2flang_2fString_3b rfl) rfl (by show 2 * 0 + _ ≤ _; exact Nat.le_of_eq rfl) (hb hby d4_19) (fun _ _ => ⟨rfl, e7, (by decide : 0 + 0 ≤ _), (by decide : 0 + 0 ≤ _)⟩)
  dsimp only [Pt.U, Pt.locs, Pt.cells, Pt.slots] at X8 l8 y8 z8 st8 hQ8
  subst l8 y8 z8
  obtain ⟨rfl, Nq8, e8⟩ := hQ8
  have N8 := Fr.app N6 Nq8
  refine own_goT st8 ?_
  show ∃ t o, Steps p.tables e below (T8.setTop (mkF m 22 #[.val (.ref a1)] [.null])) t ∧ _
  refine own_go (fun _ => XS.ifnullYes X8.here hx rfl (pc0 := 22) (pc' := 27) rfl (hb hby d4_22) rfl (by decide) (by decide)) ?_
  show ∃ t o, Steps p.tables e below (T8.setTop (mkF m 27 #[.val (.ref a1)] [])) t ∧ _
  refine own_go (fun _ => XS.aloadN X8.here hx rfl (hb hby d4_27) rfl rfl) ?_
  show ∃ t o, Steps p.tables e below (T8.setTop (mkF m 28 #[.val (.ref a1)] [(.ref a1)])) t ∧ _
  obtain ⟨cq9, kq9, q9a, q9b, q9c⟩ := isOf hZ e8 P1
  obtain ⟨_, _, ⟨T9, L9, k9, n9⟩, -, X9, ⟨Lc9, hQ9, l9, y9, z9⟩, st9⟩ := X8.virtualBack hx (y := (⟨"com/example/earnest_roster/earnestroster/MergeResult", "getError", "()Lcom/example/earnest_roster/earnestroster/ApiError;"⟩ : MethodName)) (z := (⟨"com/example/earnest_roster/earnestroster/MergeResult", "getError", "()Lcom/example/earnest_roster/earnestroster/ApiError;"⟩ : MethodName)) hown (mvT hZ (hw _ (List.mem_of_getElem? (i := 36) rfl))) (mvT hZ (hw _ (List.mem_of_getElem? (i := 37) rfl))) (notFace_of_selects (args := #[]) (mvT hZ (hw _ (List.mem_of_getElem? (i := 39) rfl)))) (mvT hZ (hw _ (List.mem_of_getElem? (i := 39) rfl))) (mvT hZ (hw _ (List.mem_of_getElem? (i := 38) rfl))) (by decide) (backOf (W := 0) (rmGetE l Z a0 hw [] a1 h0 n0 Z0 P4 OLD) hZ (hw _ (List.mem_of_getElem? (i := 40) rfl)) (hw _ (List.mem_of_getElem? (i := 2) rfl)) (by decide) (by decide)) q9a q9c (g := (mkF m 28 #[.val (.ref a1)] [(.ref a1)])) rfl (by rw [hml]; rfl) (Steps.refl _) (argsL := []) (rest := []) (lenOf pd_h9e993125 rfl) rfl (by show 2 * 0 + _ ≤ _; exact Nat.le_of_eq rfl) (hb hby d4_28) (fun _ _ => ⟨rfl, e8, (by decide : 0 + 0 ≤ _), (by decide : 0 + 0 ≤ _)⟩)
  dsimp only [Pt.U, Pt.locs, Pt.cells, Pt.slots] at X9 l9 y9 z9 st9 hQ9
  subst l9 y9 z9
  obtain ⟨rfl, Nq9, e9⟩ := hQ9
  have N9 := Fr.app N8 Nq9
  refine own_goT st9 ?_
  show ∃ t o, Steps p.tables e below (T9.setTop (mkF m 31 #[.val (.ref a1)] [.null])) t ∧ _
  refine own_go (fun _ => XS.ifnonnullNo X9.here hx rfl (hb hby d4_31) rfl) ?_
  show ∃ t o, Steps p.tables e below (T9.setTop (mkF m 34 #[.val (.ref a1)] [])) t ∧ _
  refine own_go (fun _ => XS.iconst X9.here hx rfl (hb hby d4_34)) ?_
  show ∃ t o, Steps p.tables e below (T9.setTop (mkF m 35 #[.val (.ref a1)] [(.int (1 : Int32))])) t ∧ _
  refine own_go (fun _ => XS.goto X9.here hx rfl (pc0 := 35) (pc' := 39) rfl (hb hby d4_35) (by decide) (by decide)) ?_
  show ∃ t o, Steps p.tables e below (T9.setTop (mkF m 39 #[.val (.ref a1)] [(.int (1 : Int32))])) t ∧ _
  obtain ⟨fs, hr, hrun, hended, hW, hsame⟩ := X9.leave (v := some (.int (1 : Int32))) (fun h => by rw [Bd.returns] at h; cases h)
  refine ⟨_, _, ?_, hrun, hended, _, _, rfl, ?_, ⟨_, rfl⟩, hW, hsame.mono (by decide) (by decide)⟩
  · exact retN X9 hx (t := .boolean) Bd.returns (by simp) (hb hby d4_39) hr
  · show Q_rmShape Z a1 wS h0 n0 _ T9.heap _
    rw [e9]
    exact ⟨rfl, N9, rfl⟩
theorem ef_rm0 (m : MethodId) (x0 : Int32) : entryFrame m #[(.int x0)] maxLocals = mkF m 0 #[.val (.int x0), .unset, .unset] [] := by first | (simp [entryFrame, mkF, argsToLocals, Value.category, maxLocals]; done) | rfl
theorem pd_hdce623e4 : parseMethodDescriptor "()Lcom/example/earnest_roster/earnestroster/MergeResult;" = some ⟨[], some (.object "com/example/earnest_roster/earnestroster/MergeResult")⟩ := by decide +kernel
theorem pd_hd7fbc5e2 : parseMethodDescriptor "(Lcom/example/earnest_roster/earnestroster/MergeResult;)Z" = some ⟨[(.object "com/example/earnest_roster/earnestroster/MergeResult")], some .boolean⟩ := by decide +kernel
def Q_rm0 (Z : State) (k1 : Int32) (wS : Addr) (h0 : Heap) (n0 : Nat) (v : Option Value) (h : Heap) (L : List Loc) : Prop := v = some (.int (1 : Int32)) ∧ Fr n0 L ∧ Keep h0 h []
set_option maxRecDepth 65536 in
set_option maxHeartbeats 40000000 in
theorem rm0 (l : Launch) (Z : State) (a0 : Array Value) (hw : ∀ d ∈ tables_1, d.before a0 Z = true) (ws : List Jvm.Cond) (k1 : Int32) (wS : Addr) (h0 : Heap) (n0 : Nat) (Z0 : n0 ≤ h0.size) (OLD : Old Z n0 h0) (P1 : Sta Z Z.heap "com/example/earnest_roster/earnestroster/MergeResult$Status" "SKIPPED" "Lcom/example/earnest_roster/earnestroster/MergeResult$Status;" (.ref wS)) :
    MetFree l x (head1 (Jvm.Cond.code x code maxLocals ret :: ws) room_1) (fun a U => a = #[(.int k1)] ∧ Z.Warmed39 U.vm ∧ U.heap = h0) (fun _ _ _ _ _ => True) (fun _ U o U' => ∃ v L, o = .returned v ∧ Q_rm0 Z k1 wS h0 n0 v U'.heap L ∧ FrameEnd U o U' L room_1.cells room_1.slots) := by
  refine MetFree.of_bodySF (plainFor_of_name pn_com_example_earnest_roster_earnestroster_MergeResultSkippedPinLaw) hisR ?_
  intro p e s m args below meth c s₁ Bd hml0 hP hK
  obtain ⟨rfl, hZ, hh⟩ := hP
  have hx := Bd.exec
  have hby := Bd.bytes
  have hml : c.maxLocals = 3 := hml0
  have hown : s.vm.findClass "com/example/earnest_roster/earnestroster/MergeResultSkippedPinLaw" = some m.cls := findClass_of_methodNamed Bd.named
  have hnm := (name_of_methodNamed Bd.named Bd.method).1
  have X0 : Stand p l e room_1 s m #[(.int k1)] below meth c s₁ [] 0 0 := Stand.of_body Bd
  have e0 : s₁.heap = h0 := by rw [← hh, Bd.state]; rfl
  have N0 := Fr.nil n0
  have pre0 : ∀ t, Steps p.tables e below (s₁.setTop (mkF m 0 #[.val (.int k1), .unset, .unset] [])) t → Steps p.tables e below (s₁.setTop (entryFrame m #[(.int k1)] maxLocals)) t := fun t k => castTop (ef_rm0 m k1) k
  have oz := OLD.1
  refine own_go (B := s₁.setTop (mkF m 0 #[.val (.int k1), .unset, .unset] [])) pre0 ?_
  show ∃ t o, Steps p.tables e below (s₁.setTop (mkF m 0 #[.val (.int k1), .unset, .unset] [])) t ∧ _
  obtain ⟨_, _, ⟨T2, L2, k2, n2⟩, -, X2, ⟨Lc2, hQ2, l2, y2, z2⟩, st2⟩ := Jvm.LawKit.callS X0 hx (y := (⟨"com/example/earnest_roster/earnestroster/MergeResult", "skipped", "()Lcom/example/earnest_roster/earnestroster/MergeResult;"⟩ : MethodName)) hown (mvT hZ (hw _ (List.mem_of_getElem? (i := 0) rfl))) (mvT hZ (hw _ (List.mem_of_getElem? (i := 1) rfl))) (mvT hZ (hw _ (List.mem_of_getElem? (i := 2) rfl))) (mvT hZ (hw _ (List.mem_of_getElem? (i := 3) rfl))) (by decide) (backOf (W := 0) (rmSkip l Z a0 hw [] wS h0 n0 Z0 OLD P1) hZ (hw _ (List.mem_of_getElem? (i := 3) rfl)) (hw _ (List.mem_of_getElem? (i := 2) rfl)) (by decide) (by decide)) (g := (mkF m 0 #[.val (.int k1), .unset, .unset] [])) rfl (by rw [hml]; rfl) (argsL := []) (rest := []) (lenOf pd_hdce623e4 rfl) rfl (by show 2 * 0 + _ ≤ _; exact Nat.le_of_eq rfl) (hb hby at_0) (fun _ _ => ⟨rfl, e0, (by decide : 0 + 1 ≤ _), (by decide : 0 + 3 ≤ _)⟩)
  dsimp only [Pt.U, Pt.locs, Pt.cells, Pt.slots] at X2 l2 y2 z2 st2 hQ2
  subst l2 y2 z2
  obtain ⟨b_2, rfl, Nq2, Kp2, G2_0, G2_1, G2_2, G2_3, H2_0⟩ := hQ2
  have N2 := Fr.app N0 Nq2
  refine own_go st2 ?_
  have le_2 : h0.size ≤ T2.heap.size := Kp2.1
  have K2 : Keep h0 T2.heap [] := Keep.trans (Keep.refl h0 []) Kp2 all0
  have lt_b_2 := (G2_0).lt
  show ∃ t o, Steps p.tables e below (T2.setTop (mkF m 3 #[.val (.int k1), .unset, .unset] [(.ref b_2)])) t ∧ _
  refine own_go (fun _ => XS.astoreN X2.here hx rfl (hb hby at_3) rfl rfl (l' := #[.val (.int k1), .val (.ref b_2), .unset]) rfl) ?_
  show ∃ t o, Steps p.tables e below (T2.setTop (mkF m 4 #[.val (.int k1), .val (.ref b_2), .unset] [])) t ∧ _
  have F3 : Old Z n0 T2.heap := (Old.keep OLD Kp2 all0)
  have zl4 : n0 ≤ T2.heap.size := by omega
  obtain ⟨_, _, ⟨T5, L5, k5, n5⟩, -, X5, ⟨Lc5, hQ5, l5, y5, z5⟩, st5⟩ := Jvm.LawKit.callS X2 hx (y := (⟨"com/example/earnest_roster/earnestroster/MergeResult", "skipped", "()Lcom/example/earnest_roster/earnestroster/MergeResult;"⟩ : MethodName)) hown (mvT hZ (hw _ (List.mem_of_getElem? (i := 0) rfl))) (mvT hZ (hw _ (List.mem_of_getElem? (i := 1) rfl))) (mvT hZ (hw _ (List.mem_of_getElem? (i := 2) rfl))) (mvT hZ (hw _ (List.mem_of_getElem? (i := 3) rfl))) (by decide) (backOf (W := 0) (rmSkip l Z a0 hw [] wS T2.heap n0 zl4 F3 P1) hZ (hw _ (List.mem_of_getElem? (i := 3) rfl)) (hw _ (List.mem_of_getElem? (i := 2) rfl)) (by decide) (by decide)) (g := (mkF m 4 #[.val (.int k1), .val (.ref b_2), .unset] [])) rfl (by rw [hml]; rfl) (argsL := []) (rest := []) (lenOf pd_hdce623e4 rfl) rfl (by show 2 * 0 + _ ≤ _; exact Nat.le_of_eq rfl) (hb hby at_4) (fun _ _ => ⟨rfl, rfl, (by decide : 1 + 1 ≤ _), (by decide : 3 + 3 ≤ _)⟩)
  dsimp only [Pt.U, Pt.locs, Pt.cells, Pt.slots] at X5 l5 y5 z5 st5 hQ5
  subst l5 y5 z5
  obtain ⟨b_5, rfl, Nq5, Kp5, G5_0, G5_1, G5_2, G5_3, H5_0⟩ := hQ5
  have N5 := Fr.app N2 Nq5
  refine own_go st5 ?_
  have le_5 : T2.heap.size ≤ T5.heap.size := Kp5.1
  have K5 : Keep h0 T5.heap [] := Keep.trans K2 Kp5 all0
  have lt_b_5 := (G5_0).lt
  show ∃ t o, Steps p.tables e below (T5.setTop (mkF m 7 #[.val (.int k1), .val (.ref b_2), .unset] [(.ref b_5)])) t ∧ _
  refine own_go (fun _ => XS.astoreN X5.here hx rfl (hb hby at_7) rfl rfl (l' := #[.val (.int k1), .val (.ref b_2), .val (.ref b_5)]) rfl) ?_
  show ∃ t o, Steps p.tables e below (T5.setTop (mkF m 8 #[.val (.int k1), .val (.ref b_2), .val (.ref b_5)] [])) t ∧ _
  refine own_go (fun _ => XS.aloadN X5.here hx rfl (hb hby at_8) rfl rfl) ?_
  show ∃ t o, Steps p.tables e below (T5.setTop (mkF m 9 #[.val (.int k1), .val (.ref b_2), .val (.ref b_5)] [(.ref b_2)])) t ∧ _
  have F6 : Exa Z T5.heap b_2 "com/example/earnest_roster/earnestroster/MergeResult" := (Exa.keep G2_0 Kp5)
  have F7 : Fld Z T5.heap b_2 "com/example/earnest_roster/earnestroster/MergeResult" "status" "Lcom/example/earnest_roster/earnestroster/MergeResult$Status;" (.ref wS) := (Fld.keep G2_1 Kp5 nin0)
  have F8 : Fld Z T5.heap b_2 "com/example/earnest_roster/earnestroster/MergeResult" "id" "Ljava/lang/String;" .null := (Fld.keep G2_2 Kp5 nin0)
  have F9 : Fld Z T5.heap b_2 "com/example/earnest_roster/earnestroster/MergeResult" "error" "Lcom/example/earnest_roster/earnestroster/ApiError;" .null := (Fld.keep G2_3 Kp5 nin0)
  have F10 : Old Z n0 T5.heap := (Old.keep F3 Kp5 all0)
  have zl11 : n0 ≤ T5.heap.size := by omega
  obtain ⟨_, _, ⟨T12, L12, k12, n12⟩, -, X12, ⟨Lc12, hQ12, l12, y12, z12⟩, st12⟩ := Jvm.LawKit.callS X5 hx (y := (⟨"com/example/earnest_roster/earnestroster/MergeResultSkippedPinLaw", "isSkippedShape", "(Lcom/example/earnest_roster/earnestroster/MergeResult;)Z"⟩ : MethodName)) hown (mvT hZ (hw _ (List.mem_of_getElem? (i := 21) rfl))) (mvT hZ (hw _ (List.mem_of_getElem? (i := 22) rfl))) (mvT hZ (hw _ (List.mem_of_getElem? (i := 23) rfl))) (mvT hZ (hw _ (List.mem_of_getElem? (i := 24) rfl))) (by decide) (backOf (W := 0) (rmShape l Z a0 hw [] b_2 wS T5.heap n0 zl11 F6 F7 F8 F9 F10 P1) hZ (hw _ (List.mem_of_getElem? (i := 24) rfl)) (hw _ (List.mem_of_getElem? (i := 23) rfl)) (by decide) (by decide)) (g := (mkF m 9 #[.val (.int k1), .val (.ref b_2), .val (.ref b_5)] [(.ref b_2)])) rfl (by rw [hml]; rfl) (argsL := [(.ref b_2)]) (rest := []) (lenOf pd_hd7fbc5e2 rfl) rfl (by show 2 * 0 + _ ≤ _; exact Nat.le_of_eq rfl) (hb hby at_9) (fun _ _ => ⟨rfl, rfl, (by decide : 2 + 0 ≤ _), (by decide : 6 + 0 ≤ _)⟩)
  dsimp only [Pt.U, Pt.locs, Pt.cells, Pt.slots] at X12 l12 y12 z12 st12 hQ12
  subst l12 y12 z12
  obtain ⟨rfl, Nq12, e12⟩ := hQ12
  have N12 := Fr.app N5 Nq12
  refine own_go st12 ?_
  show ∃ t o, Steps p.tables e below (T12.setTop (mkF m 12 #[.val (.int k1), .val (.ref b_2), .val (.ref b_5)] [(.int (1 : Int32))])) t ∧ _
  refine own_go (fun _ => XS.ifNo X12.here hx rfl (hb hby at_12) rfl ((if0 _ _).trans (feq (by decide : ¬ ((1 : Int32) = (0 : Int32)))).1)) ?_
  show ∃ t o, Steps p.tables e below (T12.setTop (mkF m 15 #[.val (.int k1), .val (.ref b_2), .val (.ref b_5)] [])) t ∧ _
  refine own_go (fun _ => XS.aloadN X12.here hx rfl (hb hby at_15) rfl rfl) ?_
  show ∃ t o, Steps p.tables e below (T12.setTop (mkF m 16 #[.val (.int k1), .val (.ref b_2), .val (.ref b_5)] [(.ref b_5)])) t ∧ _
  obtain ⟨_, _, ⟨T13, L13, k13, n13⟩, -, X13, ⟨Lc13, hQ13, l13, y13, z13⟩, st13⟩ := Jvm.LawKit.callS X12 hx (y := (⟨"com/example/earnest_roster/earnestroster/MergeResultSkippedPinLaw", "isSkippedShape", "(Lcom/example/earnest_roster/earnestroster/MergeResult;)Z"⟩ : MethodName)) hown (mvT hZ (hw _ (List.mem_of_getElem? (i := 21) rfl))) (mvT hZ (hw _ (List.mem_of_getElem? (i := 22) rfl))) (mvT hZ (hw _ (List.mem_of_getElem? (i := 23) rfl))) (mvT hZ (hw _ (List.mem_of_getElem? (i := 24) rfl))) (by decide) (backOf (W := 0) (rmShape l Z a0 hw [] b_5 wS T5.heap n0 zl11 G5_0 G5_1 G5_2 G5_3 F10 P1) hZ (hw _ (List.mem_of_getElem? (i := 24) rfl)) (hw _ (List.mem_of_getElem? (i := 23) rfl)) (by decide) (by decide)) (g := (mkF m 16 #[.val (.int k1), .val (.ref b_2), .val (.ref b_5)] [(.ref b_5)])) rfl (by rw [hml]; rfl) (argsL := [(.ref b_5)]) (rest := []) (lenOf pd_hd7fbc5e2 rfl) rfl (by show 2 * 0 + _ ≤ _; exact Nat.le_of_eq rfl) (hb hby at_16) (fun _ _ => ⟨rfl, e12, (by decide : 2 + 0 ≤ _), (by decide : 6 + 0 ≤ _)⟩)
  dsimp only [Pt.U, Pt.locs, Pt.cells, Pt.slots] at X13 l13 y13 z13 st13 hQ13
  subst l13 y13 z13
  obtain ⟨rfl, Nq13, e13⟩ := hQ13
  have N13 := Fr.app N12 Nq13
  refine own_go st13 ?_
  show ∃ t o, Steps p.tables e below (T13.setTop (mkF m 19 #[.val (.int k1), .val (.ref b_2), .val (.ref b_5)] [(.int (1 : Int32))])) t ∧ _
  refine own_go (fun _ => XS.ifNo X13.here hx rfl (hb hby at_19) rfl ((if0 _ _).trans (feq (by decide : ¬ ((1 : Int32) = (0 : Int32)))).1)) ?_
  show ∃ t o, Steps p.tables e below (T13.setTop (mkF m 22 #[.val (.int k1), .val (.ref b_2), .val (.ref b_5)] [])) t ∧ _
  refine own_go (fun _ => XS.iconst X13.here hx rfl (hb hby at_22)) ?_
  show ∃ t o, Steps p.tables e below (T13.setTop (mkF m 23 #[.val (.int k1), .val (.ref b_2), .val (.ref b_5)] [(.int (1 : Int32))])) t ∧ _
  refine own_go (fun _ => XS.goto X13.here hx rfl (pc0 := 23) (pc' := 27) rfl (hb hby at_23) (by decide) (by decide)) ?_
  show ∃ t o, Steps p.tables e below (T13.setTop (mkF m 27 #[.val (.int k1), .val (.ref b_2), .val (.ref b_5)] [(.int (1 : Int32))])) t ∧ _
  obtain ⟨fs, hr, hrun, hended, hW, hsame⟩ := X13.leave (v := some (.int (1 : Int32))) (fun h => by rw [Bd.returns] at h; cases h)
  refine ⟨_, _, ?_, hrun, hended, _, _, rfl, ?_, ⟨_, rfl⟩, hW, hsame.mono (by decide) (by decide)⟩
  · exact retN X13 hx (t := .boolean) Bd.returns (by simp) (hb hby at_27) hr
  · show Q_rm0 Z k1 wS h0 n0 _ T13.heap _
    rw [e13]
    exact ⟨rfl, N13, K5⟩
set_option maxRecDepth 65536 in
set_option maxHeartbeats 40000000 in
theorem comes_1 {Post : Tables → Env → Array Value → State → Outcome → State → Prop} (hpost : ∀ tb e args s v u, (limb_1_1.after args s (.returned v) u = true ∧ limb_1_2.after args s (.returned v) u = true ∧ True) → FrameEnd s (.returned v) u (Jvm.fieldLocs frame_1_writes args s ++ Jvm.arrayLocs frame_1_arrays args s ++ Jvm.staticLocs frame_1_statics s) 16 128 → Post tb e args s (.returned v) u) :
    ArmFor flags0 classFile x code maxLocals ret World_1 tables_1 room_1 Calls_1 rest_1 Pre_1 Post := by
  intro l hfl _ _ p e ha hc hk s m args below hf hA hF happ hP
  obtain ⟨hcalls, hrest, hpre⟩ := hP
  obtain ⟨-, -, -, hnamed, -, -, -, hat⟩ := (Spec.applies_iff hf).mp happ
  obtain ⟨hg, hn⟩ := and_e (Cond.before_iff.mp (show (Jvm.Cond.and given_1 narrow_1).before args s = true from hpre))
  obtain ⟨g1, g2⟩ := and_e hg
  obtain ⟨w0, rfl⟩ : ∃ w0 : Value, args = #[w0] := by
    have hs : args.size = 1 := by simpa [Cond.value, given_1] using g1
    obtain ⟨L⟩ := args
    match L, hs with
    | [w0], _ => exact ⟨w0, rfl⟩
  have hw := fun d (hd : d ∈ tables_1) => atoms_spec (ws := Jvm.Cond.code x code maxLocals ret :: tables_1) hat d (List.mem_cons_of_mem _ hd)
  have hfit : Fit s := fun {y c} hc i hi => by
    obtain ⟨ha, rfl⟩ := Array.getElem?_eq_some_iff.mp hc
    have q := List.all_eq_true.mp ((Array.all_eq_true_iff_forall_mem.mp hF) _ (Array.getElem_mem ha)) i (List.mem_range.mpr hi)
    simpa [Array.getElem?_eq_getElem hi] using q
  obtain ⟨i0, ei0⟩ := is_v g2
  obtain rfl : w0 = (.int i0) := Option.some.inj ei0
  obtain ⟨wS, ev⟩ := exa_v hn
  have S0 : Sta s s.heap "com/example/earnest_roster/earnestroster/MergeResult$Status" "SKIPPED" "Lcom/example/earnest_roster/earnestroster/MergeResult$Status;" (.ref wS) := Sta.start ev (Or.inr ⟨(hw _ (List.mem_of_getElem? (i := 7) rfl)), (hw _ (List.mem_of_getElem? (i := 8) rfl))⟩)
  have OLD := Old.start s
  obtain ⟨n, o, h1, h2, h3, _, L, rfl, ⟨rfl, N, -⟩, hq⟩ := rm0 l s _ hw tables_1 i0 wS s.heap s.heap.size (Nat.le_refl _) OLD S0 p e ha hc hk s m _ below hf ((Spec.applies_iff_loose hf).mp happ).1 ⟨rfl, State.Warmed39.refl s, rfl⟩ trivial
  refine ⟨n, _, h1, h2, h3, hpost _ _ _ _ _ _ ⟨Cond.after_iff.mpr rfl, Cond.after_iff.mpr (eq_i res_at (Term.int_eval (1)) rfl), trivial⟩ ⟨hq.1, hq.2.1, (hq.2.2.sift fun y hy => Or.inr (N y hy)).mono (by decide) (by decide)⟩⟩
theorem main_1_1 : Claimed_1_1 := comes_1 fun _ _ _ _ _ _ h hF => ⟨h.1, hF⟩
theorem main_1_2 : Claimed_1_2 := comes_1 fun _ _ _ _ _ _ h hF => ⟨h.2.1, hF⟩
end Jvm.Pilot.@@N@@
namespace Jvm.Pilot.@@N@@
open Jvm Jvm.ClassFile Sem Op Lib Jvm.Free Jvm.Stand Jvm.Pilot.@@N@@.Jvm.D
/-! MADE BY PROGRAM (witnessworld.py) out of the Statement's table words and the real class files: 13 classes; the members and pool entries that the words name. The judged class is class 1, her method 2. -/
namespace start1
open Jvm.ClassFile
def u (s : String) : CpInfo := .utf8 (stringToUtf16 s)
/-- a pool by its gaps: so many unusable entries, then the entry; so many at the end -/
def gap : Nat → List CpInfo → List CpInfo
  | 0, r => r
  | n + 1, r => .unusable :: gap n r
def poolList (es : List (Nat × CpInfo)) (last : Nat) : List CpInfo := es.foldr (fun e r => gap e.1 (e.2 :: r)) (gap last [])
def pool (es : List (Nat × CpInfo)) (last : Nat) : Array CpInfo := ⟨poolList es last⟩
def fileOf (pool : Array CpInfo) (this : Nat) (attrs : Array Attribute := #[]) (ms : Array MethodInfo := #[]) (fl : Nat := 33) (sup : Nat := 0) (ifs : Array Nat := #[]) (fds : Array FieldInfo := #[]) : ClassFile where
  minorVersion := 0
  majorVersion := 65
  constantPool := pool
  accessFlags := fl
  thisClass := this
  superClass := sup
  interfaces := ifs
  fields := fds
  methods := ms
  attributes := attrs
def plain (name : String) (sup : Option ClassId) : Class where
  name := name
  kind := .ordinary
  loader := none
  accessFlags := 33
  super := sup
  interfaces := #[]
  cf := none
  fields := #[]
  methods := #[]
  instanceTypes := #[]
  staticTypes := #[]
  resolved := #[]
  callSites := []
  init := .initialized
  statics := none
  mirror := none

def pool0 : Array CpInfo := pool [(5, u "<init>"), (0, u "()V"), (1, .class_ 10), (1, u "java/lang/Object")] 113

def k0c0 : Code := { maxStack := 0, maxLocals := 1, code := object_method_1_code, exceptionTable := #[], attributes := #[] }
def k0m0 : Method := { name := "<init>", desc := "()V", sig := { parameters := [], returnType := none }, accessFlags := 1, code := some k0c0 }
/-- java/lang/Object -/
def k0 : Class := { plain "java/lang/Object" none with
  accessFlags := 33
  interfaces := #[]
  cf := some (fileOf pool0 8 #[] #[{ accessFlags := 1, nameIndex := 5, descriptorIndex := 6, attributes := #[] }] 33 0 #[] #[])
  fields := #[]
  methods := #[k0m0]
  instanceTypes := #[]
  staticTypes := #[]
  resolved := Array.replicate 124 none
  statics := none }

def pool1 : Array CpInfo := pool [(2, .class_ 4), (1, u "java/lang/Object"), (0, u "<init>"), (0, u "()V"), (0, .methodref 8 9), (0, .class_ 10), (0, .nameAndType 11 12), (0, u "com/example/earnest_roster/earnestroster/MergeResult"), (0, u "getStatus"), (0, u "()Lcom/example/earnest_roster/earnestroster/MergeResult$Status;"), (0, .fieldref 14 15), (0, .class_ 16), (0, .nameAndType 17 18), (0, u "com/example/earnest_roster/earnestroster/MergeResult$Status"), (0, u "SKIPPED"), (0, u "Lcom/example/earnest_roster/earnestroster/MergeResult$Status;"), (0, .methodref 8 20), (0, .nameAndType 21 22), (0, u "getId"), (0, u "()Ljava/lang/String;"), (0, .methodref 8 24), (0, .nameAndType 25 26), (0, u "getError"), (0, u "()Lcom/example/earnest_roster/earnestroster/ApiError;"), (0, .methodref 8 28), (0, .nameAndType 29 30), (0, u "skipped"), (0, u "()Lcom/example/earnest_roster/earnestroster/MergeResult;"), (0, .methodref 32 33), (0, .class_ 34), (0, .nameAndType 35 36), (0, u "com/example/earnest_roster/earnestroster/MergeResultSkippedPinLaw"), (0, u "isSkippedShape"), (0, u "(Lcom/example/earnest_roster/earnestroster/MergeResult;)Z"), (3, u "law"), (0, u "(I)Z")] 4

def k1m0 : Method := { name := "<init>", desc := "()V", sig := { parameters := [], returnType := none }, accessFlags := 1, code := none }
def k1c1 : Code := { maxStack := 2, maxLocals := 1, code := method_2_code, exceptionTable := #[], attributes := #[] }
def k1m1 : Method := { name := "isSkippedShape", desc := "(Lcom/example/earnest_roster/earnestroster/MergeResult;)Z", sig := { parameters := [(.object "com/example/earnest_roster/earnestroster/MergeResult")], returnType := some .boolean }, accessFlags := 10, code := some k1c1 }
def k1c2 : Code := { maxStack := 1, maxLocals := 3, code := code, exceptionTable := #[], attributes := #[] }
def k1m2 : Method := { name := "law", desc := "(I)Z", sig := { parameters := [.int], returnType := some .boolean }, accessFlags := 9, code := some k1c2 }
/-- com/example/earnest_roster/earnestroster/MergeResultSkippedPinLaw -/
def k1 : Class := { plain "com/example/earnest_roster/earnestroster/MergeResultSkippedPinLaw" (some 0) with
  accessFlags := 49
  interfaces := #[]
  cf := some (fileOf pool1 32 #[] #[{ accessFlags := 1, nameIndex := 5, descriptorIndex := 6, attributes := #[] }, { accessFlags := 10, nameIndex := 35, descriptorIndex := 36, attributes := #[] }, { accessFlags := 9, nameIndex := 40, descriptorIndex := 41, attributes := #[] }] 49 2 #[] #[])
  fields := #[]
  methods := #[k1m0, k1m1, k1m2]
  instanceTypes := #[]
  staticTypes := #[]
  resolved := Array.replicate 46 none
  statics := none }

def pool2 : Array CpInfo := pool [(1, .methodref 2 3), (0, .class_ 4), (0, .nameAndType 5 6), (0, u "java/lang/Object"), (0, u "<init>"), (0, u "()V"), (0, .fieldref 8 9), (0, .class_ 10), (0, .nameAndType 11 12), (0, u "com/example/earnest_roster/earnestroster/MergeResult"), (0, u "status"), (0, u "Lcom/example/earnest_roster/earnestroster/MergeResult$Status;"), (0, .fieldref 8 14), (0, .nameAndType 15 16), (0, u "id"), (0, u "Ljava/lang/String;"), (0, .fieldref 8 18), (0, .nameAndType 19 20), (0, u "error"), (0, u "Lcom/example/earnest_roster/earnestroster/ApiError;"), (0, .methodref 8 22), (0, .nameAndType 5 23), (0, u "(Lcom/example/earnest_roster/earnestroster/MergeResult$Status;Ljava/lang/String;Lcom/example/earnest_roster/earnestroster/ApiError;)V"), (0, .fieldref 25 26), (0, .class_ 27), (0, .nameAndType 28 12), (0, u "com/example/earnest_roster/earnestroster/MergeResult$Status"), (0, u "SKIPPED"), (7, u "skipped"), (0, u "()Lcom/example/earnest_roster/earnestroster/MergeResult;"), (2, u "getStatus"), (0, u "()Lcom/example/earnest_roster/earnestroster/MergeResult$Status;"), (0, u "getId"), (0, u "()Ljava/lang/String;"), (0, u "getError"), (0, u "()Lcom/example/earnest_roster/earnestroster/ApiError;")] 5

def k2c0 : Code := { maxStack := 2, maxLocals := 4, code := prog_12_method_1_code, exceptionTable := #[], attributes := #[] }
def k2m0 : Method := { name := "<init>", desc := "(Lcom/example/earnest_roster/earnestroster/MergeResult$Status;Ljava/lang/String;Lcom/example/earnest_roster/earnestroster/ApiError;)V", sig := { parameters := [(.object "com/example/earnest_roster/earnestroster/MergeResult$Status"), (.object "java/lang/String"), (.object "com/example/earnest_roster/earnestroster/ApiError")], returnType := none }, accessFlags := 2, code := some k2c0 }
def k2c1 : Code := { maxStack := 5, maxLocals := 0, code := prog_12_method_3_code, exceptionTable := #[], attributes := #[] }
def k2m1 : Method := { name := "skipped", desc := "()Lcom/example/earnest_roster/earnestroster/MergeResult;", sig := { parameters := [], returnType := some (.object "com/example/earnest_roster/earnestroster/MergeResult") }, accessFlags := 8, code := some k2c1 }
def k2c2 : Code := { maxStack := 1, maxLocals := 1, code := prog_12_method_5_code, exceptionTable := #[], attributes := #[] }
def k2m2 : Method := { name := "getStatus", desc := "()Lcom/example/earnest_roster/earnestroster/MergeResult$Status;", sig := { parameters := [], returnType := some (.object "com/example/earnest_roster/earnestroster/MergeResult$Status") }, accessFlags := 0, code := some k2c2 }
def k2c3 : Code := { maxStack := 1, maxLocals := 1, code := prog_12_method_6_code, exceptionTable := #[], attributes := #[] }
def k2m3 : Method := { name := "getId", desc := "()Ljava/lang/String;", sig := { parameters := [], returnType := some (.object "java/lang/String") }, accessFlags := 0, code := some k2c3 }
def k2c4 : Code := { maxStack := 1, maxLocals := 1, code := prog_12_method_7_code, exceptionTable := #[], attributes := #[] }
def k2m4 : Method := { name := "getError", desc := "()Lcom/example/earnest_roster/earnestroster/ApiError;", sig := { parameters := [], returnType := some (.object "com/example/earnest_roster/earnestroster/ApiError") }, accessFlags := 0, code := some k2c4 }
/-- com/example/earnest_roster/earnestroster/MergeResult -/
def k2 : Class := { plain "com/example/earnest_roster/earnestroster/MergeResult" (some 0) with
  accessFlags := 32
  interfaces := #[]
  cf := some (fileOf pool2 8 #[.nestMembers #[25]] #[{ accessFlags := 2, nameIndex := 5, descriptorIndex := 23, attributes := #[] }, { accessFlags := 8, nameIndex := 36, descriptorIndex := 37, attributes := #[] }, { accessFlags := 0, nameIndex := 40, descriptorIndex := 41, attributes := #[] }, { accessFlags := 0, nameIndex := 42, descriptorIndex := 43, attributes := #[] }, { accessFlags := 0, nameIndex := 44, descriptorIndex := 45, attributes := #[] }] 32 2 #[] #[{ accessFlags := 18, nameIndex := 11, descriptorIndex := 12, attributes := #[] }, { accessFlags := 18, nameIndex := 15, descriptorIndex := 16, attributes := #[] }, { accessFlags := 18, nameIndex := 19, descriptorIndex := 20, attributes := #[] }])
  fields := #[{ name := "status", type := (.object "com/example/earnest_roster/earnestroster/MergeResult$Status"), accessFlags := 18, slot := 0, constantValue := 0 }, { name := "id", type := (.object "java/lang/String"), accessFlags := 18, slot := 1, constantValue := 0 }, { name := "error", type := (.object "com/example/earnest_roster/earnestroster/ApiError"), accessFlags := 18, slot := 2, constantValue := 0 }]
  methods := #[k2m0, k2m1, k2m2, k2m3, k2m4]
  instanceTypes := #[(.object "com/example/earnest_roster/earnestroster/MergeResult$Status"), (.object "java/lang/String"), (.object "com/example/earnest_roster/earnestroster/ApiError")]
  staticTypes := #[]
  resolved := Array.replicate 51 none
  statics := none }

def pool3 : Array CpInfo := pool [(1, .class_ 2), (0, u "java/lang/constant/Constable"), (0, .class_ 4), (0, u "java/lang/Object")] 6

/-- java/lang/constant/Constable -/
def k3 : Class := { plain "java/lang/constant/Constable" (some 0) with
  accessFlags := 1537
  interfaces := #[]
  cf := some (fileOf pool3 1 #[] #[] 1537 3 #[] #[])
  fields := #[]
  methods := #[]
  instanceTypes := #[]
  staticTypes := #[]
  resolved := Array.replicate 11 none
  statics := none }

def pool4 : Array CpInfo := pool [(1, .class_ 2), (0, u "java/lang/Comparable"), (0, .class_ 4), (0, u "java/lang/Object")] 7

/-- java/lang/Comparable -/
def k4 : Class := { plain "java/lang/Comparable" (some 0) with
  accessFlags := 1537
  interfaces := #[]
  cf := some (fileOf pool4 1 #[] #[] 1537 3 #[] #[])
  fields := #[]
  methods := #[]
  instanceTypes := #[]
  staticTypes := #[]
  resolved := Array.replicate 12 none
  statics := none }

def pool5 : Array CpInfo := pool [(1, .class_ 2), (0, u "java/io/Serializable"), (0, .class_ 4), (0, u "java/lang/Object")] 2

/-- java/io/Serializable -/
def k5 : Class := { plain "java/io/Serializable" (some 0) with
  accessFlags := 1537
  interfaces := #[]
  cf := some (fileOf pool5 1 #[] #[] 1537 3 #[] #[])
  fields := #[]
  methods := #[]
  instanceTypes := #[]
  staticTypes := #[]
  resolved := Array.replicate 7 none
  statics := none }

def pool6 : Array CpInfo := pool [(2, .class_ 4), (1, u "java/lang/Enum"), (0, u "name"), (0, u "Ljava/lang/String;"), (2, u "ordinal"), (0, u "I"), (1, .class_ 14), (1, u "java/lang/Object"), (4, u "hash"), (86, .class_ 108), (1, u "java/lang/Enum$EnumDesc"), (2, .class_ 112), (0, u "java/lang/constant/Constable"), (0, .class_ 114), (0, u "java/lang/Comparable"), (0, .class_ 116), (0, u "java/io/Serializable")] 87

/-- java/lang/Enum -/
def k6 : Class := { plain "java/lang/Enum" (some 0) with
  accessFlags := 1057
  interfaces := #[3, 4, 5]
  cf := some (fileOf pool6 2 #[.nestMembers #[106]] #[] 1057 12 #[111, 113, 115] #[{ accessFlags := 18, nameIndex := 5, descriptorIndex := 6, attributes := #[] }, { accessFlags := 18, nameIndex := 9, descriptorIndex := 10, attributes := #[] }, { accessFlags := 2, nameIndex := 19, descriptorIndex := 10, attributes := #[] }])
  fields := #[{ name := "name", type := (.object "java/lang/String"), accessFlags := 18, slot := 0, constantValue := 0 }, { name := "ordinal", type := .int, accessFlags := 18, slot := 1, constantValue := 0 }, { name := "hash", type := .int, accessFlags := 2, slot := 2, constantValue := 0 }]
  methods := #[]
  instanceTypes := #[(.object "java/lang/String"), .int, .int]
  staticTypes := #[]
  resolved := Array.replicate 204 none
  statics := none }

def pool7 : Array CpInfo := pool [(1, .class_ 2), (0, u "com/example/earnest_roster/earnestroster/MergeResult$Status"), (2, u "CREATED"), (0, u "Lcom/example/earnest_roster/earnestroster/MergeResult$Status;"), (2, u "UPDATED"), (2, u "UNCHANGED"), (2, u "SKIPPED"), (2, u "REJECTED"), (2, u "$VALUES"), (0, u "[Lcom/example/earnest_roster/earnestroster/MergeResult$Status;"), (6, .class_ 31), (1, u "java/lang/Enum"), (28, .class_ 61), (0, u "com/example/earnest_roster/earnestroster/MergeResult")] 2

/-- com/example/earnest_roster/earnestroster/MergeResult$Status -/
def k7 : Class := { plain "com/example/earnest_roster/earnestroster/MergeResult$Status" (some 6) with
  accessFlags := 16432
  interfaces := #[]
  cf := some (fileOf pool7 1 #[.nestHost 60] #[] 16432 29 #[] #[{ accessFlags := 16409, nameIndex := 5, descriptorIndex := 6, attributes := #[] }, { accessFlags := 16409, nameIndex := 9, descriptorIndex := 6, attributes := #[] }, { accessFlags := 16409, nameIndex := 12, descriptorIndex := 6, attributes := #[] }, { accessFlags := 16409, nameIndex := 15, descriptorIndex := 6, attributes := #[] }, { accessFlags := 16409, nameIndex := 18, descriptorIndex := 6, attributes := #[] }, { accessFlags := 4122, nameIndex := 21, descriptorIndex := 22, attributes := #[] }])
  fields := #[{ name := "CREATED", type := (.object "com/example/earnest_roster/earnestroster/MergeResult$Status"), accessFlags := 16409, slot := 0, constantValue := 0 }, { name := "UPDATED", type := (.object "com/example/earnest_roster/earnestroster/MergeResult$Status"), accessFlags := 16409, slot := 1, constantValue := 0 }, { name := "UNCHANGED", type := (.object "com/example/earnest_roster/earnestroster/MergeResult$Status"), accessFlags := 16409, slot := 2, constantValue := 0 }, { name := "SKIPPED", type := (.object "com/example/earnest_roster/earnestroster/MergeResult$Status"), accessFlags := 16409, slot := 3, constantValue := 0 }, { name := "REJECTED", type := (.object "com/example/earnest_roster/earnestroster/MergeResult$Status"), accessFlags := 16409, slot := 4, constantValue := 0 }, { name := "$VALUES", type := (.array (.object "com/example/earnest_roster/earnestroster/MergeResult$Status")), accessFlags := 4122, slot := 5, constantValue := 0 }]
  methods := #[]
  instanceTypes := #[(.object "java/lang/String"), .int, .int]
  staticTypes := #[(.object "com/example/earnest_roster/earnestroster/MergeResult$Status"), (.object "com/example/earnest_roster/earnestroster/MergeResult$Status"), (.object "com/example/earnest_roster/earnestroster/MergeResult$Status"), (.object "com/example/earnest_roster/earnestroster/MergeResult$Status"), (.object "com/example/earnest_roster/earnestroster/MergeResult$Status"), (.array (.object "com/example/earnest_roster/earnestroster/MergeResult$Status"))]
  resolved := Array.replicate 64 none
  statics := some 0 }

def pool8 : Array CpInfo := pool [(1, u "java/lang/Cloneable"), (0, .class_ 1), (0, u "java/lang/Object"), (0, .class_ 3)] 3

/-- java/lang/Cloneable -/
def k8 : Class := { plain "java/lang/Cloneable" (some 0) with
  accessFlags := 1537
  interfaces := #[]
  cf := some (fileOf pool8 2 #[] #[] 1537 4 #[] #[])
  fields := #[]
  methods := #[]
  instanceTypes := #[]
  staticTypes := #[]
  resolved := Array.replicate 8 none
  statics := none }

/-- the primitive byte -/
def k9 : Class := { plain "byte" none with kind := .primitive 'B', accessFlags := 0x411 }
/-- [B -/
def k10 : Class := { plain "[B" (some 0) with kind := .array 9 .byte, interfaces := #[8, 5], accessFlags := 1041 }

/-- the primitive int -/
def k11 : Class := { plain "int" none with kind := .primitive 'I', accessFlags := 0x411 }
/-- [I -/
def k12 : Class := { plain "[I" (some 0) with kind := .array 11 .int, interfaces := #[8, 5], accessFlags := 1041 }

def heap : Heap := #[{ cls := 7, slots := #[.null, .null, .null, .ref 1, .null, .null], vm := .statics 7 },
  { cls := 7, slots := #[.null, .int 3, .int 0], vm := .none }]
def classes : Array Class := #[k0, k1, k2, k3, k4, k5, k6, k7, k8, k9, k10, k11, k12]
def interned : List (Array UInt16 × Addr) := []
def slotsUsed : Nat := 9
def theMethod : MethodId := ⟨1, 2⟩
def args0 : Array Value := #[.int 5]
def aboutOver (below : List Frame) : State where
  vm := { classes := classes, interned := interned.toArray }
  heap := heap
  slotsUsed := slotsUsed
  threads := #[{ frames := .invoking theMethod args0 :: below }]
def below0 : List Frame := [.native { method := ⟨0, 0⟩, args := #[] }]
def about1 : State := aboutOver below0
def p0 : Program := .bare "" "" ""
def e0 : Env := launch0.env 0 0 0
theorem w_frames : about1.frames = Frame.invoking theMethod args0 :: below0 := rfl
set_option maxRecDepth 65536 in
theorem w_args : argsFit about1.vm theMethod args0 = true := by decide +kernel
set_option maxRecDepth 65536 in
theorem w_heap : heapFits about1 = true := by decide +kernel
set_option maxRecDepth 65536 in
theorem w_runnable : about1.curStatus? = some .runnable := by decide +kernel
set_option maxRecDepth 65536 in
theorem w_alone : about1.alone = true := by decide +kernel
set_option maxRecDepth 65536 in
theorem w_named : about1.methodNamed? x = some theMethod := by decide +kernel
set_option maxRecDepth 65536 in
theorem w_hears : about1.hears theMethod below0 = true := by decide +kernel
set_option maxRecDepth 65536 in
theorem w_ripe : about1.ripe theMethod args0 below0 = true := by decide +kernel
theorem w_running : about1.status = .running := rfl
set_option maxRecDepth 65536 in
theorem w_room : about1.hasRoom e0.platform room_1 = true :=
  launch0.hasRoom_least _ room_1 (by decide +kernel) (by decide +kernel) (by decide +kernel) (by decide +kernel) (by decide +kernel) (by decide +kernel)
theorem allAtoms_all (ts : List Jvm.Cond) (a : Array Jvm.Value) (st : Jvm.State) : (allAtoms ts).before a st = ts.all (fun c => c.before a st) := by
  induction ts with
  | nil => rfl
  | cons c t ih =>
    show (Jvm.Cond.and c (allAtoms t)).before a st = _
    rw [Jvm.Cond.before_and, ih, List.all_cons]
def words1 : List Jvm.Cond := Jvm.Cond.code x code maxLocals ret :: tables_1
/-- a 'code' word, met by the world's own term for the bytes: nothing is compared byte by byte -/
theorem code_word {y : MethodName} {bytes : ByteArray} {mx : Nat} {rt : Option FieldType} {a : Array Value} {s : State} {m : MethodId} {meth : Method} {c : Code} (h1 : s.methodNamed? y = some m) (h2 : s.vm.method? m = some meth) (h3 : meth.code = some c) (h4 : c.code = bytes)
    (h5 : (c.maxLocals == mx && c.exceptionTable.isEmpty && decide (c.maxStack ≤ mostOperands) && decide (meth.sig.returnType = rt) && !meth.locks && decide (parseMethodDescriptor y.desc = some meth.sig)) = true) : (Jvm.Cond.code y bytes mx rt).before a s = true := by
  simp only [Bool.and_eq_true, beq_iff_eq, Bool.not_eq_true', decide_eq_true_eq] at h5
  obtain ⟨⟨⟨⟨⟨g1, g2⟩, g3⟩, g4⟩, g5⟩, g6⟩ := h5
  simp [Cond.before, Cond.holds, Cond.value, h1, h2, h3, h4, g1, g2, g3, g4, g5, g6]
def isCode : Jvm.Cond → Bool
  | .code _ _ _ _ => true
  | _ => false
theorem all_split {L : List Jvm.Cond} {P : Jvm.Cond → Bool} (h1 : L.all (fun c => isCode c || P c) = true) (h2 : ∀ c ∈ L.filter isCode, P c = true) : L.all P = true := by
  refine List.all_eq_true.mpr fun c hc => ?_
  have h := List.all_eq_true.mp h1 c hc
  rcases Bool.eq_false_or_eq_true (isCode c) with hi | hi
  · exact h2 c (List.mem_filter.mpr ⟨hc, hi⟩)
  · simpa [hi] using h
set_option maxRecDepth 65536 in
theorem w_c0 : (Jvm.Cond.code x code maxLocals ret).before args0 about1 = true := code_word (m := ⟨1, 2⟩) (meth := k1m2) (c := k1c2) (by decide +kernel) rfl rfl rfl (by decide +kernel)
set_option maxRecDepth 65536 in
theorem w_c1 : (Jvm.Cond.code ({ cls := "com/example/earnest_roster/earnestroster/MergeResult", name := "skipped", desc := "()Lcom/example/earnest_roster/earnestroster/MergeResult;" } : Jvm.MethodName) prog_12_method_3_code (0 : Nat) (Option.some (Jvm.ClassFile.FieldType.object "com/example/earnest_roster/earnestroster/MergeResult"))).before args0 about1 = true := code_word (m := ⟨2, 1⟩) (meth := k2m1) (c := k2c1) (by decide +kernel) rfl rfl rfl (by decide +kernel)
set_option maxRecDepth 65536 in
theorem w_c2 : (Jvm.Cond.code ({ cls := "com/example/earnest_roster/earnestroster/MergeResult", name := "<init>", desc := "(Lcom/example/earnest_roster/earnestroster/MergeResult$Status;Ljava/lang/String;Lcom/example/earnest_roster/earnestroster/ApiError;)V" } : Jvm.MethodName) prog_12_method_1_code (4 : Nat) (Option.none : Option Jvm.ClassFile.FieldType)).before args0 about1 = true := code_word (m := ⟨2, 0⟩) (meth := k2m0) (c := k2c0) (by decide +kernel) rfl rfl rfl (by decide +kernel)
set_option maxRecDepth 65536 in
theorem w_c3 : (Jvm.Cond.code ({ cls := "java/lang/Object", name := "<init>", desc := "()V" } : Jvm.MethodName) object_method_1_code (1 : Nat) (Option.none : Option Jvm.ClassFile.FieldType)).before args0 about1 = true := code_word (m := ⟨0, 0⟩) (meth := k0m0) (c := k0c0) (by decide +kernel) rfl rfl rfl (by decide +kernel)
set_option maxRecDepth 65536 in
theorem w_c4 : (Jvm.Cond.code ({ cls := "com/example/earnest_roster/earnestroster/MergeResultSkippedPinLaw", name := "isSkippedShape", desc := "(Lcom/example/earnest_roster/earnestroster/MergeResult;)Z" } : Jvm.MethodName) method_2_code (1 : Nat) (Option.some Jvm.ClassFile.FieldType.boolean)).before args0 about1 = true := code_word (m := ⟨1, 1⟩) (meth := k1m1) (c := k1c1) (by decide +kernel) rfl rfl rfl (by decide +kernel)
set_option maxRecDepth 65536 in
theorem w_c5 : (Jvm.Cond.code ({ cls := "com/example/earnest_roster/earnestroster/MergeResult", name := "getStatus", desc := "()Lcom/example/earnest_roster/earnestroster/MergeResult$Status;" } : Jvm.MethodName) prog_12_method_5_code (1 : Nat) (Option.some (Jvm.ClassFile.FieldType.object "com/example/earnest_roster/earnestroster/MergeResult$Status"))).before args0 about1 = true := code_word (m := ⟨2, 2⟩) (meth := k2m2) (c := k2c2) (by decide +kernel) rfl rfl rfl (by decide +kernel)
set_option maxRecDepth 65536 in
theorem w_c6 : (Jvm.Cond.code ({ cls := "com/example/earnest_roster/earnestroster/MergeResult", name := "getId", desc := "()Ljava/lang/String;" } : Jvm.MethodName) prog_12_method_6_code (1 : Nat) (Option.some (Jvm.ClassFile.FieldType.object "java/lang/String"))).before args0 about1 = true := code_word (m := ⟨2, 3⟩) (meth := k2m3) (c := k2c3) (by decide +kernel) rfl rfl rfl (by decide +kernel)
set_option maxRecDepth 65536 in
theorem w_c7 : (Jvm.Cond.code ({ cls := "com/example/earnest_roster/earnestroster/MergeResult", name := "getError", desc := "()Lcom/example/earnest_roster/earnestroster/ApiError;" } : Jvm.MethodName) prog_12_method_7_code (1 : Nat) (Option.some (Jvm.ClassFile.FieldType.object "com/example/earnest_roster/earnestroster/ApiError"))).before args0 about1 = true := code_word (m := ⟨2, 4⟩) (meth := k2m4) (c := k2c4) (by decide +kernel) rfl rfl rfl (by decide +kernel)
def codes1 : List Jvm.Cond := [Jvm.Cond.code x code maxLocals ret, Jvm.Cond.code ({ cls := "com/example/earnest_roster/earnestroster/MergeResult", name := "skipped", desc := "()Lcom/example/earnest_roster/earnestroster/MergeResult;" } : Jvm.MethodName) prog_12_method_3_code (0 : Nat) (Option.some (Jvm.ClassFile.FieldType.object "com/example/earnest_roster/earnestroster/MergeResult")), Jvm.Cond.code ({ cls := "com/example/earnest_roster/earnestroster/MergeResult", name := "<init>", desc := "(Lcom/example/earnest_roster/earnestroster/MergeResult$Status;Ljava/lang/String;Lcom/example/earnest_roster/earnestroster/ApiError;)V" } : Jvm.MethodName) prog_12_method_1_code (4 : Nat) (Option.none : Option Jvm.ClassFile.FieldType), Jvm.Cond.code ({ cls := "java/lang/Object", name := "<init>", desc := "()V" } : Jvm.MethodName) object_method_1_code (1 : Nat) (Option.none : Option Jvm.ClassFile.FieldType), Jvm.Cond.code ({ cls := "com/example/earnest_roster/earnestroster/MergeResultSkippedPinLaw", name := "isSkippedShape", desc := "(Lcom/example/earnest_roster/earnestroster/MergeResult;)Z" } : Jvm.MethodName) method_2_code (1 : Nat) (Option.some Jvm.ClassFile.FieldType.boolean), Jvm.Cond.code ({ cls := "com/example/earnest_roster/earnestroster/MergeResult", name := "getStatus", desc := "()Lcom/example/earnest_roster/earnestroster/MergeResult$Status;" } : Jvm.MethodName) prog_12_method_5_code (1 : Nat) (Option.some (Jvm.ClassFile.FieldType.object "com/example/earnest_roster/earnestroster/MergeResult$Status")), Jvm.Cond.code ({ cls := "com/example/earnest_roster/earnestroster/MergeResult", name := "getId", desc := "()Ljava/lang/String;" } : Jvm.MethodName) prog_12_method_6_code (1 : Nat) (Option.some (Jvm.ClassFile.FieldType.object "java/lang/String")), Jvm.Cond.code ({ cls := "com/example/earnest_roster/earnestroster/MergeResult", name := "getError", desc := "()Lcom/example/earnest_roster/earnestroster/ApiError;" } : Jvm.MethodName) prog_12_method_7_code (1 : Nat) (Option.some (Jvm.ClassFile.FieldType.object "com/example/earnest_roster/earnestroster/ApiError"))]
set_option maxRecDepth 65536 in
theorem codes_eq : words1.filter isCode = codes1 := rfl
theorem w_codes : ∀ c ∈ words1.filter isCode, c.before args0 about1 = true := by
  rw [codes_eq]
  intro c hc
  simp only [codes1, List.mem_cons, List.not_mem_nil, or_false] at hc
  rcases hc with rfl | rfl | rfl | rfl | rfl | rfl | rfl | rfl
  · exact w_c0
  · exact w_c1
  · exact w_c2
  · exact w_c3
  · exact w_c4
  · exact w_c5
  · exact w_c6
  · exact w_c7
set_option maxRecDepth 65536 in
theorem w_t1 : (words1.take 24).all (fun c => isCode c || c.before args0 about1) = true := by decide +kernel
set_option maxRecDepth 65536 in
theorem w_t2 : (words1.drop 24).all (fun c => isCode c || c.before args0 about1) = true := by decide +kernel
theorem w_tables : (allAtoms (Jvm.Cond.code x code maxLocals ret :: tables_1)).before args0 about1 = true := by
  rw [allAtoms_all]
  show words1.all (fun c => c.before args0 about1) = true
  refine all_split ?_ w_codes
  rw [← List.take_append_drop 24 words1, List.all_append, w_t1, w_t2]
  rfl
set_option maxRecDepth 65536 in
theorem w_case : (Jvm.Cond.and given_1 narrow_1).before args0 about1 = true := by decide +kernel
theorem w_applies : (headSpec (Jvm.Cond.code x code maxLocals ret :: tables_1) room_1).applies x e0.platform about1 = true :=
  (Spec.applies_iff w_frames).mpr ⟨w_running, w_runnable, w_alone, w_named, w_hears, w_ripe, w_room, w_tables⟩
theorem atStart : AtStart classFile x code maxLocals ret World_1 tables_1 room_1 Calls_1 rest_1 Pre_1 launch0 p0 e0 about1 theMethod args0 below0 :=
  ⟨lists_1, trivial, launch0.admits_env _ _ _, launch0.least_env, fairChoices_fair.cas, fairChoices_fair.clock, w_frames, w_args, w_heap, w_applies, trivial, trivial, w_case⟩
end start1
theorem witness_1 : WitnessClaimed_1 := ⟨start1.p0, start1.e0, start1.about1, start1.theMethod, start1.args0, start1.below0, start1.atStart⟩
end Jvm.Pilot.@@N@@
