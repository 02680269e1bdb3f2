import JvmDerived
import JvmDerived.Pilot.@@N@@Statement
import JvmDerived.Pilot.@@N@@Code
set_option linter.unusedVariables false
set_option linter.unusedSimpArgs false
namespace Jvm.RoadKit
open Sem ClassFile Op Lib Jvm.Stand Jvm.Free Jvm.LawKit
section New
variable {p : Program} {l : Launch} {e : Env} {R : Room} {s : State} {m : MethodId} {args : Array Value} {below : List Frame} {meth : Method} {c : Code} {T : State} {locs : List Loc} {cells slots : Nat}
theorem retI (X : Stand p l e R s m args below meth c T locs cells slots) (hx : p.tables.exec = Jvm.exec) {pc : Nat} {Ls : Array Slot} {z : Int32} {rest : List Value} (hret : meth.sig.returnType = some .int) (hd : decode c.code pc = .ok (.ireturn, 1)) {fs : List Frame}
    (hl : ∀ (f : JFrame) (acts : List Action), f.method = m → f.locked = none → f.entered = [] → (doReturn e (T.setTop f) acts (some (.int z))).1 = T.setFrames fs) : Steps p.tables e below (T.setTop (mkF m pc Ls (.int z :: rest))) (T.setFrames fs) := by
  have hm' : T.vm.method? m = some meth := X.method'
  have hn : narrow .int (.int z) = .int z := rfl
  show Steps p.tables e below (T.setTop { method := m, pc := pc, locals := Ls, stack := _ :: rest, locked := none }) _
  jvm_step X.here [X.here.top, hx, hd, hm', hret, hn]
  first | (intro acts; rw [hl _ acts rfl rfl rfl]) | rw [hl _ _ rfl rfl rfl]
  exact Steps.refl _
end New
end Jvm.RoadKit
namespace Jvm.Pilot.@@N@@
open Jvm Jvm.ClassFile Sem Op Lib Jvm.Free Jvm.Stand Jvm.LawKit Jvm.RoadKit Bundle Jvm.Pilot.@@N@@.Jvm.D
theorem own_go {tb : Tables} {e : Env} {below : List Frame} {A B : State} {P : State → Outcome → Prop} (st : ∀ t, Steps tb e below B t → Steps tb e below A t) (k : ∃ t o, Steps tb e below B t ∧ P t o) : ∃ t o, Steps tb e below A t ∧ P t o := by
  obtain ⟨t, o, h1, h2⟩ := k
  exact ⟨t, o, st t h1, h2⟩
theorem own_goT {tb : Tables} {e : Env} {below : List Frame} {A B : State} {P : State → Outcome → Prop} (st : Steps tb e below A B) (k : ∃ t o, Steps tb e below B t ∧ P t o) : ∃ t o, Steps tb e below A t ∧ P t o := by
  obtain ⟨t, o, h1, h2⟩ := k
  exact ⟨t, o, st.trans h1, h2⟩
theorem own_nfo {args : Array Value} {s : State} {C : String} {x y z : MethodName} (hsel : (Jvm.Cond.selects C x z).before args s = true) (e : z.cls = y.cls) : NotFace s y := fun r0 h0 => by
  obtain ⟨c2, r2, m2, q1, q2, q3, q4, kP, hkP, hkPi⟩ := Cond.selects_spec hsel
  have a1 := findClass_of_methodNamed q3
  have a2 := findClass_of_methodNamed h0
  rw [e] at a1
  have e2 := Option.some.inj (a1.symm.trans a2)
  exact ⟨kP, by rw [← e2]; exact hkP, hkPi⟩
theorem own_ifc {α : Type} {P R : Prop} [Decidable P] [Decidable R] (a b : α) (h : P ↔ R) : (if P then a else b) = (if R then a else b) := by
  by_cases q : P
  · rw [if_pos q, if_pos (h.mp q)]
  · rw [if_neg q, if_neg fun r => q (h.mpr r)]
theorem own_ne {a b : Nat} (h : a < b ∨ b < a) : a ≠ b := by omega
theorem own_keep_le {h h' : Heap} {ws : List Addr} (K : Keep h h' ws) : h.size ≤ h'.size := K.1
open Jvm.FP Jvm.Free.Fl in
theorem own_negd : cmpValue (FP.dcmp (13830554455654793216 : UInt64) FP.dconst0) .g = (-1 : Int32) := by decide +kernel
/-- what the object's fields say, by how many messages are through -/
def own_inv (n ev fi sz : Int32) (fq : Int64) (M1 M2 : Int32) : Prop :=
  (fi = (0 : Int32) ∧ sz = n ∧ fq = (1 : Int64) ∧ ¬ (M1 = ev)) ∨ (fi = (1 : Int32) ∧ sz = n - 1 ∧ fq = (2 : Int64) ∧ M1 = ev ∧ (n = (1 : Int32) ∨ ¬ (M2 = ev))) ∨ (fi = (2 : Int32) ∧ sz = (0 : Int32) ∧ fq = (3 : Int64) ∧ n = (2 : Int32) ∧ M1 = ev ∧ M2 = ev)
theorem own_out {sq fq : Int64} {sz : Int32} (a b : Int) (hf : fq.toInt = a) (hs : sz.toInt = b) (a1 : 1 ≤ a) (a3 : a ≤ 3) (b0 : 0 ≤ b) (b2 : b ≤ 2) (h : sq.toInt < a ∨ a + b ≤ sq.toInt) : (sq - fq) < (0 : Int64) ∨ ¬ ((sq - fq) < sz.toInt64) := by
  have c1 := c_lsub sq fq
  have r1 := rng64 sq
  have r2 := rng64 (sq - fq)
  have e0 : (0 : Int64).toInt = 0 := rfl
  simp only [Int64.lt_iff_toInt_lt, c_i2l, hs, e0]
  rw [hf] at c1
  omega
theorem own_ndiv (x : Int32) : (1 + ((x &&& (2147483647 : Int32)) % (3 : Int32))) = (1 : Int32) ∨ (1 + ((x &&& (2147483647 : Int32)) % (3 : Int32))) = (2 : Int32) ∨ (1 + ((x &&& (2147483647 : Int32)) % (3 : Int32))) = (3 : Int32) := by
  have c1 := c_and x 2147483647 (by decide)
  have c2 := (c_irem (x &&& 2147483647) 3 3 rfl).1 c1.1
  have c3 := c_iadd 1 ((x &&& 2147483647) % 3)
  have r := rng32 (1 + (x &&& 2147483647) % 3)
  have e1 : (1 : Int32).toInt = 1 := rfl
  rw [e1, c2] at c3
  have h : (1 + (x &&& 2147483647) % 3).toInt = 1 ∨ (1 + (x &&& 2147483647) % 3).toInt = 2 ∨ (1 + (x &&& 2147483647) % 3).toInt = 3 := by omega
  rcases h with h | h | h
  · exact Or.inl (Int32.toInt_inj.mp h)
  · exact Or.inr (Or.inl (Int32.toInt_inj.mp h))
  · exact Or.inr (Or.inr (Int32.toInt_inj.mp h))
theorem own_n12 (x : Int32) : (1 + (x &&& (1 : Int32))) = (1 : Int32) ∨ (1 + (x &&& (1 : Int32))) = (2 : Int32) := by
  rcases and_one x with h | h <;> rw [h] <;> decide
theorem own_and3 (k : Int32) : k &&& 3 = 0 ∨ k &&& 3 = 1 ∨ k &&& 3 = 2 ∨ k &&& 3 = 3 := by
  have h := c_mask k 3 2 (by decide) (by decide)
  have h1 : ((2 ^ 2 : Nat) : Int) = 4 := rfl
  rw [h1] at h
  have h2 : (k &&& 3).toInt = 0 ∨ (k &&& 3).toInt = 1 ∨ (k &&& 3).toInt = 2 ∨ (k &&& 3).toInt = 3 := by omega
  rcases h2 with h2 | h2 | h2 | h2
  · exact Or.inl (Int32.toInt_inj.mp h2)
  · exact Or.inr (Or.inl (Int32.toInt_inj.mp h2))
  · exact Or.inr (Or.inr (Or.inl (Int32.toInt_inj.mp h2)))
  · exact Or.inr (Or.inr (Or.inr (Int32.toInt_inj.mp h2)))
theorem own_bit (mm x : Int32) (h : mm = (1 : Int32) ∨ mm = (2 : Int32) ∨ mm = (3 : Int32)) : ((((1 : Int32) <<< (mm &&& 31)) - (1 : Int32)) ||| ((1 : Int32) <<< (((x &&& (3 : Int32)) % mm) &&& 31))) = (((1 : Int32) <<< (mm &&& 31)) - (1 : Int32)) := by
  rcases h with rfl | rfl | rfl <;> rcases own_and3 x with h | h | h | h <;> rw [h] <;> decide
theorem own_ev (mm : Int32) (h : mm = (1 : Int32) ∨ mm = (2 : Int32) ∨ mm = (3 : Int32)) : ¬ ((0 : Int32) = (((1 : Int32) <<< (mm &&& 31)) - (1 : Int32))) := by
  rcases h with rfl | rfl | rfl <;> decide
theorem own_mz (mm : Int32) (h : mm = (1 : Int32) ∨ mm = (2 : Int32) ∨ mm = (3 : Int32)) : mm ≠ 0 := by
  rcases h with rfl | rfl | rfl <;> decide
theorem own_seq1 (q : Int64) : q = (1 : Int64) ∨ (¬ (q = (1 : Int64)) ∧ (q.toInt < 1 ∨ 2 ≤ q.toInt)) := by
  by_cases h : q = (1 : Int64)
  · exact Or.inl h
  · refine Or.inr ⟨h, ?_⟩
    have : q.toInt ≠ 1 := fun e => h (Int64.toInt_inj.mp e)
    omega
theorem own_seq2 (q : Int64) : q = (1 : Int64) ∨ q = (2 : Int64) ∨ (q.toInt < 1 ∨ 3 ≤ q.toInt) := by
  by_cases h : q = (1 : Int64)
  · exact Or.inl h
  · by_cases h2 : q = (2 : Int64)
    · exact Or.inr (Or.inl h2)
    · have : q.toInt ≠ 1 := fun e => h (Int64.toInt_inj.mp e)
      have : q.toInt ≠ 2 := fun e => h2 (Int64.toInt_inj.mp e)
      exact Or.inr (Or.inr (by omega))
theorem own_lt1 {q : Int64} (n : Int64) (k : Int) (hk : n.toInt = k) (h : q.toInt < 1 ∨ k + 1 ≤ q.toInt) (h1 : ¬ (q < (1 : Int64))) : n < q := by
  rw [Int64.lt_iff_toInt_lt] at h1 ⊢
  have e1 : (1 : Int64).toInt = 1 := rfl
  omega

theorem ef_rmInit (m : MethodId) (x0 : Nat) (x1 : Int32) : entryFrame m #[(.ref x0), (.int x1)] 2 = mkF m 0 #[.val (.ref x0), .val (.int x1)] [] := by first | (simp [entryFrame, mkF, argsToLocals, Value.category]; done) | rfl
theorem d1_0 : decode prog_167_method_1_code 0 = .ok (.aload_n 0, 1) := by decide +kernel
theorem d1_1 : decode prog_167_method_1_code 1 = .ok (.invokespecial 1, 3) := by decide +kernel
theorem d1_4 : decode prog_167_method_1_code 4 = .ok (.aload_n 0, 1) := by decide +kernel
theorem d1_5 : decode prog_167_method_1_code 5 = .ok (.bipush 16, 2) := by decide +kernel
theorem d1_7 : decode prog_167_method_1_code 7 = .ok (.newarray .double, 2) := by decide +kernel
theorem d1_9 : decode prog_167_method_1_code 9 = .ok (.putfield 7, 3) := by decide +kernel
theorem d1_12 : decode prog_167_method_1_code 12 = .ok (.aload_n 0, 1) := by decide +kernel
theorem d1_13 : decode prog_167_method_1_code 13 = .ok (.bipush 16, 2) := by decide +kernel
theorem d1_15 : decode prog_167_method_1_code 15 = .ok (.newarray .int, 2) := by decide +kernel
theorem d1_17 : decode prog_167_method_1_code 17 = .ok (.putfield 13, 3) := by decide +kernel
theorem d1_20 : decode prog_167_method_1_code 20 = .ok (.aload_n 0, 1) := by decide +kernel
theorem d1_21 : decode prog_167_method_1_code 21 = .ok (.lconst 1, 1) := by decide +kernel
theorem d1_22 : decode prog_167_method_1_code 22 = .ok (.putfield 17, 3) := by decide +kernel
theorem d1_25 : decode prog_167_method_1_code 25 = .ok (.aload_n 0, 1) := by decide +kernel
theorem d1_26 : decode prog_167_method_1_code 26 = .ok (.iconst 1, 1) := by decide +kernel
theorem d1_27 : decode prog_167_method_1_code 27 = .ok (.iload_n 1, 1) := by decide +kernel
theorem d1_28 : decode prog_167_method_1_code 28 = .ok (.ishl, 1) := by decide +kernel
theorem d1_29 : decode prog_167_method_1_code 29 = .ok (.iconst 1, 1) := by decide +kernel
theorem d1_30 : decode prog_167_method_1_code 30 = .ok (.isub, 1) := by decide +kernel
theorem d1_31 : decode prog_167_method_1_code 31 = .ok (.putfield 21, 3) := by decide +kernel
theorem d1_34 : decode prog_167_method_1_code 34 = .ok (.return_, 1) := by decide +kernel
theorem pn_com_example_holdback_holdback_sim_InFlight : plainName "com/example/holdback/holdback/sim/InFlight" = true := by first | (simp [plainName, overriddenIn]; done) | decide +kernel
def Q_rmInit (Z : State) (fo : Nat) (mm : Int32) (h0 : Heap) (n0 : Nat) (v : Option Value) (h : Heap) (L : List Loc) : Prop := ∃ (da : Nat), ∃ (ia : Nat), ∃ (kd : ClassId), ∃ (ki : ClassId), v = none ∧ Fr n0 L ∧ Keep h0 h [fo] ∧ Exa Z h fo "com/example/holdback/holdback/sim/InFlight" ∧ Fld Z h fo "com/example/holdback/holdback/sim/InFlight" "multicastAt" "[D" (.ref da) ∧ Fld Z h fo "com/example/holdback/holdback/sim/InFlight" "deliveredBy" "[I" (.ref ia) ∧ Fld Z h fo "com/example/holdback/holdback/sim/InFlight" "firstSeq" "J" (.long (1 : Int64)) ∧ Fld Z h fo "com/example/holdback/holdback/sim/InFlight" "everyone" "I" (.int (((1 : Int32) <<< (mm &&& 31)) - (1 : Int32))) ∧ Fld Z h fo "com/example/holdback/holdback/sim/InFlight" "size" "I" (.int (0 : Int32)) ∧ Fld Z h fo "com/example/holdback/holdback/sim/InFlight" "first" "I" (.int (0 : Int32)) ∧ Arv Z h da kd .double (16 : Int32) [(.double (0 : UInt64)), (.double (0 : UInt64))] (.double (0 : UInt64)) ∧ Arv Z h ia ki .int (16 : Int32) [(.int (0 : Int32)), (.int (0 : Int32))] (.int (0 : Int32)) ∧ (h0.size ≤ da) ∧ (h0.size ≤ ia) ∧ (da ≠ ia)
set_option maxRecDepth 65536 in
set_option maxHeartbeats 40000000 in
theorem rmInit (l : Launch) (Z : State) (a0 : Array Value) (hw : ∀ d ∈ tables_1, d.before a0 Z = true) (ws : List Jvm.Cond) (fo : Nat) (mm : Int32) (h0 : Heap) (n0 : Nat) (Z0 : n0 ≤ h0.size) (P1 : Exa Z h0 fo "com/example/holdback/holdback/sim/InFlight") (P2 : Fld Z h0 fo "com/example/holdback/holdback/sim/InFlight" "multicastAt" "[D" .null) (P3 : Fld Z h0 fo "com/example/holdback/holdback/sim/InFlight" "deliveredBy" "[I" .null) (P4 : Fld Z h0 fo "com/example/holdback/holdback/sim/InFlight" "firstSeq" "J" (.long (0 : Int64))) (P5 : Fld Z h0 fo "com/example/holdback/holdback/sim/InFlight" "everyone" "I" (.int (0 : Int32))) (P6 : Fld Z h0 fo "com/example/holdback/holdback/sim/InFlight" "size" "I" (.int (0 : Int32))) (P7 : Fld Z h0 fo "com/example/holdback/holdback/sim/InFlight" "first" "I" (.int (0 : Int32))) (OLD : Old Z n0 h0) (ga : n0 ≤ fo) :
    MetFree l (⟨"com/example/holdback/holdback/sim/InFlight", "<init>", "(I)V"⟩ : MethodName) (head1 (Jvm.Cond.code (⟨"com/example/holdback/holdback/sim/InFlight", "<init>", "(I)V"⟩ : MethodName) prog_167_method_1_code 2 none :: ws) ({ frames := 1, cells := 2, slots := 32, locals := 12 } : Room)) (fun a U => a = #[(.ref fo), (.int mm)] ∧ Z.Warmed39 U.vm ∧ U.heap = h0) (fun _ _ _ _ _ => True) (fun _ U o U' => ∃ v L, o = .returned v ∧ Q_rmInit Z fo mm h0 n0 v U'.heap L ∧ FrameEnd U o U' L ({ frames := 1, cells := 2, slots := 32, locals := 12 } : Room).cells ({ frames := 1, cells := 2, slots := 32, locals := 12 } : Room).slots) := by
  refine MetFree.of_bodySF (plainFor_of_name pn_com_example_holdback_holdback_sim_InFlight) hisR ?_
  intro p e s m args below meth c s₁ Bd hml0 hP hK
  obtain ⟨rfl, hZ, hh⟩ := hP
  have hx := Bd.exec
  have hby := Bd.bytes
  have hml : c.maxLocals = 2 := hml0
  have hown : s.vm.findClass "com/example/holdback/holdback/sim/InFlight" = some m.cls := findClass_of_methodNamed Bd.named
  have hnm := (name_of_methodNamed Bd.named Bd.method).1
  have X0 : Stand p l e ({ frames := 1, cells := 2, slots := 32, locals := 12 } : Room) s m #[(.ref fo), (.int mm)] below meth c s₁ [] 0 0 := Stand.of_body Bd
  have e0 : s₁.heap = h0 := by rw [← hh, Bd.state]; rfl
  have N0 := Fr.nil n0
  have pre0 : ∀ t, Steps p.tables e below (s₁.setTop (mkF m 0 #[.val (.ref fo), .val (.int mm)] [])) t → Steps p.tables e below (s₁.setTop (entryFrame m #[(.ref fo), (.int mm)] 2)) t := fun t k => castTop (ef_rmInit m fo mm) k
  have oz := OLD.1
  have lt_fo : fo < h0.size := P1.lt
  refine own_go (B := s₁.setTop (mkF m 0 #[.val (.ref fo), .val (.int mm)] [])) pre0 ?_
  show ∃ t o, Steps p.tables e below (s₁.setTop (mkF m 0 #[.val (.ref fo), .val (.int mm)] [])) t ∧ _
  refine own_go (fun _ => XS.aloadN X0.here hx rfl (hb hby d1_0) rfl rfl) ?_
  show ∃ t o, Steps p.tables e below (s₁.setTop (mkF m 1 #[.val (.ref fo), .val (.int mm)] [(.ref fo)])) t ∧ _
  obtain ⟨T8, X8, e8, st8⟩ := initO X0 hx hZ hown (hw _ (List.mem_of_getElem? (i := 10) rfl)) (hw _ (List.mem_of_getElem? (i := 11) rfl)) (hw _ (List.mem_of_getElem? (i := 12) rfl)) e0 (g := (mkF m 1 #[.val (.ref fo), .val (.int mm)] [(.ref fo)])) rfl (by rw [hml]; rfl) rfl (hb hby d1_1) (by decide) (W := 0) (by show 2 * 0 + _ ≤ _; exact Nat.le_of_eq rfl) (by decide)
  refine own_go st8 ?_
  refine own_go (fun _ => XS.aloadN X8.here hx rfl (hb hby d1_4) rfl rfl) ?_
  refine own_go (fun _ => XS.bipush X8.here hx rfl (hb hby d1_5)) ?_
  show ∃ t o, Steps p.tables e below (T8.setTop (mkF m 7 #[.val (.ref fo), .val (.int mm)] [(.int (16 : Int32)), (.ref fo)])) t ∧ _
  obtain ⟨T9, h9, k9, X9, e9, E9, A9, st9⟩ := newP X8 hx hZ (hw _ (List.mem_of_getElem? (i := 1) rfl)) e8 (g := (mkF m 7 #[.val (.ref fo), .val (.int mm)] [(.int (16 : Int32)), (.ref fo)])) rfl (hb hby d1_7) rfl (by decide) (cap := 16) (by decide) (by decide) (by decide) (by decide)
  obtain ⟨b9, g9⟩ : ∃ z, z = h0.size := ⟨_, rfl⟩
  rw [← g9] at A9 st9
  refine own_go st9 ?_
  have le_9 : h0.size ≤ h9.size := E9.1
  have lt_b9 : b9 < h9.size := A9.lt
  have V_b9 : Arv Z h9 b9 k9 .double (16 : Int32) [(.double (0 : UInt64)), (.double (0 : UInt64))] (.double (0 : UInt64)) := (Arv.new A9 (by decide)).pad (pad_rep [] (.double (0 : UInt64)) 2)
  have K9 : Keep h0 h9 [fo] := Keep.ext (Keep.refl h0 [fo]) E9
  have F10 : Exa Z h9 fo "com/example/holdback/holdback/sim/InFlight" := (Exa.ext E9 P1)
  have F11 : Fld Z h9 fo "com/example/holdback/holdback/sim/InFlight" "multicastAt" "[D" .null := (Fld.ext E9 P2)
  obtain ⟨T12, h12, X12, e12, W12, st12⟩ := putF X9 hx hZ hown (host := "") (Or.inl (hw _ (List.mem_of_getElem? (i := 13) rfl))) Via.refl e9 F11 F10 (Or.inl (hw _ (List.mem_of_getElem? (i := 14) rfl))) (hw _ (List.mem_of_getElem? (i := 5) rfl)) (ty := (.array .double)) (by decide) rfl rfl (g := (mkF m 9 #[.val (.ref fo), .val (.int mm)] [(.ref b9), (.ref fo)])) rfl rfl (hb hby d1_9)
  refine own_go st12 ?_
  have le_12 : h9.size ≤ h12.size := Nat.le_of_eq W12.size.symm
  have K12 : Keep h0 h12 [fo] := Keep.wr K9 W12 (Or.inl (List.mem_of_getElem? (i := 0) rfl))
  have N12 := Fr.snoc X12 N0 ga
  have Fw12 := Fld.same W12 F11
  refine own_go (fun _ => XS.aloadN X12.here hx rfl (hb hby d1_12) rfl rfl) ?_
  show ∃ t o, Steps p.tables e below (T12.setTop (mkF m 13 #[.val (.ref fo), .val (.int mm)] [(.ref fo)])) t ∧ _
  refine own_go (fun _ => XS.bipush X12.here hx rfl (hb hby d1_13)) ?_
  show ∃ t o, Steps p.tables e below (T12.setTop (mkF m 15 #[.val (.ref fo), .val (.int mm)] [(.int (16 : Int32)), (.ref fo)])) t ∧ _
  obtain ⟨T13, h13, k13, X13, e13, E13, A13, st13⟩ := newP X12 hx hZ (hw _ (List.mem_of_getElem? (i := 3) rfl)) e12 (g := (mkF m 15 #[.val (.ref fo), .val (.int mm)] [(.int (16 : Int32)), (.ref fo)])) rfl (hb hby d1_15) rfl (by decide) (cap := 16) (by decide) (by decide) (by decide) (by decide)
  obtain ⟨b13, g13⟩ : ∃ z, z = h12.size := ⟨_, rfl⟩
  rw [← g13] at A13 st13
  refine own_go st13 ?_
  have le_13 : h12.size ≤ h13.size := E13.1
  have lt_b13 : b13 < h13.size := A13.lt
  have V_b13 : Arv Z h13 b13 k13 .int (16 : Int32) [(.int (0 : Int32)), (.int (0 : Int32))] (.int (0 : Int32)) := (Arv.new A13 (by decide)).pad (pad_rep [] (.int (0 : Int32)) 2)
  have K13 : Keep h0 h13 [fo] := Keep.ext K12 E13
  have F14 : Exa Z h13 fo "com/example/holdback/holdback/sim/InFlight" := (Exa.ext E13 (Exa.wr W12 F10))
  have F15 : Fld Z h13 fo "com/example/holdback/holdback/sim/InFlight" "deliveredBy" "[I" .null := (Fld.ext E13 (Fld.other W12 (Fld.ext E9 P3) (Or.inr (slot_ne (a0 := a0) (Or.inl (hw _ (List.mem_of_getElem? (i := 16) rfl))) (Or.inl (hw _ (List.mem_of_getElem? (i := 14) rfl))) (by decide) (t := (.array .int)) (t' := (.array .double)) (by decide) (by decide)))))
  obtain ⟨T16, h16, X16, e16, W16, st16⟩ := putF X13 hx hZ hown (host := "") (Or.inl (hw _ (List.mem_of_getElem? (i := 15) rfl))) Via.refl e13 F15 F14 (Or.inl (hw _ (List.mem_of_getElem? (i := 16) rfl))) (hw _ (List.mem_of_getElem? (i := 5) rfl)) (ty := (.array .int)) (by decide) rfl rfl (g := (mkF m 17 #[.val (.ref fo), .val (.int mm)] [(.ref b13), (.ref fo)])) rfl rfl (hb hby d1_17)
  refine own_go st16 ?_
  have le_16 : h13.size ≤ h16.size := Nat.le_of_eq W16.size.symm
  have K16 : Keep h0 h16 [fo] := Keep.wr K13 W16 (Or.inl (List.mem_of_getElem? (i := 0) rfl))
  have N16 := Fr.snoc X16 N12 ga
  have Fw16 := Fld.same W16 F15
  refine own_go (fun _ => XS.aloadN X16.here hx rfl (hb hby d1_20) rfl rfl) ?_
  show ∃ t o, Steps p.tables e below (T16.setTop (mkF m 21 #[.val (.ref fo), .val (.int mm)] [(.ref fo)])) t ∧ _
  refine own_go (fun _ => XS.lconst X16.here hx rfl (hb hby d1_21)) ?_
  have F17 : Exa Z h16 fo "com/example/holdback/holdback/sim/InFlight" := (Exa.wr W16 F14)
  have F18 : Fld Z h16 fo "com/example/holdback/holdback/sim/InFlight" "firstSeq" "J" (.long (0 : Int64)) := (Fld.other W16 (Fld.ext E13 (Fld.other W12 (Fld.ext E9 P4) (Or.inr (slot_ne (a0 := a0) (Or.inl (hw _ (List.mem_of_getElem? (i := 18) rfl))) (Or.inl (hw _ (List.mem_of_getElem? (i := 14) rfl))) (by decide) (t := .long) (t' := (.array .double)) (by decide) (by decide))))) (Or.inr (slot_ne (a0 := a0) (Or.inl (hw _ (List.mem_of_getElem? (i := 18) rfl))) (Or.inl (hw _ (List.mem_of_getElem? (i := 16) rfl))) (by decide) (t := .long) (t' := (.array .int)) (by decide) (by decide))))
  obtain ⟨T19, h19, X19, e19, W19, st19⟩ := putF X16 hx hZ hown (host := "") (Or.inl (hw _ (List.mem_of_getElem? (i := 17) rfl))) Via.refl e16 F18 F17 (Or.inl (hw _ (List.mem_of_getElem? (i := 18) rfl))) (hw _ (List.mem_of_getElem? (i := 5) rfl)) (ty := .long) (by decide) rfl rfl (g := (mkF m 22 #[.val (.ref fo), .val (.int mm)] [(.long (1 : Int64)), (.ref fo)])) rfl rfl (hb hby d1_22)
  refine own_go st19 ?_
  have le_19 : h16.size ≤ h19.size := Nat.le_of_eq W19.size.symm
  have K19 : Keep h0 h19 [fo] := Keep.wr K16 W19 (Or.inl (List.mem_of_getElem? (i := 0) rfl))
  have N19 := Fr.snoc X19 N16 ga
  have Fw19 := Fld.same W19 F18
  refine own_go (fun _ => XS.aloadN X19.here hx rfl (hb hby d1_25) rfl rfl) ?_
  show ∃ t o, Steps p.tables e below (T19.setTop (mkF m 26 #[.val (.ref fo), .val (.int mm)] [(.ref fo)])) t ∧ _
  refine own_go (fun _ => XS.iconst X19.here hx rfl (hb hby d1_26)) ?_
  refine own_go (fun _ => XS.iloadN X19.here hx rfl (hb hby d1_27) rfl) ?_
  refine own_go (fun _ => XS.ishl X19.here hx rfl (hb hby d1_28) rfl) ?_
  show ∃ t o, Steps p.tables e below (T19.setTop (mkF m 29 #[.val (.ref fo), .val (.int mm)] [(.int ((1 : Int32) <<< (mm &&& 31))), (.ref fo)])) t ∧ _
  refine own_go (fun _ => XS.iconst X19.here hx rfl (hb hby d1_29)) ?_
  refine own_go (fun _ => XS.isub X19.here hx rfl (hb hby d1_30) rfl) ?_
  have F20 : Exa Z h19 fo "com/example/holdback/holdback/sim/InFlight" := (Exa.wr W19 F17)
  have F21 : Fld Z h19 fo "com/example/holdback/holdback/sim/InFlight" "everyone" "I" (.int (0 : Int32)) := (Fld.other W19 (Fld.other W16 (Fld.ext E13 (Fld.other W12 (Fld.ext E9 P5) (Or.inr (slot_ne (a0 := a0) (Or.inr (hw _ (List.mem_of_getElem? (i := 20) rfl))) (Or.inl (hw _ (List.mem_of_getElem? (i := 14) rfl))) (by decide) (t := .int) (t' := (.array .double)) (by decide) (by decide))))) (Or.inr (slot_ne (a0 := a0) (Or.inr (hw _ (List.mem_of_getElem? (i := 20) rfl))) (Or.inl (hw _ (List.mem_of_getElem? (i := 16) rfl))) (by decide) (t := .int) (t' := (.array .int)) (by decide) (by decide)))) (Or.inr (slot_ne (a0 := a0) (Or.inr (hw _ (List.mem_of_getElem? (i := 20) rfl))) (Or.inl (hw _ (List.mem_of_getElem? (i := 18) rfl))) (by decide) (t := .int) (t' := .long) (by decide) (by decide))))
  obtain ⟨T22, h22, X22, e22, W22, st22⟩ := putF X19 hx hZ hown (host := "") (Or.inl (hw _ (List.mem_of_getElem? (i := 19) rfl))) Via.refl e19 F21 F20 (Or.inr ⟨(hw _ (List.mem_of_getElem? (i := 20) rfl)), rfl, hnm⟩) (hw _ (List.mem_of_getElem? (i := 5) rfl)) (ty := .int) (by decide) rfl rfl (g := (mkF m 31 #[.val (.ref fo), .val (.int mm)] [(.int (((1 : Int32) <<< (mm &&& 31)) - (1 : Int32))), (.ref fo)])) rfl rfl (hb hby d1_31)
  refine own_go st22 ?_
  have le_22 : h19.size ≤ h22.size := Nat.le_of_eq W22.size.symm
  have K22 : Keep h0 h22 [fo] := Keep.wr K19 W22 (Or.inl (List.mem_of_getElem? (i := 0) rfl))
  have N22 := Fr.snoc X22 N19 ga
  have Fw22 := Fld.same W22 F21
  show ∃ t o, Steps p.tables e below (T22.setTop (mkF m 34 #[.val (.ref fo), .val (.int mm)] [])) t ∧ _
  have F23 : Exa Z h22 fo "com/example/holdback/holdback/sim/InFlight" := (Exa.wr W22 F20)
  have F24 : Fld Z h22 fo "com/example/holdback/holdback/sim/InFlight" "multicastAt" "[D" (.ref b9) := (Fld.other W22 (Fld.other W19 (Fld.other W16 (Fld.ext E13 Fw12) (Or.inr (slot_ne (a0 := a0) (Or.inl (hw _ (List.mem_of_getElem? (i := 14) rfl))) (Or.inl (hw _ (List.mem_of_getElem? (i := 16) rfl))) (by decide) (t := (.array .double)) (t' := (.array .int)) (by decide) (by decide)))) (Or.inr (slot_ne (a0 := a0) (Or.inl (hw _ (List.mem_of_getElem? (i := 14) rfl))) (Or.inl (hw _ (List.mem_of_getElem? (i := 18) rfl))) (by decide) (t := (.array .double)) (t' := .long) (by decide) (by decide)))) (Or.inr (slot_ne (a0 := a0) (Or.inl (hw _ (List.mem_of_getElem? (i := 14) rfl))) (Or.inr (hw _ (List.mem_of_getElem? (i := 20) rfl))) (by decide) (t := (.array .double)) (t' := .int) (by decide) (by decide))))
  have F25 : Fld Z h22 fo "com/example/holdback/holdback/sim/InFlight" "deliveredBy" "[I" (.ref b13) := (Fld.other W22 (Fld.other W19 Fw16 (Or.inr (slot_ne (a0 := a0) (Or.inl (hw _ (List.mem_of_getElem? (i := 16) rfl))) (Or.inl (hw _ (List.mem_of_getElem? (i := 18) rfl))) (by decide) (t := (.array .int)) (t' := .long) (by decide) (by decide)))) (Or.inr (slot_ne (a0 := a0) (Or.inl (hw _ (List.mem_of_getElem? (i := 16) rfl))) (Or.inr (hw _ (List.mem_of_getElem? (i := 20) rfl))) (by decide) (t := (.array .int)) (t' := .int) (by decide) (by decide))))
  have F26 : Fld Z h22 fo "com/example/holdback/holdback/sim/InFlight" "firstSeq" "J" (.long (1 : Int64)) := (Fld.other W22 Fw19 (Or.inr (slot_ne (a0 := a0) (Or.inl (hw _ (List.mem_of_getElem? (i := 18) rfl))) (Or.inr (hw _ (List.mem_of_getElem? (i := 20) rfl))) (by decide) (t := .long) (t' := .int) (by decide) (by decide))))
  have F27 : Fld Z h22 fo "com/example/holdback/holdback/sim/InFlight" "size" "I" (.int (0 : Int32)) := (Fld.other W22 (Fld.other W19 (Fld.other W16 (Fld.ext E13 (Fld.other W12 (Fld.ext E9 P6) (Or.inr (slot_ne (a0 := a0) (Or.inl (hw _ (List.mem_of_getElem? (i := 27) rfl))) (Or.inl (hw _ (List.mem_of_getElem? (i := 14) rfl))) (by decide) (t := .int) (t' := (.array .double)) (by decide) (by decide))))) (Or.inr (slot_ne (a0 := a0) (Or.inl (hw _ (List.mem_of_getElem? (i := 27) rfl))) (Or.inl (hw _ (List.mem_of_getElem? (i := 16) rfl))) (by decide) (t := .int) (t' := (.array .int)) (by decide) (by decide)))) (Or.inr (slot_ne (a0 := a0) (Or.inl (hw _ (List.mem_of_getElem? (i := 27) rfl))) (Or.inl (hw _ (List.mem_of_getElem? (i := 18) rfl))) (by decide) (t := .int) (t' := .long) (by decide) (by decide)))) (Or.inr (slot_ne (a0 := a0) (Or.inl (hw _ (List.mem_of_getElem? (i := 27) rfl))) (Or.inr (hw _ (List.mem_of_getElem? (i := 20) rfl))) (by decide) (t := .int) (t' := .int) (by decide) (by decide))))
  have F28 : Fld Z h22 fo "com/example/holdback/holdback/sim/InFlight" "first" "I" (.int (0 : Int32)) := (Fld.other W22 (Fld.other W19 (Fld.other W16 (Fld.ext E13 (Fld.other W12 (Fld.ext E9 P7) (Or.inr (slot_ne (a0 := a0) (Or.inl (hw _ (List.mem_of_getElem? (i := 29) rfl))) (Or.inl (hw _ (List.mem_of_getElem? (i := 14) rfl))) (by decide) (t := .int) (t' := (.array .double)) (by decide) (by decide))))) (Or.inr (slot_ne (a0 := a0) (Or.inl (hw _ (List.mem_of_getElem? (i := 29) rfl))) (Or.inl (hw _ (List.mem_of_getElem? (i := 16) rfl))) (by decide) (t := .int) (t' := (.array .int)) (by decide) (by decide)))) (Or.inr (slot_ne (a0 := a0) (Or.inl (hw _ (List.mem_of_getElem? (i := 29) rfl))) (Or.inl (hw _ (List.mem_of_getElem? (i := 18) rfl))) (by decide) (t := .int) (t' := .long) (by decide) (by decide)))) (Or.inr (slot_ne (a0 := a0) (Or.inl (hw _ (List.mem_of_getElem? (i := 29) rfl))) (Or.inr (hw _ (List.mem_of_getElem? (i := 20) rfl))) (by decide) (t := .int) (t' := .int) (by decide) (by decide))))
  have ne29 : b9 ≠ fo := own_ne (by omega)
  have F30 : Arv Z h22 b9 k9 .double (16 : Int32) [(.double (0 : UInt64)), (.double (0 : UInt64))] (.double (0 : UInt64)) := (Arv.other (Arv.other (Arv.other ((Arv.other V_b9 W12 ne29).ext E13) W16 ne29) W19 ne29) W22 ne29)
  have ne31 : b13 ≠ fo := own_ne (by omega)
  have F32 : Arv Z h22 b13 k13 .int (16 : Int32) [(.int (0 : Int32)), (.int (0 : Int32))] (.int (0 : Int32)) := (Arv.other (Arv.other (Arv.other V_b13 W16 ne31) W19 ne31) W22 ne31)
  obtain ⟨fs, hr, hrun, hended, hW, hsame⟩ := X22.leave (v := none) (fun _ => rfl)
  refine ⟨_, _, ?_, hrun, hended, _, _, rfl, ?_, ⟨_, rfl⟩, hW, hsame.mono (by decide) (by decide)⟩
  · exact X22.returnOut hx Bd.returns (hb hby d1_34) hr
  · show Q_rmInit Z _ _ h0 n0 _ T22.heap _
    rw [e22]
    exact ⟨b9, b13, k9, k13, rfl, N22, K22, F23, F24, F25, F26, Fw22, F27, F28, F30, F32, (by omega), (by omega), (by omega)⟩
theorem ef_rmAdd1 (m : MethodId) (x0 : Nat) (x1 : UInt64) : entryFrame m #[(.ref x0), (.double x1)] 4 = mkF m 0 #[.val (.ref x0), .val (.double x1), .second, .unset] [] := by first | (simp [entryFrame, mkF, argsToLocals, Value.category]; done) | rfl
theorem d3_0 : decode prog_167_method_2_code 0 = .ok (.aload_n 0, 1) := by decide +kernel
theorem d3_1 : decode prog_167_method_2_code 1 = .ok (.getfield 25, 3) := by decide +kernel
theorem d3_4 : decode prog_167_method_2_code 4 = .ok (.aload_n 0, 1) := by decide +kernel
theorem d3_5 : decode prog_167_method_2_code 5 = .ok (.getfield 7, 3) := by decide +kernel
theorem d3_8 : decode prog_167_method_2_code 8 = .ok (.arraylength, 1) := by decide +kernel
theorem d3_9 : decode prog_167_method_2_code 9 = .ok (.if_icmp .ne 7, 3) := by decide +kernel
theorem d3_16 : decode prog_167_method_2_code 16 = .ok (.aload_n 0, 1) := by decide +kernel
theorem d3_17 : decode prog_167_method_2_code 17 = .ok (.getfield 31, 3) := by decide +kernel
theorem d3_20 : decode prog_167_method_2_code 20 = .ok (.aload_n 0, 1) := by decide +kernel
theorem d3_21 : decode prog_167_method_2_code 21 = .ok (.getfield 25, 3) := by decide +kernel
theorem d3_24 : decode prog_167_method_2_code 24 = .ok (.iadd, 1) := by decide +kernel
theorem d3_25 : decode prog_167_method_2_code 25 = .ok (.aload_n 0, 1) := by decide +kernel
theorem d3_26 : decode prog_167_method_2_code 26 = .ok (.getfield 7, 3) := by decide +kernel
theorem d3_29 : decode prog_167_method_2_code 29 = .ok (.arraylength, 1) := by decide +kernel
theorem d3_30 : decode prog_167_method_2_code 30 = .ok (.iconst 1, 1) := by decide +kernel
theorem d3_31 : decode prog_167_method_2_code 31 = .ok (.isub, 1) := by decide +kernel
theorem d3_32 : decode prog_167_method_2_code 32 = .ok (.iand, 1) := by decide +kernel
theorem d3_33 : decode prog_167_method_2_code 33 = .ok (.istore_n 3, 1) := by decide +kernel
theorem d3_34 : decode prog_167_method_2_code 34 = .ok (.aload_n 0, 1) := by decide +kernel
theorem d3_35 : decode prog_167_method_2_code 35 = .ok (.getfield 7, 3) := by decide +kernel
theorem d3_38 : decode prog_167_method_2_code 38 = .ok (.iload_n 3, 1) := by decide +kernel
theorem d3_39 : decode prog_167_method_2_code 39 = .ok (.dload_n 1, 1) := by decide +kernel
theorem d3_40 : decode prog_167_method_2_code 40 = .ok (.dastore, 1) := by decide +kernel
theorem d3_41 : decode prog_167_method_2_code 41 = .ok (.aload_n 0, 1) := by decide +kernel
theorem d3_42 : decode prog_167_method_2_code 42 = .ok (.getfield 13, 3) := by decide +kernel
theorem d3_45 : decode prog_167_method_2_code 45 = .ok (.iload_n 3, 1) := by decide +kernel
theorem d3_46 : decode prog_167_method_2_code 46 = .ok (.iconst 0, 1) := by decide +kernel
theorem d3_47 : decode prog_167_method_2_code 47 = .ok (.iastore, 1) := by decide +kernel
theorem d3_48 : decode prog_167_method_2_code 48 = .ok (.aload_n 0, 1) := by decide +kernel
theorem d3_49 : decode prog_167_method_2_code 49 = .ok (.dup, 1) := by decide +kernel
theorem d3_50 : decode prog_167_method_2_code 50 = .ok (.getfield 25, 3) := by decide +kernel
theorem d3_53 : decode prog_167_method_2_code 53 = .ok (.iconst 1, 1) := by decide +kernel
theorem d3_54 : decode prog_167_method_2_code 54 = .ok (.iadd, 1) := by decide +kernel
theorem d3_55 : decode prog_167_method_2_code 55 = .ok (.putfield 25, 3) := by decide +kernel
theorem d3_58 : decode prog_167_method_2_code 58 = .ok (.return_, 1) := by decide +kernel
def Q_rmAdd1 (Z : State) (fo : Nat) (da : Nat) (ia : Nat) (kd : ClassId) (ki : ClassId) (ev : Int32) (A1 : UInt64) (h0 : Heap) (n0 : Nat) (v : Option Value) (h : Heap) (L : List Loc) : Prop := v = none ∧ Fr n0 L ∧ Keep h0 h [fo, da, ia] ∧ Exa Z h fo "com/example/holdback/holdback/sim/InFlight" ∧ Fld Z h fo "com/example/holdback/holdback/sim/InFlight" "multicastAt" "[D" (.ref da) ∧ Fld Z h fo "com/example/holdback/holdback/sim/InFlight" "deliveredBy" "[I" (.ref ia) ∧ Fld Z h fo "com/example/holdback/holdback/sim/InFlight" "firstSeq" "J" (.long (1 : Int64)) ∧ Fld Z h fo "com/example/holdback/holdback/sim/InFlight" "everyone" "I" (.int ev) ∧ Fld Z h fo "com/example/holdback/holdback/sim/InFlight" "size" "I" (.int (1 : Int32)) ∧ Fld Z h fo "com/example/holdback/holdback/sim/InFlight" "first" "I" (.int (0 : Int32)) ∧ Arv Z h da kd .double (16 : Int32) [(.double A1), (.double (0 : UInt64))] (.double (0 : UInt64)) ∧ Arv Z h ia ki .int (16 : Int32) [(.int (0 : Int32)), (.int (0 : Int32))] (.int (0 : Int32))
set_option maxRecDepth 65536 in
set_option maxHeartbeats 40000000 in
theorem rmAdd1 (l : Launch) (Z : State) (a0 : Array Value) (hw : ∀ d ∈ tables_1, d.before a0 Z = true) (ws : List Jvm.Cond) (fo : Nat) (da : Nat) (ia : Nat) (kd : ClassId) (ki : ClassId) (ev : Int32) (A1 : UInt64) (h0 : Heap) (n0 : Nat) (Z0 : n0 ≤ h0.size) (P1 : Exa Z h0 fo "com/example/holdback/holdback/sim/InFlight") (P2 : Fld Z h0 fo "com/example/holdback/holdback/sim/InFlight" "multicastAt" "[D" (.ref da)) (P3 : Fld Z h0 fo "com/example/holdback/holdback/sim/InFlight" "deliveredBy" "[I" (.ref ia)) (P4 : Fld Z h0 fo "com/example/holdback/holdback/sim/InFlight" "firstSeq" "J" (.long (1 : Int64))) (P5 : Fld Z h0 fo "com/example/holdback/holdback/sim/InFlight" "everyone" "I" (.int ev)) (P6 : Fld Z h0 fo "com/example/holdback/holdback/sim/InFlight" "size" "I" (.int (0 : Int32))) (P7 : Fld Z h0 fo "com/example/holdback/holdback/sim/InFlight" "first" "I" (.int (0 : Int32))) (P8 : Arv Z h0 da kd .double (16 : Int32) [(.double (0 : UInt64)), (.double (0 : UInt64))] (.double (0 : UInt64))) (P9 : Arv Z h0 ia ki .int (16 : Int32) [(.int (0 : Int32)), (.int (0 : Int32))] (.int (0 : Int32))) (OLD : Old Z n0 h0) (gf : n0 ≤ fo) (gd : n0 ≤ da) (gi : n0 ≤ ia) (nfd : fo ≠ da) (nfi : fo ≠ ia) (ndi : da ≠ ia) (ndf : da ≠ fo) (nif : ia ≠ fo) (nid : ia ≠ da) :
    MetFree l (⟨"com/example/holdback/holdback/sim/InFlight", "add", "(D)V"⟩ : MethodName) (head1 (Jvm.Cond.code (⟨"com/example/holdback/holdback/sim/InFlight", "add", "(D)V"⟩ : MethodName) prog_167_method_2_code 4 none :: ws) ({ frames := 0, cells := 0, slots := 0, locals := 0 } : Room)) (fun a U => a = #[(.ref fo), (.double A1)] ∧ Z.Warmed39 U.vm ∧ U.heap = h0) (fun _ _ _ _ _ => True) (fun _ U o U' => ∃ v L, o = .returned v ∧ Q_rmAdd1 Z fo da ia kd ki ev A1 h0 n0 v U'.heap L ∧ FrameEnd U o U' L ({ frames := 0, cells := 0, slots := 0, locals := 0 } : Room).cells ({ frames := 0, cells := 0, slots := 0, locals := 0 } : Room).slots) := by
  refine MetFree.of_bodySF (plainFor_of_name pn_com_example_holdback_holdback_sim_InFlight) hisR ?_
  intro p e s m args below meth c s₁ Bd hml0 hP hK
  obtain ⟨rfl, hZ, hh⟩ := hP
  have hx := Bd.exec
  have hby := Bd.bytes
  have hml : c.maxLocals = 4 := hml0
  have hown : s.vm.findClass "com/example/holdback/holdback/sim/InFlight" = some m.cls := findClass_of_methodNamed Bd.named
  have hnm := (name_of_methodNamed Bd.named Bd.method).1
  have X0 : Stand p l e ({ frames := 0, cells := 0, slots := 0, locals := 0 } : Room) s m #[(.ref fo), (.double A1)] below meth c s₁ [] 0 0 := Stand.of_body Bd
  have e0 : s₁.heap = h0 := by rw [← hh, Bd.state]; rfl
  have N0 := Fr.nil n0
  have pre0 : ∀ t, Steps p.tables e below (s₁.setTop (mkF m 0 #[.val (.ref fo), .val (.double A1), .second, .unset] [])) t → Steps p.tables e below (s₁.setTop (entryFrame m #[(.ref fo), (.double A1)] 4)) t := fun t k => castTop (ef_rmAdd1 m fo A1) k
  have oz := OLD.1
  have lt_da : da < h0.size := P8.lt
  have lt_fo : fo < h0.size := P1.lt
  have lt_ia : ia < h0.size := P9.lt
  refine own_go (B := s₁.setTop (mkF m 0 #[.val (.ref fo), .val (.double A1), .second, .unset] [])) pre0 ?_
  show ∃ t o, Steps p.tables e below (s₁.setTop (mkF m 0 #[.val (.ref fo), .val (.double A1), .second, .unset] [])) t ∧ _
  refine own_go (fun _ => XS.aloadN X0.here hx rfl (hb hby d3_0) rfl rfl) ?_
  obtain ⟨T10, X10, e10, st10⟩ := getF X0 hx hZ hown (host := "") (Or.inl (hw _ (List.mem_of_getElem? (i := 26) rfl))) Via.refl e0 P6 (g := (mkF m 1 #[.val (.ref fo), .val (.double A1), .second, .unset] [(.ref fo)])) rfl rfl (hb hby d3_1)
  refine own_go st10 ?_
  refine own_go (fun _ => XS.aloadN X10.here hx rfl (hb hby d3_4) rfl rfl) ?_
  show ∃ t o, Steps p.tables e below (T10.setTop (mkF m 5 #[.val (.ref fo), .val (.double A1), .second, .unset] [(.ref fo), (.int (0 : Int32))])) t ∧ _
  obtain ⟨T11, X11, e11, st11⟩ := getF X10 hx hZ hown (host := "") (Or.inl (hw _ (List.mem_of_getElem? (i := 13) rfl))) Via.refl e10 P2 (g := (mkF m 5 #[.val (.ref fo), .val (.double A1), .second, .unset] [(.ref fo), (.int (0 : Int32))])) rfl rfl (hb hby d3_5)
  refine own_go st11 ?_
  obtain ⟨cl12, Ar12, q12, S12, N12, H12, G12⟩ := id P8
  have ln12 : cl12.slots.size.toInt32 = (16 : Int32) := len_of S12 N12
  have al12 := X11.arraylength hx (by rw [e11]; exact Ar12.1) (State.isArrayOf_alike hZ.alike Ar12.2.1) (g := (mkF m 8 #[.val (.ref fo), .val (.double A1), .second, .unset] [(.ref da), (.int (0 : Int32))])) rfl rfl (hb hby d3_8)
  rw [ln12] at al12
  refine own_go al12 ?_
  show ∃ t o, Steps p.tables e below (T11.setTop (mkF m 9 #[.val (.ref fo), .val (.double A1), .second, .unset] [(.int (16 : Int32)), (.int (0 : Int32))])) t ∧ _
  refine own_go (fun _ => XS.icmpYes X11.here hx rfl (pc0 := 9) (pc' := 16) rfl (hb hby d3_9) rfl (feq (by decide : ¬ ((0 : Int32) = (16 : Int32)))).2 (by decide) (by decide)) ?_
  refine own_go (fun _ => XS.aloadN X11.here hx rfl (hb hby d3_16) rfl rfl) ?_
  obtain ⟨T13, X13, e13, st13⟩ := getF X11 hx hZ hown (host := "") (Or.inl (hw _ (List.mem_of_getElem? (i := 28) rfl))) Via.refl e11 P7 (g := (mkF m 17 #[.val (.ref fo), .val (.double A1), .second, .unset] [(.ref fo)])) rfl rfl (hb hby d3_17)
  refine own_go st13 ?_
  show ∃ t o, Steps p.tables e below (T13.setTop (mkF m 20 #[.val (.ref fo), .val (.double A1), .second, .unset] [(.int (0 : Int32))])) t ∧ _
  refine own_go (fun _ => XS.aloadN X13.here hx rfl (hb hby d3_20) rfl rfl) ?_
  obtain ⟨T14, X14, e14, st14⟩ := getF X13 hx hZ hown (host := "") (Or.inl (hw _ (List.mem_of_getElem? (i := 26) rfl))) Via.refl e13 P6 (g := (mkF m 21 #[.val (.ref fo), .val (.double A1), .second, .unset] [(.ref fo), (.int (0 : Int32))])) rfl rfl (hb hby d3_21)
  refine own_go st14 ?_
  refine own_go (fun _ => XS.iadd X14.here hx rfl (hb hby d3_24) rfl) ?_
  show ∃ t o, Steps p.tables e below (T14.setTop (mkF m 25 #[.val (.ref fo), .val (.double A1), .second, .unset] [(.int (0 : Int32))])) t ∧ _
  refine own_go (fun _ => XS.aloadN X14.here hx rfl (hb hby d3_25) rfl rfl) ?_
  obtain ⟨T15, X15, e15, st15⟩ := getF X14 hx hZ hown (host := "") (Or.inl (hw _ (List.mem_of_getElem? (i := 13) rfl))) Via.refl e14 P2 (g := (mkF m 26 #[.val (.ref fo), .val (.double A1), .second, .unset] [(.ref fo), (.int (0 : Int32))])) rfl rfl (hb hby d3_26)
  refine own_go st15 ?_
  obtain ⟨cl16, Ar16, q16, S16, N16, H16, G16⟩ := id P8
  have ln16 : cl16.slots.size.toInt32 = (16 : Int32) := len_of S16 N16
  have al16 := X15.arraylength hx (by rw [e15]; exact Ar16.1) (State.isArrayOf_alike hZ.alike Ar16.2.1) (g := (mkF m 29 #[.val (.ref fo), .val (.double A1), .second, .unset] [(.ref da), (.int (0 : Int32))])) rfl rfl (hb hby d3_29)
  rw [ln16] at al16
  refine own_go al16 ?_
  show ∃ t o, Steps p.tables e below (T15.setTop (mkF m 30 #[.val (.ref fo), .val (.double A1), .second, .unset] [(.int (16 : Int32)), (.int (0 : Int32))])) t ∧ _
  refine own_go (fun _ => XS.iconst X15.here hx rfl (hb hby d3_30)) ?_
  refine own_go (fun _ => XS.isub X15.here hx rfl (hb hby d3_31) rfl) ?_
  refine own_go (fun _ => XS.iand X15.here hx rfl (hb hby d3_32) rfl) ?_
  show ∃ t o, Steps p.tables e below (T15.setTop (mkF m 33 #[.val (.ref fo), .val (.double A1), .second, .unset] [(.int (0 : Int32))])) t ∧ _
  refine own_go (fun _ => XS.istoreN X15.here hx rfl (hb hby d3_33) rfl (l' := #[.val (.ref fo), .val (.double A1), .second, .val (.int (0 : Int32))]) rfl) ?_
  refine own_go (fun _ => XS.aloadN X15.here hx rfl (hb hby d3_34) rfl rfl) ?_
  obtain ⟨T17, X17, e17, st17⟩ := getF X15 hx hZ hown (host := "") (Or.inl (hw _ (List.mem_of_getElem? (i := 13) rfl))) Via.refl e15 P2 (g := (mkF m 35 #[.val (.ref fo), .val (.double A1), .second, .val (.int (0 : Int32))] [(.ref fo)])) rfl rfl (hb hby d3_35)
  refine own_go st17 ?_
  show ∃ t o, Steps p.tables e below (T17.setTop (mkF m 38 #[.val (.ref fo), .val (.double A1), .second, .val (.int (0 : Int32))] [(.ref da)])) t ∧ _
  refine own_go (fun _ => XS.iloadN X17.here hx rfl (hb hby d3_38) rfl) ?_
  refine own_go (fun _ => XS.dloadN X17.here hx rfl (hb hby d3_39) rfl) ?_
  obtain ⟨cl18, Ar18, q18, S18, N18, H18, G18⟩ := id P8
  have hin18 : ¬ ((0 : Int32) < 0 ∨ cl18.slots.size ≤ ((0 : Int32)).toNatClampNeg) := inb_of S18 ⟨by decide, by decide⟩
  obtain ⟨T19, h19, X19, e19, W19, st19⟩ := stD X17 hx hZ e17 Ar18 (j := (0 : Int32)) hin18 (g := (mkF m 40 #[.val (.ref fo), .val (.double A1), .second, .val (.int (0 : Int32))] [(.double A1), (.int (0 : Int32)), (.ref da)])) rfl rfl (hb hby d3_40)
  refine own_go st19 ?_
  have le_19 : h0.size ≤ h19.size := Nat.le_of_eq W19.size.symm
  have K19 : Keep h0 h19 [fo, da, ia] := Keep.wr (Keep.refl h0 [fo, da, ia]) W19 (Or.inl (List.mem_of_getElem? (i := 1) rfl))
  have N19 := Fr.snoc X19 N0 gd
  have V19 : Arv Z h19 da kd .double (16 : Int32) [(.double A1), (.double (0 : UInt64))] (.double (0 : UInt64)) := Arv.set Ar18 q18 S18 N18 H18 G18 rfl W19 0 rfl (Nat.le_of_ble_eq_true rfl)
  show ∃ t o, Steps p.tables e below (T19.setTop (mkF m 41 #[.val (.ref fo), .val (.double A1), .second, .val (.int (0 : Int32))] [])) t ∧ _
  refine own_go (fun _ => XS.aloadN X19.here hx rfl (hb hby d3_41) rfl rfl) ?_
  have F20 : Fld Z h19 fo "com/example/holdback/holdback/sim/InFlight" "deliveredBy" "[I" (.ref ia) := (Fld.other W19 P3 (Or.inl nfd))
  obtain ⟨T21, X21, e21, st21⟩ := getF X19 hx hZ hown (host := "") (Or.inl (hw _ (List.mem_of_getElem? (i := 15) rfl))) Via.refl e19 F20 (g := (mkF m 42 #[.val (.ref fo), .val (.double A1), .second, .val (.int (0 : Int32))] [(.ref fo)])) rfl rfl (hb hby d3_42)
  refine own_go st21 ?_
  refine own_go (fun _ => XS.iloadN X21.here hx rfl (hb hby d3_45) rfl) ?_
  show ∃ t o, Steps p.tables e below (T21.setTop (mkF m 46 #[.val (.ref fo), .val (.double A1), .second, .val (.int (0 : Int32))] [(.int (0 : Int32)), (.ref ia)])) t ∧ _
  refine own_go (fun _ => XS.iconst X21.here hx rfl (hb hby d3_46)) ?_
  have F22 : Arv Z h19 ia ki .int (16 : Int32) [(.int (0 : Int32)), (.int (0 : Int32))] (.int (0 : Int32)) := (Arv.other P9 W19 nid)
  obtain ⟨cl23, Ar23, q23, S23, N23, H23, G23⟩ := id F22
  have hin23 : ¬ ((0 : Int32) < 0 ∨ cl23.slots.size ≤ ((0 : Int32)).toNatClampNeg) := inb_of S23 ⟨by decide, by decide⟩
  obtain ⟨T24, h24, X24, e24, W24, st24⟩ := stI X21 hx hZ e21 Ar23 (j := (0 : Int32)) hin23 (g := (mkF m 47 #[.val (.ref fo), .val (.double A1), .second, .val (.int (0 : Int32))] [(.int (0 : Int32)), (.int (0 : Int32)), (.ref ia)])) rfl rfl (hb hby d3_47)
  refine own_go st24 ?_
  have le_24 : h19.size ≤ h24.size := Nat.le_of_eq W24.size.symm
  have K24 : Keep h0 h24 [fo, da, ia] := Keep.wr K19 W24 (Or.inl (List.mem_of_getElem? (i := 2) rfl))
  have N24 := Fr.snoc X24 N19 gi
  have V24 : Arv Z h24 ia ki .int (16 : Int32) [(.int (0 : Int32)), (.int (0 : Int32))] (.int (0 : Int32)) := Arv.set Ar23 q23 S23 N23 H23 G23 rfl W24 0 rfl (Nat.le_of_ble_eq_true rfl)
  refine own_go (fun _ => XS.aloadN X24.here hx rfl (hb hby d3_48) rfl rfl) ?_
  show ∃ t o, Steps p.tables e below (T24.setTop (mkF m 49 #[.val (.ref fo), .val (.double A1), .second, .val (.int (0 : Int32))] [(.ref fo)])) t ∧ _
  refine own_go (fun _ => XS.dup X24.here hx rfl (hb hby d3_49) rfl rfl) ?_
  have F25 : Fld Z h24 fo "com/example/holdback/holdback/sim/InFlight" "size" "I" (.int (0 : Int32)) := (Fld.other W24 (Fld.other W19 P6 (Or.inl nfd)) (Or.inl nfi))
  obtain ⟨T26, X26, e26, st26⟩ := getF X24 hx hZ hown (host := "") (Or.inl (hw _ (List.mem_of_getElem? (i := 26) rfl))) Via.refl e24 F25 (g := (mkF m 50 #[.val (.ref fo), .val (.double A1), .second, .val (.int (0 : Int32))] [(.ref fo), (.ref fo)])) rfl rfl (hb hby d3_50)
  refine own_go st26 ?_
  refine own_go (fun _ => XS.iconst X26.here hx rfl (hb hby d3_53)) ?_
  show ∃ t o, Steps p.tables e below (T26.setTop (mkF m 54 #[.val (.ref fo), .val (.double A1), .second, .val (.int (0 : Int32))] [(.int (1 : Int32)), (.int (0 : Int32)), (.ref fo)])) t ∧ _
  refine own_go (fun _ => XS.iadd X26.here hx rfl (hb hby d3_54) rfl) ?_
  have F27 : Exa Z h24 fo "com/example/holdback/holdback/sim/InFlight" := (Exa.wr W24 (Exa.wr W19 P1))
  obtain ⟨T28, h28, X28, e28, W28, st28⟩ := putF X26 hx hZ hown (host := "") (Or.inl (hw _ (List.mem_of_getElem? (i := 26) rfl))) Via.refl e26 F25 F27 (Or.inl (hw _ (List.mem_of_getElem? (i := 27) rfl))) (hw _ (List.mem_of_getElem? (i := 5) rfl)) (ty := .int) (by decide) rfl rfl (g := (mkF m 55 #[.val (.ref fo), .val (.double A1), .second, .val (.int (0 : Int32))] [(.int (1 : Int32)), (.ref fo)])) rfl rfl (hb hby d3_55)
  refine own_go st28 ?_
  have le_28 : h24.size ≤ h28.size := Nat.le_of_eq W28.size.symm
  have K28 : Keep h0 h28 [fo, da, ia] := Keep.wr K24 W28 (Or.inl (List.mem_of_getElem? (i := 0) rfl))
  have N28 := Fr.snoc X28 N24 gf
  have Fw28 := Fld.same W28 F25
  show ∃ t o, Steps p.tables e below (T28.setTop (mkF m 58 #[.val (.ref fo), .val (.double A1), .second, .val (.int (0 : Int32))] [])) t ∧ _
  have F29 : Exa Z h28 fo "com/example/holdback/holdback/sim/InFlight" := (Exa.wr W28 F27)
  have F30 : Fld Z h28 fo "com/example/holdback/holdback/sim/InFlight" "multicastAt" "[D" (.ref da) := (Fld.other W28 (Fld.other W24 (Fld.other W19 P2 (Or.inl nfd)) (Or.inl nfi)) (Or.inr (slot_ne (a0 := a0) (Or.inl (hw _ (List.mem_of_getElem? (i := 14) rfl))) (Or.inl (hw _ (List.mem_of_getElem? (i := 27) rfl))) (by decide) (t := (.array .double)) (t' := .int) (by decide) (by decide))))
  have F31 : Fld Z h28 fo "com/example/holdback/holdback/sim/InFlight" "deliveredBy" "[I" (.ref ia) := (Fld.other W28 (Fld.other W24 F20 (Or.inl nfi)) (Or.inr (slot_ne (a0 := a0) (Or.inl (hw _ (List.mem_of_getElem? (i := 16) rfl))) (Or.inl (hw _ (List.mem_of_getElem? (i := 27) rfl))) (by decide) (t := (.array .int)) (t' := .int) (by decide) (by decide))))
  have F32 : Fld Z h28 fo "com/example/holdback/holdback/sim/InFlight" "firstSeq" "J" (.long (1 : Int64)) := (Fld.other W28 (Fld.other W24 (Fld.other W19 P4 (Or.inl nfd)) (Or.inl nfi)) (Or.inr (slot_ne (a0 := a0) (Or.inl (hw _ (List.mem_of_getElem? (i := 18) rfl))) (Or.inl (hw _ (List.mem_of_getElem? (i := 27) rfl))) (by decide) (t := .long) (t' := .int) (by decide) (by decide))))
  have F33 : Fld Z h28 fo "com/example/holdback/holdback/sim/InFlight" "everyone" "I" (.int ev) := (Fld.other W28 (Fld.other W24 (Fld.other W19 P5 (Or.inl nfd)) (Or.inl nfi)) (Or.inr (slot_ne (a0 := a0) (Or.inr (hw _ (List.mem_of_getElem? (i := 20) rfl))) (Or.inl (hw _ (List.mem_of_getElem? (i := 27) rfl))) (by decide) (t := .int) (t' := .int) (by decide) (by decide))))
  have F34 : Fld Z h28 fo "com/example/holdback/holdback/sim/InFlight" "first" "I" (.int (0 : Int32)) := (Fld.other W28 (Fld.other W24 (Fld.other W19 P7 (Or.inl nfd)) (Or.inl nfi)) (Or.inr (slot_ne (a0 := a0) (Or.inl (hw _ (List.mem_of_getElem? (i := 29) rfl))) (Or.inl (hw _ (List.mem_of_getElem? (i := 27) rfl))) (by decide) (t := .int) (t' := .int) (by decide) (by decide))))
  have F35 : Arv Z h28 da kd .double (16 : Int32) [(.double A1), (.double (0 : UInt64))] (.double (0 : UInt64)) := (Arv.other (Arv.other V19 W24 ndi) W28 ndf)
  have F36 : Arv Z h28 ia ki .int (16 : Int32) [(.int (0 : Int32)), (.int (0 : Int32))] (.int (0 : Int32)) := (Arv.other V24 W28 nif)
  obtain ⟨fs, hr, hrun, hended, hW, hsame⟩ := X28.leave (v := none) (fun _ => rfl)
  refine ⟨_, _, ?_, hrun, hended, _, _, rfl, ?_, ⟨_, rfl⟩, hW, hsame.mono (by decide) (by decide)⟩
  · exact X28.returnOut hx Bd.returns (hb hby d3_58) hr
  · show Q_rmAdd1 Z _ _ _ _ _ _ _ h0 n0 _ T28.heap _
    rw [e28]
    exact ⟨rfl, N28, K28, F29, F30, F31, F32, F33, Fw28, F34, F35, F36⟩
theorem ef_rmAdd2 (m : MethodId) (x0 : Nat) (x1 : UInt64) : entryFrame m #[(.ref x0), (.double x1)] 4 = mkF m 0 #[.val (.ref x0), .val (.double x1), .second, .unset] [] := by first | (simp [entryFrame, mkF, argsToLocals, Value.category]; done) | rfl
def Q_rmAdd2 (Z : State) (fo : Nat) (da : Nat) (ia : Nat) (kd : ClassId) (ki : ClassId) (ev : Int32) (A1 : UInt64) (A2 : UInt64) (h0 : Heap) (n0 : Nat) (v : Option Value) (h : Heap) (L : List Loc) : Prop := v = none ∧ Fr n0 L ∧ Keep h0 h [fo, da, ia] ∧ Exa Z h fo "com/example/holdback/holdback/sim/InFlight" ∧ Fld Z h fo "com/example/holdback/holdback/sim/InFlight" "multicastAt" "[D" (.ref da) ∧ Fld Z h fo "com/example/holdback/holdback/sim/InFlight" "deliveredBy" "[I" (.ref ia) ∧ Fld Z h fo "com/example/holdback/holdback/sim/InFlight" "firstSeq" "J" (.long (1 : Int64)) ∧ Fld Z h fo "com/example/holdback/holdback/sim/InFlight" "everyone" "I" (.int ev) ∧ Fld Z h fo "com/example/holdback/holdback/sim/InFlight" "size" "I" (.int (2 : Int32)) ∧ Fld Z h fo "com/example/holdback/holdback/sim/InFlight" "first" "I" (.int (0 : Int32)) ∧ Arv Z h da kd .double (16 : Int32) [(.double A1), (.double A2)] (.double (0 : UInt64)) ∧ Arv Z h ia ki .int (16 : Int32) [(.int (0 : Int32)), (.int (0 : Int32))] (.int (0 : Int32))
set_option maxRecDepth 65536 in
set_option maxHeartbeats 40000000 in
theorem rmAdd2 (l : Launch) (Z : State) (a0 : Array Value) (hw : ∀ d ∈ tables_1, d.before a0 Z = true) (ws : List Jvm.Cond) (fo : Nat) (da : Nat) (ia : Nat) (kd : ClassId) (ki : ClassId) (ev : Int32) (A1 : UInt64) (A2 : UInt64) (h0 : Heap) (n0 : Nat) (Z0 : n0 ≤ h0.size) (P1 : Exa Z h0 fo "com/example/holdback/holdback/sim/InFlight") (P2 : Fld Z h0 fo "com/example/holdback/holdback/sim/InFlight" "multicastAt" "[D" (.ref da)) (P3 : Fld Z h0 fo "com/example/holdback/holdback/sim/InFlight" "deliveredBy" "[I" (.ref ia)) (P4 : Fld Z h0 fo "com/example/holdback/holdback/sim/InFlight" "firstSeq" "J" (.long (1 : Int64))) (P5 : Fld Z h0 fo "com/example/holdback/holdback/sim/InFlight" "everyone" "I" (.int ev)) (P6 : Fld Z h0 fo "com/example/holdback/holdback/sim/InFlight" "size" "I" (.int (1 : Int32))) (P7 : Fld Z h0 fo "com/example/holdback/holdback/sim/InFlight" "first" "I" (.int (0 : Int32))) (P8 : Arv Z h0 da kd .double (16 : Int32) [(.double A1), (.double (0 : UInt64))] (.double (0 : UInt64))) (P9 : Arv Z h0 ia ki .int (16 : Int32) [(.int (0 : Int32)), (.int (0 : Int32))] (.int (0 : Int32))) (OLD : Old Z n0 h0) (gf : n0 ≤ fo) (gd : n0 ≤ da) (gi : n0 ≤ ia) (nfd : fo ≠ da) (nfi : fo ≠ ia) (ndi : da ≠ ia) (ndf : da ≠ fo) (nif : ia ≠ fo) (nid : ia ≠ da) :
    MetFree l (⟨"com/example/holdback/holdback/sim/InFlight", "add", "(D)V"⟩ : MethodName) (head1 (Jvm.Cond.code (⟨"com/example/holdback/holdback/sim/InFlight", "add", "(D)V"⟩ : MethodName) prog_167_method_2_code 4 none :: ws) ({ frames := 0, cells := 0, slots := 0, locals := 0 } : Room)) (fun a U => a = #[(.ref fo), (.double A2)] ∧ Z.Warmed39 U.vm ∧ U.heap = h0) (fun _ _ _ _ _ => True) (fun _ U o U' => ∃ v L, o = .returned v ∧ Q_rmAdd2 Z fo da ia kd ki ev A1 A2 h0 n0 v U'.heap L ∧ FrameEnd U o U' L ({ frames := 0, cells := 0, slots := 0, locals := 0 } : Room).cells ({ frames := 0, cells := 0, slots := 0, locals := 0 } : Room).slots) := by
  refine MetFree.of_bodySF (plainFor_of_name pn_com_example_holdback_holdback_sim_InFlight) hisR ?_
  intro p e s m args below meth c s₁ Bd hml0 hP hK
  obtain ⟨rfl, hZ, hh⟩ := hP
  have hx := Bd.exec
  have hby := Bd.bytes
  have hml : c.maxLocals = 4 := hml0
  have hown : s.vm.findClass "com/example/holdback/holdback/sim/InFlight" = some m.cls := findClass_of_methodNamed Bd.named
  have hnm := (name_of_methodNamed Bd.named Bd.method).1
  have X0 : Stand p l e ({ frames := 0, cells := 0, slots := 0, locals := 0 } : Room) s m #[(.ref fo), (.double A2)] below meth c s₁ [] 0 0 := Stand.of_body Bd
  have e0 : s₁.heap = h0 := by rw [← hh, Bd.state]; rfl
  have N0 := Fr.nil n0
  have pre0 : ∀ t, Steps p.tables e below (s₁.setTop (mkF m 0 #[.val (.ref fo), .val (.double A2), .second, .unset] [])) t → Steps p.tables e below (s₁.setTop (entryFrame m #[(.ref fo), (.double A2)] 4)) t := fun t k => castTop (ef_rmAdd2 m fo A2) k
  have oz := OLD.1
  have lt_da : da < h0.size := P8.lt
  have lt_fo : fo < h0.size := P1.lt
  have lt_ia : ia < h0.size := P9.lt
  refine own_go (B := s₁.setTop (mkF m 0 #[.val (.ref fo), .val (.double A2), .second, .unset] [])) pre0 ?_
  show ∃ t o, Steps p.tables e below (s₁.setTop (mkF m 0 #[.val (.ref fo), .val (.double A2), .second, .unset] [])) t ∧ _
  refine own_go (fun _ => XS.aloadN X0.here hx rfl (hb hby d3_0) rfl rfl) ?_
  obtain ⟨T10, X10, e10, st10⟩ := getF X0 hx hZ hown (host := "") (Or.inl (hw _ (List.mem_of_getElem? (i := 26) rfl))) Via.refl e0 P6 (g := (mkF m 1 #[.val (.ref fo), .val (.double A2), .second, .unset] [(.ref fo)])) rfl rfl (hb hby d3_1)
  refine own_go st10 ?_
  refine own_go (fun _ => XS.aloadN X10.here hx rfl (hb hby d3_4) rfl rfl) ?_
  show ∃ t o, Steps p.tables e below (T10.setTop (mkF m 5 #[.val (.ref fo), .val (.double A2), .second, .unset] [(.ref fo), (.int (1 : Int32))])) t ∧ _
  obtain ⟨T11, X11, e11, st11⟩ := getF X10 hx hZ hown (host := "") (Or.inl (hw _ (List.mem_of_getElem? (i := 13) rfl))) Via.refl e10 P2 (g := (mkF m 5 #[.val (.ref fo), .val (.double A2), .second, .unset] [(.ref fo), (.int (1 : Int32))])) rfl rfl (hb hby d3_5)
  refine own_go st11 ?_
  obtain ⟨cl12, Ar12, q12, S12, N12, H12, G12⟩ := id P8
  have ln12 : cl12.slots.size.toInt32 = (16 : Int32) := len_of S12 N12
  have al12 := X11.arraylength hx (by rw [e11]; exact Ar12.1) (State.isArrayOf_alike hZ.alike Ar12.2.1) (g := (mkF m 8 #[.val (.ref fo), .val (.double A2), .second, .unset] [(.ref da), (.int (1 : Int32))])) rfl rfl (hb hby d3_8)
  rw [ln12] at al12
  refine own_go al12 ?_
  show ∃ t o, Steps p.tables e below (T11.setTop (mkF m 9 #[.val (.ref fo), .val (.double A2), .second, .unset] [(.int (16 : Int32)), (.int (1 : Int32))])) t ∧ _
  refine own_go (fun _ => XS.icmpYes X11.here hx rfl (pc0 := 9) (pc' := 16) rfl (hb hby d3_9) rfl (feq (by decide : ¬ ((1 : Int32) = (16 : Int32)))).2 (by decide) (by decide)) ?_
  refine own_go (fun _ => XS.aloadN X11.here hx rfl (hb hby d3_16) rfl rfl) ?_
  obtain ⟨T13, X13, e13, st13⟩ := getF X11 hx hZ hown (host := "") (Or.inl (hw _ (List.mem_of_getElem? (i := 28) rfl))) Via.refl e11 P7 (g := (mkF m 17 #[.val (.ref fo), .val (.double A2), .second, .unset] [(.ref fo)])) rfl rfl (hb hby d3_17)
  refine own_go st13 ?_
  show ∃ t o, Steps p.tables e below (T13.setTop (mkF m 20 #[.val (.ref fo), .val (.double A2), .second, .unset] [(.int (0 : Int32))])) t ∧ _
  refine own_go (fun _ => XS.aloadN X13.here hx rfl (hb hby d3_20) rfl rfl) ?_
  obtain ⟨T14, X14, e14, st14⟩ := getF X13 hx hZ hown (host := "") (Or.inl (hw _ (List.mem_of_getElem? (i := 26) rfl))) Via.refl e13 P6 (g := (mkF m 21 #[.val (.ref fo), .val (.double A2), .second, .unset] [(.ref fo), (.int (0 : Int32))])) rfl rfl (hb hby d3_21)
  refine own_go st14 ?_
  refine own_go (fun _ => XS.iadd X14.here hx rfl (hb hby d3_24) rfl) ?_
  show ∃ t o, Steps p.tables e below (T14.setTop (mkF m 25 #[.val (.ref fo), .val (.double A2), .second, .unset] [(.int (1 : Int32))])) t ∧ _
  refine own_go (fun _ => XS.aloadN X14.here hx rfl (hb hby d3_25) rfl rfl) ?_
  obtain ⟨T15, X15, e15, st15⟩ := getF X14 hx hZ hown (host := "") (Or.inl (hw _ (List.mem_of_getElem? (i := 13) rfl))) Via.refl e14 P2 (g := (mkF m 26 #[.val (.ref fo), .val (.double A2), .second, .unset] [(.ref fo), (.int (1 : Int32))])) rfl rfl (hb hby d3_26)
  refine own_go st15 ?_
  obtain ⟨cl16, Ar16, q16, S16, N16, H16, G16⟩ := id P8
  have ln16 : cl16.slots.size.toInt32 = (16 : Int32) := len_of S16 N16
  have al16 := X15.arraylength hx (by rw [e15]; exact Ar16.1) (State.isArrayOf_alike hZ.alike Ar16.2.1) (g := (mkF m 29 #[.val (.ref fo), .val (.double A2), .second, .unset] [(.ref da), (.int (1 : Int32))])) rfl rfl (hb hby d3_29)
  rw [ln16] at al16
  refine own_go al16 ?_
  show ∃ t o, Steps p.tables e below (T15.setTop (mkF m 30 #[.val (.ref fo), .val (.double A2), .second, .unset] [(.int (16 : Int32)), (.int (1 : Int32))])) t ∧ _
  refine own_go (fun _ => XS.iconst X15.here hx rfl (hb hby d3_30)) ?_
  refine own_go (fun _ => XS.isub X15.here hx rfl (hb hby d3_31) rfl) ?_
  refine own_go (fun _ => XS.iand X15.here hx rfl (hb hby d3_32) rfl) ?_
  show ∃ t o, Steps p.tables e below (T15.setTop (mkF m 33 #[.val (.ref fo), .val (.double A2), .second, .unset] [(.int (1 : Int32))])) t ∧ _
  refine own_go (fun _ => XS.istoreN X15.here hx rfl (hb hby d3_33) rfl (l' := #[.val (.ref fo), .val (.double A2), .second, .val (.int (1 : Int32))]) rfl) ?_
  refine own_go (fun _ => XS.aloadN X15.here hx rfl (hb hby d3_34) rfl rfl) ?_
  obtain ⟨T17, X17, e17, st17⟩ := getF X15 hx hZ hown (host := "") (Or.inl (hw _ (List.mem_of_getElem? (i := 13) rfl))) Via.refl e15 P2 (g := (mkF m 35 #[.val (.ref fo), .val (.double A2), .second, .val (.int (1 : Int32))] [(.ref fo)])) rfl rfl (hb hby d3_35)
  refine own_go st17 ?_
  show ∃ t o, Steps p.tables e below (T17.setTop (mkF m 38 #[.val (.ref fo), .val (.double A2), .second, .val (.int (1 : Int32))] [(.ref da)])) t ∧ _
  refine own_go (fun _ => XS.iloadN X17.here hx rfl (hb hby d3_38) rfl) ?_
  refine own_go (fun _ => XS.dloadN X17.here hx rfl (hb hby d3_39) rfl) ?_
  obtain ⟨cl18, Ar18, q18, S18, N18, H18, G18⟩ := id P8
  have hin18 : ¬ ((1 : Int32) < 0 ∨ cl18.slots.size ≤ ((1 : Int32)).toNatClampNeg) := inb_of S18 ⟨by decide, by decide⟩
  obtain ⟨T19, h19, X19, e19, W19, st19⟩ := stD X17 hx hZ e17 Ar18 (j := (1 : Int32)) hin18 (g := (mkF m 40 #[.val (.ref fo), .val (.double A2), .second, .val (.int (1 : Int32))] [(.double A2), (.int (1 : Int32)), (.ref da)])) rfl rfl (hb hby d3_40)
  refine own_go st19 ?_
  have le_19 : h0.size ≤ h19.size := Nat.le_of_eq W19.size.symm
  have K19 : Keep h0 h19 [fo, da, ia] := Keep.wr (Keep.refl h0 [fo, da, ia]) W19 (Or.inl (List.mem_of_getElem? (i := 1) rfl))
  have N19 := Fr.snoc X19 N0 gd
  have V19 : Arv Z h19 da kd .double (16 : Int32) [(.double A1), (.double A2)] (.double (0 : UInt64)) := Arv.set Ar18 q18 S18 N18 H18 G18 rfl W19 1 rfl (Nat.le_of_ble_eq_true rfl)
  show ∃ t o, Steps p.tables e below (T19.setTop (mkF m 41 #[.val (.ref fo), .val (.double A2), .second, .val (.int (1 : Int32))] [])) t ∧ _
  refine own_go (fun _ => XS.aloadN X19.here hx rfl (hb hby d3_41) rfl rfl) ?_
  have F20 : Fld Z h19 fo "com/example/holdback/holdback/sim/InFlight" "deliveredBy" "[I" (.ref ia) := (Fld.other W19 P3 (Or.inl nfd))
  obtain ⟨T21, X21, e21, st21⟩ := getF X19 hx hZ hown (host := "") (Or.inl (hw _ (List.mem_of_getElem? (i := 15) rfl))) Via.refl e19 F20 (g := (mkF m 42 #[.val (.ref fo), .val (.double A2), .second, .val (.int (1 : Int32))] [(.ref fo)])) rfl rfl (hb hby d3_42)
  refine own_go st21 ?_
  refine own_go (fun _ => XS.iloadN X21.here hx rfl (hb hby d3_45) rfl) ?_
  show ∃ t o, Steps p.tables e below (T21.setTop (mkF m 46 #[.val (.ref fo), .val (.double A2), .second, .val (.int (1 : Int32))] [(.int (1 : Int32)), (.ref ia)])) t ∧ _
  refine own_go (fun _ => XS.iconst X21.here hx rfl (hb hby d3_46)) ?_
  have F22 : Arv Z h19 ia ki .int (16 : Int32) [(.int (0 : Int32)), (.int (0 : Int32))] (.int (0 : Int32)) := (Arv.other P9 W19 nid)
  obtain ⟨cl23, Ar23, q23, S23, N23, H23, G23⟩ := id F22
  have hin23 : ¬ ((1 : Int32) < 0 ∨ cl23.slots.size ≤ ((1 : Int32)).toNatClampNeg) := inb_of S23 ⟨by decide, by decide⟩
  obtain ⟨T24, h24, X24, e24, W24, st24⟩ := stI X21 hx hZ e21 Ar23 (j := (1 : Int32)) hin23 (g := (mkF m 47 #[.val (.ref fo), .val (.double A2), .second, .val (.int (1 : Int32))] [(.int (0 : Int32)), (.int (1 : Int32)), (.ref ia)])) rfl rfl (hb hby d3_47)
  refine own_go st24 ?_
  have le_24 : h19.size ≤ h24.size := Nat.le_of_eq W24.size.symm
  have K24 : Keep h0 h24 [fo, da, ia] := Keep.wr K19 W24 (Or.inl (List.mem_of_getElem? (i := 2) rfl))
  have N24 := Fr.snoc X24 N19 gi
  have V24 : Arv Z h24 ia ki .int (16 : Int32) [(.int (0 : Int32)), (.int (0 : Int32))] (.int (0 : Int32)) := Arv.set Ar23 q23 S23 N23 H23 G23 rfl W24 1 rfl (Nat.le_of_ble_eq_true rfl)
  refine own_go (fun _ => XS.aloadN X24.here hx rfl (hb hby d3_48) rfl rfl) ?_
  show ∃ t o, Steps p.tables e below (T24.setTop (mkF m 49 #[.val (.ref fo), .val (.double A2), .second, .val (.int (1 : Int32))] [(.ref fo)])) t ∧ _
  refine own_go (fun _ => XS.dup X24.here hx rfl (hb hby d3_49) rfl rfl) ?_
  have F25 : Fld Z h24 fo "com/example/holdback/holdback/sim/InFlight" "size" "I" (.int (1 : Int32)) := (Fld.other W24 (Fld.other W19 P6 (Or.inl nfd)) (Or.inl nfi))
  obtain ⟨T26, X26, e26, st26⟩ := getF X24 hx hZ hown (host := "") (Or.inl (hw _ (List.mem_of_getElem? (i := 26) rfl))) Via.refl e24 F25 (g := (mkF m 50 #[.val (.ref fo), .val (.double A2), .second, .val (.int (1 : Int32))] [(.ref fo), (.ref fo)])) rfl rfl (hb hby d3_50)
  refine own_go st26 ?_
  refine own_go (fun _ => XS.iconst X26.here hx rfl (hb hby d3_53)) ?_
  show ∃ t o, Steps p.tables e below (T26.setTop (mkF m 54 #[.val (.ref fo), .val (.double A2), .second, .val (.int (1 : Int32))] [(.int (1 : Int32)), (.int (1 : Int32)), (.ref fo)])) t ∧ _
  refine own_go (fun _ => XS.iadd X26.here hx rfl (hb hby d3_54) rfl) ?_
  have F27 : Exa Z h24 fo "com/example/holdback/holdback/sim/InFlight" := (Exa.wr W24 (Exa.wr W19 P1))
  obtain ⟨T28, h28, X28, e28, W28, st28⟩ := putF X26 hx hZ hown (host := "") (Or.inl (hw _ (List.mem_of_getElem? (i := 26) rfl))) Via.refl e26 F25 F27 (Or.inl (hw _ (List.mem_of_getElem? (i := 27) rfl))) (hw _ (List.mem_of_getElem? (i := 5) rfl)) (ty := .int) (by decide) rfl rfl (g := (mkF m 55 #[.val (.ref fo), .val (.double A2), .second, .val (.int (1 : Int32))] [(.int (2 : Int32)), (.ref fo)])) rfl rfl (hb hby d3_55)
  refine own_go st28 ?_
  have le_28 : h24.size ≤ h28.size := Nat.le_of_eq W28.size.symm
  have K28 : Keep h0 h28 [fo, da, ia] := Keep.wr K24 W28 (Or.inl (List.mem_of_getElem? (i := 0) rfl))
  have N28 := Fr.snoc X28 N24 gf
  have Fw28 := Fld.same W28 F25
  show ∃ t o, Steps p.tables e below (T28.setTop (mkF m 58 #[.val (.ref fo), .val (.double A2), .second, .val (.int (1 : Int32))] [])) t ∧ _
  have F29 : Exa Z h28 fo "com/example/holdback/holdback/sim/InFlight" := (Exa.wr W28 F27)
  have F30 : Fld Z h28 fo "com/example/holdback/holdback/sim/InFlight" "multicastAt" "[D" (.ref da) := (Fld.other W28 (Fld.other W24 (Fld.other W19 P2 (Or.inl nfd)) (Or.inl nfi)) (Or.inr (slot_ne (a0 := a0) (Or.inl (hw _ (List.mem_of_getElem? (i := 14) rfl))) (Or.inl (hw _ (List.mem_of_getElem? (i := 27) rfl))) (by decide) (t := (.array .double)) (t' := .int) (by decide) (by decide))))
  have F31 : Fld Z h28 fo "com/example/holdback/holdback/sim/InFlight" "deliveredBy" "[I" (.ref ia) := (Fld.other W28 (Fld.other W24 F20 (Or.inl nfi)) (Or.inr (slot_ne (a0 := a0) (Or.inl (hw _ (List.mem_of_getElem? (i := 16) rfl))) (Or.inl (hw _ (List.mem_of_getElem? (i := 27) rfl))) (by decide) (t := (.array .int)) (t' := .int) (by decide) (by decide))))
  have F32 : Fld Z h28 fo "com/example/holdback/holdback/sim/InFlight" "firstSeq" "J" (.long (1 : Int64)) := (Fld.other W28 (Fld.other W24 (Fld.other W19 P4 (Or.inl nfd)) (Or.inl nfi)) (Or.inr (slot_ne (a0 := a0) (Or.inl (hw _ (List.mem_of_getElem? (i := 18) rfl))) (Or.inl (hw _ (List.mem_of_getElem? (i := 27) rfl))) (by decide) (t := .long) (t' := .int) (by decide) (by decide))))
  have F33 : Fld Z h28 fo "com/example/holdback/holdback/sim/InFlight" "everyone" "I" (.int ev) := (Fld.other W28 (Fld.other W24 (Fld.other W19 P5 (Or.inl nfd)) (Or.inl nfi)) (Or.inr (slot_ne (a0 := a0) (Or.inr (hw _ (List.mem_of_getElem? (i := 20) rfl))) (Or.inl (hw _ (List.mem_of_getElem? (i := 27) rfl))) (by decide) (t := .int) (t' := .int) (by decide) (by decide))))
  have F34 : Fld Z h28 fo "com/example/holdback/holdback/sim/InFlight" "first" "I" (.int (0 : Int32)) := (Fld.other W28 (Fld.other W24 (Fld.other W19 P7 (Or.inl nfd)) (Or.inl nfi)) (Or.inr (slot_ne (a0 := a0) (Or.inl (hw _ (List.mem_of_getElem? (i := 29) rfl))) (Or.inl (hw _ (List.mem_of_getElem? (i := 27) rfl))) (by decide) (t := .int) (t' := .int) (by decide) (by decide))))
  have F35 : Arv Z h28 da kd .double (16 : Int32) [(.double A1), (.double A2)] (.double (0 : UInt64)) := (Arv.other (Arv.other V19 W24 ndi) W28 ndf)
  have F36 : Arv Z h28 ia ki .int (16 : Int32) [(.int (0 : Int32)), (.int (0 : Int32))] (.int (0 : Int32)) := (Arv.other V24 W28 nif)
  obtain ⟨fs, hr, hrun, hended, hW, hsame⟩ := X28.leave (v := none) (fun _ => rfl)
  refine ⟨_, _, ?_, hrun, hended, _, _, rfl, ?_, ⟨_, rfl⟩, hW, hsame.mono (by decide) (by decide)⟩
  · exact X28.returnOut hx Bd.returns (hb hby d3_58) hr
  · show Q_rmAdd2 Z _ _ _ _ _ _ _ _ h0 n0 _ T28.heap _
    rw [e28]
    exact ⟨rfl, N28, K28, F29, F30, F31, F32, F33, Fw28, F34, F35, F36⟩
theorem ef_rmOut (m : MethodId) (x0 : Nat) (x1 : Int32) (x2 : Int64) : entryFrame m #[(.ref x0), (.int x1), (.long x2)] 10 = mkF m 0 #[.val (.ref x0), .val (.int x1), .val (.long x2), .second, .unset, .unset, .unset, .unset, .unset, .unset] [] := by first | (simp [entryFrame, mkF, argsToLocals, Value.category]; done) | rfl
theorem d5_0 : decode prog_167_method_3_code 0 = .ok (.lload_n 2, 1) := by decide +kernel
theorem d5_1 : decode prog_167_method_3_code 1 = .ok (.aload_n 0, 1) := by decide +kernel
theorem d5_2 : decode prog_167_method_3_code 2 = .ok (.getfield 17, 3) := by decide +kernel
theorem d5_5 : decode prog_167_method_3_code 5 = .ok (.lsub, 1) := by decide +kernel
theorem d5_6 : decode prog_167_method_3_code 6 = .ok (.lstore 4, 2) := by decide +kernel
theorem d5_8 : decode prog_167_method_3_code 8 = .ok (.lload 4, 2) := by decide +kernel
theorem d5_10 : decode prog_167_method_3_code 10 = .ok (.lconst 0, 1) := by decide +kernel
theorem d5_11 : decode prog_167_method_3_code 11 = .ok (.lcmp, 1) := by decide +kernel
theorem d5_12 : decode prog_167_method_3_code 12 = .ok (.ifCond .lt 14, 3) := by decide +kernel
theorem d5_26 : decode prog_167_method_3_code 26 = .ok (.ldc2_w 34, 3) := by decide +kernel
theorem d5_29 : decode prog_167_method_3_code 29 = .ok (.dreturn, 1) := by decide +kernel
theorem d5_15 : decode prog_167_method_3_code 15 = .ok (.lload 4, 2) := by decide +kernel
theorem d5_17 : decode prog_167_method_3_code 17 = .ok (.aload_n 0, 1) := by decide +kernel
theorem d5_18 : decode prog_167_method_3_code 18 = .ok (.getfield 25, 3) := by decide +kernel
theorem d5_21 : decode prog_167_method_3_code 21 = .ok (.i2l, 1) := by decide +kernel
theorem d5_22 : decode prog_167_method_3_code 22 = .ok (.lcmp, 1) := by decide +kernel
theorem d5_23 : decode prog_167_method_3_code 23 = .ok (.ifCond .lt 7, 3) := by decide +kernel
def Q_rmOut (Z : State) (fo : Nat) (sz : Int32) (fq : Int64) (mb : Int32) (sq : Int64) (h0 : Heap) (n0 : Nat) (v : Option Value) (h : Heap) (L : List Loc) : Prop := v = some (.double (13830554455654793216 : UInt64)) ∧ Fr n0 L ∧ h = h0
set_option maxRecDepth 65536 in
set_option maxHeartbeats 40000000 in
theorem rmOut (l : Launch) (Z : State) (a0 : Array Value) (hw : ∀ d ∈ tables_1, d.before a0 Z = true) (ws : List Jvm.Cond) (fo : Nat) (sz : Int32) (fq : Int64) (mb : Int32) (sq : Int64) (h0 : Heap) (n0 : Nat) (Z0 : n0 ≤ h0.size) (P1 : Fld Z h0 fo "com/example/holdback/holdback/sim/InFlight" "firstSeq" "J" (.long fq)) (P2 : Fld Z h0 fo "com/example/holdback/holdback/sim/InFlight" "size" "I" (.int sz)) (OLD : Old Z n0 h0) (hout : (sq - fq) < (0 : Int64) ∨ ¬ ((sq - fq) < sz.toInt64)) :
    MetFree l (⟨"com/example/holdback/holdback/sim/InFlight", "delivered", "(IJ)D"⟩ : MethodName) (head1 (Jvm.Cond.code (⟨"com/example/holdback/holdback/sim/InFlight", "delivered", "(IJ)D"⟩ : MethodName) prog_167_method_3_code 10 (some .double) :: ws) ({ frames := 0, cells := 0, slots := 0, locals := 0 } : Room)) (fun a U => a = #[(.ref fo), (.int mb), (.long sq)] ∧ Z.Warmed39 U.vm ∧ U.heap = h0) (fun _ _ _ _ _ => True) (fun _ U o U' => ∃ v L, o = .returned v ∧ Q_rmOut Z fo sz fq mb sq h0 n0 v U'.heap L ∧ FrameEnd U o U' L ({ frames := 0, cells := 0, slots := 0, locals := 0 } : Room).cells ({ frames := 0, cells := 0, slots := 0, locals := 0 } : Room).slots) := by
  refine MetFree.of_bodySF (plainFor_of_name pn_com_example_holdback_holdback_sim_InFlight) hisR ?_
  intro p e s m args below meth c s₁ Bd hml0 hP hK
  obtain ⟨rfl, hZ, hh⟩ := hP
  have hx := Bd.exec
  have hby := Bd.bytes
  have hml : c.maxLocals = 10 := hml0
  have hown : s.vm.findClass "com/example/holdback/holdback/sim/InFlight" = some m.cls := findClass_of_methodNamed Bd.named
  have hnm := (name_of_methodNamed Bd.named Bd.method).1
  have X0 : Stand p l e ({ frames := 0, cells := 0, slots := 0, locals := 0 } : Room) s m #[(.ref fo), (.int mb), (.long sq)] below meth c s₁ [] 0 0 := Stand.of_body Bd
  have e0 : s₁.heap = h0 := by rw [← hh, Bd.state]; rfl
  have N0 := Fr.nil n0
  have pre0 : ∀ t, Steps p.tables e below (s₁.setTop (mkF m 0 #[.val (.ref fo), .val (.int mb), .val (.long sq), .second, .unset, .unset, .unset, .unset, .unset, .unset] [])) t → Steps p.tables e below (s₁.setTop (entryFrame m #[(.ref fo), (.int mb), (.long sq)] 10)) t := fun t k => castTop (ef_rmOut m fo mb sq) k
  have oz := OLD.1
  have lt_fo : fo < h0.size := P1.lt
  refine own_go (B := s₁.setTop (mkF m 0 #[.val (.ref fo), .val (.int mb), .val (.long sq), .second, .unset, .unset, .unset, .unset, .unset, .unset] [])) pre0 ?_
  show ∃ t o, Steps p.tables e below (s₁.setTop (mkF m 0 #[.val (.ref fo), .val (.int mb), .val (.long sq), .second, .unset, .unset, .unset, .unset, .unset, .unset] [])) t ∧ _
  refine own_go (fun _ => XS.lloadN X0.here hx rfl (hb hby d5_0) rfl) ?_
  refine own_go (fun _ => XS.aloadN X0.here hx rfl (hb hby d5_1) rfl rfl) ?_
  obtain ⟨T3, X3, e3, st3⟩ := getF X0 hx hZ hown (host := "") (Or.inl (hw _ (List.mem_of_getElem? (i := 17) rfl))) Via.refl e0 P1 (g := (mkF m 2 #[.val (.ref fo), .val (.int mb), .val (.long sq), .second, .unset, .unset, .unset, .unset, .unset, .unset] [(.ref fo), (.long sq)])) rfl rfl (hb hby d5_2)
  refine own_go st3 ?_
  show ∃ t o, Steps p.tables e below (T3.setTop (mkF m 5 #[.val (.ref fo), .val (.int mb), .val (.long sq), .second, .unset, .unset, .unset, .unset, .unset, .unset] [(.long fq), (.long sq)])) t ∧ _
  refine own_go (fun _ => XS.lsub X3.here hx rfl (hb hby d5_5) rfl) ?_
  refine own_go (fun _ => XS.lstore X3.here hx rfl (hb hby d5_6) rfl (l' := #[.val (.ref fo), .val (.int mb), .val (.long sq), .second, .val (.long (sq - fq)), .second, .unset, .unset, .unset, .unset]) rfl) ?_
  refine own_go (fun _ => XS.lload X3.here hx rfl (hb hby d5_8) rfl) ?_
  show ∃ t o, Steps p.tables e below (T3.setTop (mkF m 10 #[.val (.ref fo), .val (.int mb), .val (.long sq), .second, .val (.long (sq - fq)), .second, .unset, .unset, .unset, .unset] [(.long (sq - fq))])) t ∧ _
  refine own_go (fun _ => XS.lconst X3.here hx rfl (hb hby d5_10)) ?_
  refine own_go (fun _ => XS.lcmp X3.here hx rfl (hb hby d5_11) rfl) ?_
  show ∃ t o, Steps p.tables e below (T3.setTop (mkF m 12 #[.val (.ref fo), .val (.int mb), .val (.long sq), .second, .val (.long (sq - fq)), .second, .unset, .unset, .unset, .unset] [(.int (lcmpW (sq - fq) (0 : Int64)))])) t ∧ _
  by_cases hc4 : (sq - fq) < (0 : Int64)
  · refine own_go (fun _ => XS.ifYes X3.here hx rfl (pc0 := 12) (pc' := 26) rfl (hb hby d5_12) rfl ((if0 _ _).trans (tlt ((lw_lt _ _).mpr hc4)).1) (by decide) (by decide)) ?_
    refine own_go (fun _ => X3.ldc2DoubleC hx hown (mvT hZ (hw _ (List.mem_of_getElem? (i := 39) rfl))) (g := (mkF m 26 #[.val (.ref fo), .val (.int mb), .val (.long sq), .second, .val (.long (sq - fq)), .second, .unset, .unset, .unset, .unset] [])) rfl (hb hby d5_26) _) ?_
    show ∃ t o, Steps p.tables e below (T3.setTop (mkF m 29 #[.val (.ref fo), .val (.int mb), .val (.long sq), .second, .val (.long (sq - fq)), .second, .unset, .unset, .unset, .unset] [(.double (13830554455654793216 : UInt64))])) t ∧ _
    obtain ⟨fs, hr, hrun, hended, hW, hsame⟩ := X3.leave (v := some (.double (13830554455654793216 : UInt64))) (fun h => by rw [Bd.returns] at h; cases h)
    refine ⟨_, _, ?_, hrun, hended, _, _, rfl, ?_, ⟨_, rfl⟩, hW, hsame.mono (by decide) (by decide)⟩
    · jvm_step X3.here [X3.here.top, hx, (hb hby d5_29), X3.method', Bd.returns, narrow]
      first | (intro acts; rw [hr _ acts rfl rfl rfl]) | rw [hr _ _ rfl rfl rfl]
      exact Steps.refl _
    · show Q_rmOut Z _ _ _ _ _ h0 n0 _ T3.heap _
      rw [e3]
      exact ⟨rfl, N0, rfl⟩
  · refine own_go (fun _ => XS.ifNo X3.here hx rfl (hb hby d5_12) rfl ((if0 _ _).trans (flt (mt (lw_lt _ _).mp hc4)).1)) ?_
    refine own_go (fun _ => XS.lload X3.here hx rfl (hb hby d5_15) rfl) ?_
    refine own_go (fun _ => XS.aloadN X3.here hx rfl (hb hby d5_17) rfl rfl) ?_
    show ∃ t o, Steps p.tables e below (T3.setTop (mkF m 18 #[.val (.ref fo), .val (.int mb), .val (.long sq), .second, .val (.long (sq - fq)), .second, .unset, .unset, .unset, .unset] [(.ref fo), (.long (sq - fq))])) t ∧ _
    obtain ⟨T5, X5, e5, st5⟩ := getF X3 hx hZ hown (host := "") (Or.inl (hw _ (List.mem_of_getElem? (i := 26) rfl))) Via.refl e3 P2 (g := (mkF m 18 #[.val (.ref fo), .val (.int mb), .val (.long sq), .second, .val (.long (sq - fq)), .second, .unset, .unset, .unset, .unset] [(.ref fo), (.long (sq - fq))])) rfl rfl (hb hby d5_18)
    refine own_go st5 ?_
    refine own_go (fun _ => XS.i2l X5.here hx rfl (hb hby d5_21) rfl) ?_
    refine own_go (fun _ => XS.lcmp X5.here hx rfl (hb hby d5_22) rfl) ?_
    show ∃ t o, Steps p.tables e below (T5.setTop (mkF m 23 #[.val (.ref fo), .val (.int mb), .val (.long sq), .second, .val (.long (sq - fq)), .second, .unset, .unset, .unset, .unset] [(.int (lcmpW (sq - fq) (sz.toInt64)))])) t ∧ _
    have hd6 : ¬ ((sq - fq) < (sz.toInt64)) := hout.resolve_left hc4
    refine own_go (fun _ => XS.ifNo X5.here hx rfl (hb hby d5_23) rfl ((if0 _ _).trans (flt (mt (lw_lt _ _).mp hd6)).1)) ?_
    refine own_go (fun _ => X5.ldc2DoubleC hx hown (mvT hZ (hw _ (List.mem_of_getElem? (i := 39) rfl))) (g := (mkF m 26 #[.val (.ref fo), .val (.int mb), .val (.long sq), .second, .val (.long (sq - fq)), .second, .unset, .unset, .unset, .unset] [])) rfl (hb hby d5_26) _) ?_
    show ∃ t o, Steps p.tables e below (T5.setTop (mkF m 29 #[.val (.ref fo), .val (.int mb), .val (.long sq), .second, .val (.long (sq - fq)), .second, .unset, .unset, .unset, .unset] [(.double (13830554455654793216 : UInt64))])) t ∧ _
    obtain ⟨fs, hr, hrun, hended, hW, hsame⟩ := X5.leave (v := some (.double (13830554455654793216 : UInt64))) (fun h => by rw [Bd.returns] at h; cases h)
    refine ⟨_, _, ?_, hrun, hended, _, _, rfl, ?_, ⟨_, rfl⟩, hW, hsame.mono (by decide) (by decide)⟩
    · jvm_step X5.here [X5.here.top, hx, (hb hby d5_29), X5.method', Bd.returns, narrow]
      first | (intro acts; rw [hr _ acts rfl rfl rfl]) | rw [hr _ _ rfl rfl rfl]
      exact Steps.refl _
    · show Q_rmOut Z _ _ _ _ _ h0 n0 _ T5.heap _
      rw [e5]
      exact ⟨rfl, N0, rfl⟩
theorem ef_rmV1 (m : MethodId) (x0 : Nat) (x1 : Int32) (x2 : Int64) : entryFrame m #[(.ref x0), (.int x1), (.long x2)] 10 = mkF m 0 #[.val (.ref x0), .val (.int x1), .val (.long x2), .second, .unset, .unset, .unset, .unset, .unset, .unset] [] := by first | (simp [entryFrame, mkF, argsToLocals, Value.category]; done) | rfl
theorem d5_30 : decode prog_167_method_3_code 30 = .ok (.aload_n 0, 1) := by decide +kernel
theorem d5_31 : decode prog_167_method_3_code 31 = .ok (.getfield 31, 3) := by decide +kernel
theorem d5_34 : decode prog_167_method_3_code 34 = .ok (.lload 4, 2) := by decide +kernel
theorem d5_36 : decode prog_167_method_3_code 36 = .ok (.l2i, 1) := by decide +kernel
theorem d5_37 : decode prog_167_method_3_code 37 = .ok (.iadd, 1) := by decide +kernel
theorem d5_38 : decode prog_167_method_3_code 38 = .ok (.aload_n 0, 1) := by decide +kernel
theorem d5_39 : decode prog_167_method_3_code 39 = .ok (.getfield 7, 3) := by decide +kernel
theorem d5_42 : decode prog_167_method_3_code 42 = .ok (.arraylength, 1) := by decide +kernel
theorem d5_43 : decode prog_167_method_3_code 43 = .ok (.iconst 1, 1) := by decide +kernel
theorem d5_44 : decode prog_167_method_3_code 44 = .ok (.isub, 1) := by decide +kernel
theorem d5_45 : decode prog_167_method_3_code 45 = .ok (.iand, 1) := by decide +kernel
theorem d5_46 : decode prog_167_method_3_code 46 = .ok (.istore 6, 2) := by decide +kernel
theorem d5_48 : decode prog_167_method_3_code 48 = .ok (.aload_n 0, 1) := by decide +kernel
theorem d5_49 : decode prog_167_method_3_code 49 = .ok (.getfield 13, 3) := by decide +kernel
theorem d5_52 : decode prog_167_method_3_code 52 = .ok (.iload 6, 2) := by decide +kernel
theorem d5_54 : decode prog_167_method_3_code 54 = .ok (.iaload, 1) := by decide +kernel
theorem d5_55 : decode prog_167_method_3_code 55 = .ok (.istore 7, 2) := by decide +kernel
theorem d5_57 : decode prog_167_method_3_code 57 = .ok (.aload_n 0, 1) := by decide +kernel
theorem d5_58 : decode prog_167_method_3_code 58 = .ok (.getfield 13, 3) := by decide +kernel
theorem d5_61 : decode prog_167_method_3_code 61 = .ok (.iload 6, 2) := by decide +kernel
theorem d5_63 : decode prog_167_method_3_code 63 = .ok (.dup2, 1) := by decide +kernel
theorem d5_64 : decode prog_167_method_3_code 64 = .ok (.iaload, 1) := by decide +kernel
theorem d5_65 : decode prog_167_method_3_code 65 = .ok (.iconst 1, 1) := by decide +kernel
theorem d5_66 : decode prog_167_method_3_code 66 = .ok (.iload_n 1, 1) := by decide +kernel
theorem d5_67 : decode prog_167_method_3_code 67 = .ok (.ishl, 1) := by decide +kernel
theorem d5_68 : decode prog_167_method_3_code 68 = .ok (.ior, 1) := by decide +kernel
theorem d5_69 : decode prog_167_method_3_code 69 = .ok (.iastore, 1) := by decide +kernel
theorem d5_70 : decode prog_167_method_3_code 70 = .ok (.iload 7, 2) := by decide +kernel
theorem d5_72 : decode prog_167_method_3_code 72 = .ok (.aload_n 0, 1) := by decide +kernel
theorem d5_73 : decode prog_167_method_3_code 73 = .ok (.getfield 21, 3) := by decide +kernel
theorem d5_76 : decode prog_167_method_3_code 76 = .ok (.if_icmp .eq 17, 3) := by decide +kernel
theorem d5_79 : decode prog_167_method_3_code 79 = .ok (.aload_n 0, 1) := by decide +kernel
theorem d5_80 : decode prog_167_method_3_code 80 = .ok (.getfield 13, 3) := by decide +kernel
theorem d5_83 : decode prog_167_method_3_code 83 = .ok (.iload 6, 2) := by decide +kernel
theorem d5_85 : decode prog_167_method_3_code 85 = .ok (.iaload, 1) := by decide +kernel
theorem d5_86 : decode prog_167_method_3_code 86 = .ok (.aload_n 0, 1) := by decide +kernel
theorem d5_87 : decode prog_167_method_3_code 87 = .ok (.getfield 21, 3) := by decide +kernel
theorem d5_90 : decode prog_167_method_3_code 90 = .ok (.if_icmp .eq 7, 3) := by decide +kernel
theorem d5_97 : decode prog_167_method_3_code 97 = .ok (.aload_n 0, 1) := by decide +kernel
theorem d5_98 : decode prog_167_method_3_code 98 = .ok (.getfield 7, 3) := by decide +kernel
theorem d5_101 : decode prog_167_method_3_code 101 = .ok (.iload 6, 2) := by decide +kernel
theorem d5_103 : decode prog_167_method_3_code 103 = .ok (.daload, 1) := by decide +kernel
theorem d5_104 : decode prog_167_method_3_code 104 = .ok (.dstore 8, 2) := by decide +kernel
theorem d5_106 : decode prog_167_method_3_code 106 = .ok (.aload_n 0, 1) := by decide +kernel
theorem d5_107 : decode prog_167_method_3_code 107 = .ok (.getfield 25, 3) := by decide +kernel
theorem d5_110 : decode prog_167_method_3_code 110 = .ok (.ifCond .le 60, 3) := by decide +kernel
theorem d5_113 : decode prog_167_method_3_code 113 = .ok (.aload_n 0, 1) := by decide +kernel
theorem d5_114 : decode prog_167_method_3_code 114 = .ok (.getfield 13, 3) := by decide +kernel
theorem d5_117 : decode prog_167_method_3_code 117 = .ok (.aload_n 0, 1) := by decide +kernel
theorem d5_118 : decode prog_167_method_3_code 118 = .ok (.getfield 31, 3) := by decide +kernel
theorem d5_121 : decode prog_167_method_3_code 121 = .ok (.iaload, 1) := by decide +kernel
theorem d5_122 : decode prog_167_method_3_code 122 = .ok (.aload_n 0, 1) := by decide +kernel
theorem d5_123 : decode prog_167_method_3_code 123 = .ok (.getfield 21, 3) := by decide +kernel
theorem d5_126 : decode prog_167_method_3_code 126 = .ok (.if_icmp .ne 44, 3) := by decide +kernel
theorem d5_129 : decode prog_167_method_3_code 129 = .ok (.aload_n 0, 1) := by decide +kernel
theorem d5_130 : decode prog_167_method_3_code 130 = .ok (.aload_n 0, 1) := by decide +kernel
theorem d5_131 : decode prog_167_method_3_code 131 = .ok (.getfield 31, 3) := by decide +kernel
theorem d5_134 : decode prog_167_method_3_code 134 = .ok (.iconst 1, 1) := by decide +kernel
theorem d5_135 : decode prog_167_method_3_code 135 = .ok (.iadd, 1) := by decide +kernel
theorem d5_136 : decode prog_167_method_3_code 136 = .ok (.aload_n 0, 1) := by decide +kernel
theorem d5_137 : decode prog_167_method_3_code 137 = .ok (.getfield 7, 3) := by decide +kernel
theorem d5_140 : decode prog_167_method_3_code 140 = .ok (.arraylength, 1) := by decide +kernel
theorem d5_141 : decode prog_167_method_3_code 141 = .ok (.iconst 1, 1) := by decide +kernel
theorem d5_142 : decode prog_167_method_3_code 142 = .ok (.isub, 1) := by decide +kernel
theorem d5_143 : decode prog_167_method_3_code 143 = .ok (.iand, 1) := by decide +kernel
theorem d5_144 : decode prog_167_method_3_code 144 = .ok (.putfield 31, 3) := by decide +kernel
theorem d5_147 : decode prog_167_method_3_code 147 = .ok (.aload_n 0, 1) := by decide +kernel
theorem d5_148 : decode prog_167_method_3_code 148 = .ok (.dup, 1) := by decide +kernel
theorem d5_149 : decode prog_167_method_3_code 149 = .ok (.getfield 25, 3) := by decide +kernel
theorem d5_152 : decode prog_167_method_3_code 152 = .ok (.iconst 1, 1) := by decide +kernel
theorem d5_153 : decode prog_167_method_3_code 153 = .ok (.isub, 1) := by decide +kernel
theorem d5_154 : decode prog_167_method_3_code 154 = .ok (.putfield 25, 3) := by decide +kernel
theorem d5_157 : decode prog_167_method_3_code 157 = .ok (.aload_n 0, 1) := by decide +kernel
theorem d5_158 : decode prog_167_method_3_code 158 = .ok (.dup, 1) := by decide +kernel
theorem d5_159 : decode prog_167_method_3_code 159 = .ok (.getfield 17, 3) := by decide +kernel
theorem d5_162 : decode prog_167_method_3_code 162 = .ok (.lconst 1, 1) := by decide +kernel
theorem d5_163 : decode prog_167_method_3_code 163 = .ok (.ladd, 1) := by decide +kernel
theorem d5_164 : decode prog_167_method_3_code 164 = .ok (.putfield 17, 3) := by decide +kernel
theorem d5_167 : decode prog_167_method_3_code 167 = .ok (.goto (-61), 3) := by decide +kernel
theorem d5_170 : decode prog_167_method_3_code 170 = .ok (.dload 8, 2) := by decide +kernel
theorem d5_172 : decode prog_167_method_3_code 172 = .ok (.dreturn, 1) := by decide +kernel
theorem d5_93 : decode prog_167_method_3_code 93 = .ok (.ldc2_w 34, 3) := by decide +kernel
theorem d5_96 : decode prog_167_method_3_code 96 = .ok (.dreturn, 1) := by decide +kernel
def Q_rmV1 (Z : State) (fo : Nat) (da : Nat) (ia : Nat) (kd : ClassId) (ki : ClassId) (ev : Int32) (M1 : Int32) (M2 : Int32) (A1 : UInt64) (A2 : UInt64) (mb : Int32) (h0 : Heap) (n0 : Nat) (v : Option Value) (h : Heap) (L : List Loc) : Prop := ∃ (rr : UInt64), ∃ (fi2 : Int32), ∃ (sz2 : Int32), ∃ (fq2 : Int64), v = some (.double rr) ∧ Fr n0 L ∧ Keep h0 h [fo, ia] ∧ Exa Z h fo "com/example/holdback/holdback/sim/InFlight" ∧ Fld Z h fo "com/example/holdback/holdback/sim/InFlight" "multicastAt" "[D" (.ref da) ∧ Fld Z h fo "com/example/holdback/holdback/sim/InFlight" "deliveredBy" "[I" (.ref ia) ∧ Fld Z h fo "com/example/holdback/holdback/sim/InFlight" "firstSeq" "J" (.long fq2) ∧ Fld Z h fo "com/example/holdback/holdback/sim/InFlight" "everyone" "I" (.int ev) ∧ Fld Z h fo "com/example/holdback/holdback/sim/InFlight" "size" "I" (.int sz2) ∧ Fld Z h fo "com/example/holdback/holdback/sim/InFlight" "first" "I" (.int fi2) ∧ Arv Z h ia ki .int (16 : Int32) [(.int (M1 ||| ((1 : Int32) <<< (mb &&& 31)))), (.int M2)] (.int (0 : Int32)) ∧ (rr = (if ¬ (M1 = ev) ∧ (M1 ||| ((1 : Int32) <<< (mb &&& 31))) = ev then A1 else (13830554455654793216 : UInt64))) ∧ (own_inv (1 : Int32) ev fi2 sz2 fq2 (M1 ||| ((1 : Int32) <<< (mb &&& 31))) M2)
set_option maxRecDepth 65536 in
set_option maxHeartbeats 40000000 in
theorem rmV1 (l : Launch) (Z : State) (a0 : Array Value) (hw : ∀ d ∈ tables_1, d.before a0 Z = true) (ws : List Jvm.Cond) (fo : Nat) (da : Nat) (ia : Nat) (kd : ClassId) (ki : ClassId) (ev : Int32) (M1 : Int32) (M2 : Int32) (A1 : UInt64) (A2 : UInt64) (mb : Int32) (h0 : Heap) (n0 : Nat) (Z0 : n0 ≤ h0.size) (P1 : Exa Z h0 fo "com/example/holdback/holdback/sim/InFlight") (P2 : Fld Z h0 fo "com/example/holdback/holdback/sim/InFlight" "multicastAt" "[D" (.ref da)) (P3 : Fld Z h0 fo "com/example/holdback/holdback/sim/InFlight" "deliveredBy" "[I" (.ref ia)) (P4 : Fld Z h0 fo "com/example/holdback/holdback/sim/InFlight" "firstSeq" "J" (.long (1 : Int64))) (P5 : Fld Z h0 fo "com/example/holdback/holdback/sim/InFlight" "everyone" "I" (.int ev)) (P6 : Fld Z h0 fo "com/example/holdback/holdback/sim/InFlight" "size" "I" (.int (1 : Int32))) (P7 : Fld Z h0 fo "com/example/holdback/holdback/sim/InFlight" "first" "I" (.int (0 : Int32))) (P8 : Arv Z h0 da kd .double (16 : Int32) [(.double A1), (.double (0 : UInt64))] (.double (0 : UInt64))) (P9 : Arv Z h0 ia ki .int (16 : Int32) [(.int M1), (.int M2)] (.int (0 : Int32))) (OLD : Old Z n0 h0) (gf : n0 ≤ fo) (gd : n0 ≤ da) (gi : n0 ≤ ia) (nfd : fo ≠ da) (nfi : fo ≠ ia) (ndi : da ≠ ia) (ndf : da ≠ fo) (nif : ia ≠ fo) (nid : ia ≠ da) (hM : ¬ (M1 = ev)) :
    MetFree l (⟨"com/example/holdback/holdback/sim/InFlight", "delivered", "(IJ)D"⟩ : MethodName) (head1 (Jvm.Cond.code (⟨"com/example/holdback/holdback/sim/InFlight", "delivered", "(IJ)D"⟩ : MethodName) prog_167_method_3_code 10 (some .double) :: ws) ({ frames := 0, cells := 0, slots := 0, locals := 0 } : Room)) (fun a U => a = #[(.ref fo), (.int mb), (.long (1 : Int64))] ∧ Z.Warmed39 U.vm ∧ U.heap = h0) (fun _ _ _ _ _ => True) (fun _ U o U' => ∃ v L, o = .returned v ∧ Q_rmV1 Z fo da ia kd ki ev M1 M2 A1 A2 mb h0 n0 v U'.heap L ∧ FrameEnd U o U' L ({ frames := 0, cells := 0, slots := 0, locals := 0 } : Room).cells ({ frames := 0, cells := 0, slots := 0, locals := 0 } : Room).slots) := by
  refine MetFree.of_bodySF (plainFor_of_name pn_com_example_holdback_holdback_sim_InFlight) hisR ?_
  intro p e s m args below meth c s₁ Bd hml0 hP hK
  obtain ⟨rfl, hZ, hh⟩ := hP
  have hx := Bd.exec
  have hby := Bd.bytes
  have hml : c.maxLocals = 10 := hml0
  have hown : s.vm.findClass "com/example/holdback/holdback/sim/InFlight" = some m.cls := findClass_of_methodNamed Bd.named
  have hnm := (name_of_methodNamed Bd.named Bd.method).1
  have X0 : Stand p l e ({ frames := 0, cells := 0, slots := 0, locals := 0 } : Room) s m #[(.ref fo), (.int mb), (.long (1 : Int64))] below meth c s₁ [] 0 0 := Stand.of_body Bd
  have e0 : s₁.heap = h0 := by rw [← hh, Bd.state]; rfl
  have N0 := Fr.nil n0
  have pre0 : ∀ t, Steps p.tables e below (s₁.setTop (mkF m 0 #[.val (.ref fo), .val (.int mb), .val (.long (1 : Int64)), .second, .unset, .unset, .unset, .unset, .unset, .unset] [])) t → Steps p.tables e below (s₁.setTop (entryFrame m #[(.ref fo), (.int mb), (.long (1 : Int64))] 10)) t := fun t k => castTop (ef_rmV1 m fo mb (1 : Int64)) k
  have oz := OLD.1
  have lt_da : da < h0.size := P8.lt
  have lt_fo : fo < h0.size := P1.lt
  have lt_ia : ia < h0.size := P9.lt
  refine own_go (B := s₁.setTop (mkF m 0 #[.val (.ref fo), .val (.int mb), .val (.long (1 : Int64)), .second, .unset, .unset, .unset, .unset, .unset, .unset] [])) pre0 ?_
  show ∃ t o, Steps p.tables e below (s₁.setTop (mkF m 0 #[.val (.ref fo), .val (.int mb), .val (.long (1 : Int64)), .second, .unset, .unset, .unset, .unset, .unset, .unset] [])) t ∧ _
  refine own_go (fun _ => XS.lloadN X0.here hx rfl (hb hby d5_0) rfl) ?_
  refine own_go (fun _ => XS.aloadN X0.here hx rfl (hb hby d5_1) rfl rfl) ?_
  obtain ⟨T10, X10, e10, st10⟩ := getF X0 hx hZ hown (host := "") (Or.inl (hw _ (List.mem_of_getElem? (i := 17) rfl))) Via.refl e0 P4 (g := (mkF m 2 #[.val (.ref fo), .val (.int mb), .val (.long (1 : Int64)), .second, .unset, .unset, .unset, .unset, .unset, .unset] [(.ref fo), (.long (1 : Int64))])) rfl rfl (hb hby d5_2)
  refine own_go st10 ?_
  show ∃ t o, Steps p.tables e below (T10.setTop (mkF m 5 #[.val (.ref fo), .val (.int mb), .val (.long (1 : Int64)), .second, .unset, .unset, .unset, .unset, .unset, .unset] [(.long (1 : Int64)), (.long (1 : Int64))])) t ∧ _
  refine own_go (fun _ => XS.lsub X10.here hx rfl (hb hby d5_5) rfl) ?_
  refine own_go (fun _ => XS.lstore X10.here hx rfl (hb hby d5_6) rfl (l' := #[.val (.ref fo), .val (.int mb), .val (.long (1 : Int64)), .second, .val (.long (0 : Int64)), .second, .unset, .unset, .unset, .unset]) rfl) ?_
  refine own_go (fun _ => XS.lload X10.here hx rfl (hb hby d5_8) rfl) ?_
  show ∃ t o, Steps p.tables e below (T10.setTop (mkF m 10 #[.val (.ref fo), .val (.int mb), .val (.long (1 : Int64)), .second, .val (.long (0 : Int64)), .second, .unset, .unset, .unset, .unset] [(.long (0 : Int64))])) t ∧ _
  refine own_go (fun _ => XS.lconst X10.here hx rfl (hb hby d5_10)) ?_
  refine own_go (fun _ => XS.lcmp X10.here hx rfl (hb hby d5_11) rfl) ?_
  show ∃ t o, Steps p.tables e below (T10.setTop (mkF m 12 #[.val (.ref fo), .val (.int mb), .val (.long (1 : Int64)), .second, .val (.long (0 : Int64)), .second, .unset, .unset, .unset, .unset] [(.int (lcmpW (0 : Int64) (0 : Int64)))])) t ∧ _
  refine own_go (fun _ => XS.ifNo X10.here hx rfl (hb hby d5_12) rfl ((if0 _ _).trans (flt (mt (lw_lt _ _).mp (by decide : ¬ ((0 : Int64) < (0 : Int64))))).1)) ?_
  refine own_go (fun _ => XS.lload X10.here hx rfl (hb hby d5_15) rfl) ?_
  refine own_go (fun _ => XS.aloadN X10.here hx rfl (hb hby d5_17) rfl rfl) ?_
  show ∃ t o, Steps p.tables e below (T10.setTop (mkF m 18 #[.val (.ref fo), .val (.int mb), .val (.long (1 : Int64)), .second, .val (.long (0 : Int64)), .second, .unset, .unset, .unset, .unset] [(.ref fo), (.long (0 : Int64))])) t ∧ _
  obtain ⟨T11, X11, e11, st11⟩ := getF X10 hx hZ hown (host := "") (Or.inl (hw _ (List.mem_of_getElem? (i := 26) rfl))) Via.refl e10 P6 (g := (mkF m 18 #[.val (.ref fo), .val (.int mb), .val (.long (1 : Int64)), .second, .val (.long (0 : Int64)), .second, .unset, .unset, .unset, .unset] [(.ref fo), (.long (0 : Int64))])) rfl rfl (hb hby d5_18)
  refine own_go st11 ?_
  refine own_go (fun _ => XS.i2l X11.here hx rfl (hb hby d5_21) rfl) ?_
  refine own_go (fun _ => XS.lcmp X11.here hx rfl (hb hby d5_22) rfl) ?_
  show ∃ t o, Steps p.tables e below (T11.setTop (mkF m 23 #[.val (.ref fo), .val (.int mb), .val (.long (1 : Int64)), .second, .val (.long (0 : Int64)), .second, .unset, .unset, .unset, .unset] [(.int (lcmpW (0 : Int64) (1 : Int64)))])) t ∧ _
  refine own_go (fun _ => XS.ifYes X11.here hx rfl (pc0 := 23) (pc' := 30) rfl (hb hby d5_23) rfl ((if0 _ _).trans (tlt ((lw_lt _ _).mpr (by decide : (0 : Int64) < (1 : Int64)))).1) (by decide) (by decide)) ?_
  refine own_go (fun _ => XS.aloadN X11.here hx rfl (hb hby d5_30) rfl rfl) ?_
  obtain ⟨T12, X12, e12, st12⟩ := getF X11 hx hZ hown (host := "") (Or.inl (hw _ (List.mem_of_getElem? (i := 28) rfl))) Via.refl e11 P7 (g := (mkF m 31 #[.val (.ref fo), .val (.int mb), .val (.long (1 : Int64)), .second, .val (.long (0 : Int64)), .second, .unset, .unset, .unset, .unset] [(.ref fo)])) rfl rfl (hb hby d5_31)
  refine own_go st12 ?_
  show ∃ t o, Steps p.tables e below (T12.setTop (mkF m 34 #[.val (.ref fo), .val (.int mb), .val (.long (1 : Int64)), .second, .val (.long (0 : Int64)), .second, .unset, .unset, .unset, .unset] [(.int (0 : Int32))])) t ∧ _
  refine own_go (fun _ => XS.lload X12.here hx rfl (hb hby d5_34) rfl) ?_
  refine own_go (fun _ => XS.l2i X12.here hx rfl (hb hby d5_36) rfl) ?_
  refine own_go (fun _ => XS.iadd X12.here hx rfl (hb hby d5_37) rfl) ?_
  show ∃ t o, Steps p.tables e below (T12.setTop (mkF m 38 #[.val (.ref fo), .val (.int mb), .val (.long (1 : Int64)), .second, .val (.long (0 : Int64)), .second, .unset, .unset, .unset, .unset] [(.int (0 : Int32))])) t ∧ _
  refine own_go (fun _ => XS.aloadN X12.here hx rfl (hb hby d5_38) rfl rfl) ?_
  obtain ⟨T13, X13, e13, st13⟩ := getF X12 hx hZ hown (host := "") (Or.inl (hw _ (List.mem_of_getElem? (i := 13) rfl))) Via.refl e12 P2 (g := (mkF m 39 #[.val (.ref fo), .val (.int mb), .val (.long (1 : Int64)), .second, .val (.long (0 : Int64)), .second, .unset, .unset, .unset, .unset] [(.ref fo), (.int (0 : Int32))])) rfl rfl (hb hby d5_39)
  refine own_go st13 ?_
  obtain ⟨cl14, Ar14, q14, S14, N14, H14, G14⟩ := id P8
  have ln14 : cl14.slots.size.toInt32 = (16 : Int32) := len_of S14 N14
  have al14 := X13.arraylength hx (by rw [e13]; exact Ar14.1) (State.isArrayOf_alike hZ.alike Ar14.2.1) (g := (mkF m 42 #[.val (.ref fo), .val (.int mb), .val (.long (1 : Int64)), .second, .val (.long (0 : Int64)), .second, .unset, .unset, .unset, .unset] [(.ref da), (.int (0 : Int32))])) rfl rfl (hb hby d5_42)
  rw [ln14] at al14
  refine own_go al14 ?_
  show ∃ t o, Steps p.tables e below (T13.setTop (mkF m 43 #[.val (.ref fo), .val (.int mb), .val (.long (1 : Int64)), .second, .val (.long (0 : Int64)), .second, .unset, .unset, .unset, .unset] [(.int (16 : Int32)), (.int (0 : Int32))])) t ∧ _
  refine own_go (fun _ => XS.iconst X13.here hx rfl (hb hby d5_43)) ?_
  refine own_go (fun _ => XS.isub X13.here hx rfl (hb hby d5_44) rfl) ?_
  refine own_go (fun _ => XS.iand X13.here hx rfl (hb hby d5_45) rfl) ?_
  show ∃ t o, Steps p.tables e below (T13.setTop (mkF m 46 #[.val (.ref fo), .val (.int mb), .val (.long (1 : Int64)), .second, .val (.long (0 : Int64)), .second, .unset, .unset, .unset, .unset] [(.int (0 : Int32))])) t ∧ _
  refine own_go (fun _ => XS.istore X13.here hx rfl (hb hby d5_46) rfl (l' := #[.val (.ref fo), .val (.int mb), .val (.long (1 : Int64)), .second, .val (.long (0 : Int64)), .second, .val (.int (0 : Int32)), .unset, .unset, .unset]) rfl) ?_
  refine own_go (fun _ => XS.aloadN X13.here hx rfl (hb hby d5_48) rfl rfl) ?_
  obtain ⟨T15, X15, e15, st15⟩ := getF X13 hx hZ hown (host := "") (Or.inl (hw _ (List.mem_of_getElem? (i := 15) rfl))) Via.refl e13 P3 (g := (mkF m 49 #[.val (.ref fo), .val (.int mb), .val (.long (1 : Int64)), .second, .val (.long (0 : Int64)), .second, .val (.int (0 : Int32)), .unset, .unset, .unset] [(.ref fo)])) rfl rfl (hb hby d5_49)
  refine own_go st15 ?_
  show ∃ t o, Steps p.tables e below (T15.setTop (mkF m 52 #[.val (.ref fo), .val (.int mb), .val (.long (1 : Int64)), .second, .val (.long (0 : Int64)), .second, .val (.int (0 : Int32)), .unset, .unset, .unset] [(.ref ia)])) t ∧ _
  refine own_go (fun _ => XS.iload X15.here hx rfl (hb hby d5_52) rfl) ?_
  obtain ⟨cl16, Ar16, q16, S16, N16, H16, G16⟩ := id P9
  have hin16 : ¬ ((0 : Int32) < 0 ∨ cl16.slots.size ≤ ((0 : Int32)).toNatClampNeg) := inb_of S16 ⟨by decide, by decide⟩
  have hat16 : cl16.slots[((0 : Int32)).toNatClampNeg]? = some (.int M1) := Has.at H16 hin16 rfl
  refine own_go (fun _ => X15.iaload hx (j := (0 : Int32)) (v := (.int M1)) (by rw [e15]; exact Ar16.1) (State.isArrayOf_alike hZ.alike Ar16.2.1) Ar16.2.2 hin16 hat16 (g := (mkF m 54 #[.val (.ref fo), .val (.int mb), .val (.long (1 : Int64)), .second, .val (.long (0 : Int64)), .second, .val (.int (0 : Int32)), .unset, .unset, .unset] [(.int (0 : Int32)), (.ref ia)])) rfl rfl (hb hby d5_54) _) ?_
  refine own_go (fun _ => XS.istore X15.here hx rfl (hb hby d5_55) rfl (l' := #[.val (.ref fo), .val (.int mb), .val (.long (1 : Int64)), .second, .val (.long (0 : Int64)), .second, .val (.int (0 : Int32)), .val (.int M1), .unset, .unset]) rfl) ?_
  show ∃ t o, Steps p.tables e below (T15.setTop (mkF m 57 #[.val (.ref fo), .val (.int mb), .val (.long (1 : Int64)), .second, .val (.long (0 : Int64)), .second, .val (.int (0 : Int32)), .val (.int M1), .unset, .unset] [])) t ∧ _
  refine own_go (fun _ => XS.aloadN X15.here hx rfl (hb hby d5_57) rfl rfl) ?_
  obtain ⟨T17, X17, e17, st17⟩ := getF X15 hx hZ hown (host := "") (Or.inl (hw _ (List.mem_of_getElem? (i := 15) rfl))) Via.refl e15 P3 (g := (mkF m 58 #[.val (.ref fo), .val (.int mb), .val (.long (1 : Int64)), .second, .val (.long (0 : Int64)), .second, .val (.int (0 : Int32)), .val (.int M1), .unset, .unset] [(.ref fo)])) rfl rfl (hb hby d5_58)
  refine own_go st17 ?_
  refine own_go (fun _ => XS.iload X17.here hx rfl (hb hby d5_61) rfl) ?_
  show ∃ t o, Steps p.tables e below (T17.setTop (mkF m 63 #[.val (.ref fo), .val (.int mb), .val (.long (1 : Int64)), .second, .val (.long (0 : Int64)), .second, .val (.int (0 : Int32)), .val (.int M1), .unset, .unset] [(.int (0 : Int32)), (.ref ia)])) t ∧ _
  refine own_go (fun _ => Jvm.Free.XT.dup2 X17.here hx rfl (hb hby d5_63) rfl rfl rfl) ?_
  obtain ⟨cl18, Ar18, q18, S18, N18, H18, G18⟩ := id P9
  have hin18 : ¬ ((0 : Int32) < 0 ∨ cl18.slots.size ≤ ((0 : Int32)).toNatClampNeg) := inb_of S18 ⟨by decide, by decide⟩
  have hat18 : cl18.slots[((0 : Int32)).toNatClampNeg]? = some (.int M1) := Has.at H18 hin18 rfl
  refine own_go (fun _ => X17.iaload hx (j := (0 : Int32)) (v := (.int M1)) (by rw [e17]; exact Ar18.1) (State.isArrayOf_alike hZ.alike Ar18.2.1) Ar18.2.2 hin18 hat18 (g := (mkF m 64 #[.val (.ref fo), .val (.int mb), .val (.long (1 : Int64)), .second, .val (.long (0 : Int64)), .second, .val (.int (0 : Int32)), .val (.int M1), .unset, .unset] [(.int (0 : Int32)), (.ref ia), (.int (0 : Int32)), (.ref ia)])) rfl rfl (hb hby d5_64) _) ?_
  refine own_go (fun _ => XS.iconst X17.here hx rfl (hb hby d5_65)) ?_
  show ∃ t o, Steps p.tables e below (T17.setTop (mkF m 66 #[.val (.ref fo), .val (.int mb), .val (.long (1 : Int64)), .second, .val (.long (0 : Int64)), .second, .val (.int (0 : Int32)), .val (.int M1), .unset, .unset] [(.int (1 : Int32)), (.int M1), (.int (0 : Int32)), (.ref ia)])) t ∧ _
  refine own_go (fun _ => XS.iloadN X17.here hx rfl (hb hby d5_66) rfl) ?_
  refine own_go (fun _ => XS.ishl X17.here hx rfl (hb hby d5_67) rfl) ?_
  refine own_go (fun _ => XS.ior X17.here hx rfl (hb hby d5_68) rfl) ?_
  show ∃ t o, Steps p.tables e below (T17.setTop (mkF m 69 #[.val (.ref fo), .val (.int mb), .val (.long (1 : Int64)), .second, .val (.long (0 : Int64)), .second, .val (.int (0 : Int32)), .val (.int M1), .unset, .unset] [(.int (M1 ||| ((1 : Int32) <<< (mb &&& 31)))), (.int (0 : Int32)), (.ref ia)])) t ∧ _
  obtain ⟨cl19, Ar19, q19, S19, N19, H19, G19⟩ := id P9
  have hin19 : ¬ ((0 : Int32) < 0 ∨ cl19.slots.size ≤ ((0 : Int32)).toNatClampNeg) := inb_of S19 ⟨by decide, by decide⟩
  obtain ⟨T20, h20, X20, e20, W20, st20⟩ := stI X17 hx hZ e17 Ar19 (j := (0 : Int32)) hin19 (g := (mkF m 69 #[.val (.ref fo), .val (.int mb), .val (.long (1 : Int64)), .second, .val (.long (0 : Int64)), .second, .val (.int (0 : Int32)), .val (.int M1), .unset, .unset] [(.int (M1 ||| ((1 : Int32) <<< (mb &&& 31)))), (.int (0 : Int32)), (.ref ia)])) rfl rfl (hb hby d5_69)
  refine own_go st20 ?_
  have le_20 : h0.size ≤ h20.size := Nat.le_of_eq W20.size.symm
  have K20 : Keep h0 h20 [fo, ia] := Keep.wr (Keep.refl h0 [fo, ia]) W20 (Or.inl (List.mem_of_getElem? (i := 1) rfl))
  have N20 := Fr.snoc X20 N0 gi
  have V20 : Arv Z h20 ia ki .int (16 : Int32) [(.int (M1 ||| ((1 : Int32) <<< (mb &&& 31)))), (.int M2)] (.int (0 : Int32)) := Arv.set Ar19 q19 S19 N19 H19 G19 rfl W20 0 rfl (Nat.le_of_ble_eq_true rfl)
  refine own_go (fun _ => XS.iload X20.here hx rfl (hb hby d5_70) rfl) ?_
  refine own_go (fun _ => XS.aloadN X20.here hx rfl (hb hby d5_72) rfl rfl) ?_
  show ∃ t o, Steps p.tables e below (T20.setTop (mkF m 73 #[.val (.ref fo), .val (.int mb), .val (.long (1 : Int64)), .second, .val (.long (0 : Int64)), .second, .val (.int (0 : Int32)), .val (.int M1), .unset, .unset] [(.ref fo), (.int M1)])) t ∧ _
  have F21 : Fld Z h20 fo "com/example/holdback/holdback/sim/InFlight" "everyone" "I" (.int ev) := (Fld.other W20 P5 (Or.inl nfi))
  obtain ⟨T22, X22, e22, st22⟩ := getF X20 hx hZ hown (host := "") (Or.inl (hw _ (List.mem_of_getElem? (i := 19) rfl))) Via.refl e20 F21 (g := (mkF m 73 #[.val (.ref fo), .val (.int mb), .val (.long (1 : Int64)), .second, .val (.long (0 : Int64)), .second, .val (.int (0 : Int32)), .val (.int M1), .unset, .unset] [(.ref fo), (.int M1)])) rfl rfl (hb hby d5_73)
  refine own_go st22 ?_
  show ∃ t o, Steps p.tables e below (T22.setTop (mkF m 76 #[.val (.ref fo), .val (.int mb), .val (.long (1 : Int64)), .second, .val (.long (0 : Int64)), .second, .val (.int (0 : Int32)), .val (.int M1), .unset, .unset] [(.int ev), (.int M1)])) t ∧ _
  refine own_go (fun _ => XS.icmpNo X22.here hx rfl (hb hby d5_76) rfl (feq hM).1) ?_
  refine own_go (fun _ => XS.aloadN X22.here hx rfl (hb hby d5_79) rfl rfl) ?_
  have F23 : Fld Z h20 fo "com/example/holdback/holdback/sim/InFlight" "deliveredBy" "[I" (.ref ia) := (Fld.other W20 P3 (Or.inl nfi))
  obtain ⟨T24, X24, e24, st24⟩ := getF X22 hx hZ hown (host := "") (Or.inl (hw _ (List.mem_of_getElem? (i := 15) rfl))) Via.refl e22 F23 (g := (mkF m 80 #[.val (.ref fo), .val (.int mb), .val (.long (1 : Int64)), .second, .val (.long (0 : Int64)), .second, .val (.int (0 : Int32)), .val (.int M1), .unset, .unset] [(.ref fo)])) rfl rfl (hb hby d5_80)
  refine own_go st24 ?_
  show ∃ t o, Steps p.tables e below (T24.setTop (mkF m 83 #[.val (.ref fo), .val (.int mb), .val (.long (1 : Int64)), .second, .val (.long (0 : Int64)), .second, .val (.int (0 : Int32)), .val (.int M1), .unset, .unset] [(.ref ia)])) t ∧ _
  refine own_go (fun _ => XS.iload X24.here hx rfl (hb hby d5_83) rfl) ?_
  obtain ⟨cl25, Ar25, q25, S25, N25, H25, G25⟩ := id V20
  have hin25 : ¬ ((0 : Int32) < 0 ∨ cl25.slots.size ≤ ((0 : Int32)).toNatClampNeg) := inb_of S25 ⟨by decide, by decide⟩
  have hat25 : cl25.slots[((0 : Int32)).toNatClampNeg]? = some (.int (M1 ||| ((1 : Int32) <<< (mb &&& 31)))) := Has.at H25 hin25 rfl
  refine own_go (fun _ => X24.iaload hx (j := (0 : Int32)) (v := (.int (M1 ||| ((1 : Int32) <<< (mb &&& 31))))) (by rw [e24]; exact Ar25.1) (State.isArrayOf_alike hZ.alike Ar25.2.1) Ar25.2.2 hin25 hat25 (g := (mkF m 85 #[.val (.ref fo), .val (.int mb), .val (.long (1 : Int64)), .second, .val (.long (0 : Int64)), .second, .val (.int (0 : Int32)), .val (.int M1), .unset, .unset] [(.int (0 : Int32)), (.ref ia)])) rfl rfl (hb hby d5_85) _) ?_
  refine own_go (fun _ => XS.aloadN X24.here hx rfl (hb hby d5_86) rfl rfl) ?_
  show ∃ t o, Steps p.tables e below (T24.setTop (mkF m 87 #[.val (.ref fo), .val (.int mb), .val (.long (1 : Int64)), .second, .val (.long (0 : Int64)), .second, .val (.int (0 : Int32)), .val (.int M1), .unset, .unset] [(.ref fo), (.int (M1 ||| ((1 : Int32) <<< (mb &&& 31))))])) t ∧ _
  obtain ⟨T26, X26, e26, st26⟩ := getF X24 hx hZ hown (host := "") (Or.inl (hw _ (List.mem_of_getElem? (i := 19) rfl))) Via.refl e24 F21 (g := (mkF m 87 #[.val (.ref fo), .val (.int mb), .val (.long (1 : Int64)), .second, .val (.long (0 : Int64)), .second, .val (.int (0 : Int32)), .val (.int M1), .unset, .unset] [(.ref fo), (.int (M1 ||| ((1 : Int32) <<< (mb &&& 31))))])) rfl rfl (hb hby d5_87)
  refine own_go st26 ?_
  show ∃ t o, Steps p.tables e below (T26.setTop (mkF m 90 #[.val (.ref fo), .val (.int mb), .val (.long (1 : Int64)), .second, .val (.long (0 : Int64)), .second, .val (.int (0 : Int32)), .val (.int M1), .unset, .unset] [(.int ev), (.int (M1 ||| ((1 : Int32) <<< (mb &&& 31))))])) t ∧ _
  by_cases hc27 : (M1 ||| ((1 : Int32) <<< (mb &&& 31))) = ev
  · refine own_go (fun _ => XS.icmpYes X26.here hx rfl (pc0 := 90) (pc' := 97) rfl (hb hby d5_90) rfl (teq hc27).1 (by decide) (by decide)) ?_
    refine own_go (fun _ => XS.aloadN X26.here hx rfl (hb hby d5_97) rfl rfl) ?_
    have F28 : Fld Z h20 fo "com/example/holdback/holdback/sim/InFlight" "multicastAt" "[D" (.ref da) := (Fld.other W20 P2 (Or.inl nfi))
    obtain ⟨T29, X29, e29, st29⟩ := getF X26 hx hZ hown (host := "") (Or.inl (hw _ (List.mem_of_getElem? (i := 13) rfl))) Via.refl e26 F28 (g := (mkF m 98 #[.val (.ref fo), .val (.int mb), .val (.long (1 : Int64)), .second, .val (.long (0 : Int64)), .second, .val (.int (0 : Int32)), .val (.int M1), .unset, .unset] [(.ref fo)])) rfl rfl (hb hby d5_98)
    refine own_go st29 ?_
    show ∃ t o, Steps p.tables e below (T29.setTop (mkF m 101 #[.val (.ref fo), .val (.int mb), .val (.long (1 : Int64)), .second, .val (.long (0 : Int64)), .second, .val (.int (0 : Int32)), .val (.int M1), .unset, .unset] [(.ref da)])) t ∧ _
    refine own_go (fun _ => XS.iload X29.here hx rfl (hb hby d5_101) rfl) ?_
    have F30 : Arv Z h20 da kd .double (16 : Int32) [(.double A1), (.double (0 : UInt64))] (.double (0 : UInt64)) := (Arv.other P8 W20 ndi)
    obtain ⟨cl31, Ar31, q31, S31, N31, H31, G31⟩ := id F30
    have hin31 : ¬ ((0 : Int32) < 0 ∨ cl31.slots.size ≤ ((0 : Int32)).toNatClampNeg) := inb_of S31 ⟨by decide, by decide⟩
    have hat31 : cl31.slots[((0 : Int32)).toNatClampNeg]? = some (.double A1) := Has.at H31 hin31 rfl
    refine own_go (fun _ => X29.daload hx (j := (0 : Int32)) (v := (.double A1)) (by rw [e29]; exact Ar31.1) (State.isArrayOf_alike hZ.alike Ar31.2.1) Ar31.2.2 hin31 hat31 (g := (mkF m 103 #[.val (.ref fo), .val (.int mb), .val (.long (1 : Int64)), .second, .val (.long (0 : Int64)), .second, .val (.int (0 : Int32)), .val (.int M1), .unset, .unset] [(.int (0 : Int32)), (.ref da)])) rfl rfl (hb hby d5_103) _) ?_
    refine own_go (fun _ => XS.dstore X29.here hx rfl (hb hby d5_104) rfl (l' := #[.val (.ref fo), .val (.int mb), .val (.long (1 : Int64)), .second, .val (.long (0 : Int64)), .second, .val (.int (0 : Int32)), .val (.int M1), .val (.double A1), .second]) rfl) ?_
    show ∃ t o, Steps p.tables e below (T29.setTop (mkF m 106 #[.val (.ref fo), .val (.int mb), .val (.long (1 : Int64)), .second, .val (.long (0 : Int64)), .second, .val (.int (0 : Int32)), .val (.int M1), .val (.double A1), .second] [])) t ∧ _
    refine own_go (fun _ => XS.aloadN X29.here hx rfl (hb hby d5_106) rfl rfl) ?_
    have F32 : Fld Z h20 fo "com/example/holdback/holdback/sim/InFlight" "size" "I" (.int (1 : Int32)) := (Fld.other W20 P6 (Or.inl nfi))
    obtain ⟨T33, X33, e33, st33⟩ := getF X29 hx hZ hown (host := "") (Or.inl (hw _ (List.mem_of_getElem? (i := 26) rfl))) Via.refl e29 F32 (g := (mkF m 107 #[.val (.ref fo), .val (.int mb), .val (.long (1 : Int64)), .second, .val (.long (0 : Int64)), .second, .val (.int (0 : Int32)), .val (.int M1), .val (.double A1), .second] [(.ref fo)])) rfl rfl (hb hby d5_107)
    refine own_go st33 ?_
    show ∃ t o, Steps p.tables e below (T33.setTop (mkF m 110 #[.val (.ref fo), .val (.int mb), .val (.long (1 : Int64)), .second, .val (.long (0 : Int64)), .second, .val (.int (0 : Int32)), .val (.int M1), .val (.double A1), .second] [(.int (1 : Int32))])) t ∧ _
    refine own_go (fun _ => XS.ifNo X33.here hx rfl (hb hby d5_110) rfl ((if0 _ _).trans (tlt (by decide : (0 : Int32) < (1 : Int32))).2.2.2)) ?_
    refine own_go (fun _ => XS.aloadN X33.here hx rfl (hb hby d5_113) rfl rfl) ?_
    obtain ⟨T34, X34, e34, st34⟩ := getF X33 hx hZ hown (host := "") (Or.inl (hw _ (List.mem_of_getElem? (i := 15) rfl))) Via.refl e33 F23 (g := (mkF m 114 #[.val (.ref fo), .val (.int mb), .val (.long (1 : Int64)), .second, .val (.long (0 : Int64)), .second, .val (.int (0 : Int32)), .val (.int M1), .val (.double A1), .second] [(.ref fo)])) rfl rfl (hb hby d5_114)
    refine own_go st34 ?_
    show ∃ t o, Steps p.tables e below (T34.setTop (mkF m 117 #[.val (.ref fo), .val (.int mb), .val (.long (1 : Int64)), .second, .val (.long (0 : Int64)), .second, .val (.int (0 : Int32)), .val (.int M1), .val (.double A1), .second] [(.ref ia)])) t ∧ _
    refine own_go (fun _ => XS.aloadN X34.here hx rfl (hb hby d5_117) rfl rfl) ?_
    have F35 : Fld Z h20 fo "com/example/holdback/holdback/sim/InFlight" "first" "I" (.int (0 : Int32)) := (Fld.other W20 P7 (Or.inl nfi))
    obtain ⟨T36, X36, e36, st36⟩ := getF X34 hx hZ hown (host := "") (Or.inl (hw _ (List.mem_of_getElem? (i := 28) rfl))) Via.refl e34 F35 (g := (mkF m 118 #[.val (.ref fo), .val (.int mb), .val (.long (1 : Int64)), .second, .val (.long (0 : Int64)), .second, .val (.int (0 : Int32)), .val (.int M1), .val (.double A1), .second] [(.ref fo), (.ref ia)])) rfl rfl (hb hby d5_118)
    refine own_go st36 ?_
    obtain ⟨cl37, Ar37, q37, S37, N37, H37, G37⟩ := id V20
    have hin37 : ¬ ((0 : Int32) < 0 ∨ cl37.slots.size ≤ ((0 : Int32)).toNatClampNeg) := inb_of S37 ⟨by decide, by decide⟩
    have hat37 : cl37.slots[((0 : Int32)).toNatClampNeg]? = some (.int (M1 ||| ((1 : Int32) <<< (mb &&& 31)))) := Has.at H37 hin37 rfl
    refine own_go (fun _ => X36.iaload hx (j := (0 : Int32)) (v := (.int (M1 ||| ((1 : Int32) <<< (mb &&& 31))))) (by rw [e36]; exact Ar37.1) (State.isArrayOf_alike hZ.alike Ar37.2.1) Ar37.2.2 hin37 hat37 (g := (mkF m 121 #[.val (.ref fo), .val (.int mb), .val (.long (1 : Int64)), .second, .val (.long (0 : Int64)), .second, .val (.int (0 : Int32)), .val (.int M1), .val (.double A1), .second] [(.int (0 : Int32)), (.ref ia)])) rfl rfl (hb hby d5_121) _) ?_
    show ∃ t o, Steps p.tables e below (T36.setTop (mkF m 122 #[.val (.ref fo), .val (.int mb), .val (.long (1 : Int64)), .second, .val (.long (0 : Int64)), .second, .val (.int (0 : Int32)), .val (.int M1), .val (.double A1), .second] [(.int (M1 ||| ((1 : Int32) <<< (mb &&& 31))))])) t ∧ _
    refine own_go (fun _ => XS.aloadN X36.here hx rfl (hb hby d5_122) rfl rfl) ?_
    obtain ⟨T38, X38, e38, st38⟩ := getF X36 hx hZ hown (host := "") (Or.inl (hw _ (List.mem_of_getElem? (i := 19) rfl))) Via.refl e36 F21 (g := (mkF m 123 #[.val (.ref fo), .val (.int mb), .val (.long (1 : Int64)), .second, .val (.long (0 : Int64)), .second, .val (.int (0 : Int32)), .val (.int M1), .val (.double A1), .second] [(.ref fo), (.int (M1 ||| ((1 : Int32) <<< (mb &&& 31))))])) rfl rfl (hb hby d5_123)
    refine own_go st38 ?_
    show ∃ t o, Steps p.tables e below (T38.setTop (mkF m 126 #[.val (.ref fo), .val (.int mb), .val (.long (1 : Int64)), .second, .val (.long (0 : Int64)), .second, .val (.int (0 : Int32)), .val (.int M1), .val (.double A1), .second] [(.int ev), (.int (M1 ||| ((1 : Int32) <<< (mb &&& 31))))])) t ∧ _
    refine own_go (fun _ => XS.icmpNo X38.here hx rfl (hb hby d5_126) rfl (teq hc27).2) ?_
    refine own_go (fun _ => XS.aloadN X38.here hx rfl (hb hby d5_129) rfl rfl) ?_
    refine own_go (fun _ => XS.aloadN X38.here hx rfl (hb hby d5_130) rfl rfl) ?_
    show ∃ t o, Steps p.tables e below (T38.setTop (mkF m 131 #[.val (.ref fo), .val (.int mb), .val (.long (1 : Int64)), .second, .val (.long (0 : Int64)), .second, .val (.int (0 : Int32)), .val (.int M1), .val (.double A1), .second] [(.ref fo), (.ref fo)])) t ∧ _
    obtain ⟨T39, X39, e39, st39⟩ := getF X38 hx hZ hown (host := "") (Or.inl (hw _ (List.mem_of_getElem? (i := 28) rfl))) Via.refl e38 F35 (g := (mkF m 131 #[.val (.ref fo), .val (.int mb), .val (.long (1 : Int64)), .second, .val (.long (0 : Int64)), .second, .val (.int (0 : Int32)), .val (.int M1), .val (.double A1), .second] [(.ref fo), (.ref fo)])) rfl rfl (hb hby d5_131)
    refine own_go st39 ?_
    refine own_go (fun _ => XS.iconst X39.here hx rfl (hb hby d5_134)) ?_
    refine own_go (fun _ => XS.iadd X39.here hx rfl (hb hby d5_135) rfl) ?_
    show ∃ t o, Steps p.tables e below (T39.setTop (mkF m 136 #[.val (.ref fo), .val (.int mb), .val (.long (1 : Int64)), .second, .val (.long (0 : Int64)), .second, .val (.int (0 : Int32)), .val (.int M1), .val (.double A1), .second] [(.int (1 : Int32)), (.ref fo)])) t ∧ _
    refine own_go (fun _ => XS.aloadN X39.here hx rfl (hb hby d5_136) rfl rfl) ?_
    obtain ⟨T40, X40, e40, st40⟩ := getF X39 hx hZ hown (host := "") (Or.inl (hw _ (List.mem_of_getElem? (i := 13) rfl))) Via.refl e39 F28 (g := (mkF m 137 #[.val (.ref fo), .val (.int mb), .val (.long (1 : Int64)), .second, .val (.long (0 : Int64)), .second, .val (.int (0 : Int32)), .val (.int M1), .val (.double A1), .second] [(.ref fo), (.int (1 : Int32)), (.ref fo)])) rfl rfl (hb hby d5_137)
    refine own_go st40 ?_
    obtain ⟨cl41, Ar41, q41, S41, N41, H41, G41⟩ := id F30
    have ln41 : cl41.slots.size.toInt32 = (16 : Int32) := len_of S41 N41
    have al41 := X40.arraylength hx (by rw [e40]; exact Ar41.1) (State.isArrayOf_alike hZ.alike Ar41.2.1) (g := (mkF m 140 #[.val (.ref fo), .val (.int mb), .val (.long (1 : Int64)), .second, .val (.long (0 : Int64)), .second, .val (.int (0 : Int32)), .val (.int M1), .val (.double A1), .second] [(.ref da), (.int (1 : Int32)), (.ref fo)])) rfl rfl (hb hby d5_140)
    rw [ln41] at al41
    refine own_go al41 ?_
    show ∃ t o, Steps p.tables e below (T40.setTop (mkF m 141 #[.val (.ref fo), .val (.int mb), .val (.long (1 : Int64)), .second, .val (.long (0 : Int64)), .second, .val (.int (0 : Int32)), .val (.int M1), .val (.double A1), .second] [(.int (16 : Int32)), (.int (1 : Int32)), (.ref fo)])) t ∧ _
    refine own_go (fun _ => XS.iconst X40.here hx rfl (hb hby d5_141)) ?_
    refine own_go (fun _ => XS.isub X40.here hx rfl (hb hby d5_142) rfl) ?_
    refine own_go (fun _ => XS.iand X40.here hx rfl (hb hby d5_143) rfl) ?_
    show ∃ t o, Steps p.tables e below (T40.setTop (mkF m 144 #[.val (.ref fo), .val (.int mb), .val (.long (1 : Int64)), .second, .val (.long (0 : Int64)), .second, .val (.int (0 : Int32)), .val (.int M1), .val (.double A1), .second] [(.int (1 : Int32)), (.ref fo)])) t ∧ _
    have F42 : Exa Z h20 fo "com/example/holdback/holdback/sim/InFlight" := (Exa.wr W20 P1)
    obtain ⟨T43, h43, X43, e43, W43, st43⟩ := putF X40 hx hZ hown (host := "") (Or.inl (hw _ (List.mem_of_getElem? (i := 28) rfl))) Via.refl e40 F35 F42 (Or.inl (hw _ (List.mem_of_getElem? (i := 29) rfl))) (hw _ (List.mem_of_getElem? (i := 5) rfl)) (ty := .int) (by decide) rfl rfl (g := (mkF m 144 #[.val (.ref fo), .val (.int mb), .val (.long (1 : Int64)), .second, .val (.long (0 : Int64)), .second, .val (.int (0 : Int32)), .val (.int M1), .val (.double A1), .second] [(.int (1 : Int32)), (.ref fo)])) rfl rfl (hb hby d5_144)
    refine own_go st43 ?_
    have le_43 : h20.size ≤ h43.size := Nat.le_of_eq W43.size.symm
    have K43 : Keep h0 h43 [fo, ia] := Keep.wr K20 W43 (Or.inl (List.mem_of_getElem? (i := 0) rfl))
    have N43 := Fr.snoc X43 N20 gf
    have Fw43 := Fld.same W43 F35
    refine own_go (fun _ => XS.aloadN X43.here hx rfl (hb hby d5_147) rfl rfl) ?_
    refine own_go (fun _ => XS.dup X43.here hx rfl (hb hby d5_148) rfl rfl) ?_
    show ∃ t o, Steps p.tables e below (T43.setTop (mkF m 149 #[.val (.ref fo), .val (.int mb), .val (.long (1 : Int64)), .second, .val (.long (0 : Int64)), .second, .val (.int (0 : Int32)), .val (.int M1), .val (.double A1), .second] [(.ref fo), (.ref fo)])) t ∧ _
    have F44 : Fld Z h43 fo "com/example/holdback/holdback/sim/InFlight" "size" "I" (.int (1 : Int32)) := (Fld.other W43 F32 (Or.inr (slot_ne (a0 := a0) (Or.inl (hw _ (List.mem_of_getElem? (i := 27) rfl))) (Or.inl (hw _ (List.mem_of_getElem? (i := 29) rfl))) (by decide) (t := .int) (t' := .int) (by decide) (by decide))))
    obtain ⟨T45, X45, e45, st45⟩ := getF X43 hx hZ hown (host := "") (Or.inl (hw _ (List.mem_of_getElem? (i := 26) rfl))) Via.refl e43 F44 (g := (mkF m 149 #[.val (.ref fo), .val (.int mb), .val (.long (1 : Int64)), .second, .val (.long (0 : Int64)), .second, .val (.int (0 : Int32)), .val (.int M1), .val (.double A1), .second] [(.ref fo), (.ref fo)])) rfl rfl (hb hby d5_149)
    refine own_go st45 ?_
    refine own_go (fun _ => XS.iconst X45.here hx rfl (hb hby d5_152)) ?_
    refine own_go (fun _ => XS.isub X45.here hx rfl (hb hby d5_153) rfl) ?_
    show ∃ t o, Steps p.tables e below (T45.setTop (mkF m 154 #[.val (.ref fo), .val (.int mb), .val (.long (1 : Int64)), .second, .val (.long (0 : Int64)), .second, .val (.int (0 : Int32)), .val (.int M1), .val (.double A1), .second] [(.int (0 : Int32)), (.ref fo)])) t ∧ _
    have F46 : Exa Z h43 fo "com/example/holdback/holdback/sim/InFlight" := (Exa.wr W43 F42)
    obtain ⟨T47, h47, X47, e47, W47, st47⟩ := putF X45 hx hZ hown (host := "") (Or.inl (hw _ (List.mem_of_getElem? (i := 26) rfl))) Via.refl e45 F44 F46 (Or.inl (hw _ (List.mem_of_getElem? (i := 27) rfl))) (hw _ (List.mem_of_getElem? (i := 5) rfl)) (ty := .int) (by decide) rfl rfl (g := (mkF m 154 #[.val (.ref fo), .val (.int mb), .val (.long (1 : Int64)), .second, .val (.long (0 : Int64)), .second, .val (.int (0 : Int32)), .val (.int M1), .val (.double A1), .second] [(.int (0 : Int32)), (.ref fo)])) rfl rfl (hb hby d5_154)
    refine own_go st47 ?_
    have le_47 : h43.size ≤ h47.size := Nat.le_of_eq W47.size.symm
    have K47 : Keep h0 h47 [fo, ia] := Keep.wr K43 W47 (Or.inl (List.mem_of_getElem? (i := 0) rfl))
    have N47 := Fr.snoc X47 N43 gf
    have Fw47 := Fld.same W47 F44
    refine own_go (fun _ => XS.aloadN X47.here hx rfl (hb hby d5_157) rfl rfl) ?_
    refine own_go (fun _ => XS.dup X47.here hx rfl (hb hby d5_158) rfl rfl) ?_
    show ∃ t o, Steps p.tables e below (T47.setTop (mkF m 159 #[.val (.ref fo), .val (.int mb), .val (.long (1 : Int64)), .second, .val (.long (0 : Int64)), .second, .val (.int (0 : Int32)), .val (.int M1), .val (.double A1), .second] [(.ref fo), (.ref fo)])) t ∧ _
    have F48 : Fld Z h47 fo "com/example/holdback/holdback/sim/InFlight" "firstSeq" "J" (.long (1 : Int64)) := (Fld.other W47 (Fld.other W43 (Fld.other W20 P4 (Or.inl nfi)) (Or.inr (slot_ne (a0 := a0) (Or.inl (hw _ (List.mem_of_getElem? (i := 18) rfl))) (Or.inl (hw _ (List.mem_of_getElem? (i := 29) rfl))) (by decide) (t := .long) (t' := .int) (by decide) (by decide)))) (Or.inr (slot_ne (a0 := a0) (Or.inl (hw _ (List.mem_of_getElem? (i := 18) rfl))) (Or.inl (hw _ (List.mem_of_getElem? (i := 27) rfl))) (by decide) (t := .long) (t' := .int) (by decide) (by decide))))
    obtain ⟨T49, X49, e49, st49⟩ := getF X47 hx hZ hown (host := "") (Or.inl (hw _ (List.mem_of_getElem? (i := 17) rfl))) Via.refl e47 F48 (g := (mkF m 159 #[.val (.ref fo), .val (.int mb), .val (.long (1 : Int64)), .second, .val (.long (0 : Int64)), .second, .val (.int (0 : Int32)), .val (.int M1), .val (.double A1), .second] [(.ref fo), (.ref fo)])) rfl rfl (hb hby d5_159)
    refine own_go st49 ?_
    refine own_go (fun _ => XS.lconst X49.here hx rfl (hb hby d5_162)) ?_
    refine own_go (fun _ => XS.ladd X49.here hx rfl (hb hby d5_163) rfl) ?_
    show ∃ t o, Steps p.tables e below (T49.setTop (mkF m 164 #[.val (.ref fo), .val (.int mb), .val (.long (1 : Int64)), .second, .val (.long (0 : Int64)), .second, .val (.int (0 : Int32)), .val (.int M1), .val (.double A1), .second] [(.long (2 : Int64)), (.ref fo)])) t ∧ _
    have F50 : Exa Z h47 fo "com/example/holdback/holdback/sim/InFlight" := (Exa.wr W47 F46)
    obtain ⟨T51, h51, X51, e51, W51, st51⟩ := putF X49 hx hZ hown (host := "") (Or.inl (hw _ (List.mem_of_getElem? (i := 17) rfl))) Via.refl e49 F48 F50 (Or.inl (hw _ (List.mem_of_getElem? (i := 18) rfl))) (hw _ (List.mem_of_getElem? (i := 5) rfl)) (ty := .long) (by decide) rfl rfl (g := (mkF m 164 #[.val (.ref fo), .val (.int mb), .val (.long (1 : Int64)), .second, .val (.long (0 : Int64)), .second, .val (.int (0 : Int32)), .val (.int M1), .val (.double A1), .second] [(.long (2 : Int64)), (.ref fo)])) rfl rfl (hb hby d5_164)
    refine own_go st51 ?_
    have le_51 : h47.size ≤ h51.size := Nat.le_of_eq W51.size.symm
    have K51 : Keep h0 h51 [fo, ia] := Keep.wr K47 W51 (Or.inl (List.mem_of_getElem? (i := 0) rfl))
    have N51 := Fr.snoc X51 N47 gf
    have Fw51 := Fld.same W51 F48
    refine own_go (fun _ => XS.goto X51.here hx rfl (pc0 := 167) (pc' := 106) rfl (hb hby d5_167) (by decide) (by decide)) ?_
    refine own_go (fun _ => XS.aloadN X51.here hx rfl (hb hby d5_106) rfl rfl) ?_
    show ∃ t o, Steps p.tables e below (T51.setTop (mkF m 107 #[.val (.ref fo), .val (.int mb), .val (.long (1 : Int64)), .second, .val (.long (0 : Int64)), .second, .val (.int (0 : Int32)), .val (.int M1), .val (.double A1), .second] [(.ref fo)])) t ∧ _
    have F52 : Fld Z h51 fo "com/example/holdback/holdback/sim/InFlight" "size" "I" (.int (0 : Int32)) := (Fld.other W51 Fw47 (Or.inr (slot_ne (a0 := a0) (Or.inl (hw _ (List.mem_of_getElem? (i := 27) rfl))) (Or.inl (hw _ (List.mem_of_getElem? (i := 18) rfl))) (by decide) (t := .int) (t' := .long) (by decide) (by decide))))
    obtain ⟨T53, X53, e53, st53⟩ := getF X51 hx hZ hown (host := "") (Or.inl (hw _ (List.mem_of_getElem? (i := 26) rfl))) Via.refl e51 F52 (g := (mkF m 107 #[.val (.ref fo), .val (.int mb), .val (.long (1 : Int64)), .second, .val (.long (0 : Int64)), .second, .val (.int (0 : Int32)), .val (.int M1), .val (.double A1), .second] [(.ref fo)])) rfl rfl (hb hby d5_107)
    refine own_go st53 ?_
    show ∃ t o, Steps p.tables e below (T53.setTop (mkF m 110 #[.val (.ref fo), .val (.int mb), .val (.long (1 : Int64)), .second, .val (.long (0 : Int64)), .second, .val (.int (0 : Int32)), .val (.int M1), .val (.double A1), .second] [(.int (0 : Int32))])) t ∧ _
    refine own_go (fun _ => XS.ifYes X53.here hx rfl (pc0 := 110) (pc' := 170) rfl (hb hby d5_110) rfl ((if0 _ _).trans (flt (by decide : ¬ ((0 : Int32) < (0 : Int32)))).2.2.2) (by decide) (by decide)) ?_
    refine own_go (fun _ => XS.dload X53.here hx rfl (hb hby d5_170) rfl) ?_
    show ∃ t o, Steps p.tables e below (T53.setTop (mkF m 172 #[.val (.ref fo), .val (.int mb), .val (.long (1 : Int64)), .second, .val (.long (0 : Int64)), .second, .val (.int (0 : Int32)), .val (.int M1), .val (.double A1), .second] [(.double A1)])) t ∧ _
    have F54 : Exa Z h51 fo "com/example/holdback/holdback/sim/InFlight" := (Exa.wr W51 F50)
    have F55 : Fld Z h51 fo "com/example/holdback/holdback/sim/InFlight" "multicastAt" "[D" (.ref da) := (Fld.other W51 (Fld.other W47 (Fld.other W43 F28 (Or.inr (slot_ne (a0 := a0) (Or.inl (hw _ (List.mem_of_getElem? (i := 14) rfl))) (Or.inl (hw _ (List.mem_of_getElem? (i := 29) rfl))) (by decide) (t := (.array .double)) (t' := .int) (by decide) (by decide)))) (Or.inr (slot_ne (a0 := a0) (Or.inl (hw _ (List.mem_of_getElem? (i := 14) rfl))) (Or.inl (hw _ (List.mem_of_getElem? (i := 27) rfl))) (by decide) (t := (.array .double)) (t' := .int) (by decide) (by decide)))) (Or.inr (slot_ne (a0 := a0) (Or.inl (hw _ (List.mem_of_getElem? (i := 14) rfl))) (Or.inl (hw _ (List.mem_of_getElem? (i := 18) rfl))) (by decide) (t := (.array .double)) (t' := .long) (by decide) (by decide))))
    have F56 : Fld Z h51 fo "com/example/holdback/holdback/sim/InFlight" "deliveredBy" "[I" (.ref ia) := (Fld.other W51 (Fld.other W47 (Fld.other W43 F23 (Or.inr (slot_ne (a0 := a0) (Or.inl (hw _ (List.mem_of_getElem? (i := 16) rfl))) (Or.inl (hw _ (List.mem_of_getElem? (i := 29) rfl))) (by decide) (t := (.array .int)) (t' := .int) (by decide) (by decide)))) (Or.inr (slot_ne (a0 := a0) (Or.inl (hw _ (List.mem_of_getElem? (i := 16) rfl))) (Or.inl (hw _ (List.mem_of_getElem? (i := 27) rfl))) (by decide) (t := (.array .int)) (t' := .int) (by decide) (by decide)))) (Or.inr (slot_ne (a0 := a0) (Or.inl (hw _ (List.mem_of_getElem? (i := 16) rfl))) (Or.inl (hw _ (List.mem_of_getElem? (i := 18) rfl))) (by decide) (t := (.array .int)) (t' := .long) (by decide) (by decide))))
    have F57 : Fld Z h51 fo "com/example/holdback/holdback/sim/InFlight" "everyone" "I" (.int ev) := (Fld.other W51 (Fld.other W47 (Fld.other W43 F21 (Or.inr (slot_ne (a0 := a0) (Or.inr (hw _ (List.mem_of_getElem? (i := 20) rfl))) (Or.inl (hw _ (List.mem_of_getElem? (i := 29) rfl))) (by decide) (t := .int) (t' := .int) (by decide) (by decide)))) (Or.inr (slot_ne (a0 := a0) (Or.inr (hw _ (List.mem_of_getElem? (i := 20) rfl))) (Or.inl (hw _ (List.mem_of_getElem? (i := 27) rfl))) (by decide) (t := .int) (t' := .int) (by decide) (by decide)))) (Or.inr (slot_ne (a0 := a0) (Or.inr (hw _ (List.mem_of_getElem? (i := 20) rfl))) (Or.inl (hw _ (List.mem_of_getElem? (i := 18) rfl))) (by decide) (t := .int) (t' := .long) (by decide) (by decide))))
    have F58 : Fld Z h51 fo "com/example/holdback/holdback/sim/InFlight" "first" "I" (.int (1 : Int32)) := (Fld.other W51 (Fld.other W47 Fw43 (Or.inr (slot_ne (a0 := a0) (Or.inl (hw _ (List.mem_of_getElem? (i := 29) rfl))) (Or.inl (hw _ (List.mem_of_getElem? (i := 27) rfl))) (by decide) (t := .int) (t' := .int) (by decide) (by decide)))) (Or.inr (slot_ne (a0 := a0) (Or.inl (hw _ (List.mem_of_getElem? (i := 29) rfl))) (Or.inl (hw _ (List.mem_of_getElem? (i := 18) rfl))) (by decide) (t := .int) (t' := .long) (by decide) (by decide))))
    have F59 : Arv Z h51 ia ki .int (16 : Int32) [(.int (M1 ||| ((1 : Int32) <<< (mb &&& 31)))), (.int M2)] (.int (0 : Int32)) := (Arv.other (Arv.other (Arv.other V20 W43 nif) W47 nif) W51 nif)
    obtain ⟨fs, hr, hrun, hended, hW, hsame⟩ := X53.leave (v := some (.double A1)) (fun h => by rw [Bd.returns] at h; cases h)
    refine ⟨_, _, ?_, hrun, hended, _, _, rfl, ?_, ⟨_, rfl⟩, hW, hsame.mono (by decide) (by decide)⟩
    · jvm_step X53.here [X53.here.top, hx, (hb hby d5_172), X53.method', Bd.returns, narrow]
      first | (intro acts; rw [hr _ acts rfl rfl rfl]) | rw [hr _ _ rfl rfl rfl]
      exact Steps.refl _
    · show Q_rmV1 Z _ _ _ _ _ _ _ _ _ _ _ h0 n0 _ T53.heap _
      rw [e53]
      exact ⟨A1, (1 : Int32), (0 : Int32), (2 : Int64), rfl, N51, K51, F54, F55, F56, Fw51, F57, F52, F58, F59, (by simp [hM, hc27]), (by simp [own_inv, hM, hc27])⟩
  · refine own_go (fun _ => XS.icmpNo X26.here hx rfl (hb hby d5_90) rfl (feq hc27).1) ?_
    refine own_go (fun _ => X26.ldc2DoubleC hx hown (mvT hZ (hw _ (List.mem_of_getElem? (i := 39) rfl))) (g := (mkF m 93 #[.val (.ref fo), .val (.int mb), .val (.long (1 : Int64)), .second, .val (.long (0 : Int64)), .second, .val (.int (0 : Int32)), .val (.int M1), .unset, .unset] [])) rfl (hb hby d5_93) _) ?_
    show ∃ t o, Steps p.tables e below (T26.setTop (mkF m 96 #[.val (.ref fo), .val (.int mb), .val (.long (1 : Int64)), .second, .val (.long (0 : Int64)), .second, .val (.int (0 : Int32)), .val (.int M1), .unset, .unset] [(.double (13830554455654793216 : UInt64))])) t ∧ _
    have F60 : Exa Z h20 fo "com/example/holdback/holdback/sim/InFlight" := (Exa.wr W20 P1)
    have F61 : Fld Z h20 fo "com/example/holdback/holdback/sim/InFlight" "multicastAt" "[D" (.ref da) := (Fld.other W20 P2 (Or.inl nfi))
    have F62 : Fld Z h20 fo "com/example/holdback/holdback/sim/InFlight" "firstSeq" "J" (.long (1 : Int64)) := (Fld.other W20 P4 (Or.inl nfi))
    have F63 : Fld Z h20 fo "com/example/holdback/holdback/sim/InFlight" "size" "I" (.int (1 : Int32)) := (Fld.other W20 P6 (Or.inl nfi))
    have F64 : Fld Z h20 fo "com/example/holdback/holdback/sim/InFlight" "first" "I" (.int (0 : Int32)) := (Fld.other W20 P7 (Or.inl nfi))
    obtain ⟨fs, hr, hrun, hended, hW, hsame⟩ := X26.leave (v := some (.double (13830554455654793216 : UInt64))) (fun h => by rw [Bd.returns] at h; cases h)
    refine ⟨_, _, ?_, hrun, hended, _, _, rfl, ?_, ⟨_, rfl⟩, hW, hsame.mono (by decide) (by decide)⟩
    · jvm_step X26.here [X26.here.top, hx, (hb hby d5_96), X26.method', Bd.returns, narrow]
      first | (intro acts; rw [hr _ acts rfl rfl rfl]) | rw [hr _ _ rfl rfl rfl]
      exact Steps.refl _
    · show Q_rmV1 Z _ _ _ _ _ _ _ _ _ _ _ h0 n0 _ T26.heap _
      rw [e26]
      exact ⟨(13830554455654793216 : UInt64), (0 : Int32), (1 : Int32), (1 : Int64), rfl, N20, K20, F60, F61, F23, F62, F21, F63, F64, V20, (by simp [hM, hc27]), (by simp [own_inv, hM, hc27])⟩
theorem ef_rmV2 (m : MethodId) (x0 : Nat) (x1 : Int32) (x2 : Int64) : entryFrame m #[(.ref x0), (.int x1), (.long x2)] 10 = mkF m 0 #[.val (.ref x0), .val (.int x1), .val (.long x2), .second, .unset, .unset, .unset, .unset, .unset, .unset] [] := by first | (simp [entryFrame, mkF, argsToLocals, Value.category]; done) | rfl
def Q_rmV2 (Z : State) (fo : Nat) (da : Nat) (ia : Nat) (kd : ClassId) (ki : ClassId) (ev : Int32) (M1 : Int32) (M2 : Int32) (A1 : UInt64) (A2 : UInt64) (mb : Int32) (h0 : Heap) (n0 : Nat) (v : Option Value) (h : Heap) (L : List Loc) : Prop := ∃ (rr : UInt64), ∃ (fi2 : Int32), ∃ (sz2 : Int32), ∃ (fq2 : Int64), v = some (.double rr) ∧ Fr n0 L ∧ Keep h0 h [fo, ia] ∧ Exa Z h fo "com/example/holdback/holdback/sim/InFlight" ∧ Fld Z h fo "com/example/holdback/holdback/sim/InFlight" "multicastAt" "[D" (.ref da) ∧ Fld Z h fo "com/example/holdback/holdback/sim/InFlight" "deliveredBy" "[I" (.ref ia) ∧ Fld Z h fo "com/example/holdback/holdback/sim/InFlight" "firstSeq" "J" (.long fq2) ∧ Fld Z h fo "com/example/holdback/holdback/sim/InFlight" "everyone" "I" (.int ev) ∧ Fld Z h fo "com/example/holdback/holdback/sim/InFlight" "size" "I" (.int sz2) ∧ Fld Z h fo "com/example/holdback/holdback/sim/InFlight" "first" "I" (.int fi2) ∧ Arv Z h ia ki .int (16 : Int32) [(.int (M1 ||| ((1 : Int32) <<< (mb &&& 31)))), (.int M2)] (.int (0 : Int32)) ∧ (rr = (if ¬ (M1 = ev) ∧ (M1 ||| ((1 : Int32) <<< (mb &&& 31))) = ev then A1 else (13830554455654793216 : UInt64))) ∧ (own_inv (2 : Int32) ev fi2 sz2 fq2 (M1 ||| ((1 : Int32) <<< (mb &&& 31))) M2)
set_option maxRecDepth 65536 in
set_option maxHeartbeats 40000000 in
theorem rmV2 (l : Launch) (Z : State) (a0 : Array Value) (hw : ∀ d ∈ tables_1, d.before a0 Z = true) (ws : List Jvm.Cond) (fo : Nat) (da : Nat) (ia : Nat) (kd : ClassId) (ki : ClassId) (ev : Int32) (M1 : Int32) (M2 : Int32) (A1 : UInt64) (A2 : UInt64) (mb : Int32) (h0 : Heap) (n0 : Nat) (Z0 : n0 ≤ h0.size) (P1 : Exa Z h0 fo "com/example/holdback/holdback/sim/InFlight") (P2 : Fld Z h0 fo "com/example/holdback/holdback/sim/InFlight" "multicastAt" "[D" (.ref da)) (P3 : Fld Z h0 fo "com/example/holdback/holdback/sim/InFlight" "deliveredBy" "[I" (.ref ia)) (P4 : Fld Z h0 fo "com/example/holdback/holdback/sim/InFlight" "firstSeq" "J" (.long (1 : Int64))) (P5 : Fld Z h0 fo "com/example/holdback/holdback/sim/InFlight" "everyone" "I" (.int ev)) (P6 : Fld Z h0 fo "com/example/holdback/holdback/sim/InFlight" "size" "I" (.int (2 : Int32))) (P7 : Fld Z h0 fo "com/example/holdback/holdback/sim/InFlight" "first" "I" (.int (0 : Int32))) (P8 : Arv Z h0 da kd .double (16 : Int32) [(.double A1), (.double A2)] (.double (0 : UInt64))) (P9 : Arv Z h0 ia ki .int (16 : Int32) [(.int M1), (.int M2)] (.int (0 : Int32))) (OLD : Old Z n0 h0) (gf : n0 ≤ fo) (gd : n0 ≤ da) (gi : n0 ≤ ia) (nfd : fo ≠ da) (nfi : fo ≠ ia) (ndi : da ≠ ia) (ndf : da ≠ fo) (nif : ia ≠ fo) (nid : ia ≠ da) (hM : ¬ (M1 = ev)) :
    MetFree l (⟨"com/example/holdback/holdback/sim/InFlight", "delivered", "(IJ)D"⟩ : MethodName) (head1 (Jvm.Cond.code (⟨"com/example/holdback/holdback/sim/InFlight", "delivered", "(IJ)D"⟩ : MethodName) prog_167_method_3_code 10 (some .double) :: ws) ({ frames := 0, cells := 0, slots := 0, locals := 0 } : Room)) (fun a U => a = #[(.ref fo), (.int mb), (.long (1 : Int64))] ∧ Z.Warmed39 U.vm ∧ U.heap = h0) (fun _ _ _ _ _ => True) (fun _ U o U' => ∃ v L, o = .returned v ∧ Q_rmV2 Z fo da ia kd ki ev M1 M2 A1 A2 mb h0 n0 v U'.heap L ∧ FrameEnd U o U' L ({ frames := 0, cells := 0, slots := 0, locals := 0 } : Room).cells ({ frames := 0, cells := 0, slots := 0, locals := 0 } : Room).slots) := by
  refine MetFree.of_bodySF (plainFor_of_name pn_com_example_holdback_holdback_sim_InFlight) hisR ?_
  intro p e s m args below meth c s₁ Bd hml0 hP hK
  obtain ⟨rfl, hZ, hh⟩ := hP
  have hx := Bd.exec
  have hby := Bd.bytes
  have hml : c.maxLocals = 10 := hml0
  have hown : s.vm.findClass "com/example/holdback/holdback/sim/InFlight" = some m.cls := findClass_of_methodNamed Bd.named
  have hnm := (name_of_methodNamed Bd.named Bd.method).1
  have X0 : Stand p l e ({ frames := 0, cells := 0, slots := 0, locals := 0 } : Room) s m #[(.ref fo), (.int mb), (.long (1 : Int64))] below meth c s₁ [] 0 0 := Stand.of_body Bd
  have e0 : s₁.heap = h0 := by rw [← hh, Bd.state]; rfl
  have N0 := Fr.nil n0
  have pre0 : ∀ t, Steps p.tables e below (s₁.setTop (mkF m 0 #[.val (.ref fo), .val (.int mb), .val (.long (1 : Int64)), .second, .unset, .unset, .unset, .unset, .unset, .unset] [])) t → Steps p.tables e below (s₁.setTop (entryFrame m #[(.ref fo), (.int mb), (.long (1 : Int64))] 10)) t := fun t k => castTop (ef_rmV2 m fo mb (1 : Int64)) k
  have oz := OLD.1
  have lt_da : da < h0.size := P8.lt
  have lt_fo : fo < h0.size := P1.lt
  have lt_ia : ia < h0.size := P9.lt
  refine own_go (B := s₁.setTop (mkF m 0 #[.val (.ref fo), .val (.int mb), .val (.long (1 : Int64)), .second, .unset, .unset, .unset, .unset, .unset, .unset] [])) pre0 ?_
  show ∃ t o, Steps p.tables e below (s₁.setTop (mkF m 0 #[.val (.ref fo), .val (.int mb), .val (.long (1 : Int64)), .second, .unset, .unset, .unset, .unset, .unset, .unset] [])) t ∧ _
  refine own_go (fun _ => XS.lloadN X0.here hx rfl (hb hby d5_0) rfl) ?_
  refine own_go (fun _ => XS.aloadN X0.here hx rfl (hb hby d5_1) rfl rfl) ?_
  obtain ⟨T10, X10, e10, st10⟩ := getF X0 hx hZ hown (host := "") (Or.inl (hw _ (List.mem_of_getElem? (i := 17) rfl))) Via.refl e0 P4 (g := (mkF m 2 #[.val (.ref fo), .val (.int mb), .val (.long (1 : Int64)), .second, .unset, .unset, .unset, .unset, .unset, .unset] [(.ref fo), (.long (1 : Int64))])) rfl rfl (hb hby d5_2)
  refine own_go st10 ?_
  show ∃ t o, Steps p.tables e below (T10.setTop (mkF m 5 #[.val (.ref fo), .val (.int mb), .val (.long (1 : Int64)), .second, .unset, .unset, .unset, .unset, .unset, .unset] [(.long (1 : Int64)), (.long (1 : Int64))])) t ∧ _
  refine own_go (fun _ => XS.lsub X10.here hx rfl (hb hby d5_5) rfl) ?_
  refine own_go (fun _ => XS.lstore X10.here hx rfl (hb hby d5_6) rfl (l' := #[.val (.ref fo), .val (.int mb), .val (.long (1 : Int64)), .second, .val (.long (0 : Int64)), .second, .unset, .unset, .unset, .unset]) rfl) ?_
  refine own_go (fun _ => XS.lload X10.here hx rfl (hb hby d5_8) rfl) ?_
  show ∃ t o, Steps p.tables e below (T10.setTop (mkF m 10 #[.val (.ref fo), .val (.int mb), .val (.long (1 : Int64)), .second, .val (.long (0 : Int64)), .second, .unset, .unset, .unset, .unset] [(.long (0 : Int64))])) t ∧ _
  refine own_go (fun _ => XS.lconst X10.here hx rfl (hb hby d5_10)) ?_
  refine own_go (fun _ => XS.lcmp X10.here hx rfl (hb hby d5_11) rfl) ?_
  show ∃ t o, Steps p.tables e below (T10.setTop (mkF m 12 #[.val (.ref fo), .val (.int mb), .val (.long (1 : Int64)), .second, .val (.long (0 : Int64)), .second, .unset, .unset, .unset, .unset] [(.int (lcmpW (0 : Int64) (0 : Int64)))])) t ∧ _
  refine own_go (fun _ => XS.ifNo X10.here hx rfl (hb hby d5_12) rfl ((if0 _ _).trans (flt (mt (lw_lt _ _).mp (by decide : ¬ ((0 : Int64) < (0 : Int64))))).1)) ?_
  refine own_go (fun _ => XS.lload X10.here hx rfl (hb hby d5_15) rfl) ?_
  refine own_go (fun _ => XS.aloadN X10.here hx rfl (hb hby d5_17) rfl rfl) ?_
  show ∃ t o, Steps p.tables e below (T10.setTop (mkF m 18 #[.val (.ref fo), .val (.int mb), .val (.long (1 : Int64)), .second, .val (.long (0 : Int64)), .second, .unset, .unset, .unset, .unset] [(.ref fo), (.long (0 : Int64))])) t ∧ _
  obtain ⟨T11, X11, e11, st11⟩ := getF X10 hx hZ hown (host := "") (Or.inl (hw _ (List.mem_of_getElem? (i := 26) rfl))) Via.refl e10 P6 (g := (mkF m 18 #[.val (.ref fo), .val (.int mb), .val (.long (1 : Int64)), .second, .val (.long (0 : Int64)), .second, .unset, .unset, .unset, .unset] [(.ref fo), (.long (0 : Int64))])) rfl rfl (hb hby d5_18)
  refine own_go st11 ?_
  refine own_go (fun _ => XS.i2l X11.here hx rfl (hb hby d5_21) rfl) ?_
  refine own_go (fun _ => XS.lcmp X11.here hx rfl (hb hby d5_22) rfl) ?_
  show ∃ t o, Steps p.tables e below (T11.setTop (mkF m 23 #[.val (.ref fo), .val (.int mb), .val (.long (1 : Int64)), .second, .val (.long (0 : Int64)), .second, .unset, .unset, .unset, .unset] [(.int (lcmpW (0 : Int64) (2 : Int64)))])) t ∧ _
  refine own_go (fun _ => XS.ifYes X11.here hx rfl (pc0 := 23) (pc' := 30) rfl (hb hby d5_23) rfl ((if0 _ _).trans (tlt ((lw_lt _ _).mpr (by decide : (0 : Int64) < (2 : Int64)))).1) (by decide) (by decide)) ?_
  refine own_go (fun _ => XS.aloadN X11.here hx rfl (hb hby d5_30) rfl rfl) ?_
  obtain ⟨T12, X12, e12, st12⟩ := getF X11 hx hZ hown (host := "") (Or.inl (hw _ (List.mem_of_getElem? (i := 28) rfl))) Via.refl e11 P7 (g := (mkF m 31 #[.val (.ref fo), .val (.int mb), .val (.long (1 : Int64)), .second, .val (.long (0 : Int64)), .second, .unset, .unset, .unset, .unset] [(.ref fo)])) rfl rfl (hb hby d5_31)
  refine own_go st12 ?_
  show ∃ t o, Steps p.tables e below (T12.setTop (mkF m 34 #[.val (.ref fo), .val (.int mb), .val (.long (1 : Int64)), .second, .val (.long (0 : Int64)), .second, .unset, .unset, .unset, .unset] [(.int (0 : Int32))])) t ∧ _
  refine own_go (fun _ => XS.lload X12.here hx rfl (hb hby d5_34) rfl) ?_
  refine own_go (fun _ => XS.l2i X12.here hx rfl (hb hby d5_36) rfl) ?_
  refine own_go (fun _ => XS.iadd X12.here hx rfl (hb hby d5_37) rfl) ?_
  show ∃ t o, Steps p.tables e below (T12.setTop (mkF m 38 #[.val (.ref fo), .val (.int mb), .val (.long (1 : Int64)), .second, .val (.long (0 : Int64)), .second, .unset, .unset, .unset, .unset] [(.int (0 : Int32))])) t ∧ _
  refine own_go (fun _ => XS.aloadN X12.here hx rfl (hb hby d5_38) rfl rfl) ?_
  obtain ⟨T13, X13, e13, st13⟩ := getF X12 hx hZ hown (host := "") (Or.inl (hw _ (List.mem_of_getElem? (i := 13) rfl))) Via.refl e12 P2 (g := (mkF m 39 #[.val (.ref fo), .val (.int mb), .val (.long (1 : Int64)), .second, .val (.long (0 : Int64)), .second, .unset, .unset, .unset, .unset] [(.ref fo), (.int (0 : Int32))])) rfl rfl (hb hby d5_39)
  refine own_go st13 ?_
  obtain ⟨cl14, Ar14, q14, S14, N14, H14, G14⟩ := id P8
  have ln14 : cl14.slots.size.toInt32 = (16 : Int32) := len_of S14 N14
  have al14 := X13.arraylength hx (by rw [e13]; exact Ar14.1) (State.isArrayOf_alike hZ.alike Ar14.2.1) (g := (mkF m 42 #[.val (.ref fo), .val (.int mb), .val (.long (1 : Int64)), .second, .val (.long (0 : Int64)), .second, .unset, .unset, .unset, .unset] [(.ref da), (.int (0 : Int32))])) rfl rfl (hb hby d5_42)
  rw [ln14] at al14
  refine own_go al14 ?_
  show ∃ t o, Steps p.tables e below (T13.setTop (mkF m 43 #[.val (.ref fo), .val (.int mb), .val (.long (1 : Int64)), .second, .val (.long (0 : Int64)), .second, .unset, .unset, .unset, .unset] [(.int (16 : Int32)), (.int (0 : Int32))])) t ∧ _
  refine own_go (fun _ => XS.iconst X13.here hx rfl (hb hby d5_43)) ?_
  refine own_go (fun _ => XS.isub X13.here hx rfl (hb hby d5_44) rfl) ?_
  refine own_go (fun _ => XS.iand X13.here hx rfl (hb hby d5_45) rfl) ?_
  show ∃ t o, Steps p.tables e below (T13.setTop (mkF m 46 #[.val (.ref fo), .val (.int mb), .val (.long (1 : Int64)), .second, .val (.long (0 : Int64)), .second, .unset, .unset, .unset, .unset] [(.int (0 : Int32))])) t ∧ _
  refine own_go (fun _ => XS.istore X13.here hx rfl (hb hby d5_46) rfl (l' := #[.val (.ref fo), .val (.int mb), .val (.long (1 : Int64)), .second, .val (.long (0 : Int64)), .second, .val (.int (0 : Int32)), .unset, .unset, .unset]) rfl) ?_
  refine own_go (fun _ => XS.aloadN X13.here hx rfl (hb hby d5_48) rfl rfl) ?_
  obtain ⟨T15, X15, e15, st15⟩ := getF X13 hx hZ hown (host := "") (Or.inl (hw _ (List.mem_of_getElem? (i := 15) rfl))) Via.refl e13 P3 (g := (mkF m 49 #[.val (.ref fo), .val (.int mb), .val (.long (1 : Int64)), .second, .val (.long (0 : Int64)), .second, .val (.int (0 : Int32)), .unset, .unset, .unset] [(.ref fo)])) rfl rfl (hb hby d5_49)
  refine own_go st15 ?_
  show ∃ t o, Steps p.tables e below (T15.setTop (mkF m 52 #[.val (.ref fo), .val (.int mb), .val (.long (1 : Int64)), .second, .val (.long (0 : Int64)), .second, .val (.int (0 : Int32)), .unset, .unset, .unset] [(.ref ia)])) t ∧ _
  refine own_go (fun _ => XS.iload X15.here hx rfl (hb hby d5_52) rfl) ?_
  obtain ⟨cl16, Ar16, q16, S16, N16, H16, G16⟩ := id P9
  have hin16 : ¬ ((0 : Int32) < 0 ∨ cl16.slots.size ≤ ((0 : Int32)).toNatClampNeg) := inb_of S16 ⟨by decide, by decide⟩
  have hat16 : cl16.slots[((0 : Int32)).toNatClampNeg]? = some (.int M1) := Has.at H16 hin16 rfl
  refine own_go (fun _ => X15.iaload hx (j := (0 : Int32)) (v := (.int M1)) (by rw [e15]; exact Ar16.1) (State.isArrayOf_alike hZ.alike Ar16.2.1) Ar16.2.2 hin16 hat16 (g := (mkF m 54 #[.val (.ref fo), .val (.int mb), .val (.long (1 : Int64)), .second, .val (.long (0 : Int64)), .second, .val (.int (0 : Int32)), .unset, .unset, .unset] [(.int (0 : Int32)), (.ref ia)])) rfl rfl (hb hby d5_54) _) ?_
  refine own_go (fun _ => XS.istore X15.here hx rfl (hb hby d5_55) rfl (l' := #[.val (.ref fo), .val (.int mb), .val (.long (1 : Int64)), .second, .val (.long (0 : Int64)), .second, .val (.int (0 : Int32)), .val (.int M1), .unset, .unset]) rfl) ?_
  show ∃ t o, Steps p.tables e below (T15.setTop (mkF m 57 #[.val (.ref fo), .val (.int mb), .val (.long (1 : Int64)), .second, .val (.long (0 : Int64)), .second, .val (.int (0 : Int32)), .val (.int M1), .unset, .unset] [])) t ∧ _
  refine own_go (fun _ => XS.aloadN X15.here hx rfl (hb hby d5_57) rfl rfl) ?_
  obtain ⟨T17, X17, e17, st17⟩ := getF X15 hx hZ hown (host := "") (Or.inl (hw _ (List.mem_of_getElem? (i := 15) rfl))) Via.refl e15 P3 (g := (mkF m 58 #[.val (.ref fo), .val (.int mb), .val (.long (1 : Int64)), .second, .val (.long (0 : Int64)), .second, .val (.int (0 : Int32)), .val (.int M1), .unset, .unset] [(.ref fo)])) rfl rfl (hb hby d5_58)
  refine own_go st17 ?_
  refine own_go (fun _ => XS.iload X17.here hx rfl (hb hby d5_61) rfl) ?_
  show ∃ t o, Steps p.tables e below (T17.setTop (mkF m 63 #[.val (.ref fo), .val (.int mb), .val (.long (1 : Int64)), .second, .val (.long (0 : Int64)), .second, .val (.int (0 : Int32)), .val (.int M1), .unset, .unset] [(.int (0 : Int32)), (.ref ia)])) t ∧ _
  refine own_go (fun _ => Jvm.Free.XT.dup2 X17.here hx rfl (hb hby d5_63) rfl rfl rfl) ?_
  obtain ⟨cl18, Ar18, q18, S18, N18, H18, G18⟩ := id P9
  have hin18 : ¬ ((0 : Int32) < 0 ∨ cl18.slots.size ≤ ((0 : Int32)).toNatClampNeg) := inb_of S18 ⟨by decide, by decide⟩
  have hat18 : cl18.slots[((0 : Int32)).toNatClampNeg]? = some (.int M1) := Has.at H18 hin18 rfl
  refine own_go (fun _ => X17.iaload hx (j := (0 : Int32)) (v := (.int M1)) (by rw [e17]; exact Ar18.1) (State.isArrayOf_alike hZ.alike Ar18.2.1) Ar18.2.2 hin18 hat18 (g := (mkF m 64 #[.val (.ref fo), .val (.int mb), .val (.long (1 : Int64)), .second, .val (.long (0 : Int64)), .second, .val (.int (0 : Int32)), .val (.int M1), .unset, .unset] [(.int (0 : Int32)), (.ref ia), (.int (0 : Int32)), (.ref ia)])) rfl rfl (hb hby d5_64) _) ?_
  refine own_go (fun _ => XS.iconst X17.here hx rfl (hb hby d5_65)) ?_
  show ∃ t o, Steps p.tables e below (T17.setTop (mkF m 66 #[.val (.ref fo), .val (.int mb), .val (.long (1 : Int64)), .second, .val (.long (0 : Int64)), .second, .val (.int (0 : Int32)), .val (.int M1), .unset, .unset] [(.int (1 : Int32)), (.int M1), (.int (0 : Int32)), (.ref ia)])) t ∧ _
  refine own_go (fun _ => XS.iloadN X17.here hx rfl (hb hby d5_66) rfl) ?_
  refine own_go (fun _ => XS.ishl X17.here hx rfl (hb hby d5_67) rfl) ?_
  refine own_go (fun _ => XS.ior X17.here hx rfl (hb hby d5_68) rfl) ?_
  show ∃ t o, Steps p.tables e below (T17.setTop (mkF m 69 #[.val (.ref fo), .val (.int mb), .val (.long (1 : Int64)), .second, .val (.long (0 : Int64)), .second, .val (.int (0 : Int32)), .val (.int M1), .unset, .unset] [(.int (M1 ||| ((1 : Int32) <<< (mb &&& 31)))), (.int (0 : Int32)), (.ref ia)])) t ∧ _
  obtain ⟨cl19, Ar19, q19, S19, N19, H19, G19⟩ := id P9
  have hin19 : ¬ ((0 : Int32) < 0 ∨ cl19.slots.size ≤ ((0 : Int32)).toNatClampNeg) := inb_of S19 ⟨by decide, by decide⟩
  obtain ⟨T20, h20, X20, e20, W20, st20⟩ := stI X17 hx hZ e17 Ar19 (j := (0 : Int32)) hin19 (g := (mkF m 69 #[.val (.ref fo), .val (.int mb), .val (.long (1 : Int64)), .second, .val (.long (0 : Int64)), .second, .val (.int (0 : Int32)), .val (.int M1), .unset, .unset] [(.int (M1 ||| ((1 : Int32) <<< (mb &&& 31)))), (.int (0 : Int32)), (.ref ia)])) rfl rfl (hb hby d5_69)
  refine own_go st20 ?_
  have le_20 : h0.size ≤ h20.size := Nat.le_of_eq W20.size.symm
  have K20 : Keep h0 h20 [fo, ia] := Keep.wr (Keep.refl h0 [fo, ia]) W20 (Or.inl (List.mem_of_getElem? (i := 1) rfl))
  have N20 := Fr.snoc X20 N0 gi
  have V20 : Arv Z h20 ia ki .int (16 : Int32) [(.int (M1 ||| ((1 : Int32) <<< (mb &&& 31)))), (.int M2)] (.int (0 : Int32)) := Arv.set Ar19 q19 S19 N19 H19 G19 rfl W20 0 rfl (Nat.le_of_ble_eq_true rfl)
  refine own_go (fun _ => XS.iload X20.here hx rfl (hb hby d5_70) rfl) ?_
  refine own_go (fun _ => XS.aloadN X20.here hx rfl (hb hby d5_72) rfl rfl) ?_
  show ∃ t o, Steps p.tables e below (T20.setTop (mkF m 73 #[.val (.ref fo), .val (.int mb), .val (.long (1 : Int64)), .second, .val (.long (0 : Int64)), .second, .val (.int (0 : Int32)), .val (.int M1), .unset, .unset] [(.ref fo), (.int M1)])) t ∧ _
  have F21 : Fld Z h20 fo "com/example/holdback/holdback/sim/InFlight" "everyone" "I" (.int ev) := (Fld.other W20 P5 (Or.inl nfi))
  obtain ⟨T22, X22, e22, st22⟩ := getF X20 hx hZ hown (host := "") (Or.inl (hw _ (List.mem_of_getElem? (i := 19) rfl))) Via.refl e20 F21 (g := (mkF m 73 #[.val (.ref fo), .val (.int mb), .val (.long (1 : Int64)), .second, .val (.long (0 : Int64)), .second, .val (.int (0 : Int32)), .val (.int M1), .unset, .unset] [(.ref fo), (.int M1)])) rfl rfl (hb hby d5_73)
  refine own_go st22 ?_
  show ∃ t o, Steps p.tables e below (T22.setTop (mkF m 76 #[.val (.ref fo), .val (.int mb), .val (.long (1 : Int64)), .second, .val (.long (0 : Int64)), .second, .val (.int (0 : Int32)), .val (.int M1), .unset, .unset] [(.int ev), (.int M1)])) t ∧ _
  refine own_go (fun _ => XS.icmpNo X22.here hx rfl (hb hby d5_76) rfl (feq hM).1) ?_
  refine own_go (fun _ => XS.aloadN X22.here hx rfl (hb hby d5_79) rfl rfl) ?_
  have F23 : Fld Z h20 fo "com/example/holdback/holdback/sim/InFlight" "deliveredBy" "[I" (.ref ia) := (Fld.other W20 P3 (Or.inl nfi))
  obtain ⟨T24, X24, e24, st24⟩ := getF X22 hx hZ hown (host := "") (Or.inl (hw _ (List.mem_of_getElem? (i := 15) rfl))) Via.refl e22 F23 (g := (mkF m 80 #[.val (.ref fo), .val (.int mb), .val (.long (1 : Int64)), .second, .val (.long (0 : Int64)), .second, .val (.int (0 : Int32)), .val (.int M1), .unset, .unset] [(.ref fo)])) rfl rfl (hb hby d5_80)
  refine own_go st24 ?_
  show ∃ t o, Steps p.tables e below (T24.setTop (mkF m 83 #[.val (.ref fo), .val (.int mb), .val (.long (1 : Int64)), .second, .val (.long (0 : Int64)), .second, .val (.int (0 : Int32)), .val (.int M1), .unset, .unset] [(.ref ia)])) t ∧ _
  refine own_go (fun _ => XS.iload X24.here hx rfl (hb hby d5_83) rfl) ?_
  obtain ⟨cl25, Ar25, q25, S25, N25, H25, G25⟩ := id V20
  have hin25 : ¬ ((0 : Int32) < 0 ∨ cl25.slots.size ≤ ((0 : Int32)).toNatClampNeg) := inb_of S25 ⟨by decide, by decide⟩
  have hat25 : cl25.slots[((0 : Int32)).toNatClampNeg]? = some (.int (M1 ||| ((1 : Int32) <<< (mb &&& 31)))) := Has.at H25 hin25 rfl
  refine own_go (fun _ => X24.iaload hx (j := (0 : Int32)) (v := (.int (M1 ||| ((1 : Int32) <<< (mb &&& 31))))) (by rw [e24]; exact Ar25.1) (State.isArrayOf_alike hZ.alike Ar25.2.1) Ar25.2.2 hin25 hat25 (g := (mkF m 85 #[.val (.ref fo), .val (.int mb), .val (.long (1 : Int64)), .second, .val (.long (0 : Int64)), .second, .val (.int (0 : Int32)), .val (.int M1), .unset, .unset] [(.int (0 : Int32)), (.ref ia)])) rfl rfl (hb hby d5_85) _) ?_
  refine own_go (fun _ => XS.aloadN X24.here hx rfl (hb hby d5_86) rfl rfl) ?_
  show ∃ t o, Steps p.tables e below (T24.setTop (mkF m 87 #[.val (.ref fo), .val (.int mb), .val (.long (1 : Int64)), .second, .val (.long (0 : Int64)), .second, .val (.int (0 : Int32)), .val (.int M1), .unset, .unset] [(.ref fo), (.int (M1 ||| ((1 : Int32) <<< (mb &&& 31))))])) t ∧ _
  obtain ⟨T26, X26, e26, st26⟩ := getF X24 hx hZ hown (host := "") (Or.inl (hw _ (List.mem_of_getElem? (i := 19) rfl))) Via.refl e24 F21 (g := (mkF m 87 #[.val (.ref fo), .val (.int mb), .val (.long (1 : Int64)), .second, .val (.long (0 : Int64)), .second, .val (.int (0 : Int32)), .val (.int M1), .unset, .unset] [(.ref fo), (.int (M1 ||| ((1 : Int32) <<< (mb &&& 31))))])) rfl rfl (hb hby d5_87)
  refine own_go st26 ?_
  show ∃ t o, Steps p.tables e below (T26.setTop (mkF m 90 #[.val (.ref fo), .val (.int mb), .val (.long (1 : Int64)), .second, .val (.long (0 : Int64)), .second, .val (.int (0 : Int32)), .val (.int M1), .unset, .unset] [(.int ev), (.int (M1 ||| ((1 : Int32) <<< (mb &&& 31))))])) t ∧ _
  by_cases hc27 : (M1 ||| ((1 : Int32) <<< (mb &&& 31))) = ev
  · refine own_go (fun _ => XS.icmpYes X26.here hx rfl (pc0 := 90) (pc' := 97) rfl (hb hby d5_90) rfl (teq hc27).1 (by decide) (by decide)) ?_
    refine own_go (fun _ => XS.aloadN X26.here hx rfl (hb hby d5_97) rfl rfl) ?_
    have F28 : Fld Z h20 fo "com/example/holdback/holdback/sim/InFlight" "multicastAt" "[D" (.ref da) := (Fld.other W20 P2 (Or.inl nfi))
    obtain ⟨T29, X29, e29, st29⟩ := getF X26 hx hZ hown (host := "") (Or.inl (hw _ (List.mem_of_getElem? (i := 13) rfl))) Via.refl e26 F28 (g := (mkF m 98 #[.val (.ref fo), .val (.int mb), .val (.long (1 : Int64)), .second, .val (.long (0 : Int64)), .second, .val (.int (0 : Int32)), .val (.int M1), .unset, .unset] [(.ref fo)])) rfl rfl (hb hby d5_98)
    refine own_go st29 ?_
    show ∃ t o, Steps p.tables e below (T29.setTop (mkF m 101 #[.val (.ref fo), .val (.int mb), .val (.long (1 : Int64)), .second, .val (.long (0 : Int64)), .second, .val (.int (0 : Int32)), .val (.int M1), .unset, .unset] [(.ref da)])) t ∧ _
    refine own_go (fun _ => XS.iload X29.here hx rfl (hb hby d5_101) rfl) ?_
    have F30 : Arv Z h20 da kd .double (16 : Int32) [(.double A1), (.double A2)] (.double (0 : UInt64)) := (Arv.other P8 W20 ndi)
    obtain ⟨cl31, Ar31, q31, S31, N31, H31, G31⟩ := id F30
    have hin31 : ¬ ((0 : Int32) < 0 ∨ cl31.slots.size ≤ ((0 : Int32)).toNatClampNeg) := inb_of S31 ⟨by decide, by decide⟩
    have hat31 : cl31.slots[((0 : Int32)).toNatClampNeg]? = some (.double A1) := Has.at H31 hin31 rfl
    refine own_go (fun _ => X29.daload hx (j := (0 : Int32)) (v := (.double A1)) (by rw [e29]; exact Ar31.1) (State.isArrayOf_alike hZ.alike Ar31.2.1) Ar31.2.2 hin31 hat31 (g := (mkF m 103 #[.val (.ref fo), .val (.int mb), .val (.long (1 : Int64)), .second, .val (.long (0 : Int64)), .second, .val (.int (0 : Int32)), .val (.int M1), .unset, .unset] [(.int (0 : Int32)), (.ref da)])) rfl rfl (hb hby d5_103) _) ?_
    refine own_go (fun _ => XS.dstore X29.here hx rfl (hb hby d5_104) rfl (l' := #[.val (.ref fo), .val (.int mb), .val (.long (1 : Int64)), .second, .val (.long (0 : Int64)), .second, .val (.int (0 : Int32)), .val (.int M1), .val (.double A1), .second]) rfl) ?_
    show ∃ t o, Steps p.tables e below (T29.setTop (mkF m 106 #[.val (.ref fo), .val (.int mb), .val (.long (1 : Int64)), .second, .val (.long (0 : Int64)), .second, .val (.int (0 : Int32)), .val (.int M1), .val (.double A1), .second] [])) t ∧ _
    refine own_go (fun _ => XS.aloadN X29.here hx rfl (hb hby d5_106) rfl rfl) ?_
    have F32 : Fld Z h20 fo "com/example/holdback/holdback/sim/InFlight" "size" "I" (.int (2 : Int32)) := (Fld.other W20 P6 (Or.inl nfi))
    obtain ⟨T33, X33, e33, st33⟩ := getF X29 hx hZ hown (host := "") (Or.inl (hw _ (List.mem_of_getElem? (i := 26) rfl))) Via.refl e29 F32 (g := (mkF m 107 #[.val (.ref fo), .val (.int mb), .val (.long (1 : Int64)), .second, .val (.long (0 : Int64)), .second, .val (.int (0 : Int32)), .val (.int M1), .val (.double A1), .second] [(.ref fo)])) rfl rfl (hb hby d5_107)
    refine own_go st33 ?_
    show ∃ t o, Steps p.tables e below (T33.setTop (mkF m 110 #[.val (.ref fo), .val (.int mb), .val (.long (1 : Int64)), .second, .val (.long (0 : Int64)), .second, .val (.int (0 : Int32)), .val (.int M1), .val (.double A1), .second] [(.int (2 : Int32))])) t ∧ _
    refine own_go (fun _ => XS.ifNo X33.here hx rfl (hb hby d5_110) rfl ((if0 _ _).trans (tlt (by decide : (0 : Int32) < (2 : Int32))).2.2.2)) ?_
    refine own_go (fun _ => XS.aloadN X33.here hx rfl (hb hby d5_113) rfl rfl) ?_
    obtain ⟨T34, X34, e34, st34⟩ := getF X33 hx hZ hown (host := "") (Or.inl (hw _ (List.mem_of_getElem? (i := 15) rfl))) Via.refl e33 F23 (g := (mkF m 114 #[.val (.ref fo), .val (.int mb), .val (.long (1 : Int64)), .second, .val (.long (0 : Int64)), .second, .val (.int (0 : Int32)), .val (.int M1), .val (.double A1), .second] [(.ref fo)])) rfl rfl (hb hby d5_114)
    refine own_go st34 ?_
    show ∃ t o, Steps p.tables e below (T34.setTop (mkF m 117 #[.val (.ref fo), .val (.int mb), .val (.long (1 : Int64)), .second, .val (.long (0 : Int64)), .second, .val (.int (0 : Int32)), .val (.int M1), .val (.double A1), .second] [(.ref ia)])) t ∧ _
    refine own_go (fun _ => XS.aloadN X34.here hx rfl (hb hby d5_117) rfl rfl) ?_
    have F35 : Fld Z h20 fo "com/example/holdback/holdback/sim/InFlight" "first" "I" (.int (0 : Int32)) := (Fld.other W20 P7 (Or.inl nfi))
    obtain ⟨T36, X36, e36, st36⟩ := getF X34 hx hZ hown (host := "") (Or.inl (hw _ (List.mem_of_getElem? (i := 28) rfl))) Via.refl e34 F35 (g := (mkF m 118 #[.val (.ref fo), .val (.int mb), .val (.long (1 : Int64)), .second, .val (.long (0 : Int64)), .second, .val (.int (0 : Int32)), .val (.int M1), .val (.double A1), .second] [(.ref fo), (.ref ia)])) rfl rfl (hb hby d5_118)
    refine own_go st36 ?_
    obtain ⟨cl37, Ar37, q37, S37, N37, H37, G37⟩ := id V20
    have hin37 : ¬ ((0 : Int32) < 0 ∨ cl37.slots.size ≤ ((0 : Int32)).toNatClampNeg) := inb_of S37 ⟨by decide, by decide⟩
    have hat37 : cl37.slots[((0 : Int32)).toNatClampNeg]? = some (.int (M1 ||| ((1 : Int32) <<< (mb &&& 31)))) := Has.at H37 hin37 rfl
    refine own_go (fun _ => X36.iaload hx (j := (0 : Int32)) (v := (.int (M1 ||| ((1 : Int32) <<< (mb &&& 31))))) (by rw [e36]; exact Ar37.1) (State.isArrayOf_alike hZ.alike Ar37.2.1) Ar37.2.2 hin37 hat37 (g := (mkF m 121 #[.val (.ref fo), .val (.int mb), .val (.long (1 : Int64)), .second, .val (.long (0 : Int64)), .second, .val (.int (0 : Int32)), .val (.int M1), .val (.double A1), .second] [(.int (0 : Int32)), (.ref ia)])) rfl rfl (hb hby d5_121) _) ?_
    show ∃ t o, Steps p.tables e below (T36.setTop (mkF m 122 #[.val (.ref fo), .val (.int mb), .val (.long (1 : Int64)), .second, .val (.long (0 : Int64)), .second, .val (.int (0 : Int32)), .val (.int M1), .val (.double A1), .second] [(.int (M1 ||| ((1 : Int32) <<< (mb &&& 31))))])) t ∧ _
    refine own_go (fun _ => XS.aloadN X36.here hx rfl (hb hby d5_122) rfl rfl) ?_
    obtain ⟨T38, X38, e38, st38⟩ := getF X36 hx hZ hown (host := "") (Or.inl (hw _ (List.mem_of_getElem? (i := 19) rfl))) Via.refl e36 F21 (g := (mkF m 123 #[.val (.ref fo), .val (.int mb), .val (.long (1 : Int64)), .second, .val (.long (0 : Int64)), .second, .val (.int (0 : Int32)), .val (.int M1), .val (.double A1), .second] [(.ref fo), (.int (M1 ||| ((1 : Int32) <<< (mb &&& 31))))])) rfl rfl (hb hby d5_123)
    refine own_go st38 ?_
    show ∃ t o, Steps p.tables e below (T38.setTop (mkF m 126 #[.val (.ref fo), .val (.int mb), .val (.long (1 : Int64)), .second, .val (.long (0 : Int64)), .second, .val (.int (0 : Int32)), .val (.int M1), .val (.double A1), .second] [(.int ev), (.int (M1 ||| ((1 : Int32) <<< (mb &&& 31))))])) t ∧ _
    refine own_go (fun _ => XS.icmpNo X38.here hx rfl (hb hby d5_126) rfl (teq hc27).2) ?_
    refine own_go (fun _ => XS.aloadN X38.here hx rfl (hb hby d5_129) rfl rfl) ?_
    refine own_go (fun _ => XS.aloadN X38.here hx rfl (hb hby d5_130) rfl rfl) ?_
    show ∃ t o, Steps p.tables e below (T38.setTop (mkF m 131 #[.val (.ref fo), .val (.int mb), .val (.long (1 : Int64)), .second, .val (.long (0 : Int64)), .second, .val (.int (0 : Int32)), .val (.int M1), .val (.double A1), .second] [(.ref fo), (.ref fo)])) t ∧ _
    obtain ⟨T39, X39, e39, st39⟩ := getF X38 hx hZ hown (host := "") (Or.inl (hw _ (List.mem_of_getElem? (i := 28) rfl))) Via.refl e38 F35 (g := (mkF m 131 #[.val (.ref fo), .val (.int mb), .val (.long (1 : Int64)), .second, .val (.long (0 : Int64)), .second, .val (.int (0 : Int32)), .val (.int M1), .val (.double A1), .second] [(.ref fo), (.ref fo)])) rfl rfl (hb hby d5_131)
    refine own_go st39 ?_
    refine own_go (fun _ => XS.iconst X39.here hx rfl (hb hby d5_134)) ?_
    refine own_go (fun _ => XS.iadd X39.here hx rfl (hb hby d5_135) rfl) ?_
    show ∃ t o, Steps p.tables e below (T39.setTop (mkF m 136 #[.val (.ref fo), .val (.int mb), .val (.long (1 : Int64)), .second, .val (.long (0 : Int64)), .second, .val (.int (0 : Int32)), .val (.int M1), .val (.double A1), .second] [(.int (1 : Int32)), (.ref fo)])) t ∧ _
    refine own_go (fun _ => XS.aloadN X39.here hx rfl (hb hby d5_136) rfl rfl) ?_
    obtain ⟨T40, X40, e40, st40⟩ := getF X39 hx hZ hown (host := "") (Or.inl (hw _ (List.mem_of_getElem? (i := 13) rfl))) Via.refl e39 F28 (g := (mkF m 137 #[.val (.ref fo), .val (.int mb), .val (.long (1 : Int64)), .second, .val (.long (0 : Int64)), .second, .val (.int (0 : Int32)), .val (.int M1), .val (.double A1), .second] [(.ref fo), (.int (1 : Int32)), (.ref fo)])) rfl rfl (hb hby d5_137)
    refine own_go st40 ?_
    obtain ⟨cl41, Ar41, q41, S41, N41, H41, G41⟩ := id F30
    have ln41 : cl41.slots.size.toInt32 = (16 : Int32) := len_of S41 N41
    have al41 := X40.arraylength hx (by rw [e40]; exact Ar41.1) (State.isArrayOf_alike hZ.alike Ar41.2.1) (g := (mkF m 140 #[.val (.ref fo), .val (.int mb), .val (.long (1 : Int64)), .second, .val (.long (0 : Int64)), .second, .val (.int (0 : Int32)), .val (.int M1), .val (.double A1), .second] [(.ref da), (.int (1 : Int32)), (.ref fo)])) rfl rfl (hb hby d5_140)
    rw [ln41] at al41
    refine own_go al41 ?_
    show ∃ t o, Steps p.tables e below (T40.setTop (mkF m 141 #[.val (.ref fo), .val (.int mb), .val (.long (1 : Int64)), .second, .val (.long (0 : Int64)), .second, .val (.int (0 : Int32)), .val (.int M1), .val (.double A1), .second] [(.int (16 : Int32)), (.int (1 : Int32)), (.ref fo)])) t ∧ _
    refine own_go (fun _ => XS.iconst X40.here hx rfl (hb hby d5_141)) ?_
    refine own_go (fun _ => XS.isub X40.here hx rfl (hb hby d5_142) rfl) ?_
    refine own_go (fun _ => XS.iand X40.here hx rfl (hb hby d5_143) rfl) ?_
    show ∃ t o, Steps p.tables e below (T40.setTop (mkF m 144 #[.val (.ref fo), .val (.int mb), .val (.long (1 : Int64)), .second, .val (.long (0 : Int64)), .second, .val (.int (0 : Int32)), .val (.int M1), .val (.double A1), .second] [(.int (1 : Int32)), (.ref fo)])) t ∧ _
    have F42 : Exa Z h20 fo "com/example/holdback/holdback/sim/InFlight" := (Exa.wr W20 P1)
    obtain ⟨T43, h43, X43, e43, W43, st43⟩ := putF X40 hx hZ hown (host := "") (Or.inl (hw _ (List.mem_of_getElem? (i := 28) rfl))) Via.refl e40 F35 F42 (Or.inl (hw _ (List.mem_of_getElem? (i := 29) rfl))) (hw _ (List.mem_of_getElem? (i := 5) rfl)) (ty := .int) (by decide) rfl rfl (g := (mkF m 144 #[.val (.ref fo), .val (.int mb), .val (.long (1 : Int64)), .second, .val (.long (0 : Int64)), .second, .val (.int (0 : Int32)), .val (.int M1), .val (.double A1), .second] [(.int (1 : Int32)), (.ref fo)])) rfl rfl (hb hby d5_144)
    refine own_go st43 ?_
    have le_43 : h20.size ≤ h43.size := Nat.le_of_eq W43.size.symm
    have K43 : Keep h0 h43 [fo, ia] := Keep.wr K20 W43 (Or.inl (List.mem_of_getElem? (i := 0) rfl))
    have N43 := Fr.snoc X43 N20 gf
    have Fw43 := Fld.same W43 F35
    refine own_go (fun _ => XS.aloadN X43.here hx rfl (hb hby d5_147) rfl rfl) ?_
    refine own_go (fun _ => XS.dup X43.here hx rfl (hb hby d5_148) rfl rfl) ?_
    show ∃ t o, Steps p.tables e below (T43.setTop (mkF m 149 #[.val (.ref fo), .val (.int mb), .val (.long (1 : Int64)), .second, .val (.long (0 : Int64)), .second, .val (.int (0 : Int32)), .val (.int M1), .val (.double A1), .second] [(.ref fo), (.ref fo)])) t ∧ _
    have F44 : Fld Z h43 fo "com/example/holdback/holdback/sim/InFlight" "size" "I" (.int (2 : Int32)) := (Fld.other W43 F32 (Or.inr (slot_ne (a0 := a0) (Or.inl (hw _ (List.mem_of_getElem? (i := 27) rfl))) (Or.inl (hw _ (List.mem_of_getElem? (i := 29) rfl))) (by decide) (t := .int) (t' := .int) (by decide) (by decide))))
    obtain ⟨T45, X45, e45, st45⟩ := getF X43 hx hZ hown (host := "") (Or.inl (hw _ (List.mem_of_getElem? (i := 26) rfl))) Via.refl e43 F44 (g := (mkF m 149 #[.val (.ref fo), .val (.int mb), .val (.long (1 : Int64)), .second, .val (.long (0 : Int64)), .second, .val (.int (0 : Int32)), .val (.int M1), .val (.double A1), .second] [(.ref fo), (.ref fo)])) rfl rfl (hb hby d5_149)
    refine own_go st45 ?_
    refine own_go (fun _ => XS.iconst X45.here hx rfl (hb hby d5_152)) ?_
    refine own_go (fun _ => XS.isub X45.here hx rfl (hb hby d5_153) rfl) ?_
    show ∃ t o, Steps p.tables e below (T45.setTop (mkF m 154 #[.val (.ref fo), .val (.int mb), .val (.long (1 : Int64)), .second, .val (.long (0 : Int64)), .second, .val (.int (0 : Int32)), .val (.int M1), .val (.double A1), .second] [(.int (1 : Int32)), (.ref fo)])) t ∧ _
    have F46 : Exa Z h43 fo "com/example/holdback/holdback/sim/InFlight" := (Exa.wr W43 F42)
    obtain ⟨T47, h47, X47, e47, W47, st47⟩ := putF X45 hx hZ hown (host := "") (Or.inl (hw _ (List.mem_of_getElem? (i := 26) rfl))) Via.refl e45 F44 F46 (Or.inl (hw _ (List.mem_of_getElem? (i := 27) rfl))) (hw _ (List.mem_of_getElem? (i := 5) rfl)) (ty := .int) (by decide) rfl rfl (g := (mkF m 154 #[.val (.ref fo), .val (.int mb), .val (.long (1 : Int64)), .second, .val (.long (0 : Int64)), .second, .val (.int (0 : Int32)), .val (.int M1), .val (.double A1), .second] [(.int (1 : Int32)), (.ref fo)])) rfl rfl (hb hby d5_154)
    refine own_go st47 ?_
    have le_47 : h43.size ≤ h47.size := Nat.le_of_eq W47.size.symm
    have K47 : Keep h0 h47 [fo, ia] := Keep.wr K43 W47 (Or.inl (List.mem_of_getElem? (i := 0) rfl))
    have N47 := Fr.snoc X47 N43 gf
    have Fw47 := Fld.same W47 F44
    refine own_go (fun _ => XS.aloadN X47.here hx rfl (hb hby d5_157) rfl rfl) ?_
    refine own_go (fun _ => XS.dup X47.here hx rfl (hb hby d5_158) rfl rfl) ?_
    show ∃ t o, Steps p.tables e below (T47.setTop (mkF m 159 #[.val (.ref fo), .val (.int mb), .val (.long (1 : Int64)), .second, .val (.long (0 : Int64)), .second, .val (.int (0 : Int32)), .val (.int M1), .val (.double A1), .second] [(.ref fo), (.ref fo)])) t ∧ _
    have F48 : Fld Z h47 fo "com/example/holdback/holdback/sim/InFlight" "firstSeq" "J" (.long (1 : Int64)) := (Fld.other W47 (Fld.other W43 (Fld.other W20 P4 (Or.inl nfi)) (Or.inr (slot_ne (a0 := a0) (Or.inl (hw _ (List.mem_of_getElem? (i := 18) rfl))) (Or.inl (hw _ (List.mem_of_getElem? (i := 29) rfl))) (by decide) (t := .long) (t' := .int) (by decide) (by decide)))) (Or.inr (slot_ne (a0 := a0) (Or.inl (hw _ (List.mem_of_getElem? (i := 18) rfl))) (Or.inl (hw _ (List.mem_of_getElem? (i := 27) rfl))) (by decide) (t := .long) (t' := .int) (by decide) (by decide))))
    obtain ⟨T49, X49, e49, st49⟩ := getF X47 hx hZ hown (host := "") (Or.inl (hw _ (List.mem_of_getElem? (i := 17) rfl))) Via.refl e47 F48 (g := (mkF m 159 #[.val (.ref fo), .val (.int mb), .val (.long (1 : Int64)), .second, .val (.long (0 : Int64)), .second, .val (.int (0 : Int32)), .val (.int M1), .val (.double A1), .second] [(.ref fo), (.ref fo)])) rfl rfl (hb hby d5_159)
    refine own_go st49 ?_
    refine own_go (fun _ => XS.lconst X49.here hx rfl (hb hby d5_162)) ?_
    refine own_go (fun _ => XS.ladd X49.here hx rfl (hb hby d5_163) rfl) ?_
    show ∃ t o, Steps p.tables e below (T49.setTop (mkF m 164 #[.val (.ref fo), .val (.int mb), .val (.long (1 : Int64)), .second, .val (.long (0 : Int64)), .second, .val (.int (0 : Int32)), .val (.int M1), .val (.double A1), .second] [(.long (2 : Int64)), (.ref fo)])) t ∧ _
    have F50 : Exa Z h47 fo "com/example/holdback/holdback/sim/InFlight" := (Exa.wr W47 F46)
    obtain ⟨T51, h51, X51, e51, W51, st51⟩ := putF X49 hx hZ hown (host := "") (Or.inl (hw _ (List.mem_of_getElem? (i := 17) rfl))) Via.refl e49 F48 F50 (Or.inl (hw _ (List.mem_of_getElem? (i := 18) rfl))) (hw _ (List.mem_of_getElem? (i := 5) rfl)) (ty := .long) (by decide) rfl rfl (g := (mkF m 164 #[.val (.ref fo), .val (.int mb), .val (.long (1 : Int64)), .second, .val (.long (0 : Int64)), .second, .val (.int (0 : Int32)), .val (.int M1), .val (.double A1), .second] [(.long (2 : Int64)), (.ref fo)])) rfl rfl (hb hby d5_164)
    refine own_go st51 ?_
    have le_51 : h47.size ≤ h51.size := Nat.le_of_eq W51.size.symm
    have K51 : Keep h0 h51 [fo, ia] := Keep.wr K47 W51 (Or.inl (List.mem_of_getElem? (i := 0) rfl))
    have N51 := Fr.snoc X51 N47 gf
    have Fw51 := Fld.same W51 F48
    refine own_go (fun _ => XS.goto X51.here hx rfl (pc0 := 167) (pc' := 106) rfl (hb hby d5_167) (by decide) (by decide)) ?_
    refine own_go (fun _ => XS.aloadN X51.here hx rfl (hb hby d5_106) rfl rfl) ?_
    show ∃ t o, Steps p.tables e below (T51.setTop (mkF m 107 #[.val (.ref fo), .val (.int mb), .val (.long (1 : Int64)), .second, .val (.long (0 : Int64)), .second, .val (.int (0 : Int32)), .val (.int M1), .val (.double A1), .second] [(.ref fo)])) t ∧ _
    have F52 : Fld Z h51 fo "com/example/holdback/holdback/sim/InFlight" "size" "I" (.int (1 : Int32)) := (Fld.other W51 Fw47 (Or.inr (slot_ne (a0 := a0) (Or.inl (hw _ (List.mem_of_getElem? (i := 27) rfl))) (Or.inl (hw _ (List.mem_of_getElem? (i := 18) rfl))) (by decide) (t := .int) (t' := .long) (by decide) (by decide))))
    obtain ⟨T53, X53, e53, st53⟩ := getF X51 hx hZ hown (host := "") (Or.inl (hw _ (List.mem_of_getElem? (i := 26) rfl))) Via.refl e51 F52 (g := (mkF m 107 #[.val (.ref fo), .val (.int mb), .val (.long (1 : Int64)), .second, .val (.long (0 : Int64)), .second, .val (.int (0 : Int32)), .val (.int M1), .val (.double A1), .second] [(.ref fo)])) rfl rfl (hb hby d5_107)
    refine own_go st53 ?_
    show ∃ t o, Steps p.tables e below (T53.setTop (mkF m 110 #[.val (.ref fo), .val (.int mb), .val (.long (1 : Int64)), .second, .val (.long (0 : Int64)), .second, .val (.int (0 : Int32)), .val (.int M1), .val (.double A1), .second] [(.int (1 : Int32))])) t ∧ _
    refine own_go (fun _ => XS.ifNo X53.here hx rfl (hb hby d5_110) rfl ((if0 _ _).trans (tlt (by decide : (0 : Int32) < (1 : Int32))).2.2.2)) ?_
    refine own_go (fun _ => XS.aloadN X53.here hx rfl (hb hby d5_113) rfl rfl) ?_
    have F54 : Fld Z h51 fo "com/example/holdback/holdback/sim/InFlight" "deliveredBy" "[I" (.ref ia) := (Fld.other W51 (Fld.other W47 (Fld.other W43 F23 (Or.inr (slot_ne (a0 := a0) (Or.inl (hw _ (List.mem_of_getElem? (i := 16) rfl))) (Or.inl (hw _ (List.mem_of_getElem? (i := 29) rfl))) (by decide) (t := (.array .int)) (t' := .int) (by decide) (by decide)))) (Or.inr (slot_ne (a0 := a0) (Or.inl (hw _ (List.mem_of_getElem? (i := 16) rfl))) (Or.inl (hw _ (List.mem_of_getElem? (i := 27) rfl))) (by decide) (t := (.array .int)) (t' := .int) (by decide) (by decide)))) (Or.inr (slot_ne (a0 := a0) (Or.inl (hw _ (List.mem_of_getElem? (i := 16) rfl))) (Or.inl (hw _ (List.mem_of_getElem? (i := 18) rfl))) (by decide) (t := (.array .int)) (t' := .long) (by decide) (by decide))))
    obtain ⟨T55, X55, e55, st55⟩ := getF X53 hx hZ hown (host := "") (Or.inl (hw _ (List.mem_of_getElem? (i := 15) rfl))) Via.refl e53 F54 (g := (mkF m 114 #[.val (.ref fo), .val (.int mb), .val (.long (1 : Int64)), .second, .val (.long (0 : Int64)), .second, .val (.int (0 : Int32)), .val (.int M1), .val (.double A1), .second] [(.ref fo)])) rfl rfl (hb hby d5_114)
    refine own_go st55 ?_
    show ∃ t o, Steps p.tables e below (T55.setTop (mkF m 117 #[.val (.ref fo), .val (.int mb), .val (.long (1 : Int64)), .second, .val (.long (0 : Int64)), .second, .val (.int (0 : Int32)), .val (.int M1), .val (.double A1), .second] [(.ref ia)])) t ∧ _
    refine own_go (fun _ => XS.aloadN X55.here hx rfl (hb hby d5_117) rfl rfl) ?_
    have F56 : Fld Z h51 fo "com/example/holdback/holdback/sim/InFlight" "first" "I" (.int (1 : Int32)) := (Fld.other W51 (Fld.other W47 Fw43 (Or.inr (slot_ne (a0 := a0) (Or.inl (hw _ (List.mem_of_getElem? (i := 29) rfl))) (Or.inl (hw _ (List.mem_of_getElem? (i := 27) rfl))) (by decide) (t := .int) (t' := .int) (by decide) (by decide)))) (Or.inr (slot_ne (a0 := a0) (Or.inl (hw _ (List.mem_of_getElem? (i := 29) rfl))) (Or.inl (hw _ (List.mem_of_getElem? (i := 18) rfl))) (by decide) (t := .int) (t' := .long) (by decide) (by decide))))
    obtain ⟨T57, X57, e57, st57⟩ := getF X55 hx hZ hown (host := "") (Or.inl (hw _ (List.mem_of_getElem? (i := 28) rfl))) Via.refl e55 F56 (g := (mkF m 118 #[.val (.ref fo), .val (.int mb), .val (.long (1 : Int64)), .second, .val (.long (0 : Int64)), .second, .val (.int (0 : Int32)), .val (.int M1), .val (.double A1), .second] [(.ref fo), (.ref ia)])) rfl rfl (hb hby d5_118)
    refine own_go st57 ?_
    have F58 : Arv Z h51 ia ki .int (16 : Int32) [(.int (M1 ||| ((1 : Int32) <<< (mb &&& 31)))), (.int M2)] (.int (0 : Int32)) := (Arv.other (Arv.other (Arv.other V20 W43 nif) W47 nif) W51 nif)
    obtain ⟨cl59, Ar59, q59, S59, N59, H59, G59⟩ := id F58
    have hin59 : ¬ ((1 : Int32) < 0 ∨ cl59.slots.size ≤ ((1 : Int32)).toNatClampNeg) := inb_of S59 ⟨by decide, by decide⟩
    have hat59 : cl59.slots[((1 : Int32)).toNatClampNeg]? = some (.int M2) := Has.at H59 hin59 rfl
    refine own_go (fun _ => X57.iaload hx (j := (1 : Int32)) (v := (.int M2)) (by rw [e57]; exact Ar59.1) (State.isArrayOf_alike hZ.alike Ar59.2.1) Ar59.2.2 hin59 hat59 (g := (mkF m 121 #[.val (.ref fo), .val (.int mb), .val (.long (1 : Int64)), .second, .val (.long (0 : Int64)), .second, .val (.int (0 : Int32)), .val (.int M1), .val (.double A1), .second] [(.int (1 : Int32)), (.ref ia)])) rfl rfl (hb hby d5_121) _) ?_
    show ∃ t o, Steps p.tables e below (T57.setTop (mkF m 122 #[.val (.ref fo), .val (.int mb), .val (.long (1 : Int64)), .second, .val (.long (0 : Int64)), .second, .val (.int (0 : Int32)), .val (.int M1), .val (.double A1), .second] [(.int M2)])) t ∧ _
    refine own_go (fun _ => XS.aloadN X57.here hx rfl (hb hby d5_122) rfl rfl) ?_
    have F60 : Fld Z h51 fo "com/example/holdback/holdback/sim/InFlight" "everyone" "I" (.int ev) := (Fld.other W51 (Fld.other W47 (Fld.other W43 F21 (Or.inr (slot_ne (a0 := a0) (Or.inr (hw _ (List.mem_of_getElem? (i := 20) rfl))) (Or.inl (hw _ (List.mem_of_getElem? (i := 29) rfl))) (by decide) (t := .int) (t' := .int) (by decide) (by decide)))) (Or.inr (slot_ne (a0 := a0) (Or.inr (hw _ (List.mem_of_getElem? (i := 20) rfl))) (Or.inl (hw _ (List.mem_of_getElem? (i := 27) rfl))) (by decide) (t := .int) (t' := .int) (by decide) (by decide)))) (Or.inr (slot_ne (a0 := a0) (Or.inr (hw _ (List.mem_of_getElem? (i := 20) rfl))) (Or.inl (hw _ (List.mem_of_getElem? (i := 18) rfl))) (by decide) (t := .int) (t' := .long) (by decide) (by decide))))
    obtain ⟨T61, X61, e61, st61⟩ := getF X57 hx hZ hown (host := "") (Or.inl (hw _ (List.mem_of_getElem? (i := 19) rfl))) Via.refl e57 F60 (g := (mkF m 123 #[.val (.ref fo), .val (.int mb), .val (.long (1 : Int64)), .second, .val (.long (0 : Int64)), .second, .val (.int (0 : Int32)), .val (.int M1), .val (.double A1), .second] [(.ref fo), (.int M2)])) rfl rfl (hb hby d5_123)
    refine own_go st61 ?_
    show ∃ t o, Steps p.tables e below (T61.setTop (mkF m 126 #[.val (.ref fo), .val (.int mb), .val (.long (1 : Int64)), .second, .val (.long (0 : Int64)), .second, .val (.int (0 : Int32)), .val (.int M1), .val (.double A1), .second] [(.int ev), (.int M2)])) t ∧ _
    by_cases hc62 : M2 = ev
    · refine own_go (fun _ => XS.icmpNo X61.here hx rfl (hb hby d5_126) rfl (teq hc62).2) ?_
      refine own_go (fun _ => XS.aloadN X61.here hx rfl (hb hby d5_129) rfl rfl) ?_
      refine own_go (fun _ => XS.aloadN X61.here hx rfl (hb hby d5_130) rfl rfl) ?_
      show ∃ t o, Steps p.tables e below (T61.setTop (mkF m 131 #[.val (.ref fo), .val (.int mb), .val (.long (1 : Int64)), .second, .val (.long (0 : Int64)), .second, .val (.int (0 : Int32)), .val (.int M1), .val (.double A1), .second] [(.ref fo), (.ref fo)])) t ∧ _
      obtain ⟨T63, X63, e63, st63⟩ := getF X61 hx hZ hown (host := "") (Or.inl (hw _ (List.mem_of_getElem? (i := 28) rfl))) Via.refl e61 F56 (g := (mkF m 131 #[.val (.ref fo), .val (.int mb), .val (.long (1 : Int64)), .second, .val (.long (0 : Int64)), .second, .val (.int (0 : Int32)), .val (.int M1), .val (.double A1), .second] [(.ref fo), (.ref fo)])) rfl rfl (hb hby d5_131)
      refine own_go st63 ?_
      refine own_go (fun _ => XS.iconst X63.here hx rfl (hb hby d5_134)) ?_
      refine own_go (fun _ => XS.iadd X63.here hx rfl (hb hby d5_135) rfl) ?_
      show ∃ t o, Steps p.tables e below (T63.setTop (mkF m 136 #[.val (.ref fo), .val (.int mb), .val (.long (1 : Int64)), .second, .val (.long (0 : Int64)), .second, .val (.int (0 : Int32)), .val (.int M1), .val (.double A1), .second] [(.int (2 : Int32)), (.ref fo)])) t ∧ _
      refine own_go (fun _ => XS.aloadN X63.here hx rfl (hb hby d5_136) rfl rfl) ?_
      have F64 : Fld Z h51 fo "com/example/holdback/holdback/sim/InFlight" "multicastAt" "[D" (.ref da) := (Fld.other W51 (Fld.other W47 (Fld.other W43 F28 (Or.inr (slot_ne (a0 := a0) (Or.inl (hw _ (List.mem_of_getElem? (i := 14) rfl))) (Or.inl (hw _ (List.mem_of_getElem? (i := 29) rfl))) (by decide) (t := (.array .double)) (t' := .int) (by decide) (by decide)))) (Or.inr (slot_ne (a0 := a0) (Or.inl (hw _ (List.mem_of_getElem? (i := 14) rfl))) (Or.inl (hw _ (List.mem_of_getElem? (i := 27) rfl))) (by decide) (t := (.array .double)) (t' := .int) (by decide) (by decide)))) (Or.inr (slot_ne (a0 := a0) (Or.inl (hw _ (List.mem_of_getElem? (i := 14) rfl))) (Or.inl (hw _ (List.mem_of_getElem? (i := 18) rfl))) (by decide) (t := (.array .double)) (t' := .long) (by decide) (by decide))))
      obtain ⟨T65, X65, e65, st65⟩ := getF X63 hx hZ hown (host := "") (Or.inl (hw _ (List.mem_of_getElem? (i := 13) rfl))) Via.refl e63 F64 (g := (mkF m 137 #[.val (.ref fo), .val (.int mb), .val (.long (1 : Int64)), .second, .val (.long (0 : Int64)), .second, .val (.int (0 : Int32)), .val (.int M1), .val (.double A1), .second] [(.ref fo), (.int (2 : Int32)), (.ref fo)])) rfl rfl (hb hby d5_137)
      refine own_go st65 ?_
      have F66 : Arv Z h51 da kd .double (16 : Int32) [(.double A1), (.double A2)] (.double (0 : UInt64)) := (Arv.other (Arv.other (Arv.other F30 W43 ndf) W47 ndf) W51 ndf)
      obtain ⟨cl67, Ar67, q67, S67, N67, H67, G67⟩ := id F66
      have ln67 : cl67.slots.size.toInt32 = (16 : Int32) := len_of S67 N67
      have al67 := X65.arraylength hx (by rw [e65]; exact Ar67.1) (State.isArrayOf_alike hZ.alike Ar67.2.1) (g := (mkF m 140 #[.val (.ref fo), .val (.int mb), .val (.long (1 : Int64)), .second, .val (.long (0 : Int64)), .second, .val (.int (0 : Int32)), .val (.int M1), .val (.double A1), .second] [(.ref da), (.int (2 : Int32)), (.ref fo)])) rfl rfl (hb hby d5_140)
      rw [ln67] at al67
      refine own_go al67 ?_
      show ∃ t o, Steps p.tables e below (T65.setTop (mkF m 141 #[.val (.ref fo), .val (.int mb), .val (.long (1 : Int64)), .second, .val (.long (0 : Int64)), .second, .val (.int (0 : Int32)), .val (.int M1), .val (.double A1), .second] [(.int (16 : Int32)), (.int (2 : Int32)), (.ref fo)])) t ∧ _
      refine own_go (fun _ => XS.iconst X65.here hx rfl (hb hby d5_141)) ?_
      refine own_go (fun _ => XS.isub X65.here hx rfl (hb hby d5_142) rfl) ?_
      refine own_go (fun _ => XS.iand X65.here hx rfl (hb hby d5_143) rfl) ?_
      show ∃ t o, Steps p.tables e below (T65.setTop (mkF m 144 #[.val (.ref fo), .val (.int mb), .val (.long (1 : Int64)), .second, .val (.long (0 : Int64)), .second, .val (.int (0 : Int32)), .val (.int M1), .val (.double A1), .second] [(.int (2 : Int32)), (.ref fo)])) t ∧ _
      have F68 : Exa Z h51 fo "com/example/holdback/holdback/sim/InFlight" := (Exa.wr W51 F50)
      obtain ⟨T69, h69, X69, e69, W69, st69⟩ := putF X65 hx hZ hown (host := "") (Or.inl (hw _ (List.mem_of_getElem? (i := 28) rfl))) Via.refl e65 F56 F68 (Or.inl (hw _ (List.mem_of_getElem? (i := 29) rfl))) (hw _ (List.mem_of_getElem? (i := 5) rfl)) (ty := .int) (by decide) rfl rfl (g := (mkF m 144 #[.val (.ref fo), .val (.int mb), .val (.long (1 : Int64)), .second, .val (.long (0 : Int64)), .second, .val (.int (0 : Int32)), .val (.int M1), .val (.double A1), .second] [(.int (2 : Int32)), (.ref fo)])) rfl rfl (hb hby d5_144)
      refine own_go st69 ?_
      have le_69 : h51.size ≤ h69.size := Nat.le_of_eq W69.size.symm
      have K69 : Keep h0 h69 [fo, ia] := Keep.wr K51 W69 (Or.inl (List.mem_of_getElem? (i := 0) rfl))
      have N69 := Fr.snoc X69 N51 gf
      have Fw69 := Fld.same W69 F56
      refine own_go (fun _ => XS.aloadN X69.here hx rfl (hb hby d5_147) rfl rfl) ?_
      refine own_go (fun _ => XS.dup X69.here hx rfl (hb hby d5_148) rfl rfl) ?_
      show ∃ t o, Steps p.tables e below (T69.setTop (mkF m 149 #[.val (.ref fo), .val (.int mb), .val (.long (1 : Int64)), .second, .val (.long (0 : Int64)), .second, .val (.int (0 : Int32)), .val (.int M1), .val (.double A1), .second] [(.ref fo), (.ref fo)])) t ∧ _
      have F70 : Fld Z h69 fo "com/example/holdback/holdback/sim/InFlight" "size" "I" (.int (1 : Int32)) := (Fld.other W69 F52 (Or.inr (slot_ne (a0 := a0) (Or.inl (hw _ (List.mem_of_getElem? (i := 27) rfl))) (Or.inl (hw _ (List.mem_of_getElem? (i := 29) rfl))) (by decide) (t := .int) (t' := .int) (by decide) (by decide))))
      obtain ⟨T71, X71, e71, st71⟩ := getF X69 hx hZ hown (host := "") (Or.inl (hw _ (List.mem_of_getElem? (i := 26) rfl))) Via.refl e69 F70 (g := (mkF m 149 #[.val (.ref fo), .val (.int mb), .val (.long (1 : Int64)), .second, .val (.long (0 : Int64)), .second, .val (.int (0 : Int32)), .val (.int M1), .val (.double A1), .second] [(.ref fo), (.ref fo)])) rfl rfl (hb hby d5_149)
      refine own_go st71 ?_
      refine own_go (fun _ => XS.iconst X71.here hx rfl (hb hby d5_152)) ?_
      refine own_go (fun _ => XS.isub X71.here hx rfl (hb hby d5_153) rfl) ?_
      show ∃ t o, Steps p.tables e below (T71.setTop (mkF m 154 #[.val (.ref fo), .val (.int mb), .val (.long (1 : Int64)), .second, .val (.long (0 : Int64)), .second, .val (.int (0 : Int32)), .val (.int M1), .val (.double A1), .second] [(.int (0 : Int32)), (.ref fo)])) t ∧ _
      have F72 : Exa Z h69 fo "com/example/holdback/holdback/sim/InFlight" := (Exa.wr W69 F68)
      obtain ⟨T73, h73, X73, e73, W73, st73⟩ := putF X71 hx hZ hown (host := "") (Or.inl (hw _ (List.mem_of_getElem? (i := 26) rfl))) Via.refl e71 F70 F72 (Or.inl (hw _ (List.mem_of_getElem? (i := 27) rfl))) (hw _ (List.mem_of_getElem? (i := 5) rfl)) (ty := .int) (by decide) rfl rfl (g := (mkF m 154 #[.val (.ref fo), .val (.int mb), .val (.long (1 : Int64)), .second, .val (.long (0 : Int64)), .second, .val (.int (0 : Int32)), .val (.int M1), .val (.double A1), .second] [(.int (0 : Int32)), (.ref fo)])) rfl rfl (hb hby d5_154)
      refine own_go st73 ?_
      have le_73 : h69.size ≤ h73.size := Nat.le_of_eq W73.size.symm
      have K73 : Keep h0 h73 [fo, ia] := Keep.wr K69 W73 (Or.inl (List.mem_of_getElem? (i := 0) rfl))
      have N73 := Fr.snoc X73 N69 gf
      have Fw73 := Fld.same W73 F70
      refine own_go (fun _ => XS.aloadN X73.here hx rfl (hb hby d5_157) rfl rfl) ?_
      refine own_go (fun _ => XS.dup X73.here hx rfl (hb hby d5_158) rfl rfl) ?_
      show ∃ t o, Steps p.tables e below (T73.setTop (mkF m 159 #[.val (.ref fo), .val (.int mb), .val (.long (1 : Int64)), .second, .val (.long (0 : Int64)), .second, .val (.int (0 : Int32)), .val (.int M1), .val (.double A1), .second] [(.ref fo), (.ref fo)])) t ∧ _
      have F74 : Fld Z h73 fo "com/example/holdback/holdback/sim/InFlight" "firstSeq" "J" (.long (2 : Int64)) := (Fld.other W73 (Fld.other W69 Fw51 (Or.inr (slot_ne (a0 := a0) (Or.inl (hw _ (List.mem_of_getElem? (i := 18) rfl))) (Or.inl (hw _ (List.mem_of_getElem? (i := 29) rfl))) (by decide) (t := .long) (t' := .int) (by decide) (by decide)))) (Or.inr (slot_ne (a0 := a0) (Or.inl (hw _ (List.mem_of_getElem? (i := 18) rfl))) (Or.inl (hw _ (List.mem_of_getElem? (i := 27) rfl))) (by decide) (t := .long) (t' := .int) (by decide) (by decide))))
      obtain ⟨T75, X75, e75, st75⟩ := getF X73 hx hZ hown (host := "") (Or.inl (hw _ (List.mem_of_getElem? (i := 17) rfl))) Via.refl e73 F74 (g := (mkF m 159 #[.val (.ref fo), .val (.int mb), .val (.long (1 : Int64)), .second, .val (.long (0 : Int64)), .second, .val (.int (0 : Int32)), .val (.int M1), .val (.double A1), .second] [(.ref fo), (.ref fo)])) rfl rfl (hb hby d5_159)
      refine own_go st75 ?_
      refine own_go (fun _ => XS.lconst X75.here hx rfl (hb hby d5_162)) ?_
      refine own_go (fun _ => XS.ladd X75.here hx rfl (hb hby d5_163) rfl) ?_
      show ∃ t o, Steps p.tables e below (T75.setTop (mkF m 164 #[.val (.ref fo), .val (.int mb), .val (.long (1 : Int64)), .second, .val (.long (0 : Int64)), .second, .val (.int (0 : Int32)), .val (.int M1), .val (.double A1), .second] [(.long (3 : Int64)), (.ref fo)])) t ∧ _
      have F76 : Exa Z h73 fo "com/example/holdback/holdback/sim/InFlight" := (Exa.wr W73 F72)
      obtain ⟨T77, h77, X77, e77, W77, st77⟩ := putF X75 hx hZ hown (host := "") (Or.inl (hw _ (List.mem_of_getElem? (i := 17) rfl))) Via.refl e75 F74 F76 (Or.inl (hw _ (List.mem_of_getElem? (i := 18) rfl))) (hw _ (List.mem_of_getElem? (i := 5) rfl)) (ty := .long) (by decide) rfl rfl (g := (mkF m 164 #[.val (.ref fo), .val (.int mb), .val (.long (1 : Int64)), .second, .val (.long (0 : Int64)), .second, .val (.int (0 : Int32)), .val (.int M1), .val (.double A1), .second] [(.long (3 : Int64)), (.ref fo)])) rfl rfl (hb hby d5_164)
      refine own_go st77 ?_
      have le_77 : h73.size ≤ h77.size := Nat.le_of_eq W77.size.symm
      have K77 : Keep h0 h77 [fo, ia] := Keep.wr K73 W77 (Or.inl (List.mem_of_getElem? (i := 0) rfl))
      have N77 := Fr.snoc X77 N73 gf
      have Fw77 := Fld.same W77 F74
      refine own_go (fun _ => XS.goto X77.here hx rfl (pc0 := 167) (pc' := 106) rfl (hb hby d5_167) (by decide) (by decide)) ?_
      refine own_go (fun _ => XS.aloadN X77.here hx rfl (hb hby d5_106) rfl rfl) ?_
      show ∃ t o, Steps p.tables e below (T77.setTop (mkF m 107 #[.val (.ref fo), .val (.int mb), .val (.long (1 : Int64)), .second, .val (.long (0 : Int64)), .second, .val (.int (0 : Int32)), .val (.int M1), .val (.double A1), .second] [(.ref fo)])) t ∧ _
      have F78 : Fld Z h77 fo "com/example/holdback/holdback/sim/InFlight" "size" "I" (.int (0 : Int32)) := (Fld.other W77 Fw73 (Or.inr (slot_ne (a0 := a0) (Or.inl (hw _ (List.mem_of_getElem? (i := 27) rfl))) (Or.inl (hw _ (List.mem_of_getElem? (i := 18) rfl))) (by decide) (t := .int) (t' := .long) (by decide) (by decide))))
      obtain ⟨T79, X79, e79, st79⟩ := getF X77 hx hZ hown (host := "") (Or.inl (hw _ (List.mem_of_getElem? (i := 26) rfl))) Via.refl e77 F78 (g := (mkF m 107 #[.val (.ref fo), .val (.int mb), .val (.long (1 : Int64)), .second, .val (.long (0 : Int64)), .second, .val (.int (0 : Int32)), .val (.int M1), .val (.double A1), .second] [(.ref fo)])) rfl rfl (hb hby d5_107)
      refine own_go st79 ?_
      show ∃ t o, Steps p.tables e below (T79.setTop (mkF m 110 #[.val (.ref fo), .val (.int mb), .val (.long (1 : Int64)), .second, .val (.long (0 : Int64)), .second, .val (.int (0 : Int32)), .val (.int M1), .val (.double A1), .second] [(.int (0 : Int32))])) t ∧ _
      refine own_go (fun _ => XS.ifYes X79.here hx rfl (pc0 := 110) (pc' := 170) rfl (hb hby d5_110) rfl ((if0 _ _).trans (flt (by decide : ¬ ((0 : Int32) < (0 : Int32)))).2.2.2) (by decide) (by decide)) ?_
      refine own_go (fun _ => XS.dload X79.here hx rfl (hb hby d5_170) rfl) ?_
      show ∃ t o, Steps p.tables e below (T79.setTop (mkF m 172 #[.val (.ref fo), .val (.int mb), .val (.long (1 : Int64)), .second, .val (.long (0 : Int64)), .second, .val (.int (0 : Int32)), .val (.int M1), .val (.double A1), .second] [(.double A1)])) t ∧ _
      have F80 : Exa Z h77 fo "com/example/holdback/holdback/sim/InFlight" := (Exa.wr W77 F76)
      have F81 : Fld Z h77 fo "com/example/holdback/holdback/sim/InFlight" "multicastAt" "[D" (.ref da) := (Fld.other W77 (Fld.other W73 (Fld.other W69 F64 (Or.inr (slot_ne (a0 := a0) (Or.inl (hw _ (List.mem_of_getElem? (i := 14) rfl))) (Or.inl (hw _ (List.mem_of_getElem? (i := 29) rfl))) (by decide) (t := (.array .double)) (t' := .int) (by decide) (by decide)))) (Or.inr (slot_ne (a0 := a0) (Or.inl (hw _ (List.mem_of_getElem? (i := 14) rfl))) (Or.inl (hw _ (List.mem_of_getElem? (i := 27) rfl))) (by decide) (t := (.array .double)) (t' := .int) (by decide) (by decide)))) (Or.inr (slot_ne (a0 := a0) (Or.inl (hw _ (List.mem_of_getElem? (i := 14) rfl))) (Or.inl (hw _ (List.mem_of_getElem? (i := 18) rfl))) (by decide) (t := (.array .double)) (t' := .long) (by decide) (by decide))))
      have F82 : Fld Z h77 fo "com/example/holdback/holdback/sim/InFlight" "deliveredBy" "[I" (.ref ia) := (Fld.other W77 (Fld.other W73 (Fld.other W69 F54 (Or.inr (slot_ne (a0 := a0) (Or.inl (hw _ (List.mem_of_getElem? (i := 16) rfl))) (Or.inl (hw _ (List.mem_of_getElem? (i := 29) rfl))) (by decide) (t := (.array .int)) (t' := .int) (by decide) (by decide)))) (Or.inr (slot_ne (a0 := a0) (Or.inl (hw _ (List.mem_of_getElem? (i := 16) rfl))) (Or.inl (hw _ (List.mem_of_getElem? (i := 27) rfl))) (by decide) (t := (.array .int)) (t' := .int) (by decide) (by decide)))) (Or.inr (slot_ne (a0 := a0) (Or.inl (hw _ (List.mem_of_getElem? (i := 16) rfl))) (Or.inl (hw _ (List.mem_of_getElem? (i := 18) rfl))) (by decide) (t := (.array .int)) (t' := .long) (by decide) (by decide))))
      have F83 : Fld Z h77 fo "com/example/holdback/holdback/sim/InFlight" "everyone" "I" (.int ev) := (Fld.other W77 (Fld.other W73 (Fld.other W69 F60 (Or.inr (slot_ne (a0 := a0) (Or.inr (hw _ (List.mem_of_getElem? (i := 20) rfl))) (Or.inl (hw _ (List.mem_of_getElem? (i := 29) rfl))) (by decide) (t := .int) (t' := .int) (by decide) (by decide)))) (Or.inr (slot_ne (a0 := a0) (Or.inr (hw _ (List.mem_of_getElem? (i := 20) rfl))) (Or.inl (hw _ (List.mem_of_getElem? (i := 27) rfl))) (by decide) (t := .int) (t' := .int) (by decide) (by decide)))) (Or.inr (slot_ne (a0 := a0) (Or.inr (hw _ (List.mem_of_getElem? (i := 20) rfl))) (Or.inl (hw _ (List.mem_of_getElem? (i := 18) rfl))) (by decide) (t := .int) (t' := .long) (by decide) (by decide))))
      have F84 : Fld Z h77 fo "com/example/holdback/holdback/sim/InFlight" "first" "I" (.int (2 : Int32)) := (Fld.other W77 (Fld.other W73 Fw69 (Or.inr (slot_ne (a0 := a0) (Or.inl (hw _ (List.mem_of_getElem? (i := 29) rfl))) (Or.inl (hw _ (List.mem_of_getElem? (i := 27) rfl))) (by decide) (t := .int) (t' := .int) (by decide) (by decide)))) (Or.inr (slot_ne (a0 := a0) (Or.inl (hw _ (List.mem_of_getElem? (i := 29) rfl))) (Or.inl (hw _ (List.mem_of_getElem? (i := 18) rfl))) (by decide) (t := .int) (t' := .long) (by decide) (by decide))))
      have F85 : Arv Z h77 ia ki .int (16 : Int32) [(.int (M1 ||| ((1 : Int32) <<< (mb &&& 31)))), (.int M2)] (.int (0 : Int32)) := (Arv.other (Arv.other (Arv.other F58 W69 nif) W73 nif) W77 nif)
      obtain ⟨fs, hr, hrun, hended, hW, hsame⟩ := X79.leave (v := some (.double A1)) (fun h => by rw [Bd.returns] at h; cases h)
      refine ⟨_, _, ?_, hrun, hended, _, _, rfl, ?_, ⟨_, rfl⟩, hW, hsame.mono (by decide) (by decide)⟩
      · jvm_step X79.here [X79.here.top, hx, (hb hby d5_172), X79.method', Bd.returns, narrow]
        first | (intro acts; rw [hr _ acts rfl rfl rfl]) | rw [hr _ _ rfl rfl rfl]
        exact Steps.refl _
      · show Q_rmV2 Z _ _ _ _ _ _ _ _ _ _ _ h0 n0 _ T79.heap _
        rw [e79]
        exact ⟨A1, (2 : Int32), (0 : Int32), (3 : Int64), rfl, N77, K77, F80, F81, F82, Fw77, F83, F78, F84, F85, (by simp [hM, hc27, hc62]), (by simp [own_inv, hM, hc27, hc62])⟩
    · refine own_go (fun _ => XS.icmpYes X61.here hx rfl (pc0 := 126) (pc' := 170) rfl (hb hby d5_126) rfl (feq hc62).2 (by decide) (by decide)) ?_
      refine own_go (fun _ => XS.dload X61.here hx rfl (hb hby d5_170) rfl) ?_
      show ∃ t o, Steps p.tables e below (T61.setTop (mkF m 172 #[.val (.ref fo), .val (.int mb), .val (.long (1 : Int64)), .second, .val (.long (0 : Int64)), .second, .val (.int (0 : Int32)), .val (.int M1), .val (.double A1), .second] [(.double A1)])) t ∧ _
      have F86 : Exa Z h51 fo "com/example/holdback/holdback/sim/InFlight" := (Exa.wr W51 F50)
      have F87 : Fld Z h51 fo "com/example/holdback/holdback/sim/InFlight" "multicastAt" "[D" (.ref da) := (Fld.other W51 (Fld.other W47 (Fld.other W43 F28 (Or.inr (slot_ne (a0 := a0) (Or.inl (hw _ (List.mem_of_getElem? (i := 14) rfl))) (Or.inl (hw _ (List.mem_of_getElem? (i := 29) rfl))) (by decide) (t := (.array .double)) (t' := .int) (by decide) (by decide)))) (Or.inr (slot_ne (a0 := a0) (Or.inl (hw _ (List.mem_of_getElem? (i := 14) rfl))) (Or.inl (hw _ (List.mem_of_getElem? (i := 27) rfl))) (by decide) (t := (.array .double)) (t' := .int) (by decide) (by decide)))) (Or.inr (slot_ne (a0 := a0) (Or.inl (hw _ (List.mem_of_getElem? (i := 14) rfl))) (Or.inl (hw _ (List.mem_of_getElem? (i := 18) rfl))) (by decide) (t := (.array .double)) (t' := .long) (by decide) (by decide))))
      obtain ⟨fs, hr, hrun, hended, hW, hsame⟩ := X61.leave (v := some (.double A1)) (fun h => by rw [Bd.returns] at h; cases h)
      refine ⟨_, _, ?_, hrun, hended, _, _, rfl, ?_, ⟨_, rfl⟩, hW, hsame.mono (by decide) (by decide)⟩
      · jvm_step X61.here [X61.here.top, hx, (hb hby d5_172), X61.method', Bd.returns, narrow]
        first | (intro acts; rw [hr _ acts rfl rfl rfl]) | rw [hr _ _ rfl rfl rfl]
        exact Steps.refl _
      · show Q_rmV2 Z _ _ _ _ _ _ _ _ _ _ _ h0 n0 _ T61.heap _
        rw [e61]
        exact ⟨A1, (1 : Int32), (1 : Int32), (2 : Int64), rfl, N51, K51, F86, F87, F54, Fw51, F60, F52, F56, F58, (by simp [hM, hc27, hc62]), (by simp [own_inv, hM, hc27, hc62])⟩
  · refine own_go (fun _ => XS.icmpNo X26.here hx rfl (hb hby d5_90) rfl (feq hc27).1) ?_
    refine own_go (fun _ => X26.ldc2DoubleC hx hown (mvT hZ (hw _ (List.mem_of_getElem? (i := 39) rfl))) (g := (mkF m 93 #[.val (.ref fo), .val (.int mb), .val (.long (1 : Int64)), .second, .val (.long (0 : Int64)), .second, .val (.int (0 : Int32)), .val (.int M1), .unset, .unset] [])) rfl (hb hby d5_93) _) ?_
    show ∃ t o, Steps p.tables e below (T26.setTop (mkF m 96 #[.val (.ref fo), .val (.int mb), .val (.long (1 : Int64)), .second, .val (.long (0 : Int64)), .second, .val (.int (0 : Int32)), .val (.int M1), .unset, .unset] [(.double (13830554455654793216 : UInt64))])) t ∧ _
    have F88 : Exa Z h20 fo "com/example/holdback/holdback/sim/InFlight" := (Exa.wr W20 P1)
    have F89 : Fld Z h20 fo "com/example/holdback/holdback/sim/InFlight" "multicastAt" "[D" (.ref da) := (Fld.other W20 P2 (Or.inl nfi))
    have F90 : Fld Z h20 fo "com/example/holdback/holdback/sim/InFlight" "firstSeq" "J" (.long (1 : Int64)) := (Fld.other W20 P4 (Or.inl nfi))
    have F91 : Fld Z h20 fo "com/example/holdback/holdback/sim/InFlight" "size" "I" (.int (2 : Int32)) := (Fld.other W20 P6 (Or.inl nfi))
    have F92 : Fld Z h20 fo "com/example/holdback/holdback/sim/InFlight" "first" "I" (.int (0 : Int32)) := (Fld.other W20 P7 (Or.inl nfi))
    obtain ⟨fs, hr, hrun, hended, hW, hsame⟩ := X26.leave (v := some (.double (13830554455654793216 : UInt64))) (fun h => by rw [Bd.returns] at h; cases h)
    refine ⟨_, _, ?_, hrun, hended, _, _, rfl, ?_, ⟨_, rfl⟩, hW, hsame.mono (by decide) (by decide)⟩
    · jvm_step X26.here [X26.here.top, hx, (hb hby d5_96), X26.method', Bd.returns, narrow]
      first | (intro acts; rw [hr _ acts rfl rfl rfl]) | rw [hr _ _ rfl rfl rfl]
      exact Steps.refl _
    · show Q_rmV2 Z _ _ _ _ _ _ _ _ _ _ _ h0 n0 _ T26.heap _
      rw [e26]
      exact ⟨(13830554455654793216 : UInt64), (0 : Int32), (2 : Int32), (1 : Int64), rfl, N20, K20, F88, F89, F23, F90, F21, F91, F92, V20, (by simp [hM, hc27]), (by simp [own_inv, hM, hc27])⟩
theorem ef_rmV3 (m : MethodId) (x0 : Nat) (x1 : Int32) (x2 : Int64) : entryFrame m #[(.ref x0), (.int x1), (.long x2)] 10 = mkF m 0 #[.val (.ref x0), .val (.int x1), .val (.long x2), .second, .unset, .unset, .unset, .unset, .unset, .unset] [] := by first | (simp [entryFrame, mkF, argsToLocals, Value.category]; done) | rfl
def Q_rmV3 (Z : State) (fo : Nat) (da : Nat) (ia : Nat) (kd : ClassId) (ki : ClassId) (ev : Int32) (M1 : Int32) (M2 : Int32) (A1 : UInt64) (A2 : UInt64) (mb : Int32) (h0 : Heap) (n0 : Nat) (v : Option Value) (h : Heap) (L : List Loc) : Prop := ∃ (rr : UInt64), ∃ (fi2 : Int32), ∃ (sz2 : Int32), ∃ (fq2 : Int64), v = some (.double rr) ∧ Fr n0 L ∧ Keep h0 h [fo, ia] ∧ Exa Z h fo "com/example/holdback/holdback/sim/InFlight" ∧ Fld Z h fo "com/example/holdback/holdback/sim/InFlight" "multicastAt" "[D" (.ref da) ∧ Fld Z h fo "com/example/holdback/holdback/sim/InFlight" "deliveredBy" "[I" (.ref ia) ∧ Fld Z h fo "com/example/holdback/holdback/sim/InFlight" "firstSeq" "J" (.long fq2) ∧ Fld Z h fo "com/example/holdback/holdback/sim/InFlight" "everyone" "I" (.int ev) ∧ Fld Z h fo "com/example/holdback/holdback/sim/InFlight" "size" "I" (.int sz2) ∧ Fld Z h fo "com/example/holdback/holdback/sim/InFlight" "first" "I" (.int fi2) ∧ Arv Z h ia ki .int (16 : Int32) [(.int M1), (.int (M2 ||| ((1 : Int32) <<< (mb &&& 31))))] (.int (0 : Int32)) ∧ (rr = (if ¬ (M2 = ev) ∧ (M2 ||| ((1 : Int32) <<< (mb &&& 31))) = ev then A2 else (13830554455654793216 : UInt64))) ∧ (own_inv (2 : Int32) ev fi2 sz2 fq2 M1 (M2 ||| ((1 : Int32) <<< (mb &&& 31))))
set_option maxRecDepth 65536 in
set_option maxHeartbeats 40000000 in
theorem rmV3 (l : Launch) (Z : State) (a0 : Array Value) (hw : ∀ d ∈ tables_1, d.before a0 Z = true) (ws : List Jvm.Cond) (fo : Nat) (da : Nat) (ia : Nat) (kd : ClassId) (ki : ClassId) (ev : Int32) (M1 : Int32) (M2 : Int32) (A1 : UInt64) (A2 : UInt64) (mb : Int32) (h0 : Heap) (n0 : Nat) (Z0 : n0 ≤ h0.size) (P1 : Exa Z h0 fo "com/example/holdback/holdback/sim/InFlight") (P2 : Fld Z h0 fo "com/example/holdback/holdback/sim/InFlight" "multicastAt" "[D" (.ref da)) (P3 : Fld Z h0 fo "com/example/holdback/holdback/sim/InFlight" "deliveredBy" "[I" (.ref ia)) (P4 : Fld Z h0 fo "com/example/holdback/holdback/sim/InFlight" "firstSeq" "J" (.long (1 : Int64))) (P5 : Fld Z h0 fo "com/example/holdback/holdback/sim/InFlight" "everyone" "I" (.int ev)) (P6 : Fld Z h0 fo "com/example/holdback/holdback/sim/InFlight" "size" "I" (.int (2 : Int32))) (P7 : Fld Z h0 fo "com/example/holdback/holdback/sim/InFlight" "first" "I" (.int (0 : Int32))) (P8 : Arv Z h0 da kd .double (16 : Int32) [(.double A1), (.double A2)] (.double (0 : UInt64))) (P9 : Arv Z h0 ia ki .int (16 : Int32) [(.int M1), (.int M2)] (.int (0 : Int32))) (OLD : Old Z n0 h0) (gf : n0 ≤ fo) (gd : n0 ≤ da) (gi : n0 ≤ ia) (nfd : fo ≠ da) (nfi : fo ≠ ia) (ndi : da ≠ ia) (ndf : da ≠ fo) (nif : ia ≠ fo) (nid : ia ≠ da) (hM : ¬ (M1 = ev)) :
    MetFree l (⟨"com/example/holdback/holdback/sim/InFlight", "delivered", "(IJ)D"⟩ : MethodName) (head1 (Jvm.Cond.code (⟨"com/example/holdback/holdback/sim/InFlight", "delivered", "(IJ)D"⟩ : MethodName) prog_167_method_3_code 10 (some .double) :: ws) ({ frames := 0, cells := 0, slots := 0, locals := 0 } : Room)) (fun a U => a = #[(.ref fo), (.int mb), (.long (2 : Int64))] ∧ Z.Warmed39 U.vm ∧ U.heap = h0) (fun _ _ _ _ _ => True) (fun _ U o U' => ∃ v L, o = .returned v ∧ Q_rmV3 Z fo da ia kd ki ev M1 M2 A1 A2 mb h0 n0 v U'.heap L ∧ FrameEnd U o U' L ({ frames := 0, cells := 0, slots := 0, locals := 0 } : Room).cells ({ frames := 0, cells := 0, slots := 0, locals := 0 } : Room).slots) := by
  refine MetFree.of_bodySF (plainFor_of_name pn_com_example_holdback_holdback_sim_InFlight) hisR ?_
  intro p e s m args below meth c s₁ Bd hml0 hP hK
  obtain ⟨rfl, hZ, hh⟩ := hP
  have hx := Bd.exec
  have hby := Bd.bytes
  have hml : c.maxLocals = 10 := hml0
  have hown : s.vm.findClass "com/example/holdback/holdback/sim/InFlight" = some m.cls := findClass_of_methodNamed Bd.named
  have hnm := (name_of_methodNamed Bd.named Bd.method).1
  have X0 : Stand p l e ({ frames := 0, cells := 0, slots := 0, locals := 0 } : Room) s m #[(.ref fo), (.int mb), (.long (2 : Int64))] below meth c s₁ [] 0 0 := Stand.of_body Bd
  have e0 : s₁.heap = h0 := by rw [← hh, Bd.state]; rfl
  have N0 := Fr.nil n0
  have pre0 : ∀ t, Steps p.tables e below (s₁.setTop (mkF m 0 #[.val (.ref fo), .val (.int mb), .val (.long (2 : Int64)), .second, .unset, .unset, .unset, .unset, .unset, .unset] [])) t → Steps p.tables e below (s₁.setTop (entryFrame m #[(.ref fo), (.int mb), (.long (2 : Int64))] 10)) t := fun t k => castTop (ef_rmV3 m fo mb (2 : Int64)) k
  have oz := OLD.1
  have lt_da : da < h0.size := P8.lt
  have lt_fo : fo < h0.size := P1.lt
  have lt_ia : ia < h0.size := P9.lt
  refine own_go (B := s₁.setTop (mkF m 0 #[.val (.ref fo), .val (.int mb), .val (.long (2 : Int64)), .second, .unset, .unset, .unset, .unset, .unset, .unset] [])) pre0 ?_
  show ∃ t o, Steps p.tables e below (s₁.setTop (mkF m 0 #[.val (.ref fo), .val (.int mb), .val (.long (2 : Int64)), .second, .unset, .unset, .unset, .unset, .unset, .unset] [])) t ∧ _
  refine own_go (fun _ => XS.lloadN X0.here hx rfl (hb hby d5_0) rfl) ?_
  refine own_go (fun _ => XS.aloadN X0.here hx rfl (hb hby d5_1) rfl rfl) ?_
  obtain ⟨T10, X10, e10, st10⟩ := getF X0 hx hZ hown (host := "") (Or.inl (hw _ (List.mem_of_getElem? (i := 17) rfl))) Via.refl e0 P4 (g := (mkF m 2 #[.val (.ref fo), .val (.int mb), .val (.long (2 : Int64)), .second, .unset, .unset, .unset, .unset, .unset, .unset] [(.ref fo), (.long (2 : Int64))])) rfl rfl (hb hby d5_2)
  refine own_go st10 ?_
  show ∃ t o, Steps p.tables e below (T10.setTop (mkF m 5 #[.val (.ref fo), .val (.int mb), .val (.long (2 : Int64)), .second, .unset, .unset, .unset, .unset, .unset, .unset] [(.long (1 : Int64)), (.long (2 : Int64))])) t ∧ _
  refine own_go (fun _ => XS.lsub X10.here hx rfl (hb hby d5_5) rfl) ?_
  refine own_go (fun _ => XS.lstore X10.here hx rfl (hb hby d5_6) rfl (l' := #[.val (.ref fo), .val (.int mb), .val (.long (2 : Int64)), .second, .val (.long (1 : Int64)), .second, .unset, .unset, .unset, .unset]) rfl) ?_
  refine own_go (fun _ => XS.lload X10.here hx rfl (hb hby d5_8) rfl) ?_
  show ∃ t o, Steps p.tables e below (T10.setTop (mkF m 10 #[.val (.ref fo), .val (.int mb), .val (.long (2 : Int64)), .second, .val (.long (1 : Int64)), .second, .unset, .unset, .unset, .unset] [(.long (1 : Int64))])) t ∧ _
  refine own_go (fun _ => XS.lconst X10.here hx rfl (hb hby d5_10)) ?_
  refine own_go (fun _ => XS.lcmp X10.here hx rfl (hb hby d5_11) rfl) ?_
  show ∃ t o, Steps p.tables e below (T10.setTop (mkF m 12 #[.val (.ref fo), .val (.int mb), .val (.long (2 : Int64)), .second, .val (.long (1 : Int64)), .second, .unset, .unset, .unset, .unset] [(.int (lcmpW (1 : Int64) (0 : Int64)))])) t ∧ _
  refine own_go (fun _ => XS.ifNo X10.here hx rfl (hb hby d5_12) rfl ((if0 _ _).trans (flt (mt (lw_lt _ _).mp (by decide : ¬ ((1 : Int64) < (0 : Int64))))).1)) ?_
  refine own_go (fun _ => XS.lload X10.here hx rfl (hb hby d5_15) rfl) ?_
  refine own_go (fun _ => XS.aloadN X10.here hx rfl (hb hby d5_17) rfl rfl) ?_
  show ∃ t o, Steps p.tables e below (T10.setTop (mkF m 18 #[.val (.ref fo), .val (.int mb), .val (.long (2 : Int64)), .second, .val (.long (1 : Int64)), .second, .unset, .unset, .unset, .unset] [(.ref fo), (.long (1 : Int64))])) t ∧ _
  obtain ⟨T11, X11, e11, st11⟩ := getF X10 hx hZ hown (host := "") (Or.inl (hw _ (List.mem_of_getElem? (i := 26) rfl))) Via.refl e10 P6 (g := (mkF m 18 #[.val (.ref fo), .val (.int mb), .val (.long (2 : Int64)), .second, .val (.long (1 : Int64)), .second, .unset, .unset, .unset, .unset] [(.ref fo), (.long (1 : Int64))])) rfl rfl (hb hby d5_18)
  refine own_go st11 ?_
  refine own_go (fun _ => XS.i2l X11.here hx rfl (hb hby d5_21) rfl) ?_
  refine own_go (fun _ => XS.lcmp X11.here hx rfl (hb hby d5_22) rfl) ?_
  show ∃ t o, Steps p.tables e below (T11.setTop (mkF m 23 #[.val (.ref fo), .val (.int mb), .val (.long (2 : Int64)), .second, .val (.long (1 : Int64)), .second, .unset, .unset, .unset, .unset] [(.int (lcmpW (1 : Int64) (2 : Int64)))])) t ∧ _
  refine own_go (fun _ => XS.ifYes X11.here hx rfl (pc0 := 23) (pc' := 30) rfl (hb hby d5_23) rfl ((if0 _ _).trans (tlt ((lw_lt _ _).mpr (by decide : (1 : Int64) < (2 : Int64)))).1) (by decide) (by decide)) ?_
  refine own_go (fun _ => XS.aloadN X11.here hx rfl (hb hby d5_30) rfl rfl) ?_
  obtain ⟨T12, X12, e12, st12⟩ := getF X11 hx hZ hown (host := "") (Or.inl (hw _ (List.mem_of_getElem? (i := 28) rfl))) Via.refl e11 P7 (g := (mkF m 31 #[.val (.ref fo), .val (.int mb), .val (.long (2 : Int64)), .second, .val (.long (1 : Int64)), .second, .unset, .unset, .unset, .unset] [(.ref fo)])) rfl rfl (hb hby d5_31)
  refine own_go st12 ?_
  show ∃ t o, Steps p.tables e below (T12.setTop (mkF m 34 #[.val (.ref fo), .val (.int mb), .val (.long (2 : Int64)), .second, .val (.long (1 : Int64)), .second, .unset, .unset, .unset, .unset] [(.int (0 : Int32))])) t ∧ _
  refine own_go (fun _ => XS.lload X12.here hx rfl (hb hby d5_34) rfl) ?_
  refine own_go (fun _ => XS.l2i X12.here hx rfl (hb hby d5_36) rfl) ?_
  refine own_go (fun _ => XS.iadd X12.here hx rfl (hb hby d5_37) rfl) ?_
  show ∃ t o, Steps p.tables e below (T12.setTop (mkF m 38 #[.val (.ref fo), .val (.int mb), .val (.long (2 : Int64)), .second, .val (.long (1 : Int64)), .second, .unset, .unset, .unset, .unset] [(.int (1 : Int32))])) t ∧ _
  refine own_go (fun _ => XS.aloadN X12.here hx rfl (hb hby d5_38) rfl rfl) ?_
  obtain ⟨T13, X13, e13, st13⟩ := getF X12 hx hZ hown (host := "") (Or.inl (hw _ (List.mem_of_getElem? (i := 13) rfl))) Via.refl e12 P2 (g := (mkF m 39 #[.val (.ref fo), .val (.int mb), .val (.long (2 : Int64)), .second, .val (.long (1 : Int64)), .second, .unset, .unset, .unset, .unset] [(.ref fo), (.int (1 : Int32))])) rfl rfl (hb hby d5_39)
  refine own_go st13 ?_
  obtain ⟨cl14, Ar14, q14, S14, N14, H14, G14⟩ := id P8
  have ln14 : cl14.slots.size.toInt32 = (16 : Int32) := len_of S14 N14
  have al14 := X13.arraylength hx (by rw [e13]; exact Ar14.1) (State.isArrayOf_alike hZ.alike Ar14.2.1) (g := (mkF m 42 #[.val (.ref fo), .val (.int mb), .val (.long (2 : Int64)), .second, .val (.long (1 : Int64)), .second, .unset, .unset, .unset, .unset] [(.ref da), (.int (1 : Int32))])) rfl rfl (hb hby d5_42)
  rw [ln14] at al14
  refine own_go al14 ?_
  show ∃ t o, Steps p.tables e below (T13.setTop (mkF m 43 #[.val (.ref fo), .val (.int mb), .val (.long (2 : Int64)), .second, .val (.long (1 : Int64)), .second, .unset, .unset, .unset, .unset] [(.int (16 : Int32)), (.int (1 : Int32))])) t ∧ _
  refine own_go (fun _ => XS.iconst X13.here hx rfl (hb hby d5_43)) ?_
  refine own_go (fun _ => XS.isub X13.here hx rfl (hb hby d5_44) rfl) ?_
  refine own_go (fun _ => XS.iand X13.here hx rfl (hb hby d5_45) rfl) ?_
  show ∃ t o, Steps p.tables e below (T13.setTop (mkF m 46 #[.val (.ref fo), .val (.int mb), .val (.long (2 : Int64)), .second, .val (.long (1 : Int64)), .second, .unset, .unset, .unset, .unset] [(.int (1 : Int32))])) t ∧ _
  refine own_go (fun _ => XS.istore X13.here hx rfl (hb hby d5_46) rfl (l' := #[.val (.ref fo), .val (.int mb), .val (.long (2 : Int64)), .second, .val (.long (1 : Int64)), .second, .val (.int (1 : Int32)), .unset, .unset, .unset]) rfl) ?_
  refine own_go (fun _ => XS.aloadN X13.here hx rfl (hb hby d5_48) rfl rfl) ?_
  obtain ⟨T15, X15, e15, st15⟩ := getF X13 hx hZ hown (host := "") (Or.inl (hw _ (List.mem_of_getElem? (i := 15) rfl))) Via.refl e13 P3 (g := (mkF m 49 #[.val (.ref fo), .val (.int mb), .val (.long (2 : Int64)), .second, .val (.long (1 : Int64)), .second, .val (.int (1 : Int32)), .unset, .unset, .unset] [(.ref fo)])) rfl rfl (hb hby d5_49)
  refine own_go st15 ?_
  show ∃ t o, Steps p.tables e below (T15.setTop (mkF m 52 #[.val (.ref fo), .val (.int mb), .val (.long (2 : Int64)), .second, .val (.long (1 : Int64)), .second, .val (.int (1 : Int32)), .unset, .unset, .unset] [(.ref ia)])) t ∧ _
  refine own_go (fun _ => XS.iload X15.here hx rfl (hb hby d5_52) rfl) ?_
  obtain ⟨cl16, Ar16, q16, S16, N16, H16, G16⟩ := id P9
  have hin16 : ¬ ((1 : Int32) < 0 ∨ cl16.slots.size ≤ ((1 : Int32)).toNatClampNeg) := inb_of S16 ⟨by decide, by decide⟩
  have hat16 : cl16.slots[((1 : Int32)).toNatClampNeg]? = some (.int M2) := Has.at H16 hin16 rfl
  refine own_go (fun _ => X15.iaload hx (j := (1 : Int32)) (v := (.int M2)) (by rw [e15]; exact Ar16.1) (State.isArrayOf_alike hZ.alike Ar16.2.1) Ar16.2.2 hin16 hat16 (g := (mkF m 54 #[.val (.ref fo), .val (.int mb), .val (.long (2 : Int64)), .second, .val (.long (1 : Int64)), .second, .val (.int (1 : Int32)), .unset, .unset, .unset] [(.int (1 : Int32)), (.ref ia)])) rfl rfl (hb hby d5_54) _) ?_
  refine own_go (fun _ => XS.istore X15.here hx rfl (hb hby d5_55) rfl (l' := #[.val (.ref fo), .val (.int mb), .val (.long (2 : Int64)), .second, .val (.long (1 : Int64)), .second, .val (.int (1 : Int32)), .val (.int M2), .unset, .unset]) rfl) ?_
  show ∃ t o, Steps p.tables e below (T15.setTop (mkF m 57 #[.val (.ref fo), .val (.int mb), .val (.long (2 : Int64)), .second, .val (.long (1 : Int64)), .second, .val (.int (1 : Int32)), .val (.int M2), .unset, .unset] [])) t ∧ _
  refine own_go (fun _ => XS.aloadN X15.here hx rfl (hb hby d5_57) rfl rfl) ?_
  obtain ⟨T17, X17, e17, st17⟩ := getF X15 hx hZ hown (host := "") (Or.inl (hw _ (List.mem_of_getElem? (i := 15) rfl))) Via.refl e15 P3 (g := (mkF m 58 #[.val (.ref fo), .val (.int mb), .val (.long (2 : Int64)), .second, .val (.long (1 : Int64)), .second, .val (.int (1 : Int32)), .val (.int M2), .unset, .unset] [(.ref fo)])) rfl rfl (hb hby d5_58)
  refine own_go st17 ?_
  refine own_go (fun _ => XS.iload X17.here hx rfl (hb hby d5_61) rfl) ?_
  show ∃ t o, Steps p.tables e below (T17.setTop (mkF m 63 #[.val (.ref fo), .val (.int mb), .val (.long (2 : Int64)), .second, .val (.long (1 : Int64)), .second, .val (.int (1 : Int32)), .val (.int M2), .unset, .unset] [(.int (1 : Int32)), (.ref ia)])) t ∧ _
  refine own_go (fun _ => Jvm.Free.XT.dup2 X17.here hx rfl (hb hby d5_63) rfl rfl rfl) ?_
  obtain ⟨cl18, Ar18, q18, S18, N18, H18, G18⟩ := id P9
  have hin18 : ¬ ((1 : Int32) < 0 ∨ cl18.slots.size ≤ ((1 : Int32)).toNatClampNeg) := inb_of S18 ⟨by decide, by decide⟩
  have hat18 : cl18.slots[((1 : Int32)).toNatClampNeg]? = some (.int M2) := Has.at H18 hin18 rfl
  refine own_go (fun _ => X17.iaload hx (j := (1 : Int32)) (v := (.int M2)) (by rw [e17]; exact Ar18.1) (State.isArrayOf_alike hZ.alike Ar18.2.1) Ar18.2.2 hin18 hat18 (g := (mkF m 64 #[.val (.ref fo), .val (.int mb), .val (.long (2 : Int64)), .second, .val (.long (1 : Int64)), .second, .val (.int (1 : Int32)), .val (.int M2), .unset, .unset] [(.int (1 : Int32)), (.ref ia), (.int (1 : Int32)), (.ref ia)])) rfl rfl (hb hby d5_64) _) ?_
  refine own_go (fun _ => XS.iconst X17.here hx rfl (hb hby d5_65)) ?_
  show ∃ t o, Steps p.tables e below (T17.setTop (mkF m 66 #[.val (.ref fo), .val (.int mb), .val (.long (2 : Int64)), .second, .val (.long (1 : Int64)), .second, .val (.int (1 : Int32)), .val (.int M2), .unset, .unset] [(.int (1 : Int32)), (.int M2), (.int (1 : Int32)), (.ref ia)])) t ∧ _
  refine own_go (fun _ => XS.iloadN X17.here hx rfl (hb hby d5_66) rfl) ?_
  refine own_go (fun _ => XS.ishl X17.here hx rfl (hb hby d5_67) rfl) ?_
  refine own_go (fun _ => XS.ior X17.here hx rfl (hb hby d5_68) rfl) ?_
  show ∃ t o, Steps p.tables e below (T17.setTop (mkF m 69 #[.val (.ref fo), .val (.int mb), .val (.long (2 : Int64)), .second, .val (.long (1 : Int64)), .second, .val (.int (1 : Int32)), .val (.int M2), .unset, .unset] [(.int (M2 ||| ((1 : Int32) <<< (mb &&& 31)))), (.int (1 : Int32)), (.ref ia)])) t ∧ _
  obtain ⟨cl19, Ar19, q19, S19, N19, H19, G19⟩ := id P9
  have hin19 : ¬ ((1 : Int32) < 0 ∨ cl19.slots.size ≤ ((1 : Int32)).toNatClampNeg) := inb_of S19 ⟨by decide, by decide⟩
  obtain ⟨T20, h20, X20, e20, W20, st20⟩ := stI X17 hx hZ e17 Ar19 (j := (1 : Int32)) hin19 (g := (mkF m 69 #[.val (.ref fo), .val (.int mb), .val (.long (2 : Int64)), .second, .val (.long (1 : Int64)), .second, .val (.int (1 : Int32)), .val (.int M2), .unset, .unset] [(.int (M2 ||| ((1 : Int32) <<< (mb &&& 31)))), (.int (1 : Int32)), (.ref ia)])) rfl rfl (hb hby d5_69)
  refine own_go st20 ?_
  have le_20 : h0.size ≤ h20.size := Nat.le_of_eq W20.size.symm
  have K20 : Keep h0 h20 [fo, ia] := Keep.wr (Keep.refl h0 [fo, ia]) W20 (Or.inl (List.mem_of_getElem? (i := 1) rfl))
  have N20 := Fr.snoc X20 N0 gi
  have V20 : Arv Z h20 ia ki .int (16 : Int32) [(.int M1), (.int (M2 ||| ((1 : Int32) <<< (mb &&& 31))))] (.int (0 : Int32)) := Arv.set Ar19 q19 S19 N19 H19 G19 rfl W20 1 rfl (Nat.le_of_ble_eq_true rfl)
  refine own_go (fun _ => XS.iload X20.here hx rfl (hb hby d5_70) rfl) ?_
  refine own_go (fun _ => XS.aloadN X20.here hx rfl (hb hby d5_72) rfl rfl) ?_
  show ∃ t o, Steps p.tables e below (T20.setTop (mkF m 73 #[.val (.ref fo), .val (.int mb), .val (.long (2 : Int64)), .second, .val (.long (1 : Int64)), .second, .val (.int (1 : Int32)), .val (.int M2), .unset, .unset] [(.ref fo), (.int M2)])) t ∧ _
  have F21 : Fld Z h20 fo "com/example/holdback/holdback/sim/InFlight" "everyone" "I" (.int ev) := (Fld.other W20 P5 (Or.inl nfi))
  obtain ⟨T22, X22, e22, st22⟩ := getF X20 hx hZ hown (host := "") (Or.inl (hw _ (List.mem_of_getElem? (i := 19) rfl))) Via.refl e20 F21 (g := (mkF m 73 #[.val (.ref fo), .val (.int mb), .val (.long (2 : Int64)), .second, .val (.long (1 : Int64)), .second, .val (.int (1 : Int32)), .val (.int M2), .unset, .unset] [(.ref fo), (.int M2)])) rfl rfl (hb hby d5_73)
  refine own_go st22 ?_
  show ∃ t o, Steps p.tables e below (T22.setTop (mkF m 76 #[.val (.ref fo), .val (.int mb), .val (.long (2 : Int64)), .second, .val (.long (1 : Int64)), .second, .val (.int (1 : Int32)), .val (.int M2), .unset, .unset] [(.int ev), (.int M2)])) t ∧ _
  by_cases hc23 : M2 = ev
  · refine own_go (fun _ => XS.icmpYes X22.here hx rfl (pc0 := 76) (pc' := 93) rfl (hb hby d5_76) rfl (teq hc23).1 (by decide) (by decide)) ?_
    refine own_go (fun _ => X22.ldc2DoubleC hx hown (mvT hZ (hw _ (List.mem_of_getElem? (i := 39) rfl))) (g := (mkF m 93 #[.val (.ref fo), .val (.int mb), .val (.long (2 : Int64)), .second, .val (.long (1 : Int64)), .second, .val (.int (1 : Int32)), .val (.int M2), .unset, .unset] [])) rfl (hb hby d5_93) _) ?_
    show ∃ t o, Steps p.tables e below (T22.setTop (mkF m 96 #[.val (.ref fo), .val (.int mb), .val (.long (2 : Int64)), .second, .val (.long (1 : Int64)), .second, .val (.int (1 : Int32)), .val (.int M2), .unset, .unset] [(.double (13830554455654793216 : UInt64))])) t ∧ _
    have F24 : Exa Z h20 fo "com/example/holdback/holdback/sim/InFlight" := (Exa.wr W20 P1)
    have F25 : Fld Z h20 fo "com/example/holdback/holdback/sim/InFlight" "multicastAt" "[D" (.ref da) := (Fld.other W20 P2 (Or.inl nfi))
    have F26 : Fld Z h20 fo "com/example/holdback/holdback/sim/InFlight" "deliveredBy" "[I" (.ref ia) := (Fld.other W20 P3 (Or.inl nfi))
    have F27 : Fld Z h20 fo "com/example/holdback/holdback/sim/InFlight" "firstSeq" "J" (.long (1 : Int64)) := (Fld.other W20 P4 (Or.inl nfi))
    have F28 : Fld Z h20 fo "com/example/holdback/holdback/sim/InFlight" "size" "I" (.int (2 : Int32)) := (Fld.other W20 P6 (Or.inl nfi))
    have F29 : Fld Z h20 fo "com/example/holdback/holdback/sim/InFlight" "first" "I" (.int (0 : Int32)) := (Fld.other W20 P7 (Or.inl nfi))
    obtain ⟨fs, hr, hrun, hended, hW, hsame⟩ := X22.leave (v := some (.double (13830554455654793216 : UInt64))) (fun h => by rw [Bd.returns] at h; cases h)
    refine ⟨_, _, ?_, hrun, hended, _, _, rfl, ?_, ⟨_, rfl⟩, hW, hsame.mono (by decide) (by decide)⟩
    · jvm_step X22.here [X22.here.top, hx, (hb hby d5_96), X22.method', Bd.returns, narrow]
      first | (intro acts; rw [hr _ acts rfl rfl rfl]) | rw [hr _ _ rfl rfl rfl]
      exact Steps.refl _
    · show Q_rmV3 Z _ _ _ _ _ _ _ _ _ _ _ h0 n0 _ T22.heap _
      rw [e22]
      exact ⟨(13830554455654793216 : UInt64), (0 : Int32), (2 : Int32), (1 : Int64), rfl, N20, K20, F24, F25, F26, F27, F21, F28, F29, V20, (by simp [hM, hc23]), (by simp [own_inv, hM, hc23])⟩
  · refine own_go (fun _ => XS.icmpNo X22.here hx rfl (hb hby d5_76) rfl (feq hc23).1) ?_
    refine own_go (fun _ => XS.aloadN X22.here hx rfl (hb hby d5_79) rfl rfl) ?_
    have F30 : Fld Z h20 fo "com/example/holdback/holdback/sim/InFlight" "deliveredBy" "[I" (.ref ia) := (Fld.other W20 P3 (Or.inl nfi))
    obtain ⟨T31, X31, e31, st31⟩ := getF X22 hx hZ hown (host := "") (Or.inl (hw _ (List.mem_of_getElem? (i := 15) rfl))) Via.refl e22 F30 (g := (mkF m 80 #[.val (.ref fo), .val (.int mb), .val (.long (2 : Int64)), .second, .val (.long (1 : Int64)), .second, .val (.int (1 : Int32)), .val (.int M2), .unset, .unset] [(.ref fo)])) rfl rfl (hb hby d5_80)
    refine own_go st31 ?_
    show ∃ t o, Steps p.tables e below (T31.setTop (mkF m 83 #[.val (.ref fo), .val (.int mb), .val (.long (2 : Int64)), .second, .val (.long (1 : Int64)), .second, .val (.int (1 : Int32)), .val (.int M2), .unset, .unset] [(.ref ia)])) t ∧ _
    refine own_go (fun _ => XS.iload X31.here hx rfl (hb hby d5_83) rfl) ?_
    obtain ⟨cl32, Ar32, q32, S32, N32, H32, G32⟩ := id V20
    have hin32 : ¬ ((1 : Int32) < 0 ∨ cl32.slots.size ≤ ((1 : Int32)).toNatClampNeg) := inb_of S32 ⟨by decide, by decide⟩
    have hat32 : cl32.slots[((1 : Int32)).toNatClampNeg]? = some (.int (M2 ||| ((1 : Int32) <<< (mb &&& 31)))) := Has.at H32 hin32 rfl
    refine own_go (fun _ => X31.iaload hx (j := (1 : Int32)) (v := (.int (M2 ||| ((1 : Int32) <<< (mb &&& 31))))) (by rw [e31]; exact Ar32.1) (State.isArrayOf_alike hZ.alike Ar32.2.1) Ar32.2.2 hin32 hat32 (g := (mkF m 85 #[.val (.ref fo), .val (.int mb), .val (.long (2 : Int64)), .second, .val (.long (1 : Int64)), .second, .val (.int (1 : Int32)), .val (.int M2), .unset, .unset] [(.int (1 : Int32)), (.ref ia)])) rfl rfl (hb hby d5_85) _) ?_
    refine own_go (fun _ => XS.aloadN X31.here hx rfl (hb hby d5_86) rfl rfl) ?_
    show ∃ t o, Steps p.tables e below (T31.setTop (mkF m 87 #[.val (.ref fo), .val (.int mb), .val (.long (2 : Int64)), .second, .val (.long (1 : Int64)), .second, .val (.int (1 : Int32)), .val (.int M2), .unset, .unset] [(.ref fo), (.int (M2 ||| ((1 : Int32) <<< (mb &&& 31))))])) t ∧ _
    obtain ⟨T33, X33, e33, st33⟩ := getF X31 hx hZ hown (host := "") (Or.inl (hw _ (List.mem_of_getElem? (i := 19) rfl))) Via.refl e31 F21 (g := (mkF m 87 #[.val (.ref fo), .val (.int mb), .val (.long (2 : Int64)), .second, .val (.long (1 : Int64)), .second, .val (.int (1 : Int32)), .val (.int M2), .unset, .unset] [(.ref fo), (.int (M2 ||| ((1 : Int32) <<< (mb &&& 31))))])) rfl rfl (hb hby d5_87)
    refine own_go st33 ?_
    show ∃ t o, Steps p.tables e below (T33.setTop (mkF m 90 #[.val (.ref fo), .val (.int mb), .val (.long (2 : Int64)), .second, .val (.long (1 : Int64)), .second, .val (.int (1 : Int32)), .val (.int M2), .unset, .unset] [(.int ev), (.int (M2 ||| ((1 : Int32) <<< (mb &&& 31))))])) t ∧ _
    by_cases hc34 : (M2 ||| ((1 : Int32) <<< (mb &&& 31))) = ev
    · refine own_go (fun _ => XS.icmpYes X33.here hx rfl (pc0 := 90) (pc' := 97) rfl (hb hby d5_90) rfl (teq hc34).1 (by decide) (by decide)) ?_
      refine own_go (fun _ => XS.aloadN X33.here hx rfl (hb hby d5_97) rfl rfl) ?_
      have F35 : Fld Z h20 fo "com/example/holdback/holdback/sim/InFlight" "multicastAt" "[D" (.ref da) := (Fld.other W20 P2 (Or.inl nfi))
      obtain ⟨T36, X36, e36, st36⟩ := getF X33 hx hZ hown (host := "") (Or.inl (hw _ (List.mem_of_getElem? (i := 13) rfl))) Via.refl e33 F35 (g := (mkF m 98 #[.val (.ref fo), .val (.int mb), .val (.long (2 : Int64)), .second, .val (.long (1 : Int64)), .second, .val (.int (1 : Int32)), .val (.int M2), .unset, .unset] [(.ref fo)])) rfl rfl (hb hby d5_98)
      refine own_go st36 ?_
      show ∃ t o, Steps p.tables e below (T36.setTop (mkF m 101 #[.val (.ref fo), .val (.int mb), .val (.long (2 : Int64)), .second, .val (.long (1 : Int64)), .second, .val (.int (1 : Int32)), .val (.int M2), .unset, .unset] [(.ref da)])) t ∧ _
      refine own_go (fun _ => XS.iload X36.here hx rfl (hb hby d5_101) rfl) ?_
      have F37 : Arv Z h20 da kd .double (16 : Int32) [(.double A1), (.double A2)] (.double (0 : UInt64)) := (Arv.other P8 W20 ndi)
      obtain ⟨cl38, Ar38, q38, S38, N38, H38, G38⟩ := id F37
      have hin38 : ¬ ((1 : Int32) < 0 ∨ cl38.slots.size ≤ ((1 : Int32)).toNatClampNeg) := inb_of S38 ⟨by decide, by decide⟩
      have hat38 : cl38.slots[((1 : Int32)).toNatClampNeg]? = some (.double A2) := Has.at H38 hin38 rfl
      refine own_go (fun _ => X36.daload hx (j := (1 : Int32)) (v := (.double A2)) (by rw [e36]; exact Ar38.1) (State.isArrayOf_alike hZ.alike Ar38.2.1) Ar38.2.2 hin38 hat38 (g := (mkF m 103 #[.val (.ref fo), .val (.int mb), .val (.long (2 : Int64)), .second, .val (.long (1 : Int64)), .second, .val (.int (1 : Int32)), .val (.int M2), .unset, .unset] [(.int (1 : Int32)), (.ref da)])) rfl rfl (hb hby d5_103) _) ?_
      refine own_go (fun _ => XS.dstore X36.here hx rfl (hb hby d5_104) rfl (l' := #[.val (.ref fo), .val (.int mb), .val (.long (2 : Int64)), .second, .val (.long (1 : Int64)), .second, .val (.int (1 : Int32)), .val (.int M2), .val (.double A2), .second]) rfl) ?_
      show ∃ t o, Steps p.tables e below (T36.setTop (mkF m 106 #[.val (.ref fo), .val (.int mb), .val (.long (2 : Int64)), .second, .val (.long (1 : Int64)), .second, .val (.int (1 : Int32)), .val (.int M2), .val (.double A2), .second] [])) t ∧ _
      refine own_go (fun _ => XS.aloadN X36.here hx rfl (hb hby d5_106) rfl rfl) ?_
      have F39 : Fld Z h20 fo "com/example/holdback/holdback/sim/InFlight" "size" "I" (.int (2 : Int32)) := (Fld.other W20 P6 (Or.inl nfi))
      obtain ⟨T40, X40, e40, st40⟩ := getF X36 hx hZ hown (host := "") (Or.inl (hw _ (List.mem_of_getElem? (i := 26) rfl))) Via.refl e36 F39 (g := (mkF m 107 #[.val (.ref fo), .val (.int mb), .val (.long (2 : Int64)), .second, .val (.long (1 : Int64)), .second, .val (.int (1 : Int32)), .val (.int M2), .val (.double A2), .second] [(.ref fo)])) rfl rfl (hb hby d5_107)
      refine own_go st40 ?_
      show ∃ t o, Steps p.tables e below (T40.setTop (mkF m 110 #[.val (.ref fo), .val (.int mb), .val (.long (2 : Int64)), .second, .val (.long (1 : Int64)), .second, .val (.int (1 : Int32)), .val (.int M2), .val (.double A2), .second] [(.int (2 : Int32))])) t ∧ _
      refine own_go (fun _ => XS.ifNo X40.here hx rfl (hb hby d5_110) rfl ((if0 _ _).trans (tlt (by decide : (0 : Int32) < (2 : Int32))).2.2.2)) ?_
      refine own_go (fun _ => XS.aloadN X40.here hx rfl (hb hby d5_113) rfl rfl) ?_
      obtain ⟨T41, X41, e41, st41⟩ := getF X40 hx hZ hown (host := "") (Or.inl (hw _ (List.mem_of_getElem? (i := 15) rfl))) Via.refl e40 F30 (g := (mkF m 114 #[.val (.ref fo), .val (.int mb), .val (.long (2 : Int64)), .second, .val (.long (1 : Int64)), .second, .val (.int (1 : Int32)), .val (.int M2), .val (.double A2), .second] [(.ref fo)])) rfl rfl (hb hby d5_114)
      refine own_go st41 ?_
      show ∃ t o, Steps p.tables e below (T41.setTop (mkF m 117 #[.val (.ref fo), .val (.int mb), .val (.long (2 : Int64)), .second, .val (.long (1 : Int64)), .second, .val (.int (1 : Int32)), .val (.int M2), .val (.double A2), .second] [(.ref ia)])) t ∧ _
      refine own_go (fun _ => XS.aloadN X41.here hx rfl (hb hby d5_117) rfl rfl) ?_
      have F42 : Fld Z h20 fo "com/example/holdback/holdback/sim/InFlight" "first" "I" (.int (0 : Int32)) := (Fld.other W20 P7 (Or.inl nfi))
      obtain ⟨T43, X43, e43, st43⟩ := getF X41 hx hZ hown (host := "") (Or.inl (hw _ (List.mem_of_getElem? (i := 28) rfl))) Via.refl e41 F42 (g := (mkF m 118 #[.val (.ref fo), .val (.int mb), .val (.long (2 : Int64)), .second, .val (.long (1 : Int64)), .second, .val (.int (1 : Int32)), .val (.int M2), .val (.double A2), .second] [(.ref fo), (.ref ia)])) rfl rfl (hb hby d5_118)
      refine own_go st43 ?_
      obtain ⟨cl44, Ar44, q44, S44, N44, H44, G44⟩ := id V20
      have hin44 : ¬ ((0 : Int32) < 0 ∨ cl44.slots.size ≤ ((0 : Int32)).toNatClampNeg) := inb_of S44 ⟨by decide, by decide⟩
      have hat44 : cl44.slots[((0 : Int32)).toNatClampNeg]? = some (.int M1) := Has.at H44 hin44 rfl
      refine own_go (fun _ => X43.iaload hx (j := (0 : Int32)) (v := (.int M1)) (by rw [e43]; exact Ar44.1) (State.isArrayOf_alike hZ.alike Ar44.2.1) Ar44.2.2 hin44 hat44 (g := (mkF m 121 #[.val (.ref fo), .val (.int mb), .val (.long (2 : Int64)), .second, .val (.long (1 : Int64)), .second, .val (.int (1 : Int32)), .val (.int M2), .val (.double A2), .second] [(.int (0 : Int32)), (.ref ia)])) rfl rfl (hb hby d5_121) _) ?_
      show ∃ t o, Steps p.tables e below (T43.setTop (mkF m 122 #[.val (.ref fo), .val (.int mb), .val (.long (2 : Int64)), .second, .val (.long (1 : Int64)), .second, .val (.int (1 : Int32)), .val (.int M2), .val (.double A2), .second] [(.int M1)])) t ∧ _
      refine own_go (fun _ => XS.aloadN X43.here hx rfl (hb hby d5_122) rfl rfl) ?_
      obtain ⟨T45, X45, e45, st45⟩ := getF X43 hx hZ hown (host := "") (Or.inl (hw _ (List.mem_of_getElem? (i := 19) rfl))) Via.refl e43 F21 (g := (mkF m 123 #[.val (.ref fo), .val (.int mb), .val (.long (2 : Int64)), .second, .val (.long (1 : Int64)), .second, .val (.int (1 : Int32)), .val (.int M2), .val (.double A2), .second] [(.ref fo), (.int M1)])) rfl rfl (hb hby d5_123)
      refine own_go st45 ?_
      show ∃ t o, Steps p.tables e below (T45.setTop (mkF m 126 #[.val (.ref fo), .val (.int mb), .val (.long (2 : Int64)), .second, .val (.long (1 : Int64)), .second, .val (.int (1 : Int32)), .val (.int M2), .val (.double A2), .second] [(.int ev), (.int M1)])) t ∧ _
      refine own_go (fun _ => XS.icmpYes X45.here hx rfl (pc0 := 126) (pc' := 170) rfl (hb hby d5_126) rfl (feq hM).2 (by decide) (by decide)) ?_
      refine own_go (fun _ => XS.dload X45.here hx rfl (hb hby d5_170) rfl) ?_
      show ∃ t o, Steps p.tables e below (T45.setTop (mkF m 172 #[.val (.ref fo), .val (.int mb), .val (.long (2 : Int64)), .second, .val (.long (1 : Int64)), .second, .val (.int (1 : Int32)), .val (.int M2), .val (.double A2), .second] [(.double A2)])) t ∧ _
      have F46 : Exa Z h20 fo "com/example/holdback/holdback/sim/InFlight" := (Exa.wr W20 P1)
      have F47 : Fld Z h20 fo "com/example/holdback/holdback/sim/InFlight" "firstSeq" "J" (.long (1 : Int64)) := (Fld.other W20 P4 (Or.inl nfi))
      obtain ⟨fs, hr, hrun, hended, hW, hsame⟩ := X45.leave (v := some (.double A2)) (fun h => by rw [Bd.returns] at h; cases h)
      refine ⟨_, _, ?_, hrun, hended, _, _, rfl, ?_, ⟨_, rfl⟩, hW, hsame.mono (by decide) (by decide)⟩
      · jvm_step X45.here [X45.here.top, hx, (hb hby d5_172), X45.method', Bd.returns, narrow]
        first | (intro acts; rw [hr _ acts rfl rfl rfl]) | rw [hr _ _ rfl rfl rfl]
        exact Steps.refl _
      · show Q_rmV3 Z _ _ _ _ _ _ _ _ _ _ _ h0 n0 _ T45.heap _
        rw [e45]
        exact ⟨A2, (0 : Int32), (2 : Int32), (1 : Int64), rfl, N20, K20, F46, F35, F30, F47, F21, F39, F42, V20, (by simp [hM, hc23, hc34]), (by simp [own_inv, hM, hc23, hc34])⟩
    · refine own_go (fun _ => XS.icmpNo X33.here hx rfl (hb hby d5_90) rfl (feq hc34).1) ?_
      refine own_go (fun _ => X33.ldc2DoubleC hx hown (mvT hZ (hw _ (List.mem_of_getElem? (i := 39) rfl))) (g := (mkF m 93 #[.val (.ref fo), .val (.int mb), .val (.long (2 : Int64)), .second, .val (.long (1 : Int64)), .second, .val (.int (1 : Int32)), .val (.int M2), .unset, .unset] [])) rfl (hb hby d5_93) _) ?_
      show ∃ t o, Steps p.tables e below (T33.setTop (mkF m 96 #[.val (.ref fo), .val (.int mb), .val (.long (2 : Int64)), .second, .val (.long (1 : Int64)), .second, .val (.int (1 : Int32)), .val (.int M2), .unset, .unset] [(.double (13830554455654793216 : UInt64))])) t ∧ _
      have F48 : Exa Z h20 fo "com/example/holdback/holdback/sim/InFlight" := (Exa.wr W20 P1)
      have F49 : Fld Z h20 fo "com/example/holdback/holdback/sim/InFlight" "multicastAt" "[D" (.ref da) := (Fld.other W20 P2 (Or.inl nfi))
      have F50 : Fld Z h20 fo "com/example/holdback/holdback/sim/InFlight" "firstSeq" "J" (.long (1 : Int64)) := (Fld.other W20 P4 (Or.inl nfi))
      have F51 : Fld Z h20 fo "com/example/holdback/holdback/sim/InFlight" "size" "I" (.int (2 : Int32)) := (Fld.other W20 P6 (Or.inl nfi))
      have F52 : Fld Z h20 fo "com/example/holdback/holdback/sim/InFlight" "first" "I" (.int (0 : Int32)) := (Fld.other W20 P7 (Or.inl nfi))
      obtain ⟨fs, hr, hrun, hended, hW, hsame⟩ := X33.leave (v := some (.double (13830554455654793216 : UInt64))) (fun h => by rw [Bd.returns] at h; cases h)
      refine ⟨_, _, ?_, hrun, hended, _, _, rfl, ?_, ⟨_, rfl⟩, hW, hsame.mono (by decide) (by decide)⟩
      · jvm_step X33.here [X33.here.top, hx, (hb hby d5_96), X33.method', Bd.returns, narrow]
        first | (intro acts; rw [hr _ acts rfl rfl rfl]) | rw [hr _ _ rfl rfl rfl]
        exact Steps.refl _
      · show Q_rmV3 Z _ _ _ _ _ _ _ _ _ _ _ h0 n0 _ T33.heap _
        rw [e33]
        exact ⟨(13830554455654793216 : UInt64), (0 : Int32), (2 : Int32), (1 : Int64), rfl, N20, K20, F48, F49, F30, F50, F21, F51, F52, V20, (by simp [hM, hc23, hc34]), (by simp [own_inv, hM, hc23, hc34])⟩
theorem ef_rmV4 (m : MethodId) (x0 : Nat) (x1 : Int32) (x2 : Int64) : entryFrame m #[(.ref x0), (.int x1), (.long x2)] 10 = mkF m 0 #[.val (.ref x0), .val (.int x1), .val (.long x2), .second, .unset, .unset, .unset, .unset, .unset, .unset] [] := by first | (simp [entryFrame, mkF, argsToLocals, Value.category]; done) | rfl
def Q_rmV4 (Z : State) (fo : Nat) (da : Nat) (ia : Nat) (kd : ClassId) (ki : ClassId) (ev : Int32) (M1 : Int32) (M2 : Int32) (A1 : UInt64) (A2 : UInt64) (mb : Int32) (h0 : Heap) (n0 : Nat) (v : Option Value) (h : Heap) (L : List Loc) : Prop := ∃ (rr : UInt64), ∃ (fi2 : Int32), ∃ (sz2 : Int32), ∃ (fq2 : Int64), v = some (.double rr) ∧ Fr n0 L ∧ Keep h0 h [fo, ia] ∧ Exa Z h fo "com/example/holdback/holdback/sim/InFlight" ∧ Fld Z h fo "com/example/holdback/holdback/sim/InFlight" "multicastAt" "[D" (.ref da) ∧ Fld Z h fo "com/example/holdback/holdback/sim/InFlight" "deliveredBy" "[I" (.ref ia) ∧ Fld Z h fo "com/example/holdback/holdback/sim/InFlight" "firstSeq" "J" (.long fq2) ∧ Fld Z h fo "com/example/holdback/holdback/sim/InFlight" "everyone" "I" (.int ev) ∧ Fld Z h fo "com/example/holdback/holdback/sim/InFlight" "size" "I" (.int sz2) ∧ Fld Z h fo "com/example/holdback/holdback/sim/InFlight" "first" "I" (.int fi2) ∧ Arv Z h ia ki .int (16 : Int32) [(.int M1), (.int (M2 ||| ((1 : Int32) <<< (mb &&& 31))))] (.int (0 : Int32)) ∧ (rr = (if ¬ (M2 = ev) ∧ (M2 ||| ((1 : Int32) <<< (mb &&& 31))) = ev then A2 else (13830554455654793216 : UInt64))) ∧ (own_inv (2 : Int32) ev fi2 sz2 fq2 M1 (M2 ||| ((1 : Int32) <<< (mb &&& 31))))
set_option maxRecDepth 65536 in
set_option maxHeartbeats 40000000 in
theorem rmV4 (l : Launch) (Z : State) (a0 : Array Value) (hw : ∀ d ∈ tables_1, d.before a0 Z = true) (ws : List Jvm.Cond) (fo : Nat) (da : Nat) (ia : Nat) (kd : ClassId) (ki : ClassId) (ev : Int32) (M1 : Int32) (M2 : Int32) (A1 : UInt64) (A2 : UInt64) (mb : Int32) (h0 : Heap) (n0 : Nat) (Z0 : n0 ≤ h0.size) (P1 : Exa Z h0 fo "com/example/holdback/holdback/sim/InFlight") (P2 : Fld Z h0 fo "com/example/holdback/holdback/sim/InFlight" "multicastAt" "[D" (.ref da)) (P3 : Fld Z h0 fo "com/example/holdback/holdback/sim/InFlight" "deliveredBy" "[I" (.ref ia)) (P4 : Fld Z h0 fo "com/example/holdback/holdback/sim/InFlight" "firstSeq" "J" (.long (2 : Int64))) (P5 : Fld Z h0 fo "com/example/holdback/holdback/sim/InFlight" "everyone" "I" (.int ev)) (P6 : Fld Z h0 fo "com/example/holdback/holdback/sim/InFlight" "size" "I" (.int (1 : Int32))) (P7 : Fld Z h0 fo "com/example/holdback/holdback/sim/InFlight" "first" "I" (.int (1 : Int32))) (P8 : Arv Z h0 da kd .double (16 : Int32) [(.double A1), (.double A2)] (.double (0 : UInt64))) (P9 : Arv Z h0 ia ki .int (16 : Int32) [(.int M1), (.int M2)] (.int (0 : Int32))) (OLD : Old Z n0 h0) (gf : n0 ≤ fo) (gd : n0 ≤ da) (gi : n0 ≤ ia) (nfd : fo ≠ da) (nfi : fo ≠ ia) (ndi : da ≠ ia) (ndf : da ≠ fo) (nif : ia ≠ fo) (nid : ia ≠ da) (hM : M1 = ev) (hM2 : ¬ (M2 = ev)) :
    MetFree l (⟨"com/example/holdback/holdback/sim/InFlight", "delivered", "(IJ)D"⟩ : MethodName) (head1 (Jvm.Cond.code (⟨"com/example/holdback/holdback/sim/InFlight", "delivered", "(IJ)D"⟩ : MethodName) prog_167_method_3_code 10 (some .double) :: ws) ({ frames := 0, cells := 0, slots := 0, locals := 0 } : Room)) (fun a U => a = #[(.ref fo), (.int mb), (.long (2 : Int64))] ∧ Z.Warmed39 U.vm ∧ U.heap = h0) (fun _ _ _ _ _ => True) (fun _ U o U' => ∃ v L, o = .returned v ∧ Q_rmV4 Z fo da ia kd ki ev M1 M2 A1 A2 mb h0 n0 v U'.heap L ∧ FrameEnd U o U' L ({ frames := 0, cells := 0, slots := 0, locals := 0 } : Room).cells ({ frames := 0, cells := 0, slots := 0, locals := 0 } : Room).slots) := by
  refine MetFree.of_bodySF (plainFor_of_name pn_com_example_holdback_holdback_sim_InFlight) hisR ?_
  intro p e s m args below meth c s₁ Bd hml0 hP hK
  obtain ⟨rfl, hZ, hh⟩ := hP
  have hx := Bd.exec
  have hby := Bd.bytes
  have hml : c.maxLocals = 10 := hml0
  have hown : s.vm.findClass "com/example/holdback/holdback/sim/InFlight" = some m.cls := findClass_of_methodNamed Bd.named
  have hnm := (name_of_methodNamed Bd.named Bd.method).1
  have X0 : Stand p l e ({ frames := 0, cells := 0, slots := 0, locals := 0 } : Room) s m #[(.ref fo), (.int mb), (.long (2 : Int64))] below meth c s₁ [] 0 0 := Stand.of_body Bd
  have e0 : s₁.heap = h0 := by rw [← hh, Bd.state]; rfl
  have N0 := Fr.nil n0
  have pre0 : ∀ t, Steps p.tables e below (s₁.setTop (mkF m 0 #[.val (.ref fo), .val (.int mb), .val (.long (2 : Int64)), .second, .unset, .unset, .unset, .unset, .unset, .unset] [])) t → Steps p.tables e below (s₁.setTop (entryFrame m #[(.ref fo), (.int mb), (.long (2 : Int64))] 10)) t := fun t k => castTop (ef_rmV4 m fo mb (2 : Int64)) k
  have oz := OLD.1
  have lt_da : da < h0.size := P8.lt
  have lt_fo : fo < h0.size := P1.lt
  have lt_ia : ia < h0.size := P9.lt
  refine own_go (B := s₁.setTop (mkF m 0 #[.val (.ref fo), .val (.int mb), .val (.long (2 : Int64)), .second, .unset, .unset, .unset, .unset, .unset, .unset] [])) pre0 ?_
  show ∃ t o, Steps p.tables e below (s₁.setTop (mkF m 0 #[.val (.ref fo), .val (.int mb), .val (.long (2 : Int64)), .second, .unset, .unset, .unset, .unset, .unset, .unset] [])) t ∧ _
  refine own_go (fun _ => XS.lloadN X0.here hx rfl (hb hby d5_0) rfl) ?_
  refine own_go (fun _ => XS.aloadN X0.here hx rfl (hb hby d5_1) rfl rfl) ?_
  obtain ⟨T10, X10, e10, st10⟩ := getF X0 hx hZ hown (host := "") (Or.inl (hw _ (List.mem_of_getElem? (i := 17) rfl))) Via.refl e0 P4 (g := (mkF m 2 #[.val (.ref fo), .val (.int mb), .val (.long (2 : Int64)), .second, .unset, .unset, .unset, .unset, .unset, .unset] [(.ref fo), (.long (2 : Int64))])) rfl rfl (hb hby d5_2)
  refine own_go st10 ?_
  show ∃ t o, Steps p.tables e below (T10.setTop (mkF m 5 #[.val (.ref fo), .val (.int mb), .val (.long (2 : Int64)), .second, .unset, .unset, .unset, .unset, .unset, .unset] [(.long (2 : Int64)), (.long (2 : Int64))])) t ∧ _
  refine own_go (fun _ => XS.lsub X10.here hx rfl (hb hby d5_5) rfl) ?_
  refine own_go (fun _ => XS.lstore X10.here hx rfl (hb hby d5_6) rfl (l' := #[.val (.ref fo), .val (.int mb), .val (.long (2 : Int64)), .second, .val (.long (0 : Int64)), .second, .unset, .unset, .unset, .unset]) rfl) ?_
  refine own_go (fun _ => XS.lload X10.here hx rfl (hb hby d5_8) rfl) ?_
  show ∃ t o, Steps p.tables e below (T10.setTop (mkF m 10 #[.val (.ref fo), .val (.int mb), .val (.long (2 : Int64)), .second, .val (.long (0 : Int64)), .second, .unset, .unset, .unset, .unset] [(.long (0 : Int64))])) t ∧ _
  refine own_go (fun _ => XS.lconst X10.here hx rfl (hb hby d5_10)) ?_
  refine own_go (fun _ => XS.lcmp X10.here hx rfl (hb hby d5_11) rfl) ?_
  show ∃ t o, Steps p.tables e below (T10.setTop (mkF m 12 #[.val (.ref fo), .val (.int mb), .val (.long (2 : Int64)), .second, .val (.long (0 : Int64)), .second, .unset, .unset, .unset, .unset] [(.int (lcmpW (0 : Int64) (0 : Int64)))])) t ∧ _
  refine own_go (fun _ => XS.ifNo X10.here hx rfl (hb hby d5_12) rfl ((if0 _ _).trans (flt (mt (lw_lt _ _).mp (by decide : ¬ ((0 : Int64) < (0 : Int64))))).1)) ?_
  refine own_go (fun _ => XS.lload X10.here hx rfl (hb hby d5_15) rfl) ?_
  refine own_go (fun _ => XS.aloadN X10.here hx rfl (hb hby d5_17) rfl rfl) ?_
  show ∃ t o, Steps p.tables e below (T10.setTop (mkF m 18 #[.val (.ref fo), .val (.int mb), .val (.long (2 : Int64)), .second, .val (.long (0 : Int64)), .second, .unset, .unset, .unset, .unset] [(.ref fo), (.long (0 : Int64))])) t ∧ _
  obtain ⟨T11, X11, e11, st11⟩ := getF X10 hx hZ hown (host := "") (Or.inl (hw _ (List.mem_of_getElem? (i := 26) rfl))) Via.refl e10 P6 (g := (mkF m 18 #[.val (.ref fo), .val (.int mb), .val (.long (2 : Int64)), .second, .val (.long (0 : Int64)), .second, .unset, .unset, .unset, .unset] [(.ref fo), (.long (0 : Int64))])) rfl rfl (hb hby d5_18)
  refine own_go st11 ?_
  refine own_go (fun _ => XS.i2l X11.here hx rfl (hb hby d5_21) rfl) ?_
  refine own_go (fun _ => XS.lcmp X11.here hx rfl (hb hby d5_22) rfl) ?_
  show ∃ t o, Steps p.tables e below (T11.setTop (mkF m 23 #[.val (.ref fo), .val (.int mb), .val (.long (2 : Int64)), .second, .val (.long (0 : Int64)), .second, .unset, .unset, .unset, .unset] [(.int (lcmpW (0 : Int64) (1 : Int64)))])) t ∧ _
  refine own_go (fun _ => XS.ifYes X11.here hx rfl (pc0 := 23) (pc' := 30) rfl (hb hby d5_23) rfl ((if0 _ _).trans (tlt ((lw_lt _ _).mpr (by decide : (0 : Int64) < (1 : Int64)))).1) (by decide) (by decide)) ?_
  refine own_go (fun _ => XS.aloadN X11.here hx rfl (hb hby d5_30) rfl rfl) ?_
  obtain ⟨T12, X12, e12, st12⟩ := getF X11 hx hZ hown (host := "") (Or.inl (hw _ (List.mem_of_getElem? (i := 28) rfl))) Via.refl e11 P7 (g := (mkF m 31 #[.val (.ref fo), .val (.int mb), .val (.long (2 : Int64)), .second, .val (.long (0 : Int64)), .second, .unset, .unset, .unset, .unset] [(.ref fo)])) rfl rfl (hb hby d5_31)
  refine own_go st12 ?_
  show ∃ t o, Steps p.tables e below (T12.setTop (mkF m 34 #[.val (.ref fo), .val (.int mb), .val (.long (2 : Int64)), .second, .val (.long (0 : Int64)), .second, .unset, .unset, .unset, .unset] [(.int (1 : Int32))])) t ∧ _
  refine own_go (fun _ => XS.lload X12.here hx rfl (hb hby d5_34) rfl) ?_
  refine own_go (fun _ => XS.l2i X12.here hx rfl (hb hby d5_36) rfl) ?_
  refine own_go (fun _ => XS.iadd X12.here hx rfl (hb hby d5_37) rfl) ?_
  show ∃ t o, Steps p.tables e below (T12.setTop (mkF m 38 #[.val (.ref fo), .val (.int mb), .val (.long (2 : Int64)), .second, .val (.long (0 : Int64)), .second, .unset, .unset, .unset, .unset] [(.int (1 : Int32))])) t ∧ _
  refine own_go (fun _ => XS.aloadN X12.here hx rfl (hb hby d5_38) rfl rfl) ?_
  obtain ⟨T13, X13, e13, st13⟩ := getF X12 hx hZ hown (host := "") (Or.inl (hw _ (List.mem_of_getElem? (i := 13) rfl))) Via.refl e12 P2 (g := (mkF m 39 #[.val (.ref fo), .val (.int mb), .val (.long (2 : Int64)), .second, .val (.long (0 : Int64)), .second, .unset, .unset, .unset, .unset] [(.ref fo), (.int (1 : Int32))])) rfl rfl (hb hby d5_39)
  refine own_go st13 ?_
  obtain ⟨cl14, Ar14, q14, S14, N14, H14, G14⟩ := id P8
  have ln14 : cl14.slots.size.toInt32 = (16 : Int32) := len_of S14 N14
  have al14 := X13.arraylength hx (by rw [e13]; exact Ar14.1) (State.isArrayOf_alike hZ.alike Ar14.2.1) (g := (mkF m 42 #[.val (.ref fo), .val (.int mb), .val (.long (2 : Int64)), .second, .val (.long (0 : Int64)), .second, .unset, .unset, .unset, .unset] [(.ref da), (.int (1 : Int32))])) rfl rfl (hb hby d5_42)
  rw [ln14] at al14
  refine own_go al14 ?_
  show ∃ t o, Steps p.tables e below (T13.setTop (mkF m 43 #[.val (.ref fo), .val (.int mb), .val (.long (2 : Int64)), .second, .val (.long (0 : Int64)), .second, .unset, .unset, .unset, .unset] [(.int (16 : Int32)), (.int (1 : Int32))])) t ∧ _
  refine own_go (fun _ => XS.iconst X13.here hx rfl (hb hby d5_43)) ?_
  refine own_go (fun _ => XS.isub X13.here hx rfl (hb hby d5_44) rfl) ?_
  refine own_go (fun _ => XS.iand X13.here hx rfl (hb hby d5_45) rfl) ?_
  show ∃ t o, Steps p.tables e below (T13.setTop (mkF m 46 #[.val (.ref fo), .val (.int mb), .val (.long (2 : Int64)), .second, .val (.long (0 : Int64)), .second, .unset, .unset, .unset, .unset] [(.int (1 : Int32))])) t ∧ _
  refine own_go (fun _ => XS.istore X13.here hx rfl (hb hby d5_46) rfl (l' := #[.val (.ref fo), .val (.int mb), .val (.long (2 : Int64)), .second, .val (.long (0 : Int64)), .second, .val (.int (1 : Int32)), .unset, .unset, .unset]) rfl) ?_
  refine own_go (fun _ => XS.aloadN X13.here hx rfl (hb hby d5_48) rfl rfl) ?_
  obtain ⟨T15, X15, e15, st15⟩ := getF X13 hx hZ hown (host := "") (Or.inl (hw _ (List.mem_of_getElem? (i := 15) rfl))) Via.refl e13 P3 (g := (mkF m 49 #[.val (.ref fo), .val (.int mb), .val (.long (2 : Int64)), .second, .val (.long (0 : Int64)), .second, .val (.int (1 : Int32)), .unset, .unset, .unset] [(.ref fo)])) rfl rfl (hb hby d5_49)
  refine own_go st15 ?_
  show ∃ t o, Steps p.tables e below (T15.setTop (mkF m 52 #[.val (.ref fo), .val (.int mb), .val (.long (2 : Int64)), .second, .val (.long (0 : Int64)), .second, .val (.int (1 : Int32)), .unset, .unset, .unset] [(.ref ia)])) t ∧ _
  refine own_go (fun _ => XS.iload X15.here hx rfl (hb hby d5_52) rfl) ?_
  obtain ⟨cl16, Ar16, q16, S16, N16, H16, G16⟩ := id P9
  have hin16 : ¬ ((1 : Int32) < 0 ∨ cl16.slots.size ≤ ((1 : Int32)).toNatClampNeg) := inb_of S16 ⟨by decide, by decide⟩
  have hat16 : cl16.slots[((1 : Int32)).toNatClampNeg]? = some (.int M2) := Has.at H16 hin16 rfl
  refine own_go (fun _ => X15.iaload hx (j := (1 : Int32)) (v := (.int M2)) (by rw [e15]; exact Ar16.1) (State.isArrayOf_alike hZ.alike Ar16.2.1) Ar16.2.2 hin16 hat16 (g := (mkF m 54 #[.val (.ref fo), .val (.int mb), .val (.long (2 : Int64)), .second, .val (.long (0 : Int64)), .second, .val (.int (1 : Int32)), .unset, .unset, .unset] [(.int (1 : Int32)), (.ref ia)])) rfl rfl (hb hby d5_54) _) ?_
  refine own_go (fun _ => XS.istore X15.here hx rfl (hb hby d5_55) rfl (l' := #[.val (.ref fo), .val (.int mb), .val (.long (2 : Int64)), .second, .val (.long (0 : Int64)), .second, .val (.int (1 : Int32)), .val (.int M2), .unset, .unset]) rfl) ?_
  show ∃ t o, Steps p.tables e below (T15.setTop (mkF m 57 #[.val (.ref fo), .val (.int mb), .val (.long (2 : Int64)), .second, .val (.long (0 : Int64)), .second, .val (.int (1 : Int32)), .val (.int M2), .unset, .unset] [])) t ∧ _
  refine own_go (fun _ => XS.aloadN X15.here hx rfl (hb hby d5_57) rfl rfl) ?_
  obtain ⟨T17, X17, e17, st17⟩ := getF X15 hx hZ hown (host := "") (Or.inl (hw _ (List.mem_of_getElem? (i := 15) rfl))) Via.refl e15 P3 (g := (mkF m 58 #[.val (.ref fo), .val (.int mb), .val (.long (2 : Int64)), .second, .val (.long (0 : Int64)), .second, .val (.int (1 : Int32)), .val (.int M2), .unset, .unset] [(.ref fo)])) rfl rfl (hb hby d5_58)
  refine own_go st17 ?_
  refine own_go (fun _ => XS.iload X17.here hx rfl (hb hby d5_61) rfl) ?_
  show ∃ t o, Steps p.tables e below (T17.setTop (mkF m 63 #[.val (.ref fo), .val (.int mb), .val (.long (2 : Int64)), .second, .val (.long (0 : Int64)), .second, .val (.int (1 : Int32)), .val (.int M2), .unset, .unset] [(.int (1 : Int32)), (.ref ia)])) t ∧ _
  refine own_go (fun _ => Jvm.Free.XT.dup2 X17.here hx rfl (hb hby d5_63) rfl rfl rfl) ?_
  obtain ⟨cl18, Ar18, q18, S18, N18, H18, G18⟩ := id P9
  have hin18 : ¬ ((1 : Int32) < 0 ∨ cl18.slots.size ≤ ((1 : Int32)).toNatClampNeg) := inb_of S18 ⟨by decide, by decide⟩
  have hat18 : cl18.slots[((1 : Int32)).toNatClampNeg]? = some (.int M2) := Has.at H18 hin18 rfl
  refine own_go (fun _ => X17.iaload hx (j := (1 : Int32)) (v := (.int M2)) (by rw [e17]; exact Ar18.1) (State.isArrayOf_alike hZ.alike Ar18.2.1) Ar18.2.2 hin18 hat18 (g := (mkF m 64 #[.val (.ref fo), .val (.int mb), .val (.long (2 : Int64)), .second, .val (.long (0 : Int64)), .second, .val (.int (1 : Int32)), .val (.int M2), .unset, .unset] [(.int (1 : Int32)), (.ref ia), (.int (1 : Int32)), (.ref ia)])) rfl rfl (hb hby d5_64) _) ?_
  refine own_go (fun _ => XS.iconst X17.here hx rfl (hb hby d5_65)) ?_
  show ∃ t o, Steps p.tables e below (T17.setTop (mkF m 66 #[.val (.ref fo), .val (.int mb), .val (.long (2 : Int64)), .second, .val (.long (0 : Int64)), .second, .val (.int (1 : Int32)), .val (.int M2), .unset, .unset] [(.int (1 : Int32)), (.int M2), (.int (1 : Int32)), (.ref ia)])) t ∧ _
  refine own_go (fun _ => XS.iloadN X17.here hx rfl (hb hby d5_66) rfl) ?_
  refine own_go (fun _ => XS.ishl X17.here hx rfl (hb hby d5_67) rfl) ?_
  refine own_go (fun _ => XS.ior X17.here hx rfl (hb hby d5_68) rfl) ?_
  show ∃ t o, Steps p.tables e below (T17.setTop (mkF m 69 #[.val (.ref fo), .val (.int mb), .val (.long (2 : Int64)), .second, .val (.long (0 : Int64)), .second, .val (.int (1 : Int32)), .val (.int M2), .unset, .unset] [(.int (M2 ||| ((1 : Int32) <<< (mb &&& 31)))), (.int (1 : Int32)), (.ref ia)])) t ∧ _
  obtain ⟨cl19, Ar19, q19, S19, N19, H19, G19⟩ := id P9
  have hin19 : ¬ ((1 : Int32) < 0 ∨ cl19.slots.size ≤ ((1 : Int32)).toNatClampNeg) := inb_of S19 ⟨by decide, by decide⟩
  obtain ⟨T20, h20, X20, e20, W20, st20⟩ := stI X17 hx hZ e17 Ar19 (j := (1 : Int32)) hin19 (g := (mkF m 69 #[.val (.ref fo), .val (.int mb), .val (.long (2 : Int64)), .second, .val (.long (0 : Int64)), .second, .val (.int (1 : Int32)), .val (.int M2), .unset, .unset] [(.int (M2 ||| ((1 : Int32) <<< (mb &&& 31)))), (.int (1 : Int32)), (.ref ia)])) rfl rfl (hb hby d5_69)
  refine own_go st20 ?_
  have le_20 : h0.size ≤ h20.size := Nat.le_of_eq W20.size.symm
  have K20 : Keep h0 h20 [fo, ia] := Keep.wr (Keep.refl h0 [fo, ia]) W20 (Or.inl (List.mem_of_getElem? (i := 1) rfl))
  have N20 := Fr.snoc X20 N0 gi
  have V20 : Arv Z h20 ia ki .int (16 : Int32) [(.int M1), (.int (M2 ||| ((1 : Int32) <<< (mb &&& 31))))] (.int (0 : Int32)) := Arv.set Ar19 q19 S19 N19 H19 G19 rfl W20 1 rfl (Nat.le_of_ble_eq_true rfl)
  refine own_go (fun _ => XS.iload X20.here hx rfl (hb hby d5_70) rfl) ?_
  refine own_go (fun _ => XS.aloadN X20.here hx rfl (hb hby d5_72) rfl rfl) ?_
  show ∃ t o, Steps p.tables e below (T20.setTop (mkF m 73 #[.val (.ref fo), .val (.int mb), .val (.long (2 : Int64)), .second, .val (.long (0 : Int64)), .second, .val (.int (1 : Int32)), .val (.int M2), .unset, .unset] [(.ref fo), (.int M2)])) t ∧ _
  have F21 : Fld Z h20 fo "com/example/holdback/holdback/sim/InFlight" "everyone" "I" (.int ev) := (Fld.other W20 P5 (Or.inl nfi))
  obtain ⟨T22, X22, e22, st22⟩ := getF X20 hx hZ hown (host := "") (Or.inl (hw _ (List.mem_of_getElem? (i := 19) rfl))) Via.refl e20 F21 (g := (mkF m 73 #[.val (.ref fo), .val (.int mb), .val (.long (2 : Int64)), .second, .val (.long (0 : Int64)), .second, .val (.int (1 : Int32)), .val (.int M2), .unset, .unset] [(.ref fo), (.int M2)])) rfl rfl (hb hby d5_73)
  refine own_go st22 ?_
  show ∃ t o, Steps p.tables e below (T22.setTop (mkF m 76 #[.val (.ref fo), .val (.int mb), .val (.long (2 : Int64)), .second, .val (.long (0 : Int64)), .second, .val (.int (1 : Int32)), .val (.int M2), .unset, .unset] [(.int ev), (.int M2)])) t ∧ _
  refine own_go (fun _ => XS.icmpNo X22.here hx rfl (hb hby d5_76) rfl (feq hM2).1) ?_
  refine own_go (fun _ => XS.aloadN X22.here hx rfl (hb hby d5_79) rfl rfl) ?_
  have F23 : Fld Z h20 fo "com/example/holdback/holdback/sim/InFlight" "deliveredBy" "[I" (.ref ia) := (Fld.other W20 P3 (Or.inl nfi))
  obtain ⟨T24, X24, e24, st24⟩ := getF X22 hx hZ hown (host := "") (Or.inl (hw _ (List.mem_of_getElem? (i := 15) rfl))) Via.refl e22 F23 (g := (mkF m 80 #[.val (.ref fo), .val (.int mb), .val (.long (2 : Int64)), .second, .val (.long (0 : Int64)), .second, .val (.int (1 : Int32)), .val (.int M2), .unset, .unset] [(.ref fo)])) rfl rfl (hb hby d5_80)
  refine own_go st24 ?_
  show ∃ t o, Steps p.tables e below (T24.setTop (mkF m 83 #[.val (.ref fo), .val (.int mb), .val (.long (2 : Int64)), .second, .val (.long (0 : Int64)), .second, .val (.int (1 : Int32)), .val (.int M2), .unset, .unset] [(.ref ia)])) t ∧ _
  refine own_go (fun _ => XS.iload X24.here hx rfl (hb hby d5_83) rfl) ?_
  obtain ⟨cl25, Ar25, q25, S25, N25, H25, G25⟩ := id V20
  have hin25 : ¬ ((1 : Int32) < 0 ∨ cl25.slots.size ≤ ((1 : Int32)).toNatClampNeg) := inb_of S25 ⟨by decide, by decide⟩
  have hat25 : cl25.slots[((1 : Int32)).toNatClampNeg]? = some (.int (M2 ||| ((1 : Int32) <<< (mb &&& 31)))) := Has.at H25 hin25 rfl
  refine own_go (fun _ => X24.iaload hx (j := (1 : Int32)) (v := (.int (M2 ||| ((1 : Int32) <<< (mb &&& 31))))) (by rw [e24]; exact Ar25.1) (State.isArrayOf_alike hZ.alike Ar25.2.1) Ar25.2.2 hin25 hat25 (g := (mkF m 85 #[.val (.ref fo), .val (.int mb), .val (.long (2 : Int64)), .second, .val (.long (0 : Int64)), .second, .val (.int (1 : Int32)), .val (.int M2), .unset, .unset] [(.int (1 : Int32)), (.ref ia)])) rfl rfl (hb hby d5_85) _) ?_
  refine own_go (fun _ => XS.aloadN X24.here hx rfl (hb hby d5_86) rfl rfl) ?_
  show ∃ t o, Steps p.tables e below (T24.setTop (mkF m 87 #[.val (.ref fo), .val (.int mb), .val (.long (2 : Int64)), .second, .val (.long (0 : Int64)), .second, .val (.int (1 : Int32)), .val (.int M2), .unset, .unset] [(.ref fo), (.int (M2 ||| ((1 : Int32) <<< (mb &&& 31))))])) t ∧ _
  obtain ⟨T26, X26, e26, st26⟩ := getF X24 hx hZ hown (host := "") (Or.inl (hw _ (List.mem_of_getElem? (i := 19) rfl))) Via.refl e24 F21 (g := (mkF m 87 #[.val (.ref fo), .val (.int mb), .val (.long (2 : Int64)), .second, .val (.long (0 : Int64)), .second, .val (.int (1 : Int32)), .val (.int M2), .unset, .unset] [(.ref fo), (.int (M2 ||| ((1 : Int32) <<< (mb &&& 31))))])) rfl rfl (hb hby d5_87)
  refine own_go st26 ?_
  show ∃ t o, Steps p.tables e below (T26.setTop (mkF m 90 #[.val (.ref fo), .val (.int mb), .val (.long (2 : Int64)), .second, .val (.long (0 : Int64)), .second, .val (.int (1 : Int32)), .val (.int M2), .unset, .unset] [(.int ev), (.int (M2 ||| ((1 : Int32) <<< (mb &&& 31))))])) t ∧ _
  by_cases hc27 : (M2 ||| ((1 : Int32) <<< (mb &&& 31))) = ev
  · refine own_go (fun _ => XS.icmpYes X26.here hx rfl (pc0 := 90) (pc' := 97) rfl (hb hby d5_90) rfl (teq hc27).1 (by decide) (by decide)) ?_
    refine own_go (fun _ => XS.aloadN X26.here hx rfl (hb hby d5_97) rfl rfl) ?_
    have F28 : Fld Z h20 fo "com/example/holdback/holdback/sim/InFlight" "multicastAt" "[D" (.ref da) := (Fld.other W20 P2 (Or.inl nfi))
    obtain ⟨T29, X29, e29, st29⟩ := getF X26 hx hZ hown (host := "") (Or.inl (hw _ (List.mem_of_getElem? (i := 13) rfl))) Via.refl e26 F28 (g := (mkF m 98 #[.val (.ref fo), .val (.int mb), .val (.long (2 : Int64)), .second, .val (.long (0 : Int64)), .second, .val (.int (1 : Int32)), .val (.int M2), .unset, .unset] [(.ref fo)])) rfl rfl (hb hby d5_98)
    refine own_go st29 ?_
    show ∃ t o, Steps p.tables e below (T29.setTop (mkF m 101 #[.val (.ref fo), .val (.int mb), .val (.long (2 : Int64)), .second, .val (.long (0 : Int64)), .second, .val (.int (1 : Int32)), .val (.int M2), .unset, .unset] [(.ref da)])) t ∧ _
    refine own_go (fun _ => XS.iload X29.here hx rfl (hb hby d5_101) rfl) ?_
    have F30 : Arv Z h20 da kd .double (16 : Int32) [(.double A1), (.double A2)] (.double (0 : UInt64)) := (Arv.other P8 W20 ndi)
    obtain ⟨cl31, Ar31, q31, S31, N31, H31, G31⟩ := id F30
    have hin31 : ¬ ((1 : Int32) < 0 ∨ cl31.slots.size ≤ ((1 : Int32)).toNatClampNeg) := inb_of S31 ⟨by decide, by decide⟩
    have hat31 : cl31.slots[((1 : Int32)).toNatClampNeg]? = some (.double A2) := Has.at H31 hin31 rfl
    refine own_go (fun _ => X29.daload hx (j := (1 : Int32)) (v := (.double A2)) (by rw [e29]; exact Ar31.1) (State.isArrayOf_alike hZ.alike Ar31.2.1) Ar31.2.2 hin31 hat31 (g := (mkF m 103 #[.val (.ref fo), .val (.int mb), .val (.long (2 : Int64)), .second, .val (.long (0 : Int64)), .second, .val (.int (1 : Int32)), .val (.int M2), .unset, .unset] [(.int (1 : Int32)), (.ref da)])) rfl rfl (hb hby d5_103) _) ?_
    refine own_go (fun _ => XS.dstore X29.here hx rfl (hb hby d5_104) rfl (l' := #[.val (.ref fo), .val (.int mb), .val (.long (2 : Int64)), .second, .val (.long (0 : Int64)), .second, .val (.int (1 : Int32)), .val (.int M2), .val (.double A2), .second]) rfl) ?_
    show ∃ t o, Steps p.tables e below (T29.setTop (mkF m 106 #[.val (.ref fo), .val (.int mb), .val (.long (2 : Int64)), .second, .val (.long (0 : Int64)), .second, .val (.int (1 : Int32)), .val (.int M2), .val (.double A2), .second] [])) t ∧ _
    refine own_go (fun _ => XS.aloadN X29.here hx rfl (hb hby d5_106) rfl rfl) ?_
    have F32 : Fld Z h20 fo "com/example/holdback/holdback/sim/InFlight" "size" "I" (.int (1 : Int32)) := (Fld.other W20 P6 (Or.inl nfi))
    obtain ⟨T33, X33, e33, st33⟩ := getF X29 hx hZ hown (host := "") (Or.inl (hw _ (List.mem_of_getElem? (i := 26) rfl))) Via.refl e29 F32 (g := (mkF m 107 #[.val (.ref fo), .val (.int mb), .val (.long (2 : Int64)), .second, .val (.long (0 : Int64)), .second, .val (.int (1 : Int32)), .val (.int M2), .val (.double A2), .second] [(.ref fo)])) rfl rfl (hb hby d5_107)
    refine own_go st33 ?_
    show ∃ t o, Steps p.tables e below (T33.setTop (mkF m 110 #[.val (.ref fo), .val (.int mb), .val (.long (2 : Int64)), .second, .val (.long (0 : Int64)), .second, .val (.int (1 : Int32)), .val (.int M2), .val (.double A2), .second] [(.int (1 : Int32))])) t ∧ _
    refine own_go (fun _ => XS.ifNo X33.here hx rfl (hb hby d5_110) rfl ((if0 _ _).trans (tlt (by decide : (0 : Int32) < (1 : Int32))).2.2.2)) ?_
    refine own_go (fun _ => XS.aloadN X33.here hx rfl (hb hby d5_113) rfl rfl) ?_
    obtain ⟨T34, X34, e34, st34⟩ := getF X33 hx hZ hown (host := "") (Or.inl (hw _ (List.mem_of_getElem? (i := 15) rfl))) Via.refl e33 F23 (g := (mkF m 114 #[.val (.ref fo), .val (.int mb), .val (.long (2 : Int64)), .second, .val (.long (0 : Int64)), .second, .val (.int (1 : Int32)), .val (.int M2), .val (.double A2), .second] [(.ref fo)])) rfl rfl (hb hby d5_114)
    refine own_go st34 ?_
    show ∃ t o, Steps p.tables e below (T34.setTop (mkF m 117 #[.val (.ref fo), .val (.int mb), .val (.long (2 : Int64)), .second, .val (.long (0 : Int64)), .second, .val (.int (1 : Int32)), .val (.int M2), .val (.double A2), .second] [(.ref ia)])) t ∧ _
    refine own_go (fun _ => XS.aloadN X34.here hx rfl (hb hby d5_117) rfl rfl) ?_
    have F35 : Fld Z h20 fo "com/example/holdback/holdback/sim/InFlight" "first" "I" (.int (1 : Int32)) := (Fld.other W20 P7 (Or.inl nfi))
    obtain ⟨T36, X36, e36, st36⟩ := getF X34 hx hZ hown (host := "") (Or.inl (hw _ (List.mem_of_getElem? (i := 28) rfl))) Via.refl e34 F35 (g := (mkF m 118 #[.val (.ref fo), .val (.int mb), .val (.long (2 : Int64)), .second, .val (.long (0 : Int64)), .second, .val (.int (1 : Int32)), .val (.int M2), .val (.double A2), .second] [(.ref fo), (.ref ia)])) rfl rfl (hb hby d5_118)
    refine own_go st36 ?_
    obtain ⟨cl37, Ar37, q37, S37, N37, H37, G37⟩ := id V20
    have hin37 : ¬ ((1 : Int32) < 0 ∨ cl37.slots.size ≤ ((1 : Int32)).toNatClampNeg) := inb_of S37 ⟨by decide, by decide⟩
    have hat37 : cl37.slots[((1 : Int32)).toNatClampNeg]? = some (.int (M2 ||| ((1 : Int32) <<< (mb &&& 31)))) := Has.at H37 hin37 rfl
    refine own_go (fun _ => X36.iaload hx (j := (1 : Int32)) (v := (.int (M2 ||| ((1 : Int32) <<< (mb &&& 31))))) (by rw [e36]; exact Ar37.1) (State.isArrayOf_alike hZ.alike Ar37.2.1) Ar37.2.2 hin37 hat37 (g := (mkF m 121 #[.val (.ref fo), .val (.int mb), .val (.long (2 : Int64)), .second, .val (.long (0 : Int64)), .second, .val (.int (1 : Int32)), .val (.int M2), .val (.double A2), .second] [(.int (1 : Int32)), (.ref ia)])) rfl rfl (hb hby d5_121) _) ?_
    show ∃ t o, Steps p.tables e below (T36.setTop (mkF m 122 #[.val (.ref fo), .val (.int mb), .val (.long (2 : Int64)), .second, .val (.long (0 : Int64)), .second, .val (.int (1 : Int32)), .val (.int M2), .val (.double A2), .second] [(.int (M2 ||| ((1 : Int32) <<< (mb &&& 31))))])) t ∧ _
    refine own_go (fun _ => XS.aloadN X36.here hx rfl (hb hby d5_122) rfl rfl) ?_
    obtain ⟨T38, X38, e38, st38⟩ := getF X36 hx hZ hown (host := "") (Or.inl (hw _ (List.mem_of_getElem? (i := 19) rfl))) Via.refl e36 F21 (g := (mkF m 123 #[.val (.ref fo), .val (.int mb), .val (.long (2 : Int64)), .second, .val (.long (0 : Int64)), .second, .val (.int (1 : Int32)), .val (.int M2), .val (.double A2), .second] [(.ref fo), (.int (M2 ||| ((1 : Int32) <<< (mb &&& 31))))])) rfl rfl (hb hby d5_123)
    refine own_go st38 ?_
    show ∃ t o, Steps p.tables e below (T38.setTop (mkF m 126 #[.val (.ref fo), .val (.int mb), .val (.long (2 : Int64)), .second, .val (.long (0 : Int64)), .second, .val (.int (1 : Int32)), .val (.int M2), .val (.double A2), .second] [(.int ev), (.int (M2 ||| ((1 : Int32) <<< (mb &&& 31))))])) t ∧ _
    refine own_go (fun _ => XS.icmpNo X38.here hx rfl (hb hby d5_126) rfl (teq hc27).2) ?_
    refine own_go (fun _ => XS.aloadN X38.here hx rfl (hb hby d5_129) rfl rfl) ?_
    refine own_go (fun _ => XS.aloadN X38.here hx rfl (hb hby d5_130) rfl rfl) ?_
    show ∃ t o, Steps p.tables e below (T38.setTop (mkF m 131 #[.val (.ref fo), .val (.int mb), .val (.long (2 : Int64)), .second, .val (.long (0 : Int64)), .second, .val (.int (1 : Int32)), .val (.int M2), .val (.double A2), .second] [(.ref fo), (.ref fo)])) t ∧ _
    obtain ⟨T39, X39, e39, st39⟩ := getF X38 hx hZ hown (host := "") (Or.inl (hw _ (List.mem_of_getElem? (i := 28) rfl))) Via.refl e38 F35 (g := (mkF m 131 #[.val (.ref fo), .val (.int mb), .val (.long (2 : Int64)), .second, .val (.long (0 : Int64)), .second, .val (.int (1 : Int32)), .val (.int M2), .val (.double A2), .second] [(.ref fo), (.ref fo)])) rfl rfl (hb hby d5_131)
    refine own_go st39 ?_
    refine own_go (fun _ => XS.iconst X39.here hx rfl (hb hby d5_134)) ?_
    refine own_go (fun _ => XS.iadd X39.here hx rfl (hb hby d5_135) rfl) ?_
    show ∃ t o, Steps p.tables e below (T39.setTop (mkF m 136 #[.val (.ref fo), .val (.int mb), .val (.long (2 : Int64)), .second, .val (.long (0 : Int64)), .second, .val (.int (1 : Int32)), .val (.int M2), .val (.double A2), .second] [(.int (2 : Int32)), (.ref fo)])) t ∧ _
    refine own_go (fun _ => XS.aloadN X39.here hx rfl (hb hby d5_136) rfl rfl) ?_
    obtain ⟨T40, X40, e40, st40⟩ := getF X39 hx hZ hown (host := "") (Or.inl (hw _ (List.mem_of_getElem? (i := 13) rfl))) Via.refl e39 F28 (g := (mkF m 137 #[.val (.ref fo), .val (.int mb), .val (.long (2 : Int64)), .second, .val (.long (0 : Int64)), .second, .val (.int (1 : Int32)), .val (.int M2), .val (.double A2), .second] [(.ref fo), (.int (2 : Int32)), (.ref fo)])) rfl rfl (hb hby d5_137)
    refine own_go st40 ?_
    obtain ⟨cl41, Ar41, q41, S41, N41, H41, G41⟩ := id F30
    have ln41 : cl41.slots.size.toInt32 = (16 : Int32) := len_of S41 N41
    have al41 := X40.arraylength hx (by rw [e40]; exact Ar41.1) (State.isArrayOf_alike hZ.alike Ar41.2.1) (g := (mkF m 140 #[.val (.ref fo), .val (.int mb), .val (.long (2 : Int64)), .second, .val (.long (0 : Int64)), .second, .val (.int (1 : Int32)), .val (.int M2), .val (.double A2), .second] [(.ref da), (.int (2 : Int32)), (.ref fo)])) rfl rfl (hb hby d5_140)
    rw [ln41] at al41
    refine own_go al41 ?_
    show ∃ t o, Steps p.tables e below (T40.setTop (mkF m 141 #[.val (.ref fo), .val (.int mb), .val (.long (2 : Int64)), .second, .val (.long (0 : Int64)), .second, .val (.int (1 : Int32)), .val (.int M2), .val (.double A2), .second] [(.int (16 : Int32)), (.int (2 : Int32)), (.ref fo)])) t ∧ _
    refine own_go (fun _ => XS.iconst X40.here hx rfl (hb hby d5_141)) ?_
    refine own_go (fun _ => XS.isub X40.here hx rfl (hb hby d5_142) rfl) ?_
    refine own_go (fun _ => XS.iand X40.here hx rfl (hb hby d5_143) rfl) ?_
    show ∃ t o, Steps p.tables e below (T40.setTop (mkF m 144 #[.val (.ref fo), .val (.int mb), .val (.long (2 : Int64)), .second, .val (.long (0 : Int64)), .second, .val (.int (1 : Int32)), .val (.int M2), .val (.double A2), .second] [(.int (2 : Int32)), (.ref fo)])) t ∧ _
    have F42 : Exa Z h20 fo "com/example/holdback/holdback/sim/InFlight" := (Exa.wr W20 P1)
    obtain ⟨T43, h43, X43, e43, W43, st43⟩ := putF X40 hx hZ hown (host := "") (Or.inl (hw _ (List.mem_of_getElem? (i := 28) rfl))) Via.refl e40 F35 F42 (Or.inl (hw _ (List.mem_of_getElem? (i := 29) rfl))) (hw _ (List.mem_of_getElem? (i := 5) rfl)) (ty := .int) (by decide) rfl rfl (g := (mkF m 144 #[.val (.ref fo), .val (.int mb), .val (.long (2 : Int64)), .second, .val (.long (0 : Int64)), .second, .val (.int (1 : Int32)), .val (.int M2), .val (.double A2), .second] [(.int (2 : Int32)), (.ref fo)])) rfl rfl (hb hby d5_144)
    refine own_go st43 ?_
    have le_43 : h20.size ≤ h43.size := Nat.le_of_eq W43.size.symm
    have K43 : Keep h0 h43 [fo, ia] := Keep.wr K20 W43 (Or.inl (List.mem_of_getElem? (i := 0) rfl))
    have N43 := Fr.snoc X43 N20 gf
    have Fw43 := Fld.same W43 F35
    refine own_go (fun _ => XS.aloadN X43.here hx rfl (hb hby d5_147) rfl rfl) ?_
    refine own_go (fun _ => XS.dup X43.here hx rfl (hb hby d5_148) rfl rfl) ?_
    show ∃ t o, Steps p.tables e below (T43.setTop (mkF m 149 #[.val (.ref fo), .val (.int mb), .val (.long (2 : Int64)), .second, .val (.long (0 : Int64)), .second, .val (.int (1 : Int32)), .val (.int M2), .val (.double A2), .second] [(.ref fo), (.ref fo)])) t ∧ _
    have F44 : Fld Z h43 fo "com/example/holdback/holdback/sim/InFlight" "size" "I" (.int (1 : Int32)) := (Fld.other W43 F32 (Or.inr (slot_ne (a0 := a0) (Or.inl (hw _ (List.mem_of_getElem? (i := 27) rfl))) (Or.inl (hw _ (List.mem_of_getElem? (i := 29) rfl))) (by decide) (t := .int) (t' := .int) (by decide) (by decide))))
    obtain ⟨T45, X45, e45, st45⟩ := getF X43 hx hZ hown (host := "") (Or.inl (hw _ (List.mem_of_getElem? (i := 26) rfl))) Via.refl e43 F44 (g := (mkF m 149 #[.val (.ref fo), .val (.int mb), .val (.long (2 : Int64)), .second, .val (.long (0 : Int64)), .second, .val (.int (1 : Int32)), .val (.int M2), .val (.double A2), .second] [(.ref fo), (.ref fo)])) rfl rfl (hb hby d5_149)
    refine own_go st45 ?_
    refine own_go (fun _ => XS.iconst X45.here hx rfl (hb hby d5_152)) ?_
    refine own_go (fun _ => XS.isub X45.here hx rfl (hb hby d5_153) rfl) ?_
    show ∃ t o, Steps p.tables e below (T45.setTop (mkF m 154 #[.val (.ref fo), .val (.int mb), .val (.long (2 : Int64)), .second, .val (.long (0 : Int64)), .second, .val (.int (1 : Int32)), .val (.int M2), .val (.double A2), .second] [(.int (0 : Int32)), (.ref fo)])) t ∧ _
    have F46 : Exa Z h43 fo "com/example/holdback/holdback/sim/InFlight" := (Exa.wr W43 F42)
    obtain ⟨T47, h47, X47, e47, W47, st47⟩ := putF X45 hx hZ hown (host := "") (Or.inl (hw _ (List.mem_of_getElem? (i := 26) rfl))) Via.refl e45 F44 F46 (Or.inl (hw _ (List.mem_of_getElem? (i := 27) rfl))) (hw _ (List.mem_of_getElem? (i := 5) rfl)) (ty := .int) (by decide) rfl rfl (g := (mkF m 154 #[.val (.ref fo), .val (.int mb), .val (.long (2 : Int64)), .second, .val (.long (0 : Int64)), .second, .val (.int (1 : Int32)), .val (.int M2), .val (.double A2), .second] [(.int (0 : Int32)), (.ref fo)])) rfl rfl (hb hby d5_154)
    refine own_go st47 ?_
    have le_47 : h43.size ≤ h47.size := Nat.le_of_eq W47.size.symm
    have K47 : Keep h0 h47 [fo, ia] := Keep.wr K43 W47 (Or.inl (List.mem_of_getElem? (i := 0) rfl))
    have N47 := Fr.snoc X47 N43 gf
    have Fw47 := Fld.same W47 F44
    refine own_go (fun _ => XS.aloadN X47.here hx rfl (hb hby d5_157) rfl rfl) ?_
    refine own_go (fun _ => XS.dup X47.here hx rfl (hb hby d5_158) rfl rfl) ?_
    show ∃ t o, Steps p.tables e below (T47.setTop (mkF m 159 #[.val (.ref fo), .val (.int mb), .val (.long (2 : Int64)), .second, .val (.long (0 : Int64)), .second, .val (.int (1 : Int32)), .val (.int M2), .val (.double A2), .second] [(.ref fo), (.ref fo)])) t ∧ _
    have F48 : Fld Z h47 fo "com/example/holdback/holdback/sim/InFlight" "firstSeq" "J" (.long (2 : Int64)) := (Fld.other W47 (Fld.other W43 (Fld.other W20 P4 (Or.inl nfi)) (Or.inr (slot_ne (a0 := a0) (Or.inl (hw _ (List.mem_of_getElem? (i := 18) rfl))) (Or.inl (hw _ (List.mem_of_getElem? (i := 29) rfl))) (by decide) (t := .long) (t' := .int) (by decide) (by decide)))) (Or.inr (slot_ne (a0 := a0) (Or.inl (hw _ (List.mem_of_getElem? (i := 18) rfl))) (Or.inl (hw _ (List.mem_of_getElem? (i := 27) rfl))) (by decide) (t := .long) (t' := .int) (by decide) (by decide))))
    obtain ⟨T49, X49, e49, st49⟩ := getF X47 hx hZ hown (host := "") (Or.inl (hw _ (List.mem_of_getElem? (i := 17) rfl))) Via.refl e47 F48 (g := (mkF m 159 #[.val (.ref fo), .val (.int mb), .val (.long (2 : Int64)), .second, .val (.long (0 : Int64)), .second, .val (.int (1 : Int32)), .val (.int M2), .val (.double A2), .second] [(.ref fo), (.ref fo)])) rfl rfl (hb hby d5_159)
    refine own_go st49 ?_
    refine own_go (fun _ => XS.lconst X49.here hx rfl (hb hby d5_162)) ?_
    refine own_go (fun _ => XS.ladd X49.here hx rfl (hb hby d5_163) rfl) ?_
    show ∃ t o, Steps p.tables e below (T49.setTop (mkF m 164 #[.val (.ref fo), .val (.int mb), .val (.long (2 : Int64)), .second, .val (.long (0 : Int64)), .second, .val (.int (1 : Int32)), .val (.int M2), .val (.double A2), .second] [(.long (3 : Int64)), (.ref fo)])) t ∧ _
    have F50 : Exa Z h47 fo "com/example/holdback/holdback/sim/InFlight" := (Exa.wr W47 F46)
    obtain ⟨T51, h51, X51, e51, W51, st51⟩ := putF X49 hx hZ hown (host := "") (Or.inl (hw _ (List.mem_of_getElem? (i := 17) rfl))) Via.refl e49 F48 F50 (Or.inl (hw _ (List.mem_of_getElem? (i := 18) rfl))) (hw _ (List.mem_of_getElem? (i := 5) rfl)) (ty := .long) (by decide) rfl rfl (g := (mkF m 164 #[.val (.ref fo), .val (.int mb), .val (.long (2 : Int64)), .second, .val (.long (0 : Int64)), .second, .val (.int (1 : Int32)), .val (.int M2), .val (.double A2), .second] [(.long (3 : Int64)), (.ref fo)])) rfl rfl (hb hby d5_164)
    refine own_go st51 ?_
    have le_51 : h47.size ≤ h51.size := Nat.le_of_eq W51.size.symm
    have K51 : Keep h0 h51 [fo, ia] := Keep.wr K47 W51 (Or.inl (List.mem_of_getElem? (i := 0) rfl))
    have N51 := Fr.snoc X51 N47 gf
    have Fw51 := Fld.same W51 F48
    refine own_go (fun _ => XS.goto X51.here hx rfl (pc0 := 167) (pc' := 106) rfl (hb hby d5_167) (by decide) (by decide)) ?_
    refine own_go (fun _ => XS.aloadN X51.here hx rfl (hb hby d5_106) rfl rfl) ?_
    show ∃ t o, Steps p.tables e below (T51.setTop (mkF m 107 #[.val (.ref fo), .val (.int mb), .val (.long (2 : Int64)), .second, .val (.long (0 : Int64)), .second, .val (.int (1 : Int32)), .val (.int M2), .val (.double A2), .second] [(.ref fo)])) t ∧ _
    have F52 : Fld Z h51 fo "com/example/holdback/holdback/sim/InFlight" "size" "I" (.int (0 : Int32)) := (Fld.other W51 Fw47 (Or.inr (slot_ne (a0 := a0) (Or.inl (hw _ (List.mem_of_getElem? (i := 27) rfl))) (Or.inl (hw _ (List.mem_of_getElem? (i := 18) rfl))) (by decide) (t := .int) (t' := .long) (by decide) (by decide))))
    obtain ⟨T53, X53, e53, st53⟩ := getF X51 hx hZ hown (host := "") (Or.inl (hw _ (List.mem_of_getElem? (i := 26) rfl))) Via.refl e51 F52 (g := (mkF m 107 #[.val (.ref fo), .val (.int mb), .val (.long (2 : Int64)), .second, .val (.long (0 : Int64)), .second, .val (.int (1 : Int32)), .val (.int M2), .val (.double A2), .second] [(.ref fo)])) rfl rfl (hb hby d5_107)
    refine own_go st53 ?_
    show ∃ t o, Steps p.tables e below (T53.setTop (mkF m 110 #[.val (.ref fo), .val (.int mb), .val (.long (2 : Int64)), .second, .val (.long (0 : Int64)), .second, .val (.int (1 : Int32)), .val (.int M2), .val (.double A2), .second] [(.int (0 : Int32))])) t ∧ _
    refine own_go (fun _ => XS.ifYes X53.here hx rfl (pc0 := 110) (pc' := 170) rfl (hb hby d5_110) rfl ((if0 _ _).trans (flt (by decide : ¬ ((0 : Int32) < (0 : Int32)))).2.2.2) (by decide) (by decide)) ?_
    refine own_go (fun _ => XS.dload X53.here hx rfl (hb hby d5_170) rfl) ?_
    show ∃ t o, Steps p.tables e below (T53.setTop (mkF m 172 #[.val (.ref fo), .val (.int mb), .val (.long (2 : Int64)), .second, .val (.long (0 : Int64)), .second, .val (.int (1 : Int32)), .val (.int M2), .val (.double A2), .second] [(.double A2)])) t ∧ _
    have F54 : Exa Z h51 fo "com/example/holdback/holdback/sim/InFlight" := (Exa.wr W51 F50)
    have F55 : Fld Z h51 fo "com/example/holdback/holdback/sim/InFlight" "multicastAt" "[D" (.ref da) := (Fld.other W51 (Fld.other W47 (Fld.other W43 F28 (Or.inr (slot_ne (a0 := a0) (Or.inl (hw _ (List.mem_of_getElem? (i := 14) rfl))) (Or.inl (hw _ (List.mem_of_getElem? (i := 29) rfl))) (by decide) (t := (.array .double)) (t' := .int) (by decide) (by decide)))) (Or.inr (slot_ne (a0 := a0) (Or.inl (hw _ (List.mem_of_getElem? (i := 14) rfl))) (Or.inl (hw _ (List.mem_of_getElem? (i := 27) rfl))) (by decide) (t := (.array .double)) (t' := .int) (by decide) (by decide)))) (Or.inr (slot_ne (a0 := a0) (Or.inl (hw _ (List.mem_of_getElem? (i := 14) rfl))) (Or.inl (hw _ (List.mem_of_getElem? (i := 18) rfl))) (by decide) (t := (.array .double)) (t' := .long) (by decide) (by decide))))
    have F56 : Fld Z h51 fo "com/example/holdback/holdback/sim/InFlight" "deliveredBy" "[I" (.ref ia) := (Fld.other W51 (Fld.other W47 (Fld.other W43 F23 (Or.inr (slot_ne (a0 := a0) (Or.inl (hw _ (List.mem_of_getElem? (i := 16) rfl))) (Or.inl (hw _ (List.mem_of_getElem? (i := 29) rfl))) (by decide) (t := (.array .int)) (t' := .int) (by decide) (by decide)))) (Or.inr (slot_ne (a0 := a0) (Or.inl (hw _ (List.mem_of_getElem? (i := 16) rfl))) (Or.inl (hw _ (List.mem_of_getElem? (i := 27) rfl))) (by decide) (t := (.array .int)) (t' := .int) (by decide) (by decide)))) (Or.inr (slot_ne (a0 := a0) (Or.inl (hw _ (List.mem_of_getElem? (i := 16) rfl))) (Or.inl (hw _ (List.mem_of_getElem? (i := 18) rfl))) (by decide) (t := (.array .int)) (t' := .long) (by decide) (by decide))))
    have F57 : Fld Z h51 fo "com/example/holdback/holdback/sim/InFlight" "everyone" "I" (.int ev) := (Fld.other W51 (Fld.other W47 (Fld.other W43 F21 (Or.inr (slot_ne (a0 := a0) (Or.inr (hw _ (List.mem_of_getElem? (i := 20) rfl))) (Or.inl (hw _ (List.mem_of_getElem? (i := 29) rfl))) (by decide) (t := .int) (t' := .int) (by decide) (by decide)))) (Or.inr (slot_ne (a0 := a0) (Or.inr (hw _ (List.mem_of_getElem? (i := 20) rfl))) (Or.inl (hw _ (List.mem_of_getElem? (i := 27) rfl))) (by decide) (t := .int) (t' := .int) (by decide) (by decide)))) (Or.inr (slot_ne (a0 := a0) (Or.inr (hw _ (List.mem_of_getElem? (i := 20) rfl))) (Or.inl (hw _ (List.mem_of_getElem? (i := 18) rfl))) (by decide) (t := .int) (t' := .long) (by decide) (by decide))))
    have F58 : Fld Z h51 fo "com/example/holdback/holdback/sim/InFlight" "first" "I" (.int (2 : Int32)) := (Fld.other W51 (Fld.other W47 Fw43 (Or.inr (slot_ne (a0 := a0) (Or.inl (hw _ (List.mem_of_getElem? (i := 29) rfl))) (Or.inl (hw _ (List.mem_of_getElem? (i := 27) rfl))) (by decide) (t := .int) (t' := .int) (by decide) (by decide)))) (Or.inr (slot_ne (a0 := a0) (Or.inl (hw _ (List.mem_of_getElem? (i := 29) rfl))) (Or.inl (hw _ (List.mem_of_getElem? (i := 18) rfl))) (by decide) (t := .int) (t' := .long) (by decide) (by decide))))
    have F59 : Arv Z h51 ia ki .int (16 : Int32) [(.int M1), (.int (M2 ||| ((1 : Int32) <<< (mb &&& 31))))] (.int (0 : Int32)) := (Arv.other (Arv.other (Arv.other V20 W43 nif) W47 nif) W51 nif)
    obtain ⟨fs, hr, hrun, hended, hW, hsame⟩ := X53.leave (v := some (.double A2)) (fun h => by rw [Bd.returns] at h; cases h)
    refine ⟨_, _, ?_, hrun, hended, _, _, rfl, ?_, ⟨_, rfl⟩, hW, hsame.mono (by decide) (by decide)⟩
    · jvm_step X53.here [X53.here.top, hx, (hb hby d5_172), X53.method', Bd.returns, narrow]
      first | (intro acts; rw [hr _ acts rfl rfl rfl]) | rw [hr _ _ rfl rfl rfl]
      exact Steps.refl _
    · show Q_rmV4 Z _ _ _ _ _ _ _ _ _ _ _ h0 n0 _ T53.heap _
      rw [e53]
      exact ⟨A2, (2 : Int32), (0 : Int32), (3 : Int64), rfl, N51, K51, F54, F55, F56, Fw51, F57, F52, F58, F59, (by simp [hM, hM2, hc27]), (by simp [own_inv, hM, hM2, hc27])⟩
  · refine own_go (fun _ => XS.icmpNo X26.here hx rfl (hb hby d5_90) rfl (feq hc27).1) ?_
    refine own_go (fun _ => X26.ldc2DoubleC hx hown (mvT hZ (hw _ (List.mem_of_getElem? (i := 39) rfl))) (g := (mkF m 93 #[.val (.ref fo), .val (.int mb), .val (.long (2 : Int64)), .second, .val (.long (0 : Int64)), .second, .val (.int (1 : Int32)), .val (.int M2), .unset, .unset] [])) rfl (hb hby d5_93) _) ?_
    show ∃ t o, Steps p.tables e below (T26.setTop (mkF m 96 #[.val (.ref fo), .val (.int mb), .val (.long (2 : Int64)), .second, .val (.long (0 : Int64)), .second, .val (.int (1 : Int32)), .val (.int M2), .unset, .unset] [(.double (13830554455654793216 : UInt64))])) t ∧ _
    have F60 : Exa Z h20 fo "com/example/holdback/holdback/sim/InFlight" := (Exa.wr W20 P1)
    have F61 : Fld Z h20 fo "com/example/holdback/holdback/sim/InFlight" "multicastAt" "[D" (.ref da) := (Fld.other W20 P2 (Or.inl nfi))
    have F62 : Fld Z h20 fo "com/example/holdback/holdback/sim/InFlight" "firstSeq" "J" (.long (2 : Int64)) := (Fld.other W20 P4 (Or.inl nfi))
    have F63 : Fld Z h20 fo "com/example/holdback/holdback/sim/InFlight" "size" "I" (.int (1 : Int32)) := (Fld.other W20 P6 (Or.inl nfi))
    have F64 : Fld Z h20 fo "com/example/holdback/holdback/sim/InFlight" "first" "I" (.int (1 : Int32)) := (Fld.other W20 P7 (Or.inl nfi))
    obtain ⟨fs, hr, hrun, hended, hW, hsame⟩ := X26.leave (v := some (.double (13830554455654793216 : UInt64))) (fun h => by rw [Bd.returns] at h; cases h)
    refine ⟨_, _, ?_, hrun, hended, _, _, rfl, ?_, ⟨_, rfl⟩, hW, hsame.mono (by decide) (by decide)⟩
    · jvm_step X26.here [X26.here.top, hx, (hb hby d5_96), X26.method', Bd.returns, narrow]
      first | (intro acts; rw [hr _ acts rfl rfl rfl]) | rw [hr _ _ rfl rfl rfl]
      exact Steps.refl _
    · show Q_rmV4 Z _ _ _ _ _ _ _ _ _ _ _ h0 n0 _ T26.heap _
      rw [e26]
      exact ⟨(13830554455654793216 : UInt64), (1 : Int32), (1 : Int32), (2 : Int64), rfl, N20, K20, F60, F61, F23, F62, F21, F63, F64, V20, (by simp [hM, hM2, hc27]), (by simp [own_inv, hM, hM2, hc27])⟩
theorem ef_rmCheck1 (m : MethodId) (x0 : Nat) (x1 : Int32) (x2 : Int32) (x3 : Nat) (x4 : Nat) (x5 : Int32) (x6 : Int64) : entryFrame m #[(.ref x0), (.int x1), (.int x2), (.ref x3), (.ref x4), (.int x5), (.long x6)] 13 = mkF m 0 #[.val (.ref x0), .val (.int x1), .val (.int x2), .val (.ref x3), .val (.ref x4), .val (.int x5), .val (.long x6), .second, .unset, .unset, .unset, .unset, .unset] [] := by first | (simp [entryFrame, mkF, argsToLocals, Value.category]; done) | rfl
theorem d4_0 : decode method_3_code 0 = .ok (.aload_n 0, 1) := by decide +kernel
theorem d4_1 : decode method_3_code 1 = .ok (.iload 5, 2) := by decide +kernel
theorem d4_3 : decode method_3_code 3 = .ok (.lload 6, 2) := by decide +kernel
theorem d4_5 : decode method_3_code 5 = .ok (.invokevirtual 24, 3) := by decide +kernel
theorem pd__28IJ_29D : parseMethodDescriptor "(IJ)D" = some ⟨[.int, .long], some .double⟩ := by decide +kernel
theorem d4_8 : decode method_3_code 8 = .ok (.dstore 8, 2) := by decide +kernel
theorem d4_10 : decode method_3_code 10 = .ok (.iconst 1, 1) := by decide +kernel
theorem d4_11 : decode method_3_code 11 = .ok (.iload_n 1, 1) := by decide +kernel
theorem d4_12 : decode method_3_code 12 = .ok (.ishl, 1) := by decide +kernel
theorem d4_13 : decode method_3_code 13 = .ok (.iconst 1, 1) := by decide +kernel
theorem d4_14 : decode method_3_code 14 = .ok (.isub, 1) := by decide +kernel
theorem d4_15 : decode method_3_code 15 = .ok (.istore 10, 2) := by decide +kernel
theorem d4_17 : decode method_3_code 17 = .ok (.lload 6, 2) := by decide +kernel
theorem d4_19 : decode method_3_code 19 = .ok (.lconst 1, 1) := by decide +kernel
theorem d4_20 : decode method_3_code 20 = .ok (.lcmp, 1) := by decide +kernel
theorem d4_21 : decode method_3_code 21 = .ok (.ifCond .lt 11, 3) := by decide +kernel
theorem d4_24 : decode method_3_code 24 = .ok (.lload 6, 2) := by decide +kernel
theorem d4_26 : decode method_3_code 26 = .ok (.iload_n 2, 1) := by decide +kernel
theorem d4_27 : decode method_3_code 27 = .ok (.i2l, 1) := by decide +kernel
theorem d4_28 : decode method_3_code 28 = .ok (.lcmp, 1) := by decide +kernel
theorem d4_29 : decode method_3_code 29 = .ok (.ifCond .le 16, 3) := by decide +kernel
theorem d4_45 : decode method_3_code 45 = .ok (.lload 6, 2) := by decide +kernel
theorem d4_47 : decode method_3_code 47 = .ok (.l2i, 1) := by decide +kernel
theorem d4_48 : decode method_3_code 48 = .ok (.istore 11, 2) := by decide +kernel
theorem d4_50 : decode method_3_code 50 = .ok (.aload_n 3, 1) := by decide +kernel
theorem d4_51 : decode method_3_code 51 = .ok (.iload 11, 2) := by decide +kernel
theorem d4_53 : decode method_3_code 53 = .ok (.iaload, 1) := by decide +kernel
theorem d4_54 : decode method_3_code 54 = .ok (.istore 12, 2) := by decide +kernel
theorem d4_56 : decode method_3_code 56 = .ok (.aload_n 3, 1) := by decide +kernel
theorem d4_57 : decode method_3_code 57 = .ok (.iload 11, 2) := by decide +kernel
theorem d4_59 : decode method_3_code 59 = .ok (.iload 12, 2) := by decide +kernel
theorem d4_61 : decode method_3_code 61 = .ok (.iconst 1, 1) := by decide +kernel
theorem d4_62 : decode method_3_code 62 = .ok (.iload 5, 2) := by decide +kernel
theorem d4_64 : decode method_3_code 64 = .ok (.ishl, 1) := by decide +kernel
theorem d4_65 : decode method_3_code 65 = .ok (.ior, 1) := by decide +kernel
theorem d4_66 : decode method_3_code 66 = .ok (.iastore, 1) := by decide +kernel
theorem d4_67 : decode method_3_code 67 = .ok (.iload 12, 2) := by decide +kernel
theorem d4_69 : decode method_3_code 69 = .ok (.iload 10, 2) := by decide +kernel
theorem d4_71 : decode method_3_code 71 = .ok (.if_icmp .eq 29, 3) := by decide +kernel
theorem d4_74 : decode method_3_code 74 = .ok (.aload_n 3, 1) := by decide +kernel
theorem d4_75 : decode method_3_code 75 = .ok (.iload 11, 2) := by decide +kernel
theorem d4_77 : decode method_3_code 77 = .ok (.iaload, 1) := by decide +kernel
theorem d4_78 : decode method_3_code 78 = .ok (.iload 10, 2) := by decide +kernel
theorem d4_80 : decode method_3_code 80 = .ok (.if_icmp .ne 20, 3) := by decide +kernel
theorem d4_83 : decode method_3_code 83 = .ok (.dload 8, 2) := by decide +kernel
theorem d4_85 : decode method_3_code 85 = .ok (.aload 4, 2) := by decide +kernel
theorem d4_87 : decode method_3_code 87 = .ok (.iload 11, 2) := by decide +kernel
theorem d4_89 : decode method_3_code 89 = .ok (.daload, 1) := by decide +kernel
theorem d4_90 : decode method_3_code 90 = .ok (.dcmp .l, 1) := by decide +kernel
theorem d4_91 : decode method_3_code 91 = .ok (.ifCond .ne 7, 3) := by decide +kernel
theorem d4_94 : decode method_3_code 94 = .ok (.iconst 1, 1) := by decide +kernel
theorem d4_95 : decode method_3_code 95 = .ok (.goto 4, 3) := by decide +kernel
theorem d4_99 : decode method_3_code 99 = .ok (.ireturn, 1) := by decide +kernel
theorem d4_100 : decode method_3_code 100 = .ok (.dload 8, 2) := by decide +kernel
theorem d4_102 : decode method_3_code 102 = .ok (.dconst 0, 1) := by decide +kernel
theorem d4_103 : decode method_3_code 103 = .ok (.dcmp .g, 1) := by decide +kernel
theorem d4_104 : decode method_3_code 104 = .ok (.ifCond .ge 7, 3) := by decide +kernel
theorem d4_107 : decode method_3_code 107 = .ok (.iconst 1, 1) := by decide +kernel
theorem d4_108 : decode method_3_code 108 = .ok (.goto 4, 3) := by decide +kernel
theorem d4_112 : decode method_3_code 112 = .ok (.ireturn, 1) := by decide +kernel
theorem d4_32 : decode method_3_code 32 = .ok (.dload 8, 2) := by decide +kernel
theorem d4_34 : decode method_3_code 34 = .ok (.dconst 0, 1) := by decide +kernel
theorem d4_35 : decode method_3_code 35 = .ok (.dcmp .g, 1) := by decide +kernel
theorem d4_36 : decode method_3_code 36 = .ok (.ifCond .ge 7, 3) := by decide +kernel
theorem d4_39 : decode method_3_code 39 = .ok (.iconst 1, 1) := by decide +kernel
theorem d4_40 : decode method_3_code 40 = .ok (.goto 4, 3) := by decide +kernel
theorem d4_44 : decode method_3_code 44 = .ok (.ireturn, 1) := by decide +kernel
theorem pn_com_example_holdback_holdback_sim_InFlightDeliveredPinLaw : plainName "com/example/holdback/holdback/sim/InFlightDeliveredPinLaw" = true := by first | (simp [plainName, overriddenIn]; done) | decide +kernel
def Q_rmCheck1 (Z : State) (fo : Nat) (da : Nat) (ia : Nat) (kd : ClassId) (ki : ClassId) (ma : Nat) (aa : Nat) (km : ClassId) (ka : ClassId) (mm : Int32) (fi : Int32) (sz : Int32) (fq : Int64) (M1 : Int32) (M2 : Int32) (A1 : UInt64) (A2 : UInt64) (mb : Int32) (sq : Int64) (h0 : Heap) (n0 : Nat) (v : Option Value) (h : Heap) (L : List Loc) : Prop := ∃ (fi2 : Int32), ∃ (sz2 : Int32), ∃ (fq2 : Int64), ∃ (N1 : Int32), ∃ (N2 : Int32), v = some (.int (1 : Int32)) ∧ Fr n0 L ∧ Keep h0 h [fo, ia, ma] ∧ Exa Z h fo "com/example/holdback/holdback/sim/InFlight" ∧ Fld Z h fo "com/example/holdback/holdback/sim/InFlight" "multicastAt" "[D" (.ref da) ∧ Fld Z h fo "com/example/holdback/holdback/sim/InFlight" "deliveredBy" "[I" (.ref ia) ∧ Fld Z h fo "com/example/holdback/holdback/sim/InFlight" "firstSeq" "J" (.long fq2) ∧ Fld Z h fo "com/example/holdback/holdback/sim/InFlight" "everyone" "I" (.int (((1 : Int32) <<< (mm &&& 31)) - (1 : Int32))) ∧ Fld Z h fo "com/example/holdback/holdback/sim/InFlight" "size" "I" (.int sz2) ∧ Fld Z h fo "com/example/holdback/holdback/sim/InFlight" "first" "I" (.int fi2) ∧ Arv Z h ia ki .int (16 : Int32) [(.int N1), (.int N2)] (.int (0 : Int32)) ∧ Arv Z h ma km .int (3 : Int32) [(.int (0 : Int32)), (.int N1), (.int N2)] (.int (0 : Int32)) ∧ (own_inv (1 : Int32) (((1 : Int32) <<< (mm &&& 31)) - (1 : Int32)) fi2 sz2 fq2 N1 N2)
set_option maxRecDepth 65536 in
set_option maxHeartbeats 40000000 in
theorem rmCheck1 (l : Launch) (Z : State) (a0 : Array Value) (hw : ∀ d ∈ tables_1, d.before a0 Z = true) (ws : List Jvm.Cond) (fo : Nat) (da : Nat) (ia : Nat) (kd : ClassId) (ki : ClassId) (ma : Nat) (aa : Nat) (km : ClassId) (ka : ClassId) (mm : Int32) (fi : Int32) (sz : Int32) (fq : Int64) (M1 : Int32) (M2 : Int32) (A1 : UInt64) (A2 : UInt64) (mb : Int32) (sq : Int64) (h0 : Heap) (n0 : Nat) (Z0 : n0 ≤ h0.size) (P1 : Exa Z h0 fo "com/example/holdback/holdback/sim/InFlight") (P2 : Fld Z h0 fo "com/example/holdback/holdback/sim/InFlight" "multicastAt" "[D" (.ref da)) (P3 : Fld Z h0 fo "com/example/holdback/holdback/sim/InFlight" "deliveredBy" "[I" (.ref ia)) (P4 : Fld Z h0 fo "com/example/holdback/holdback/sim/InFlight" "firstSeq" "J" (.long fq)) (P5 : Fld Z h0 fo "com/example/holdback/holdback/sim/InFlight" "everyone" "I" (.int (((1 : Int32) <<< (mm &&& 31)) - (1 : Int32)))) (P6 : Fld Z h0 fo "com/example/holdback/holdback/sim/InFlight" "size" "I" (.int sz)) (P7 : Fld Z h0 fo "com/example/holdback/holdback/sim/InFlight" "first" "I" (.int fi)) (P8 : Arv Z h0 da kd .double (16 : Int32) [(.double A1), (.double (0 : UInt64))] (.double (0 : UInt64))) (P9 : Arv Z h0 ia ki .int (16 : Int32) [(.int M1), (.int M2)] (.int (0 : Int32))) (P10 : Arv Z h0 ma km .int (3 : Int32) [(.int (0 : Int32)), (.int M1), (.int M2)] (.int (0 : Int32))) (P11 : Arv Z h0 aa ka .double (3 : Int32) [(.double (0 : UInt64)), (.double A1), (.double A2)] (.double (0 : UInt64))) (OLD : Old Z n0 h0) (gf : n0 ≤ fo) (gd : n0 ≤ da) (gi : n0 ≤ ia) (nfd : fo ≠ da) (nfi : fo ≠ ia) (ndi : da ≠ ia) (ndf : da ≠ fo) (nif : ia ≠ fo) (nid : ia ≠ da) (gm : n0 ≤ ma) (nmf_ : ma ≠ fo) (nmd_ : ma ≠ da) (nmi_ : ma ≠ ia) (naf_ : aa ≠ fo) (nad_ : aa ≠ da) (nai_ : aa ≠ ia) (nfm_ : fo ≠ ma) (ndm_ : da ≠ ma) (nim_ : ia ≠ ma) (nfa_ : fo ≠ aa) (nda_ : da ≠ aa) (nia_ : ia ≠ aa) (nma_ : ma ≠ aa) (nam_ : aa ≠ ma) (hI : own_inv (1 : Int32) (((1 : Int32) <<< (mm &&& 31)) - (1 : Int32)) fi sz fq M1 M2) (hbit : ((((1 : Int32) <<< (mm &&& 31)) - (1 : Int32)) ||| ((1 : Int32) <<< (mb &&& 31))) = (((1 : Int32) <<< (mm &&& 31)) - (1 : Int32))) (nA1 : Jvm.Free.Fl.NoNaN64 A1) (nA2 : Jvm.Free.Fl.NoNaN64 A2) :
    MetFree l (⟨"com/example/holdback/holdback/sim/InFlightDeliveredPinLaw", "check", "(Lcom/example/holdback/holdback/sim/InFlight;II[I[DIJ)Z"⟩ : MethodName) (head1 (Jvm.Cond.code (⟨"com/example/holdback/holdback/sim/InFlightDeliveredPinLaw", "check", "(Lcom/example/holdback/holdback/sim/InFlight;II[I[DIJ)Z"⟩ : MethodName) method_3_code 13 (some .boolean) :: ws) ({ frames := 1, cells := 0, slots := 0, locals := 21 } : Room)) (fun a U => a = #[(.ref fo), (.int mm), (.int (1 : Int32)), (.ref ma), (.ref aa), (.int mb), (.long sq)] ∧ Z.Warmed39 U.vm ∧ U.heap = h0) (fun _ _ _ _ _ => True) (fun _ U o U' => ∃ v L, o = .returned v ∧ Q_rmCheck1 Z fo da ia kd ki ma aa km ka mm fi sz fq M1 M2 A1 A2 mb sq h0 n0 v U'.heap L ∧ FrameEnd U o U' L ({ frames := 1, cells := 0, slots := 0, locals := 21 } : Room).cells ({ frames := 1, cells := 0, slots := 0, locals := 21 } : Room).slots) := by
  refine MetFree.of_bodySF (plainFor_of_name pn_com_example_holdback_holdback_sim_InFlightDeliveredPinLaw) hisR ?_
  intro p e s m args below meth c s₁ Bd hml0 hP hK
  obtain ⟨rfl, hZ, hh⟩ := hP
  have hx := Bd.exec
  have hby := Bd.bytes
  have hml : c.maxLocals = 13 := hml0
  have hown : s.vm.findClass "com/example/holdback/holdback/sim/InFlightDeliveredPinLaw" = some m.cls := findClass_of_methodNamed Bd.named
  have hnm := (name_of_methodNamed Bd.named Bd.method).1
  have X0 : Stand p l e ({ frames := 1, cells := 0, slots := 0, locals := 21 } : Room) s m #[(.ref fo), (.int mm), (.int (1 : Int32)), (.ref ma), (.ref aa), (.int mb), (.long sq)] below meth c s₁ [] 0 0 := Stand.of_body Bd
  have e0 : s₁.heap = h0 := by rw [← hh, Bd.state]; rfl
  have N0 := Fr.nil n0
  have pre0 : ∀ t, Steps p.tables e below (s₁.setTop (mkF m 0 #[.val (.ref fo), .val (.int mm), .val (.int (1 : Int32)), .val (.ref ma), .val (.ref aa), .val (.int mb), .val (.long sq), .second, .unset, .unset, .unset, .unset, .unset] [])) t → Steps p.tables e below (s₁.setTop (entryFrame m #[(.ref fo), (.int mm), (.int (1 : Int32)), (.ref ma), (.ref aa), (.int mb), (.long sq)] 13)) t := fun t k => castTop (ef_rmCheck1 m fo mm (1 : Int32) ma aa mb sq) k
  have oz := OLD.1
  have lt_aa : aa < h0.size := P11.lt
  have lt_da : da < h0.size := P8.lt
  have lt_fo : fo < h0.size := P1.lt
  have lt_ia : ia < h0.size := P9.lt
  have lt_ma : ma < h0.size := P10.lt
  refine own_go (B := s₁.setTop (mkF m 0 #[.val (.ref fo), .val (.int mm), .val (.int (1 : Int32)), .val (.ref ma), .val (.ref aa), .val (.int mb), .val (.long sq), .second, .unset, .unset, .unset, .unset, .unset] [])) pre0 ?_
  show ∃ t o, Steps p.tables e below (s₁.setTop (mkF m 0 #[.val (.ref fo), .val (.int mm), .val (.int (1 : Int32)), .val (.ref ma), .val (.ref aa), .val (.int mb), .val (.long sq), .second, .unset, .unset, .unset, .unset, .unset] [])) t ∧ _
  rcases hI with ⟨hi1, hi2, hi3, hi4⟩ | ⟨hi1, hi2, hi3, hi4, hi5⟩ | ⟨hi1, hi2, hi3, hi0, hi4, hi5⟩
  · have hi2' : sz = (1 : Int32) := hi2
    subst hi1 hi2' hi3
    show ∃ t o, Steps p.tables e below (s₁.setTop (mkF m 0 #[.val (.ref fo), .val (.int mm), .val (.int (1 : Int32)), .val (.ref ma), .val (.ref aa), .val (.int mb), .val (.long sq), .second, .unset, .unset, .unset, .unset, .unset] [])) t ∧ _
    rcases own_seq1 sq with hq | ⟨hqn, hq⟩
    · subst hq
      show ∃ t o, Steps p.tables e below (s₁.setTop (mkF m 0 #[.val (.ref fo), .val (.int mm), .val (.int (1 : Int32)), .val (.ref ma), .val (.ref aa), .val (.int mb), .val (.long (1 : Int64)), .second, .unset, .unset, .unset, .unset, .unset] [])) t ∧ _
      refine own_go (fun _ => XS.aloadN X0.here hx rfl (hb hby d4_0) rfl rfl) ?_
      refine own_go (fun _ => XS.iload X0.here hx rfl (hb hby d4_1) rfl) ?_
      refine own_go (fun _ => XS.lload X0.here hx rfl (hb hby d4_3) rfl) ?_
      show ∃ t o, Steps p.tables e below (s₁.setTop (mkF m 5 #[.val (.ref fo), .val (.int mm), .val (.int (1 : Int32)), .val (.ref ma), .val (.ref aa), .val (.int mb), .val (.long (1 : Int64)), .second, .unset, .unset, .unset, .unset, .unset] [(.long (1 : Int64)), (.int mb), (.ref fo)])) t ∧ _
      obtain ⟨cq12, kq12, q12a, q12b, q12c⟩ := isOf hZ e0 P1
      obtain ⟨_, _, ⟨T12, L12, k12, n12⟩, -, X12, ⟨Lc12, hQ12, l12, y12, z12⟩, st12⟩ := X0.virtualBack hx (y := (⟨"com/example/holdback/holdback/sim/InFlight", "delivered", "(IJ)D"⟩ : MethodName)) (z := (⟨"com/example/holdback/holdback/sim/InFlight", "delivered", "(IJ)D"⟩ : MethodName)) hown (mvT hZ (hw _ (List.mem_of_getElem? (i := 34) rfl))) (mvT hZ (hw _ (List.mem_of_getElem? (i := 35) rfl))) (notFace_of_selects (args := #[]) (mvT hZ (hw _ (List.mem_of_getElem? (i := 37) rfl)))) (mvT hZ (hw _ (List.mem_of_getElem? (i := 37) rfl))) (mvT hZ (hw _ (List.mem_of_getElem? (i := 36) rfl))) (by decide) (backOf (W := 0) (rmV1 l Z a0 hw [] fo da ia kd ki ((((1 : Int32) <<< (mm &&& 31)) - (1 : Int32))) M1 M2 A1 A2 mb h0 n0 Z0 P1 P2 P3 P4 P5 P6 P7 P8 P9 OLD gf gd gi nfd nfi ndi ndf nif nid (hi4 : ¬ (M1 = (((1 : Int32) <<< (mm &&& 31)) - (1 : Int32))))) hZ (hw _ (List.mem_of_getElem? (i := 38) rfl)) (hw _ (List.mem_of_getElem? (i := 6) rfl)) (by decide) (by decide)) q12a q12c (g := (mkF m 5 #[.val (.ref fo), .val (.int mm), .val (.int (1 : Int32)), .val (.ref ma), .val (.ref aa), .val (.int mb), .val (.long (1 : Int64)), .second, .unset, .unset, .unset, .unset, .unset] [(.long (1 : Int64)), (.int mb), (.ref fo)])) rfl (by rw [hml]; rfl) (Steps.refl _) (argsL := [(.int mb), (.long (1 : Int64))]) (rest := []) (lenOf pd__28IJ_29D rfl) rfl (by show 2 * 0 + _ ≤ _; exact Nat.le_of_eq rfl) (hb hby d4_5) (fun _ _ => ⟨rfl, e0, (by decide : 0 + 0 ≤ _), (by decide : 0 + 0 ≤ _)⟩)
      dsimp only [Pt.U, Pt.locs, Pt.cells, Pt.slots] at X12 l12 y12 z12 st12 hQ12
      subst l12 y12 z12
      obtain ⟨rr_12, fi2_12, sz2_12, fq2_12, rfl, Nq12, Kp12, G12_0, G12_1, G12_2, G12_3, G12_4, G12_5, G12_6, G12_7, H12_0, H12_1⟩ := hQ12
      have N12 := Fr.app N0 Nq12
      refine own_goT st12 ?_
      have le_12 : h0.size ≤ T12.heap.size := Kp12.1
      have K12 : Keep h0 T12.heap [fo, ia, ma] := Keep.trans (Keep.refl h0 [fo, ia, ma]) Kp12 (allS (Or.inl (List.mem_of_getElem? (i := 0) rfl)) (allS (Or.inl (List.mem_of_getElem? (i := 1) rfl)) all0))
      refine own_go (fun _ => XS.dstore X12.here hx rfl (hb hby d4_8) rfl (l' := #[.val (.ref fo), .val (.int mm), .val (.int (1 : Int32)), .val (.ref ma), .val (.ref aa), .val (.int mb), .val (.long (1 : Int64)), .second, .val (.double rr_12), .second, .unset, .unset, .unset]) rfl) ?_
      refine own_go (fun _ => XS.iconst X12.here hx rfl (hb hby d4_10)) ?_
      show ∃ t o, Steps p.tables e below (T12.setTop (mkF m 11 #[.val (.ref fo), .val (.int mm), .val (.int (1 : Int32)), .val (.ref ma), .val (.ref aa), .val (.int mb), .val (.long (1 : Int64)), .second, .val (.double rr_12), .second, .unset, .unset, .unset] [(.int (1 : Int32))])) t ∧ _
      refine own_go (fun _ => XS.iloadN X12.here hx rfl (hb hby d4_11) rfl) ?_
      refine own_go (fun _ => XS.ishl X12.here hx rfl (hb hby d4_12) rfl) ?_
      refine own_go (fun _ => XS.iconst X12.here hx rfl (hb hby d4_13)) ?_
      show ∃ t o, Steps p.tables e below (T12.setTop (mkF m 14 #[.val (.ref fo), .val (.int mm), .val (.int (1 : Int32)), .val (.ref ma), .val (.ref aa), .val (.int mb), .val (.long (1 : Int64)), .second, .val (.double rr_12), .second, .unset, .unset, .unset] [(.int (1 : Int32)), (.int ((1 : Int32) <<< (mm &&& 31)))])) t ∧ _
      refine own_go (fun _ => XS.isub X12.here hx rfl (hb hby d4_14) rfl) ?_
      refine own_go (fun _ => XS.istore X12.here hx rfl (hb hby d4_15) rfl (l' := #[.val (.ref fo), .val (.int mm), .val (.int (1 : Int32)), .val (.ref ma), .val (.ref aa), .val (.int mb), .val (.long (1 : Int64)), .second, .val (.double rr_12), .second, .val (.int (((1 : Int32) <<< (mm &&& 31)) - (1 : Int32))), .unset, .unset]) rfl) ?_
      refine own_go (fun _ => XS.lload X12.here hx rfl (hb hby d4_17) rfl) ?_
      show ∃ t o, Steps p.tables e below (T12.setTop (mkF m 19 #[.val (.ref fo), .val (.int mm), .val (.int (1 : Int32)), .val (.ref ma), .val (.ref aa), .val (.int mb), .val (.long (1 : Int64)), .second, .val (.double rr_12), .second, .val (.int (((1 : Int32) <<< (mm &&& 31)) - (1 : Int32))), .unset, .unset] [(.long (1 : Int64))])) t ∧ _
      refine own_go (fun _ => XS.lconst X12.here hx rfl (hb hby d4_19)) ?_
      refine own_go (fun _ => XS.lcmp X12.here hx rfl (hb hby d4_20) rfl) ?_
      show ∃ t o, Steps p.tables e below (T12.setTop (mkF m 21 #[.val (.ref fo), .val (.int mm), .val (.int (1 : Int32)), .val (.ref ma), .val (.ref aa), .val (.int mb), .val (.long (1 : Int64)), .second, .val (.double rr_12), .second, .val (.int (((1 : Int32) <<< (mm &&& 31)) - (1 : Int32))), .unset, .unset] [(.int (lcmpW (1 : Int64) (1 : Int64)))])) t ∧ _
      refine own_go (fun _ => XS.ifNo X12.here hx rfl (hb hby d4_21) rfl ((if0 _ _).trans (flt (mt (lw_lt _ _).mp (by decide : ¬ ((1 : Int64) < (1 : Int64))))).1)) ?_
      refine own_go (fun _ => XS.lload X12.here hx rfl (hb hby d4_24) rfl) ?_
      refine own_go (fun _ => XS.iloadN X12.here hx rfl (hb hby d4_26) rfl) ?_
      show ∃ t o, Steps p.tables e below (T12.setTop (mkF m 27 #[.val (.ref fo), .val (.int mm), .val (.int (1 : Int32)), .val (.ref ma), .val (.ref aa), .val (.int mb), .val (.long (1 : Int64)), .second, .val (.double rr_12), .second, .val (.int (((1 : Int32) <<< (mm &&& 31)) - (1 : Int32))), .unset, .unset] [(.int (1 : Int32)), (.long (1 : Int64))])) t ∧ _
      refine own_go (fun _ => XS.i2l X12.here hx rfl (hb hby d4_27) rfl) ?_
      refine own_go (fun _ => XS.lcmp X12.here hx rfl (hb hby d4_28) rfl) ?_
      show ∃ t o, Steps p.tables e below (T12.setTop (mkF m 29 #[.val (.ref fo), .val (.int mm), .val (.int (1 : Int32)), .val (.ref ma), .val (.ref aa), .val (.int mb), .val (.long (1 : Int64)), .second, .val (.double rr_12), .second, .val (.int (((1 : Int32) <<< (mm &&& 31)) - (1 : Int32))), .unset, .unset] [(.int (lcmpW (1 : Int64) (1 : Int64)))])) t ∧ _
      refine own_go (fun _ => XS.ifYes X12.here hx rfl (pc0 := 29) (pc' := 45) rfl (hb hby d4_29) rfl ((if0 _ _).trans (flt (mt (lw_gt _ _).mp (by decide : ¬ ((1 : Int64) < (1 : Int64))))).2.2.2) (by decide) (by decide)) ?_
      refine own_go (fun _ => XS.lload X12.here hx rfl (hb hby d4_45) rfl) ?_
      refine own_go (fun _ => XS.l2i X12.here hx rfl (hb hby d4_47) rfl) ?_
      show ∃ t o, Steps p.tables e below (T12.setTop (mkF m 48 #[.val (.ref fo), .val (.int mm), .val (.int (1 : Int32)), .val (.ref ma), .val (.ref aa), .val (.int mb), .val (.long (1 : Int64)), .second, .val (.double rr_12), .second, .val (.int (((1 : Int32) <<< (mm &&& 31)) - (1 : Int32))), .unset, .unset] [(.int (1 : Int32))])) t ∧ _
      refine own_go (fun _ => XS.istore X12.here hx rfl (hb hby d4_48) rfl (l' := #[.val (.ref fo), .val (.int mm), .val (.int (1 : Int32)), .val (.ref ma), .val (.ref aa), .val (.int mb), .val (.long (1 : Int64)), .second, .val (.double rr_12), .second, .val (.int (((1 : Int32) <<< (mm &&& 31)) - (1 : Int32))), .val (.int (1 : Int32)), .unset]) rfl) ?_
      refine own_go (fun _ => XS.aloadN X12.here hx rfl (hb hby d4_50) rfl rfl) ?_
      refine own_go (fun _ => XS.iload X12.here hx rfl (hb hby d4_51) rfl) ?_
      show ∃ t o, Steps p.tables e below (T12.setTop (mkF m 53 #[.val (.ref fo), .val (.int mm), .val (.int (1 : Int32)), .val (.ref ma), .val (.ref aa), .val (.int mb), .val (.long (1 : Int64)), .second, .val (.double rr_12), .second, .val (.int (((1 : Int32) <<< (mm &&& 31)) - (1 : Int32))), .val (.int (1 : Int32)), .unset] [(.int (1 : Int32)), (.ref ma)])) t ∧ _
      have F13 : Arv Z T12.heap ma km .int (3 : Int32) [(.int (0 : Int32)), (.int M1), (.int M2)] (.int (0 : Int32)) := (Arv.keep P10 Kp12 (ninS nmf_ (ninS nmi_ nin0)))
      obtain ⟨cl14, Ar14, q14, S14, N14, H14, G14⟩ := id F13
      have hin14 : ¬ ((1 : Int32) < 0 ∨ cl14.slots.size ≤ ((1 : Int32)).toNatClampNeg) := inb_of S14 ⟨by decide, by decide⟩
      have hat14 : cl14.slots[((1 : Int32)).toNatClampNeg]? = some (.int M1) := Has.at H14 hin14 rfl
      refine own_go (fun _ => X12.iaload hx (j := (1 : Int32)) (v := (.int M1)) Ar14.1 (State.isArrayOf_alike hZ.alike Ar14.2.1) Ar14.2.2 hin14 hat14 (g := (mkF m 53 #[.val (.ref fo), .val (.int mm), .val (.int (1 : Int32)), .val (.ref ma), .val (.ref aa), .val (.int mb), .val (.long (1 : Int64)), .second, .val (.double rr_12), .second, .val (.int (((1 : Int32) <<< (mm &&& 31)) - (1 : Int32))), .val (.int (1 : Int32)), .unset] [(.int (1 : Int32)), (.ref ma)])) rfl rfl (hb hby d4_53) _) ?_
      refine own_go (fun _ => XS.istore X12.here hx rfl (hb hby d4_54) rfl (l' := #[.val (.ref fo), .val (.int mm), .val (.int (1 : Int32)), .val (.ref ma), .val (.ref aa), .val (.int mb), .val (.long (1 : Int64)), .second, .val (.double rr_12), .second, .val (.int (((1 : Int32) <<< (mm &&& 31)) - (1 : Int32))), .val (.int (1 : Int32)), .val (.int M1)]) rfl) ?_
      refine own_go (fun _ => XS.aloadN X12.here hx rfl (hb hby d4_56) rfl rfl) ?_
      show ∃ t o, Steps p.tables e below (T12.setTop (mkF m 57 #[.val (.ref fo), .val (.int mm), .val (.int (1 : Int32)), .val (.ref ma), .val (.ref aa), .val (.int mb), .val (.long (1 : Int64)), .second, .val (.double rr_12), .second, .val (.int (((1 : Int32) <<< (mm &&& 31)) - (1 : Int32))), .val (.int (1 : Int32)), .val (.int M1)] [(.ref ma)])) t ∧ _
      refine own_go (fun _ => XS.iload X12.here hx rfl (hb hby d4_57) rfl) ?_
      refine own_go (fun _ => XS.iload X12.here hx rfl (hb hby d4_59) rfl) ?_
      refine own_go (fun _ => XS.iconst X12.here hx rfl (hb hby d4_61)) ?_
      show ∃ t o, Steps p.tables e below (T12.setTop (mkF m 62 #[.val (.ref fo), .val (.int mm), .val (.int (1 : Int32)), .val (.ref ma), .val (.ref aa), .val (.int mb), .val (.long (1 : Int64)), .second, .val (.double rr_12), .second, .val (.int (((1 : Int32) <<< (mm &&& 31)) - (1 : Int32))), .val (.int (1 : Int32)), .val (.int M1)] [(.int (1 : Int32)), (.int M1), (.int (1 : Int32)), (.ref ma)])) t ∧ _
      refine own_go (fun _ => XS.iload X12.here hx rfl (hb hby d4_62) rfl) ?_
      refine own_go (fun _ => XS.ishl X12.here hx rfl (hb hby d4_64) rfl) ?_
      refine own_go (fun _ => XS.ior X12.here hx rfl (hb hby d4_65) rfl) ?_
      show ∃ t o, Steps p.tables e below (T12.setTop (mkF m 66 #[.val (.ref fo), .val (.int mm), .val (.int (1 : Int32)), .val (.ref ma), .val (.ref aa), .val (.int mb), .val (.long (1 : Int64)), .second, .val (.double rr_12), .second, .val (.int (((1 : Int32) <<< (mm &&& 31)) - (1 : Int32))), .val (.int (1 : Int32)), .val (.int M1)] [(.int (M1 ||| ((1 : Int32) <<< (mb &&& 31)))), (.int (1 : Int32)), (.ref ma)])) t ∧ _
      obtain ⟨cl15, Ar15, q15, S15, N15, H15, G15⟩ := id F13
      have hin15 : ¬ ((1 : Int32) < 0 ∨ cl15.slots.size ≤ ((1 : Int32)).toNatClampNeg) := inb_of S15 ⟨by decide, by decide⟩
      obtain ⟨T16, h16, X16, e16, W16, st16⟩ := stI X12 hx hZ rfl Ar15 (j := (1 : Int32)) hin15 (g := (mkF m 66 #[.val (.ref fo), .val (.int mm), .val (.int (1 : Int32)), .val (.ref ma), .val (.ref aa), .val (.int mb), .val (.long (1 : Int64)), .second, .val (.double rr_12), .second, .val (.int (((1 : Int32) <<< (mm &&& 31)) - (1 : Int32))), .val (.int (1 : Int32)), .val (.int M1)] [(.int (M1 ||| ((1 : Int32) <<< (mb &&& 31)))), (.int (1 : Int32)), (.ref ma)])) rfl rfl (hb hby d4_66)
      refine own_go st16 ?_
      have le_16 : T12.heap.size ≤ h16.size := Nat.le_of_eq W16.size.symm
      have K16 : Keep h0 h16 [fo, ia, ma] := Keep.wr K12 W16 (Or.inl (List.mem_of_getElem? (i := 2) rfl))
      have N16 := Fr.snoc X16 N12 gm
      have V16 : Arv Z h16 ma km .int (3 : Int32) [(.int (0 : Int32)), (.int (M1 ||| ((1 : Int32) <<< (mb &&& 31)))), (.int M2)] (.int (0 : Int32)) := Arv.set Ar15 q15 S15 N15 H15 G15 rfl W16 1 rfl (Nat.le_of_ble_eq_true rfl)
      refine own_go (fun _ => XS.iload X16.here hx rfl (hb hby d4_67) rfl) ?_
      refine own_go (fun _ => XS.iload X16.here hx rfl (hb hby d4_69) rfl) ?_
      show ∃ t o, Steps p.tables e below (T16.setTop (mkF m 71 #[.val (.ref fo), .val (.int mm), .val (.int (1 : Int32)), .val (.ref ma), .val (.ref aa), .val (.int mb), .val (.long (1 : Int64)), .second, .val (.double rr_12), .second, .val (.int (((1 : Int32) <<< (mm &&& 31)) - (1 : Int32))), .val (.int (1 : Int32)), .val (.int M1)] [(.int (((1 : Int32) <<< (mm &&& 31)) - (1 : Int32))), (.int M1)])) t ∧ _
      refine own_go (fun _ => XS.icmpNo X16.here hx rfl (hb hby d4_71) rfl (feq hi4).1) ?_
      refine own_go (fun _ => XS.aloadN X16.here hx rfl (hb hby d4_74) rfl rfl) ?_
      refine own_go (fun _ => XS.iload X16.here hx rfl (hb hby d4_75) rfl) ?_
      show ∃ t o, Steps p.tables e below (T16.setTop (mkF m 77 #[.val (.ref fo), .val (.int mm), .val (.int (1 : Int32)), .val (.ref ma), .val (.ref aa), .val (.int mb), .val (.long (1 : Int64)), .second, .val (.double rr_12), .second, .val (.int (((1 : Int32) <<< (mm &&& 31)) - (1 : Int32))), .val (.int (1 : Int32)), .val (.int M1)] [(.int (1 : Int32)), (.ref ma)])) t ∧ _
      obtain ⟨cl17, Ar17, q17, S17, N17, H17, G17⟩ := id V16
      have hin17 : ¬ ((1 : Int32) < 0 ∨ cl17.slots.size ≤ ((1 : Int32)).toNatClampNeg) := inb_of S17 ⟨by decide, by decide⟩
      have hat17 : cl17.slots[((1 : Int32)).toNatClampNeg]? = some (.int (M1 ||| ((1 : Int32) <<< (mb &&& 31)))) := Has.at H17 hin17 rfl
      refine own_go (fun _ => X16.iaload hx (j := (1 : Int32)) (v := (.int (M1 ||| ((1 : Int32) <<< (mb &&& 31))))) (by rw [e16]; exact Ar17.1) (State.isArrayOf_alike hZ.alike Ar17.2.1) Ar17.2.2 hin17 hat17 (g := (mkF m 77 #[.val (.ref fo), .val (.int mm), .val (.int (1 : Int32)), .val (.ref ma), .val (.ref aa), .val (.int mb), .val (.long (1 : Int64)), .second, .val (.double rr_12), .second, .val (.int (((1 : Int32) <<< (mm &&& 31)) - (1 : Int32))), .val (.int (1 : Int32)), .val (.int M1)] [(.int (1 : Int32)), (.ref ma)])) rfl rfl (hb hby d4_77) _) ?_
      refine own_go (fun _ => XS.iload X16.here hx rfl (hb hby d4_78) rfl) ?_
      show ∃ t o, Steps p.tables e below (T16.setTop (mkF m 80 #[.val (.ref fo), .val (.int mm), .val (.int (1 : Int32)), .val (.ref ma), .val (.ref aa), .val (.int mb), .val (.long (1 : Int64)), .second, .val (.double rr_12), .second, .val (.int (((1 : Int32) <<< (mm &&& 31)) - (1 : Int32))), .val (.int (1 : Int32)), .val (.int M1)] [(.int (((1 : Int32) <<< (mm &&& 31)) - (1 : Int32))), (.int (M1 ||| ((1 : Int32) <<< (mb &&& 31))))])) t ∧ _
      by_cases hc18 : (M1 ||| ((1 : Int32) <<< (mb &&& 31))) = (((1 : Int32) <<< (mm &&& 31)) - (1 : Int32))
      · refine own_go (fun _ => XS.icmpNo X16.here hx rfl (hb hby d4_80) rfl (teq hc18).2) ?_
        refine own_go (fun _ => XS.dload X16.here hx rfl (hb hby d4_83) rfl) ?_
        refine own_go (fun _ => XS.aload X16.here hx rfl (hb hby d4_85) rfl rfl) ?_
        show ∃ t o, Steps p.tables e below (T16.setTop (mkF m 87 #[.val (.ref fo), .val (.int mm), .val (.int (1 : Int32)), .val (.ref ma), .val (.ref aa), .val (.int mb), .val (.long (1 : Int64)), .second, .val (.double rr_12), .second, .val (.int (((1 : Int32) <<< (mm &&& 31)) - (1 : Int32))), .val (.int (1 : Int32)), .val (.int M1)] [(.ref aa), (.double rr_12)])) t ∧ _
        refine own_go (fun _ => XS.iload X16.here hx rfl (hb hby d4_87) rfl) ?_
        have F19 : Arv Z h16 aa ka .double (3 : Int32) [(.double (0 : UInt64)), (.double A1), (.double A2)] (.double (0 : UInt64)) := (Arv.other (Arv.keep P11 Kp12 (ninS naf_ (ninS nai_ nin0))) W16 nam_)
        obtain ⟨cl20, Ar20, q20, S20, N20, H20, G20⟩ := id F19
        have hin20 : ¬ ((1 : Int32) < 0 ∨ cl20.slots.size ≤ ((1 : Int32)).toNatClampNeg) := inb_of S20 ⟨by decide, by decide⟩
        have hat20 : cl20.slots[((1 : Int32)).toNatClampNeg]? = some (.double A1) := Has.at H20 hin20 rfl
        refine own_go (fun _ => X16.daload hx (j := (1 : Int32)) (v := (.double A1)) (by rw [e16]; exact Ar20.1) (State.isArrayOf_alike hZ.alike Ar20.2.1) Ar20.2.2 hin20 hat20 (g := (mkF m 89 #[.val (.ref fo), .val (.int mm), .val (.int (1 : Int32)), .val (.ref ma), .val (.ref aa), .val (.int mb), .val (.long (1 : Int64)), .second, .val (.double rr_12), .second, .val (.int (((1 : Int32) <<< (mm &&& 31)) - (1 : Int32))), .val (.int (1 : Int32)), .val (.int M1)] [(.int (1 : Int32)), (.ref aa), (.double rr_12)])) rfl rfl (hb hby d4_89) _) ?_
        refine own_go (fun _ => XS.dcmpS X16.here hx rfl (hb hby d4_90) rfl (v := (0 : Int32)) (by rw [H12_0, if_pos ⟨hi4, hc18⟩]; exact dcmpV_self nA1 .l)) ?_
        show ∃ t o, Steps p.tables e below (T16.setTop (mkF m 91 #[.val (.ref fo), .val (.int mm), .val (.int (1 : Int32)), .val (.ref ma), .val (.ref aa), .val (.int mb), .val (.long (1 : Int64)), .second, .val (.double rr_12), .second, .val (.int (((1 : Int32) <<< (mm &&& 31)) - (1 : Int32))), .val (.int (1 : Int32)), .val (.int M1)] [(.int (0 : Int32))])) t ∧ _
        refine own_go (fun _ => XS.ifNo X16.here hx rfl (hb hby d4_91) rfl ((if0 _ _).trans (teq (by decide : (0 : Int32) = (0 : Int32))).2)) ?_
        refine own_go (fun _ => XS.iconst X16.here hx rfl (hb hby d4_94)) ?_
        refine own_go (fun _ => XS.goto X16.here hx rfl (pc0 := 95) (pc' := 99) rfl (hb hby d4_95) (by decide) (by decide)) ?_
        show ∃ t o, Steps p.tables e below (T16.setTop (mkF m 99 #[.val (.ref fo), .val (.int mm), .val (.int (1 : Int32)), .val (.ref ma), .val (.ref aa), .val (.int mb), .val (.long (1 : Int64)), .second, .val (.double rr_12), .second, .val (.int (((1 : Int32) <<< (mm &&& 31)) - (1 : Int32))), .val (.int (1 : Int32)), .val (.int M1)] [(.int (1 : Int32))])) t ∧ _
        have F21 : Exa Z h16 fo "com/example/holdback/holdback/sim/InFlight" := (Exa.wr W16 G12_0)
        have F22 : Fld Z h16 fo "com/example/holdback/holdback/sim/InFlight" "multicastAt" "[D" (.ref da) := (Fld.other W16 G12_1 (Or.inl nfm_))
        have F23 : Fld Z h16 fo "com/example/holdback/holdback/sim/InFlight" "deliveredBy" "[I" (.ref ia) := (Fld.other W16 G12_2 (Or.inl nfm_))
        have F24 : Fld Z h16 fo "com/example/holdback/holdback/sim/InFlight" "firstSeq" "J" (.long fq2_12) := (Fld.other W16 G12_3 (Or.inl nfm_))
        have F25 : Fld Z h16 fo "com/example/holdback/holdback/sim/InFlight" "everyone" "I" (.int (((1 : Int32) <<< (mm &&& 31)) - (1 : Int32))) := (Fld.other W16 G12_4 (Or.inl nfm_))
        have F26 : Fld Z h16 fo "com/example/holdback/holdback/sim/InFlight" "size" "I" (.int sz2_12) := (Fld.other W16 G12_5 (Or.inl nfm_))
        have F27 : Fld Z h16 fo "com/example/holdback/holdback/sim/InFlight" "first" "I" (.int fi2_12) := (Fld.other W16 G12_6 (Or.inl nfm_))
        have F28 : Arv Z h16 ia ki .int (16 : Int32) [(.int (M1 ||| ((1 : Int32) <<< (mb &&& 31)))), (.int M2)] (.int (0 : Int32)) := (Arv.other G12_7 W16 nim_)
        obtain ⟨fs, hr, hrun, hended, hW, hsame⟩ := X16.leave (v := some (.int (1 : Int32))) (fun h => by rw [Bd.returns] at h; cases h)
        refine ⟨_, _, ?_, hrun, hended, _, _, rfl, ?_, ⟨_, rfl⟩, hW, hsame.mono (by decide) (by decide)⟩
        · exact retN X16 hx (t := .boolean) Bd.returns (by simp) (hb hby d4_99) hr
        · show Q_rmCheck1 Z _ _ _ _ _ _ _ _ _ _ _ _ _ _ _ _ _ _ _ h0 n0 _ T16.heap _
          rw [e16]
          exact ⟨fi2_12, sz2_12, fq2_12, (M1 ||| ((1 : Int32) <<< (mb &&& 31))), M2, rfl, N16, K16, F21, F22, F23, F24, F25, F26, F27, F28, V16, H12_1⟩
      · refine own_go (fun _ => XS.icmpYes X16.here hx rfl (pc0 := 80) (pc' := 100) rfl (hb hby d4_80) rfl (feq hc18).2 (by decide) (by decide)) ?_
        refine own_go (fun _ => XS.dload X16.here hx rfl (hb hby d4_100) rfl) ?_
        refine own_go (fun _ => XS.dconst0 X16.here hx rfl (hb hby d4_102) rfl) ?_
        show ∃ t o, Steps p.tables e below (T16.setTop (mkF m 103 #[.val (.ref fo), .val (.int mm), .val (.int (1 : Int32)), .val (.ref ma), .val (.ref aa), .val (.int mb), .val (.long (1 : Int64)), .second, .val (.double rr_12), .second, .val (.int (((1 : Int32) <<< (mm &&& 31)) - (1 : Int32))), .val (.int (1 : Int32)), .val (.int M1)] [(.double FP.dconst0), (.double rr_12)])) t ∧ _
        refine own_go (fun _ => XS.dcmpS X16.here hx rfl (hb hby d4_103) rfl (v := (-1 : Int32)) (by rw [H12_0, if_neg (fun z => hc18 z.2)]; exact own_negd)) ?_
        show ∃ t o, Steps p.tables e below (T16.setTop (mkF m 104 #[.val (.ref fo), .val (.int mm), .val (.int (1 : Int32)), .val (.ref ma), .val (.ref aa), .val (.int mb), .val (.long (1 : Int64)), .second, .val (.double rr_12), .second, .val (.int (((1 : Int32) <<< (mm &&& 31)) - (1 : Int32))), .val (.int (1 : Int32)), .val (.int M1)] [(.int (-1 : Int32))])) t ∧ _
        refine own_go (fun _ => XS.ifNo X16.here hx rfl (hb hby d4_104) rfl ((if0 _ _).trans (tlt (by decide : (-1 : Int32) < (0 : Int32))).2.1)) ?_
        refine own_go (fun _ => XS.iconst X16.here hx rfl (hb hby d4_107)) ?_
        refine own_go (fun _ => XS.goto X16.here hx rfl (pc0 := 108) (pc' := 112) rfl (hb hby d4_108) (by decide) (by decide)) ?_
        show ∃ t o, Steps p.tables e below (T16.setTop (mkF m 112 #[.val (.ref fo), .val (.int mm), .val (.int (1 : Int32)), .val (.ref ma), .val (.ref aa), .val (.int mb), .val (.long (1 : Int64)), .second, .val (.double rr_12), .second, .val (.int (((1 : Int32) <<< (mm &&& 31)) - (1 : Int32))), .val (.int (1 : Int32)), .val (.int M1)] [(.int (1 : Int32))])) t ∧ _
        have F29 : Exa Z h16 fo "com/example/holdback/holdback/sim/InFlight" := (Exa.wr W16 G12_0)
        have F30 : Fld Z h16 fo "com/example/holdback/holdback/sim/InFlight" "multicastAt" "[D" (.ref da) := (Fld.other W16 G12_1 (Or.inl nfm_))
        have F31 : Fld Z h16 fo "com/example/holdback/holdback/sim/InFlight" "deliveredBy" "[I" (.ref ia) := (Fld.other W16 G12_2 (Or.inl nfm_))
        have F32 : Fld Z h16 fo "com/example/holdback/holdback/sim/InFlight" "firstSeq" "J" (.long fq2_12) := (Fld.other W16 G12_3 (Or.inl nfm_))
        have F33 : Fld Z h16 fo "com/example/holdback/holdback/sim/InFlight" "everyone" "I" (.int (((1 : Int32) <<< (mm &&& 31)) - (1 : Int32))) := (Fld.other W16 G12_4 (Or.inl nfm_))
        have F34 : Fld Z h16 fo "com/example/holdback/holdback/sim/InFlight" "size" "I" (.int sz2_12) := (Fld.other W16 G12_5 (Or.inl nfm_))
        have F35 : Fld Z h16 fo "com/example/holdback/holdback/sim/InFlight" "first" "I" (.int fi2_12) := (Fld.other W16 G12_6 (Or.inl nfm_))
        have F36 : Arv Z h16 ia ki .int (16 : Int32) [(.int (M1 ||| ((1 : Int32) <<< (mb &&& 31)))), (.int M2)] (.int (0 : Int32)) := (Arv.other G12_7 W16 nim_)
        obtain ⟨fs, hr, hrun, hended, hW, hsame⟩ := X16.leave (v := some (.int (1 : Int32))) (fun h => by rw [Bd.returns] at h; cases h)
        refine ⟨_, _, ?_, hrun, hended, _, _, rfl, ?_, ⟨_, rfl⟩, hW, hsame.mono (by decide) (by decide)⟩
        · exact retN X16 hx (t := .boolean) Bd.returns (by simp) (hb hby d4_112) hr
        · show Q_rmCheck1 Z _ _ _ _ _ _ _ _ _ _ _ _ _ _ _ _ _ _ _ h0 n0 _ T16.heap _
          rw [e16]
          exact ⟨fi2_12, sz2_12, fq2_12, (M1 ||| ((1 : Int32) <<< (mb &&& 31))), M2, rfl, N16, K16, F29, F30, F31, F32, F33, F34, F35, F36, V16, H12_1⟩
    · show ∃ t o, Steps p.tables e below (s₁.setTop (mkF m 0 #[.val (.ref fo), .val (.int mm), .val (.int (1 : Int32)), .val (.ref ma), .val (.ref aa), .val (.int mb), .val (.long sq), .second, .unset, .unset, .unset, .unset, .unset] [])) t ∧ _
      refine own_go (fun _ => XS.aloadN X0.here hx rfl (hb hby d4_0) rfl rfl) ?_
      refine own_go (fun _ => XS.iload X0.here hx rfl (hb hby d4_1) rfl) ?_
      refine own_go (fun _ => XS.lload X0.here hx rfl (hb hby d4_3) rfl) ?_
      show ∃ t o, Steps p.tables e below (s₁.setTop (mkF m 5 #[.val (.ref fo), .val (.int mm), .val (.int (1 : Int32)), .val (.ref ma), .val (.ref aa), .val (.int mb), .val (.long sq), .second, .unset, .unset, .unset, .unset, .unset] [(.long sq), (.int mb), (.ref fo)])) t ∧ _
      obtain ⟨cq37, kq37, q37a, q37b, q37c⟩ := isOf hZ e0 P1
      obtain ⟨_, _, ⟨T37, L37, k37, n37⟩, -, X37, ⟨Lc37, hQ37, l37, y37, z37⟩, st37⟩ := X0.virtualBack hx (y := (⟨"com/example/holdback/holdback/sim/InFlight", "delivered", "(IJ)D"⟩ : MethodName)) (z := (⟨"com/example/holdback/holdback/sim/InFlight", "delivered", "(IJ)D"⟩ : MethodName)) hown (mvT hZ (hw _ (List.mem_of_getElem? (i := 34) rfl))) (mvT hZ (hw _ (List.mem_of_getElem? (i := 35) rfl))) (notFace_of_selects (args := #[]) (mvT hZ (hw _ (List.mem_of_getElem? (i := 37) rfl)))) (mvT hZ (hw _ (List.mem_of_getElem? (i := 37) rfl))) (mvT hZ (hw _ (List.mem_of_getElem? (i := 36) rfl))) (by decide) (backOf (W := 0) (rmOut l Z a0 hw [] fo (1 : Int32) (1 : Int64) mb sq h0 n0 Z0 P4 P6 OLD (own_out 1 1 rfl rfl (by decide) (by decide) (by decide) (by decide) (by omega) : (sq - (1 : Int64)) < (0 : Int64) ∨ ¬ ((sq - (1 : Int64)) < (1 : Int32).toInt64))) hZ (hw _ (List.mem_of_getElem? (i := 38) rfl)) (hw _ (List.mem_of_getElem? (i := 6) rfl)) (by decide) (by decide)) q37a q37c (g := (mkF m 5 #[.val (.ref fo), .val (.int mm), .val (.int (1 : Int32)), .val (.ref ma), .val (.ref aa), .val (.int mb), .val (.long sq), .second, .unset, .unset, .unset, .unset, .unset] [(.long sq), (.int mb), (.ref fo)])) rfl (by rw [hml]; rfl) (Steps.refl _) (argsL := [(.int mb), (.long sq)]) (rest := []) (lenOf pd__28IJ_29D rfl) rfl (by show 2 * 0 + _ ≤ _; exact Nat.le_of_eq rfl) (hb hby d4_5) (fun _ _ => ⟨rfl, e0, (by decide : 0 + 0 ≤ _), (by decide : 0 + 0 ≤ _)⟩)
      dsimp only [Pt.U, Pt.locs, Pt.cells, Pt.slots] at X37 l37 y37 z37 st37 hQ37
      subst l37 y37 z37
      obtain ⟨rfl, Nq37, e37⟩ := hQ37
      have N37 := Fr.app N0 Nq37
      refine own_goT st37 ?_
      refine own_go (fun _ => XS.dstore X37.here hx rfl (hb hby d4_8) rfl (l' := #[.val (.ref fo), .val (.int mm), .val (.int (1 : Int32)), .val (.ref ma), .val (.ref aa), .val (.int mb), .val (.long sq), .second, .val (.double (13830554455654793216 : UInt64)), .second, .unset, .unset, .unset]) rfl) ?_
      refine own_go (fun _ => XS.iconst X37.here hx rfl (hb hby d4_10)) ?_
      show ∃ t o, Steps p.tables e below (T37.setTop (mkF m 11 #[.val (.ref fo), .val (.int mm), .val (.int (1 : Int32)), .val (.ref ma), .val (.ref aa), .val (.int mb), .val (.long sq), .second, .val (.double (13830554455654793216 : UInt64)), .second, .unset, .unset, .unset] [(.int (1 : Int32))])) t ∧ _
      refine own_go (fun _ => XS.iloadN X37.here hx rfl (hb hby d4_11) rfl) ?_
      refine own_go (fun _ => XS.ishl X37.here hx rfl (hb hby d4_12) rfl) ?_
      refine own_go (fun _ => XS.iconst X37.here hx rfl (hb hby d4_13)) ?_
      show ∃ t o, Steps p.tables e below (T37.setTop (mkF m 14 #[.val (.ref fo), .val (.int mm), .val (.int (1 : Int32)), .val (.ref ma), .val (.ref aa), .val (.int mb), .val (.long sq), .second, .val (.double (13830554455654793216 : UInt64)), .second, .unset, .unset, .unset] [(.int (1 : Int32)), (.int ((1 : Int32) <<< (mm &&& 31)))])) t ∧ _
      refine own_go (fun _ => XS.isub X37.here hx rfl (hb hby d4_14) rfl) ?_
      refine own_go (fun _ => XS.istore X37.here hx rfl (hb hby d4_15) rfl (l' := #[.val (.ref fo), .val (.int mm), .val (.int (1 : Int32)), .val (.ref ma), .val (.ref aa), .val (.int mb), .val (.long sq), .second, .val (.double (13830554455654793216 : UInt64)), .second, .val (.int (((1 : Int32) <<< (mm &&& 31)) - (1 : Int32))), .unset, .unset]) rfl) ?_
      refine own_go (fun _ => XS.lload X37.here hx rfl (hb hby d4_17) rfl) ?_
      show ∃ t o, Steps p.tables e below (T37.setTop (mkF m 19 #[.val (.ref fo), .val (.int mm), .val (.int (1 : Int32)), .val (.ref ma), .val (.ref aa), .val (.int mb), .val (.long sq), .second, .val (.double (13830554455654793216 : UInt64)), .second, .val (.int (((1 : Int32) <<< (mm &&& 31)) - (1 : Int32))), .unset, .unset] [(.long sq)])) t ∧ _
      refine own_go (fun _ => XS.lconst X37.here hx rfl (hb hby d4_19)) ?_
      refine own_go (fun _ => XS.lcmp X37.here hx rfl (hb hby d4_20) rfl) ?_
      show ∃ t o, Steps p.tables e below (T37.setTop (mkF m 21 #[.val (.ref fo), .val (.int mm), .val (.int (1 : Int32)), .val (.ref ma), .val (.ref aa), .val (.int mb), .val (.long sq), .second, .val (.double (13830554455654793216 : UInt64)), .second, .val (.int (((1 : Int32) <<< (mm &&& 31)) - (1 : Int32))), .unset, .unset] [(.int (lcmpW sq (1 : Int64)))])) t ∧ _
      by_cases hc38 : sq < (1 : Int64)
      · refine own_go (fun _ => XS.ifYes X37.here hx rfl (pc0 := 21) (pc' := 32) rfl (hb hby d4_21) rfl ((if0 _ _).trans (tlt ((lw_lt _ _).mpr hc38)).1) (by decide) (by decide)) ?_
        refine own_go (fun _ => XS.dload X37.here hx rfl (hb hby d4_32) rfl) ?_
        refine own_go (fun _ => XS.dconst0 X37.here hx rfl (hb hby d4_34) rfl) ?_
        show ∃ t o, Steps p.tables e below (T37.setTop (mkF m 35 #[.val (.ref fo), .val (.int mm), .val (.int (1 : Int32)), .val (.ref ma), .val (.ref aa), .val (.int mb), .val (.long sq), .second, .val (.double (13830554455654793216 : UInt64)), .second, .val (.int (((1 : Int32) <<< (mm &&& 31)) - (1 : Int32))), .unset, .unset] [(.double FP.dconst0), (.double (13830554455654793216 : UInt64))])) t ∧ _
        refine own_go (fun _ => XS.dcmpS X37.here hx rfl (hb hby d4_35) rfl (v := (-1 : Int32)) own_negd) ?_
        show ∃ t o, Steps p.tables e below (T37.setTop (mkF m 36 #[.val (.ref fo), .val (.int mm), .val (.int (1 : Int32)), .val (.ref ma), .val (.ref aa), .val (.int mb), .val (.long sq), .second, .val (.double (13830554455654793216 : UInt64)), .second, .val (.int (((1 : Int32) <<< (mm &&& 31)) - (1 : Int32))), .unset, .unset] [(.int (-1 : Int32))])) t ∧ _
        refine own_go (fun _ => XS.ifNo X37.here hx rfl (hb hby d4_36) rfl ((if0 _ _).trans (tlt (by decide : (-1 : Int32) < (0 : Int32))).2.1)) ?_
        refine own_go (fun _ => XS.iconst X37.here hx rfl (hb hby d4_39)) ?_
        refine own_go (fun _ => XS.goto X37.here hx rfl (pc0 := 40) (pc' := 44) rfl (hb hby d4_40) (by decide) (by decide)) ?_
        show ∃ t o, Steps p.tables e below (T37.setTop (mkF m 44 #[.val (.ref fo), .val (.int mm), .val (.int (1 : Int32)), .val (.ref ma), .val (.ref aa), .val (.int mb), .val (.long sq), .second, .val (.double (13830554455654793216 : UInt64)), .second, .val (.int (((1 : Int32) <<< (mm &&& 31)) - (1 : Int32))), .unset, .unset] [(.int (1 : Int32))])) t ∧ _
        obtain ⟨fs, hr, hrun, hended, hW, hsame⟩ := X37.leave (v := some (.int (1 : Int32))) (fun h => by rw [Bd.returns] at h; cases h)
        refine ⟨_, _, ?_, hrun, hended, _, _, rfl, ?_, ⟨_, rfl⟩, hW, hsame.mono (by decide) (by decide)⟩
        · exact retN X37 hx (t := .boolean) Bd.returns (by simp) (hb hby d4_44) hr
        · show Q_rmCheck1 Z _ _ _ _ _ _ _ _ _ _ _ _ _ _ _ _ _ _ _ h0 n0 _ T37.heap _
          rw [e37]
          exact ⟨(0 : Int32), (1 : Int32), (1 : Int64), M1, M2, rfl, N37, (Keep.refl h0 [fo, ia, ma]), P1, P2, P3, P4, P5, P6, P7, P9, P10, (Or.inl ⟨rfl, rfl, rfl, hi4⟩)⟩
      · refine own_go (fun _ => XS.ifNo X37.here hx rfl (hb hby d4_21) rfl ((if0 _ _).trans (flt (mt (lw_lt _ _).mp hc38)).1)) ?_
        refine own_go (fun _ => XS.lload X37.here hx rfl (hb hby d4_24) rfl) ?_
        refine own_go (fun _ => XS.iloadN X37.here hx rfl (hb hby d4_26) rfl) ?_
        show ∃ t o, Steps p.tables e below (T37.setTop (mkF m 27 #[.val (.ref fo), .val (.int mm), .val (.int (1 : Int32)), .val (.ref ma), .val (.ref aa), .val (.int mb), .val (.long sq), .second, .val (.double (13830554455654793216 : UInt64)), .second, .val (.int (((1 : Int32) <<< (mm &&& 31)) - (1 : Int32))), .unset, .unset] [(.int (1 : Int32)), (.long sq)])) t ∧ _
        refine own_go (fun _ => XS.i2l X37.here hx rfl (hb hby d4_27) rfl) ?_
        refine own_go (fun _ => XS.lcmp X37.here hx rfl (hb hby d4_28) rfl) ?_
        show ∃ t o, Steps p.tables e below (T37.setTop (mkF m 29 #[.val (.ref fo), .val (.int mm), .val (.int (1 : Int32)), .val (.ref ma), .val (.ref aa), .val (.int mb), .val (.long sq), .second, .val (.double (13830554455654793216 : UInt64)), .second, .val (.int (((1 : Int32) <<< (mm &&& 31)) - (1 : Int32))), .unset, .unset] [(.int (lcmpW sq (1 : Int64)))])) t ∧ _
        have hd39 : (1 : Int64) < sq := own_lt1 _ 1 rfl hq hc38
        refine own_go (fun _ => XS.ifNo X37.here hx rfl (hb hby d4_29) rfl ((if0 _ _).trans (tlt ((lw_gt _ _).mpr hd39)).2.2.2)) ?_
        refine own_go (fun _ => XS.dload X37.here hx rfl (hb hby d4_32) rfl) ?_
        refine own_go (fun _ => XS.dconst0 X37.here hx rfl (hb hby d4_34) rfl) ?_
        show ∃ t o, Steps p.tables e below (T37.setTop (mkF m 35 #[.val (.ref fo), .val (.int mm), .val (.int (1 : Int32)), .val (.ref ma), .val (.ref aa), .val (.int mb), .val (.long sq), .second, .val (.double (13830554455654793216 : UInt64)), .second, .val (.int (((1 : Int32) <<< (mm &&& 31)) - (1 : Int32))), .unset, .unset] [(.double FP.dconst0), (.double (13830554455654793216 : UInt64))])) t ∧ _
        refine own_go (fun _ => XS.dcmpS X37.here hx rfl (hb hby d4_35) rfl (v := (-1 : Int32)) own_negd) ?_
        show ∃ t o, Steps p.tables e below (T37.setTop (mkF m 36 #[.val (.ref fo), .val (.int mm), .val (.int (1 : Int32)), .val (.ref ma), .val (.ref aa), .val (.int mb), .val (.long sq), .second, .val (.double (13830554455654793216 : UInt64)), .second, .val (.int (((1 : Int32) <<< (mm &&& 31)) - (1 : Int32))), .unset, .unset] [(.int (-1 : Int32))])) t ∧ _
        refine own_go (fun _ => XS.ifNo X37.here hx rfl (hb hby d4_36) rfl ((if0 _ _).trans (tlt (by decide : (-1 : Int32) < (0 : Int32))).2.1)) ?_
        refine own_go (fun _ => XS.iconst X37.here hx rfl (hb hby d4_39)) ?_
        refine own_go (fun _ => XS.goto X37.here hx rfl (pc0 := 40) (pc' := 44) rfl (hb hby d4_40) (by decide) (by decide)) ?_
        show ∃ t o, Steps p.tables e below (T37.setTop (mkF m 44 #[.val (.ref fo), .val (.int mm), .val (.int (1 : Int32)), .val (.ref ma), .val (.ref aa), .val (.int mb), .val (.long sq), .second, .val (.double (13830554455654793216 : UInt64)), .second, .val (.int (((1 : Int32) <<< (mm &&& 31)) - (1 : Int32))), .unset, .unset] [(.int (1 : Int32))])) t ∧ _
        obtain ⟨fs, hr, hrun, hended, hW, hsame⟩ := X37.leave (v := some (.int (1 : Int32))) (fun h => by rw [Bd.returns] at h; cases h)
        refine ⟨_, _, ?_, hrun, hended, _, _, rfl, ?_, ⟨_, rfl⟩, hW, hsame.mono (by decide) (by decide)⟩
        · exact retN X37 hx (t := .boolean) Bd.returns (by simp) (hb hby d4_44) hr
        · show Q_rmCheck1 Z _ _ _ _ _ _ _ _ _ _ _ _ _ _ _ _ _ _ _ h0 n0 _ T37.heap _
          rw [e37]
          exact ⟨(0 : Int32), (1 : Int32), (1 : Int64), M1, M2, rfl, N37, (Keep.refl h0 [fo, ia, ma]), P1, P2, P3, P4, P5, P6, P7, P9, P10, (Or.inl ⟨rfl, rfl, rfl, hi4⟩)⟩
  · have hi2' : sz = (0 : Int32) := hi2
    subst hi1 hi2' hi3
    subst hi4
    show ∃ t o, Steps p.tables e below (s₁.setTop (mkF m 0 #[.val (.ref fo), .val (.int mm), .val (.int (1 : Int32)), .val (.ref ma), .val (.ref aa), .val (.int mb), .val (.long sq), .second, .unset, .unset, .unset, .unset, .unset] [])) t ∧ _
    rcases own_seq1 sq with hq | ⟨hqn, hq⟩
    · subst hq
      show ∃ t o, Steps p.tables e below (s₁.setTop (mkF m 0 #[.val (.ref fo), .val (.int mm), .val (.int (1 : Int32)), .val (.ref ma), .val (.ref aa), .val (.int mb), .val (.long (1 : Int64)), .second, .unset, .unset, .unset, .unset, .unset] [])) t ∧ _
      refine own_go (fun _ => XS.aloadN X0.here hx rfl (hb hby d4_0) rfl rfl) ?_
      refine own_go (fun _ => XS.iload X0.here hx rfl (hb hby d4_1) rfl) ?_
      refine own_go (fun _ => XS.lload X0.here hx rfl (hb hby d4_3) rfl) ?_
      show ∃ t o, Steps p.tables e below (s₁.setTop (mkF m 5 #[.val (.ref fo), .val (.int mm), .val (.int (1 : Int32)), .val (.ref ma), .val (.ref aa), .val (.int mb), .val (.long (1 : Int64)), .second, .unset, .unset, .unset, .unset, .unset] [(.long (1 : Int64)), (.int mb), (.ref fo)])) t ∧ _
      obtain ⟨cq40, kq40, q40a, q40b, q40c⟩ := isOf hZ e0 P1
      obtain ⟨_, _, ⟨T40, L40, k40, n40⟩, -, X40, ⟨Lc40, hQ40, l40, y40, z40⟩, st40⟩ := X0.virtualBack hx (y := (⟨"com/example/holdback/holdback/sim/InFlight", "delivered", "(IJ)D"⟩ : MethodName)) (z := (⟨"com/example/holdback/holdback/sim/InFlight", "delivered", "(IJ)D"⟩ : MethodName)) hown (mvT hZ (hw _ (List.mem_of_getElem? (i := 34) rfl))) (mvT hZ (hw _ (List.mem_of_getElem? (i := 35) rfl))) (notFace_of_selects (args := #[]) (mvT hZ (hw _ (List.mem_of_getElem? (i := 37) rfl)))) (mvT hZ (hw _ (List.mem_of_getElem? (i := 37) rfl))) (mvT hZ (hw _ (List.mem_of_getElem? (i := 36) rfl))) (by decide) (backOf (W := 0) (rmOut l Z a0 hw [] fo (0 : Int32) (2 : Int64) mb (1 : Int64) h0 n0 Z0 P4 P6 OLD (Or.inl (by decide) : ((1 : Int64) - (2 : Int64)) < (0 : Int64) ∨ ¬ (((1 : Int64) - (2 : Int64)) < (0 : Int32).toInt64))) hZ (hw _ (List.mem_of_getElem? (i := 38) rfl)) (hw _ (List.mem_of_getElem? (i := 6) rfl)) (by decide) (by decide)) q40a q40c (g := (mkF m 5 #[.val (.ref fo), .val (.int mm), .val (.int (1 : Int32)), .val (.ref ma), .val (.ref aa), .val (.int mb), .val (.long (1 : Int64)), .second, .unset, .unset, .unset, .unset, .unset] [(.long (1 : Int64)), (.int mb), (.ref fo)])) rfl (by rw [hml]; rfl) (Steps.refl _) (argsL := [(.int mb), (.long (1 : Int64))]) (rest := []) (lenOf pd__28IJ_29D rfl) rfl (by show 2 * 0 + _ ≤ _; exact Nat.le_of_eq rfl) (hb hby d4_5) (fun _ _ => ⟨rfl, e0, (by decide : 0 + 0 ≤ _), (by decide : 0 + 0 ≤ _)⟩)
      dsimp only [Pt.U, Pt.locs, Pt.cells, Pt.slots] at X40 l40 y40 z40 st40 hQ40
      subst l40 y40 z40
      obtain ⟨rfl, Nq40, e40⟩ := hQ40
      have N40 := Fr.app N0 Nq40
      refine own_goT st40 ?_
      refine own_go (fun _ => XS.dstore X40.here hx rfl (hb hby d4_8) rfl (l' := #[.val (.ref fo), .val (.int mm), .val (.int (1 : Int32)), .val (.ref ma), .val (.ref aa), .val (.int mb), .val (.long (1 : Int64)), .second, .val (.double (13830554455654793216 : UInt64)), .second, .unset, .unset, .unset]) rfl) ?_
      refine own_go (fun _ => XS.iconst X40.here hx rfl (hb hby d4_10)) ?_
      show ∃ t o, Steps p.tables e below (T40.setTop (mkF m 11 #[.val (.ref fo), .val (.int mm), .val (.int (1 : Int32)), .val (.ref ma), .val (.ref aa), .val (.int mb), .val (.long (1 : Int64)), .second, .val (.double (13830554455654793216 : UInt64)), .second, .unset, .unset, .unset] [(.int (1 : Int32))])) t ∧ _
      refine own_go (fun _ => XS.iloadN X40.here hx rfl (hb hby d4_11) rfl) ?_
      refine own_go (fun _ => XS.ishl X40.here hx rfl (hb hby d4_12) rfl) ?_
      refine own_go (fun _ => XS.iconst X40.here hx rfl (hb hby d4_13)) ?_
      show ∃ t o, Steps p.tables e below (T40.setTop (mkF m 14 #[.val (.ref fo), .val (.int mm), .val (.int (1 : Int32)), .val (.ref ma), .val (.ref aa), .val (.int mb), .val (.long (1 : Int64)), .second, .val (.double (13830554455654793216 : UInt64)), .second, .unset, .unset, .unset] [(.int (1 : Int32)), (.int ((1 : Int32) <<< (mm &&& 31)))])) t ∧ _
      refine own_go (fun _ => XS.isub X40.here hx rfl (hb hby d4_14) rfl) ?_
      refine own_go (fun _ => XS.istore X40.here hx rfl (hb hby d4_15) rfl (l' := #[.val (.ref fo), .val (.int mm), .val (.int (1 : Int32)), .val (.ref ma), .val (.ref aa), .val (.int mb), .val (.long (1 : Int64)), .second, .val (.double (13830554455654793216 : UInt64)), .second, .val (.int (((1 : Int32) <<< (mm &&& 31)) - (1 : Int32))), .unset, .unset]) rfl) ?_
      refine own_go (fun _ => XS.lload X40.here hx rfl (hb hby d4_17) rfl) ?_
      show ∃ t o, Steps p.tables e below (T40.setTop (mkF m 19 #[.val (.ref fo), .val (.int mm), .val (.int (1 : Int32)), .val (.ref ma), .val (.ref aa), .val (.int mb), .val (.long (1 : Int64)), .second, .val (.double (13830554455654793216 : UInt64)), .second, .val (.int (((1 : Int32) <<< (mm &&& 31)) - (1 : Int32))), .unset, .unset] [(.long (1 : Int64))])) t ∧ _
      refine own_go (fun _ => XS.lconst X40.here hx rfl (hb hby d4_19)) ?_
      refine own_go (fun _ => XS.lcmp X40.here hx rfl (hb hby d4_20) rfl) ?_
      show ∃ t o, Steps p.tables e below (T40.setTop (mkF m 21 #[.val (.ref fo), .val (.int mm), .val (.int (1 : Int32)), .val (.ref ma), .val (.ref aa), .val (.int mb), .val (.long (1 : Int64)), .second, .val (.double (13830554455654793216 : UInt64)), .second, .val (.int (((1 : Int32) <<< (mm &&& 31)) - (1 : Int32))), .unset, .unset] [(.int (lcmpW (1 : Int64) (1 : Int64)))])) t ∧ _
      refine own_go (fun _ => XS.ifNo X40.here hx rfl (hb hby d4_21) rfl ((if0 _ _).trans (flt (mt (lw_lt _ _).mp (by decide : ¬ ((1 : Int64) < (1 : Int64))))).1)) ?_
      refine own_go (fun _ => XS.lload X40.here hx rfl (hb hby d4_24) rfl) ?_
      refine own_go (fun _ => XS.iloadN X40.here hx rfl (hb hby d4_26) rfl) ?_
      show ∃ t o, Steps p.tables e below (T40.setTop (mkF m 27 #[.val (.ref fo), .val (.int mm), .val (.int (1 : Int32)), .val (.ref ma), .val (.ref aa), .val (.int mb), .val (.long (1 : Int64)), .second, .val (.double (13830554455654793216 : UInt64)), .second, .val (.int (((1 : Int32) <<< (mm &&& 31)) - (1 : Int32))), .unset, .unset] [(.int (1 : Int32)), (.long (1 : Int64))])) t ∧ _
      refine own_go (fun _ => XS.i2l X40.here hx rfl (hb hby d4_27) rfl) ?_
      refine own_go (fun _ => XS.lcmp X40.here hx rfl (hb hby d4_28) rfl) ?_
      show ∃ t o, Steps p.tables e below (T40.setTop (mkF m 29 #[.val (.ref fo), .val (.int mm), .val (.int (1 : Int32)), .val (.ref ma), .val (.ref aa), .val (.int mb), .val (.long (1 : Int64)), .second, .val (.double (13830554455654793216 : UInt64)), .second, .val (.int (((1 : Int32) <<< (mm &&& 31)) - (1 : Int32))), .unset, .unset] [(.int (lcmpW (1 : Int64) (1 : Int64)))])) t ∧ _
      refine own_go (fun _ => XS.ifYes X40.here hx rfl (pc0 := 29) (pc' := 45) rfl (hb hby d4_29) rfl ((if0 _ _).trans (flt (mt (lw_gt _ _).mp (by decide : ¬ ((1 : Int64) < (1 : Int64))))).2.2.2) (by decide) (by decide)) ?_
      refine own_go (fun _ => XS.lload X40.here hx rfl (hb hby d4_45) rfl) ?_
      refine own_go (fun _ => XS.l2i X40.here hx rfl (hb hby d4_47) rfl) ?_
      show ∃ t o, Steps p.tables e below (T40.setTop (mkF m 48 #[.val (.ref fo), .val (.int mm), .val (.int (1 : Int32)), .val (.ref ma), .val (.ref aa), .val (.int mb), .val (.long (1 : Int64)), .second, .val (.double (13830554455654793216 : UInt64)), .second, .val (.int (((1 : Int32) <<< (mm &&& 31)) - (1 : Int32))), .unset, .unset] [(.int (1 : Int32))])) t ∧ _
      refine own_go (fun _ => XS.istore X40.here hx rfl (hb hby d4_48) rfl (l' := #[.val (.ref fo), .val (.int mm), .val (.int (1 : Int32)), .val (.ref ma), .val (.ref aa), .val (.int mb), .val (.long (1 : Int64)), .second, .val (.double (13830554455654793216 : UInt64)), .second, .val (.int (((1 : Int32) <<< (mm &&& 31)) - (1 : Int32))), .val (.int (1 : Int32)), .unset]) rfl) ?_
      refine own_go (fun _ => XS.aloadN X40.here hx rfl (hb hby d4_50) rfl rfl) ?_
      refine own_go (fun _ => XS.iload X40.here hx rfl (hb hby d4_51) rfl) ?_
      show ∃ t o, Steps p.tables e below (T40.setTop (mkF m 53 #[.val (.ref fo), .val (.int mm), .val (.int (1 : Int32)), .val (.ref ma), .val (.ref aa), .val (.int mb), .val (.long (1 : Int64)), .second, .val (.double (13830554455654793216 : UInt64)), .second, .val (.int (((1 : Int32) <<< (mm &&& 31)) - (1 : Int32))), .val (.int (1 : Int32)), .unset] [(.int (1 : Int32)), (.ref ma)])) t ∧ _
      obtain ⟨cl41, Ar41, q41, S41, N41, H41, G41⟩ := id P10
      have hin41 : ¬ ((1 : Int32) < 0 ∨ cl41.slots.size ≤ ((1 : Int32)).toNatClampNeg) := inb_of S41 ⟨by decide, by decide⟩
      have hat41 : cl41.slots[((1 : Int32)).toNatClampNeg]? = some (.int (((1 : Int32) <<< (mm &&& 31)) - (1 : Int32))) := Has.at H41 hin41 rfl
      refine own_go (fun _ => X40.iaload hx (j := (1 : Int32)) (v := (.int (((1 : Int32) <<< (mm &&& 31)) - (1 : Int32)))) (by rw [e40]; exact Ar41.1) (State.isArrayOf_alike hZ.alike Ar41.2.1) Ar41.2.2 hin41 hat41 (g := (mkF m 53 #[.val (.ref fo), .val (.int mm), .val (.int (1 : Int32)), .val (.ref ma), .val (.ref aa), .val (.int mb), .val (.long (1 : Int64)), .second, .val (.double (13830554455654793216 : UInt64)), .second, .val (.int (((1 : Int32) <<< (mm &&& 31)) - (1 : Int32))), .val (.int (1 : Int32)), .unset] [(.int (1 : Int32)), (.ref ma)])) rfl rfl (hb hby d4_53) _) ?_
      refine own_go (fun _ => XS.istore X40.here hx rfl (hb hby d4_54) rfl (l' := #[.val (.ref fo), .val (.int mm), .val (.int (1 : Int32)), .val (.ref ma), .val (.ref aa), .val (.int mb), .val (.long (1 : Int64)), .second, .val (.double (13830554455654793216 : UInt64)), .second, .val (.int (((1 : Int32) <<< (mm &&& 31)) - (1 : Int32))), .val (.int (1 : Int32)), .val (.int (((1 : Int32) <<< (mm &&& 31)) - (1 : Int32)))]) rfl) ?_
      refine own_go (fun _ => XS.aloadN X40.here hx rfl (hb hby d4_56) rfl rfl) ?_
      show ∃ t o, Steps p.tables e below (T40.setTop (mkF m 57 #[.val (.ref fo), .val (.int mm), .val (.int (1 : Int32)), .val (.ref ma), .val (.ref aa), .val (.int mb), .val (.long (1 : Int64)), .second, .val (.double (13830554455654793216 : UInt64)), .second, .val (.int (((1 : Int32) <<< (mm &&& 31)) - (1 : Int32))), .val (.int (1 : Int32)), .val (.int (((1 : Int32) <<< (mm &&& 31)) - (1 : Int32)))] [(.ref ma)])) t ∧ _
      refine own_go (fun _ => XS.iload X40.here hx rfl (hb hby d4_57) rfl) ?_
      refine own_go (fun _ => XS.iload X40.here hx rfl (hb hby d4_59) rfl) ?_
      refine own_go (fun _ => XS.iconst X40.here hx rfl (hb hby d4_61)) ?_
      show ∃ t o, Steps p.tables e below (T40.setTop (mkF m 62 #[.val (.ref fo), .val (.int mm), .val (.int (1 : Int32)), .val (.ref ma), .val (.ref aa), .val (.int mb), .val (.long (1 : Int64)), .second, .val (.double (13830554455654793216 : UInt64)), .second, .val (.int (((1 : Int32) <<< (mm &&& 31)) - (1 : Int32))), .val (.int (1 : Int32)), .val (.int (((1 : Int32) <<< (mm &&& 31)) - (1 : Int32)))] [(.int (1 : Int32)), (.int (((1 : Int32) <<< (mm &&& 31)) - (1 : Int32))), (.int (1 : Int32)), (.ref ma)])) t ∧ _
      refine own_go (fun _ => XS.iload X40.here hx rfl (hb hby d4_62) rfl) ?_
      refine own_go (fun _ => XS.ishl X40.here hx rfl (hb hby d4_64) rfl) ?_
      refine own_go (fun _ => XS.ior X40.here hx rfl (hb hby d4_65) rfl) ?_
      show ∃ t o, Steps p.tables e below (T40.setTop (mkF m 66 #[.val (.ref fo), .val (.int mm), .val (.int (1 : Int32)), .val (.ref ma), .val (.ref aa), .val (.int mb), .val (.long (1 : Int64)), .second, .val (.double (13830554455654793216 : UInt64)), .second, .val (.int (((1 : Int32) <<< (mm &&& 31)) - (1 : Int32))), .val (.int (1 : Int32)), .val (.int (((1 : Int32) <<< (mm &&& 31)) - (1 : Int32)))] [(.int ((((1 : Int32) <<< (mm &&& 31)) - (1 : Int32)) ||| ((1 : Int32) <<< (mb &&& 31)))), (.int (1 : Int32)), (.ref ma)])) t ∧ _
      obtain ⟨cl42, Ar42, q42, S42, N42, H42, G42⟩ := id P10
      have hin42 : ¬ ((1 : Int32) < 0 ∨ cl42.slots.size ≤ ((1 : Int32)).toNatClampNeg) := inb_of S42 ⟨by decide, by decide⟩
      obtain ⟨T43, h43, X43, e43, W43, st43⟩ := stI X40 hx hZ e40 Ar42 (j := (1 : Int32)) hin42 (g := (mkF m 66 #[.val (.ref fo), .val (.int mm), .val (.int (1 : Int32)), .val (.ref ma), .val (.ref aa), .val (.int mb), .val (.long (1 : Int64)), .second, .val (.double (13830554455654793216 : UInt64)), .second, .val (.int (((1 : Int32) <<< (mm &&& 31)) - (1 : Int32))), .val (.int (1 : Int32)), .val (.int (((1 : Int32) <<< (mm &&& 31)) - (1 : Int32)))] [(.int ((((1 : Int32) <<< (mm &&& 31)) - (1 : Int32)) ||| ((1 : Int32) <<< (mb &&& 31)))), (.int (1 : Int32)), (.ref ma)])) rfl rfl (hb hby d4_66)
      refine own_go st43 ?_
      have le_43 : h0.size ≤ h43.size := Nat.le_of_eq W43.size.symm
      have K43 : Keep h0 h43 [fo, ia, ma] := Keep.wr (Keep.refl h0 [fo, ia, ma]) W43 (Or.inl (List.mem_of_getElem? (i := 2) rfl))
      have N43 := Fr.snoc X43 N40 gm
      have V43 : Arv Z h43 ma km .int (3 : Int32) [(.int (0 : Int32)), (.int ((((1 : Int32) <<< (mm &&& 31)) - (1 : Int32)) ||| ((1 : Int32) <<< (mb &&& 31)))), (.int M2)] (.int (0 : Int32)) := Arv.set Ar42 q42 S42 N42 H42 G42 rfl W43 1 rfl (Nat.le_of_ble_eq_true rfl)
      have F44 : Arv Z h43 ma km .int (3 : Int32) [(.int (0 : Int32)), (.int (((1 : Int32) <<< (mm &&& 31)) - (1 : Int32))), (.int M2)] (.int (0 : Int32)) := by have q := V43; rw [hbit] at q; exact q
      refine own_go (fun _ => XS.iload X43.here hx rfl (hb hby d4_67) rfl) ?_
      refine own_go (fun _ => XS.iload X43.here hx rfl (hb hby d4_69) rfl) ?_
      show ∃ t o, Steps p.tables e below (T43.setTop (mkF m 71 #[.val (.ref fo), .val (.int mm), .val (.int (1 : Int32)), .val (.ref ma), .val (.ref aa), .val (.int mb), .val (.long (1 : Int64)), .second, .val (.double (13830554455654793216 : UInt64)), .second, .val (.int (((1 : Int32) <<< (mm &&& 31)) - (1 : Int32))), .val (.int (1 : Int32)), .val (.int (((1 : Int32) <<< (mm &&& 31)) - (1 : Int32)))] [(.int (((1 : Int32) <<< (mm &&& 31)) - (1 : Int32))), (.int (((1 : Int32) <<< (mm &&& 31)) - (1 : Int32)))])) t ∧ _
      by_cases hc45 : (((1 : Int32) <<< (mm &&& 31)) - (1 : Int32)) = (((1 : Int32) <<< (mm &&& 31)) - (1 : Int32))
      · refine own_go (fun _ => XS.icmpYes X43.here hx rfl (pc0 := 71) (pc' := 100) rfl (hb hby d4_71) rfl (teq hc45).1 (by decide) (by decide)) ?_
        refine own_go (fun _ => XS.dload X43.here hx rfl (hb hby d4_100) rfl) ?_
        refine own_go (fun _ => XS.dconst0 X43.here hx rfl (hb hby d4_102) rfl) ?_
        show ∃ t o, Steps p.tables e below (T43.setTop (mkF m 103 #[.val (.ref fo), .val (.int mm), .val (.int (1 : Int32)), .val (.ref ma), .val (.ref aa), .val (.int mb), .val (.long (1 : Int64)), .second, .val (.double (13830554455654793216 : UInt64)), .second, .val (.int (((1 : Int32) <<< (mm &&& 31)) - (1 : Int32))), .val (.int (1 : Int32)), .val (.int (((1 : Int32) <<< (mm &&& 31)) - (1 : Int32)))] [(.double FP.dconst0), (.double (13830554455654793216 : UInt64))])) t ∧ _
        refine own_go (fun _ => XS.dcmpS X43.here hx rfl (hb hby d4_103) rfl (v := (-1 : Int32)) own_negd) ?_
        show ∃ t o, Steps p.tables e below (T43.setTop (mkF m 104 #[.val (.ref fo), .val (.int mm), .val (.int (1 : Int32)), .val (.ref ma), .val (.ref aa), .val (.int mb), .val (.long (1 : Int64)), .second, .val (.double (13830554455654793216 : UInt64)), .second, .val (.int (((1 : Int32) <<< (mm &&& 31)) - (1 : Int32))), .val (.int (1 : Int32)), .val (.int (((1 : Int32) <<< (mm &&& 31)) - (1 : Int32)))] [(.int (-1 : Int32))])) t ∧ _
        refine own_go (fun _ => XS.ifNo X43.here hx rfl (hb hby d4_104) rfl ((if0 _ _).trans (tlt (by decide : (-1 : Int32) < (0 : Int32))).2.1)) ?_
        refine own_go (fun _ => XS.iconst X43.here hx rfl (hb hby d4_107)) ?_
        refine own_go (fun _ => XS.goto X43.here hx rfl (pc0 := 108) (pc' := 112) rfl (hb hby d4_108) (by decide) (by decide)) ?_
        show ∃ t o, Steps p.tables e below (T43.setTop (mkF m 112 #[.val (.ref fo), .val (.int mm), .val (.int (1 : Int32)), .val (.ref ma), .val (.ref aa), .val (.int mb), .val (.long (1 : Int64)), .second, .val (.double (13830554455654793216 : UInt64)), .second, .val (.int (((1 : Int32) <<< (mm &&& 31)) - (1 : Int32))), .val (.int (1 : Int32)), .val (.int (((1 : Int32) <<< (mm &&& 31)) - (1 : Int32)))] [(.int (1 : Int32))])) t ∧ _
        have F46 : Exa Z h43 fo "com/example/holdback/holdback/sim/InFlight" := (Exa.wr W43 P1)
        have F47 : Fld Z h43 fo "com/example/holdback/holdback/sim/InFlight" "multicastAt" "[D" (.ref da) := (Fld.other W43 P2 (Or.inl nfm_))
        have F48 : Fld Z h43 fo "com/example/holdback/holdback/sim/InFlight" "deliveredBy" "[I" (.ref ia) := (Fld.other W43 P3 (Or.inl nfm_))
        have F49 : Fld Z h43 fo "com/example/holdback/holdback/sim/InFlight" "firstSeq" "J" (.long (2 : Int64)) := (Fld.other W43 P4 (Or.inl nfm_))
        have F50 : Fld Z h43 fo "com/example/holdback/holdback/sim/InFlight" "everyone" "I" (.int (((1 : Int32) <<< (mm &&& 31)) - (1 : Int32))) := (Fld.other W43 P5 (Or.inl nfm_))
        have F51 : Fld Z h43 fo "com/example/holdback/holdback/sim/InFlight" "size" "I" (.int (0 : Int32)) := (Fld.other W43 P6 (Or.inl nfm_))
        have F52 : Fld Z h43 fo "com/example/holdback/holdback/sim/InFlight" "first" "I" (.int (1 : Int32)) := (Fld.other W43 P7 (Or.inl nfm_))
        have F53 : Arv Z h43 ia ki .int (16 : Int32) [(.int (((1 : Int32) <<< (mm &&& 31)) - (1 : Int32))), (.int M2)] (.int (0 : Int32)) := (Arv.other P9 W43 nim_)
        obtain ⟨fs, hr, hrun, hended, hW, hsame⟩ := X43.leave (v := some (.int (1 : Int32))) (fun h => by rw [Bd.returns] at h; cases h)
        refine ⟨_, _, ?_, hrun, hended, _, _, rfl, ?_, ⟨_, rfl⟩, hW, hsame.mono (by decide) (by decide)⟩
        · exact retN X43 hx (t := .boolean) Bd.returns (by simp) (hb hby d4_112) hr
        · show Q_rmCheck1 Z _ _ _ _ _ _ _ _ _ _ _ _ _ _ _ _ _ _ _ h0 n0 _ T43.heap _
          rw [e43]
          exact ⟨(1 : Int32), (0 : Int32), (2 : Int64), (((1 : Int32) <<< (mm &&& 31)) - (1 : Int32)), M2, rfl, N43, K43, F46, F47, F48, F49, F50, F51, F52, F53, F44, (Or.inr (Or.inl ⟨rfl, rfl, rfl, rfl, Or.inl rfl⟩))⟩
      · refine own_go (fun _ => XS.icmpNo X43.here hx rfl (hb hby d4_71) rfl (feq hc45).1) ?_
        refine own_go (fun _ => XS.aloadN X43.here hx rfl (hb hby d4_74) rfl rfl) ?_
        refine own_go (fun _ => XS.iload X43.here hx rfl (hb hby d4_75) rfl) ?_
        show ∃ t o, Steps p.tables e below (T43.setTop (mkF m 77 #[.val (.ref fo), .val (.int mm), .val (.int (1 : Int32)), .val (.ref ma), .val (.ref aa), .val (.int mb), .val (.long (1 : Int64)), .second, .val (.double (13830554455654793216 : UInt64)), .second, .val (.int (((1 : Int32) <<< (mm &&& 31)) - (1 : Int32))), .val (.int (1 : Int32)), .val (.int (((1 : Int32) <<< (mm &&& 31)) - (1 : Int32)))] [(.int (1 : Int32)), (.ref ma)])) t ∧ _
        obtain ⟨cl54, Ar54, q54, S54, N54, H54, G54⟩ := id F44
        have hin54 : ¬ ((1 : Int32) < 0 ∨ cl54.slots.size ≤ ((1 : Int32)).toNatClampNeg) := inb_of S54 ⟨by decide, by decide⟩
        have hat54 : cl54.slots[((1 : Int32)).toNatClampNeg]? = some (.int (((1 : Int32) <<< (mm &&& 31)) - (1 : Int32))) := Has.at H54 hin54 rfl
        refine own_go (fun _ => X43.iaload hx (j := (1 : Int32)) (v := (.int (((1 : Int32) <<< (mm &&& 31)) - (1 : Int32)))) (by rw [e43]; exact Ar54.1) (State.isArrayOf_alike hZ.alike Ar54.2.1) Ar54.2.2 hin54 hat54 (g := (mkF m 77 #[.val (.ref fo), .val (.int mm), .val (.int (1 : Int32)), .val (.ref ma), .val (.ref aa), .val (.int mb), .val (.long (1 : Int64)), .second, .val (.double (13830554455654793216 : UInt64)), .second, .val (.int (((1 : Int32) <<< (mm &&& 31)) - (1 : Int32))), .val (.int (1 : Int32)), .val (.int (((1 : Int32) <<< (mm &&& 31)) - (1 : Int32)))] [(.int (1 : Int32)), (.ref ma)])) rfl rfl (hb hby d4_77) _) ?_
        refine own_go (fun _ => XS.iload X43.here hx rfl (hb hby d4_78) rfl) ?_
        show ∃ t o, Steps p.tables e below (T43.setTop (mkF m 80 #[.val (.ref fo), .val (.int mm), .val (.int (1 : Int32)), .val (.ref ma), .val (.ref aa), .val (.int mb), .val (.long (1 : Int64)), .second, .val (.double (13830554455654793216 : UInt64)), .second, .val (.int (((1 : Int32) <<< (mm &&& 31)) - (1 : Int32))), .val (.int (1 : Int32)), .val (.int (((1 : Int32) <<< (mm &&& 31)) - (1 : Int32)))] [(.int (((1 : Int32) <<< (mm &&& 31)) - (1 : Int32))), (.int (((1 : Int32) <<< (mm &&& 31)) - (1 : Int32)))])) t ∧ _
        refine own_go (fun _ => XS.icmpYes X43.here hx rfl (pc0 := 80) (pc' := 100) rfl (hb hby d4_80) rfl (feq hc45).2 (by decide) (by decide)) ?_
        refine own_go (fun _ => XS.dload X43.here hx rfl (hb hby d4_100) rfl) ?_
        refine own_go (fun _ => XS.dconst0 X43.here hx rfl (hb hby d4_102) rfl) ?_
        show ∃ t o, Steps p.tables e below (T43.setTop (mkF m 103 #[.val (.ref fo), .val (.int mm), .val (.int (1 : Int32)), .val (.ref ma), .val (.ref aa), .val (.int mb), .val (.long (1 : Int64)), .second, .val (.double (13830554455654793216 : UInt64)), .second, .val (.int (((1 : Int32) <<< (mm &&& 31)) - (1 : Int32))), .val (.int (1 : Int32)), .val (.int (((1 : Int32) <<< (mm &&& 31)) - (1 : Int32)))] [(.double FP.dconst0), (.double (13830554455654793216 : UInt64))])) t ∧ _
        refine own_go (fun _ => XS.dcmpS X43.here hx rfl (hb hby d4_103) rfl (v := (-1 : Int32)) own_negd) ?_
        show ∃ t o, Steps p.tables e below (T43.setTop (mkF m 104 #[.val (.ref fo), .val (.int mm), .val (.int (1 : Int32)), .val (.ref ma), .val (.ref aa), .val (.int mb), .val (.long (1 : Int64)), .second, .val (.double (13830554455654793216 : UInt64)), .second, .val (.int (((1 : Int32) <<< (mm &&& 31)) - (1 : Int32))), .val (.int (1 : Int32)), .val (.int (((1 : Int32) <<< (mm &&& 31)) - (1 : Int32)))] [(.int (-1 : Int32))])) t ∧ _
        refine own_go (fun _ => XS.ifNo X43.here hx rfl (hb hby d4_104) rfl ((if0 _ _).trans (tlt (by decide : (-1 : Int32) < (0 : Int32))).2.1)) ?_
        refine own_go (fun _ => XS.iconst X43.here hx rfl (hb hby d4_107)) ?_
        refine own_go (fun _ => XS.goto X43.here hx rfl (pc0 := 108) (pc' := 112) rfl (hb hby d4_108) (by decide) (by decide)) ?_
        show ∃ t o, Steps p.tables e below (T43.setTop (mkF m 112 #[.val (.ref fo), .val (.int mm), .val (.int (1 : Int32)), .val (.ref ma), .val (.ref aa), .val (.int mb), .val (.long (1 : Int64)), .second, .val (.double (13830554455654793216 : UInt64)), .second, .val (.int (((1 : Int32) <<< (mm &&& 31)) - (1 : Int32))), .val (.int (1 : Int32)), .val (.int (((1 : Int32) <<< (mm &&& 31)) - (1 : Int32)))] [(.int (1 : Int32))])) t ∧ _
        have F55 : Exa Z h43 fo "com/example/holdback/holdback/sim/InFlight" := (Exa.wr W43 P1)
        have F56 : Fld Z h43 fo "com/example/holdback/holdback/sim/InFlight" "multicastAt" "[D" (.ref da) := (Fld.other W43 P2 (Or.inl nfm_))
        have F57 : Fld Z h43 fo "com/example/holdback/holdback/sim/InFlight" "deliveredBy" "[I" (.ref ia) := (Fld.other W43 P3 (Or.inl nfm_))
        have F58 : Fld Z h43 fo "com/example/holdback/holdback/sim/InFlight" "firstSeq" "J" (.long (2 : Int64)) := (Fld.other W43 P4 (Or.inl nfm_))
        have F59 : Fld Z h43 fo "com/example/holdback/holdback/sim/InFlight" "everyone" "I" (.int (((1 : Int32) <<< (mm &&& 31)) - (1 : Int32))) := (Fld.other W43 P5 (Or.inl nfm_))
        have F60 : Fld Z h43 fo "com/example/holdback/holdback/sim/InFlight" "size" "I" (.int (0 : Int32)) := (Fld.other W43 P6 (Or.inl nfm_))
        have F61 : Fld Z h43 fo "com/example/holdback/holdback/sim/InFlight" "first" "I" (.int (1 : Int32)) := (Fld.other W43 P7 (Or.inl nfm_))
        have F62 : Arv Z h43 ia ki .int (16 : Int32) [(.int (((1 : Int32) <<< (mm &&& 31)) - (1 : Int32))), (.int M2)] (.int (0 : Int32)) := (Arv.other P9 W43 nim_)
        obtain ⟨fs, hr, hrun, hended, hW, hsame⟩ := X43.leave (v := some (.int (1 : Int32))) (fun h => by rw [Bd.returns] at h; cases h)
        refine ⟨_, _, ?_, hrun, hended, _, _, rfl, ?_, ⟨_, rfl⟩, hW, hsame.mono (by decide) (by decide)⟩
        · exact retN X43 hx (t := .boolean) Bd.returns (by simp) (hb hby d4_112) hr
        · show Q_rmCheck1 Z _ _ _ _ _ _ _ _ _ _ _ _ _ _ _ _ _ _ _ h0 n0 _ T43.heap _
          rw [e43]
          exact ⟨(1 : Int32), (0 : Int32), (2 : Int64), (((1 : Int32) <<< (mm &&& 31)) - (1 : Int32)), M2, rfl, N43, K43, F55, F56, F57, F58, F59, F60, F61, F62, F44, (Or.inr (Or.inl ⟨rfl, rfl, rfl, rfl, Or.inl rfl⟩))⟩
    · show ∃ t o, Steps p.tables e below (s₁.setTop (mkF m 0 #[.val (.ref fo), .val (.int mm), .val (.int (1 : Int32)), .val (.ref ma), .val (.ref aa), .val (.int mb), .val (.long sq), .second, .unset, .unset, .unset, .unset, .unset] [])) t ∧ _
      refine own_go (fun _ => XS.aloadN X0.here hx rfl (hb hby d4_0) rfl rfl) ?_
      refine own_go (fun _ => XS.iload X0.here hx rfl (hb hby d4_1) rfl) ?_
      refine own_go (fun _ => XS.lload X0.here hx rfl (hb hby d4_3) rfl) ?_
      show ∃ t o, Steps p.tables e below (s₁.setTop (mkF m 5 #[.val (.ref fo), .val (.int mm), .val (.int (1 : Int32)), .val (.ref ma), .val (.ref aa), .val (.int mb), .val (.long sq), .second, .unset, .unset, .unset, .unset, .unset] [(.long sq), (.int mb), (.ref fo)])) t ∧ _
      obtain ⟨cq63, kq63, q63a, q63b, q63c⟩ := isOf hZ e0 P1
      obtain ⟨_, _, ⟨T63, L63, k63, n63⟩, -, X63, ⟨Lc63, hQ63, l63, y63, z63⟩, st63⟩ := X0.virtualBack hx (y := (⟨"com/example/holdback/holdback/sim/InFlight", "delivered", "(IJ)D"⟩ : MethodName)) (z := (⟨"com/example/holdback/holdback/sim/InFlight", "delivered", "(IJ)D"⟩ : MethodName)) hown (mvT hZ (hw _ (List.mem_of_getElem? (i := 34) rfl))) (mvT hZ (hw _ (List.mem_of_getElem? (i := 35) rfl))) (notFace_of_selects (args := #[]) (mvT hZ (hw _ (List.mem_of_getElem? (i := 37) rfl)))) (mvT hZ (hw _ (List.mem_of_getElem? (i := 37) rfl))) (mvT hZ (hw _ (List.mem_of_getElem? (i := 36) rfl))) (by decide) (backOf (W := 0) (rmOut l Z a0 hw [] fo (0 : Int32) (2 : Int64) mb sq h0 n0 Z0 P4 P6 OLD (own_out 2 0 rfl rfl (by decide) (by decide) (by decide) (by decide) (by omega) : (sq - (2 : Int64)) < (0 : Int64) ∨ ¬ ((sq - (2 : Int64)) < (0 : Int32).toInt64))) hZ (hw _ (List.mem_of_getElem? (i := 38) rfl)) (hw _ (List.mem_of_getElem? (i := 6) rfl)) (by decide) (by decide)) q63a q63c (g := (mkF m 5 #[.val (.ref fo), .val (.int mm), .val (.int (1 : Int32)), .val (.ref ma), .val (.ref aa), .val (.int mb), .val (.long sq), .second, .unset, .unset, .unset, .unset, .unset] [(.long sq), (.int mb), (.ref fo)])) rfl (by rw [hml]; rfl) (Steps.refl _) (argsL := [(.int mb), (.long sq)]) (rest := []) (lenOf pd__28IJ_29D rfl) rfl (by show 2 * 0 + _ ≤ _; exact Nat.le_of_eq rfl) (hb hby d4_5) (fun _ _ => ⟨rfl, e0, (by decide : 0 + 0 ≤ _), (by decide : 0 + 0 ≤ _)⟩)
      dsimp only [Pt.U, Pt.locs, Pt.cells, Pt.slots] at X63 l63 y63 z63 st63 hQ63
      subst l63 y63 z63
      obtain ⟨rfl, Nq63, e63⟩ := hQ63
      have N63 := Fr.app N0 Nq63
      refine own_goT st63 ?_
      refine own_go (fun _ => XS.dstore X63.here hx rfl (hb hby d4_8) rfl (l' := #[.val (.ref fo), .val (.int mm), .val (.int (1 : Int32)), .val (.ref ma), .val (.ref aa), .val (.int mb), .val (.long sq), .second, .val (.double (13830554455654793216 : UInt64)), .second, .unset, .unset, .unset]) rfl) ?_
      refine own_go (fun _ => XS.iconst X63.here hx rfl (hb hby d4_10)) ?_
      show ∃ t o, Steps p.tables e below (T63.setTop (mkF m 11 #[.val (.ref fo), .val (.int mm), .val (.int (1 : Int32)), .val (.ref ma), .val (.ref aa), .val (.int mb), .val (.long sq), .second, .val (.double (13830554455654793216 : UInt64)), .second, .unset, .unset, .unset] [(.int (1 : Int32))])) t ∧ _
      refine own_go (fun _ => XS.iloadN X63.here hx rfl (hb hby d4_11) rfl) ?_
      refine own_go (fun _ => XS.ishl X63.here hx rfl (hb hby d4_12) rfl) ?_
      refine own_go (fun _ => XS.iconst X63.here hx rfl (hb hby d4_13)) ?_
      show ∃ t o, Steps p.tables e below (T63.setTop (mkF m 14 #[.val (.ref fo), .val (.int mm), .val (.int (1 : Int32)), .val (.ref ma), .val (.ref aa), .val (.int mb), .val (.long sq), .second, .val (.double (13830554455654793216 : UInt64)), .second, .unset, .unset, .unset] [(.int (1 : Int32)), (.int ((1 : Int32) <<< (mm &&& 31)))])) t ∧ _
      refine own_go (fun _ => XS.isub X63.here hx rfl (hb hby d4_14) rfl) ?_
      refine own_go (fun _ => XS.istore X63.here hx rfl (hb hby d4_15) rfl (l' := #[.val (.ref fo), .val (.int mm), .val (.int (1 : Int32)), .val (.ref ma), .val (.ref aa), .val (.int mb), .val (.long sq), .second, .val (.double (13830554455654793216 : UInt64)), .second, .val (.int (((1 : Int32) <<< (mm &&& 31)) - (1 : Int32))), .unset, .unset]) rfl) ?_
      refine own_go (fun _ => XS.lload X63.here hx rfl (hb hby d4_17) rfl) ?_
      show ∃ t o, Steps p.tables e below (T63.setTop (mkF m 19 #[.val (.ref fo), .val (.int mm), .val (.int (1 : Int32)), .val (.ref ma), .val (.ref aa), .val (.int mb), .val (.long sq), .second, .val (.double (13830554455654793216 : UInt64)), .second, .val (.int (((1 : Int32) <<< (mm &&& 31)) - (1 : Int32))), .unset, .unset] [(.long sq)])) t ∧ _
      refine own_go (fun _ => XS.lconst X63.here hx rfl (hb hby d4_19)) ?_
      refine own_go (fun _ => XS.lcmp X63.here hx rfl (hb hby d4_20) rfl) ?_
      show ∃ t o, Steps p.tables e below (T63.setTop (mkF m 21 #[.val (.ref fo), .val (.int mm), .val (.int (1 : Int32)), .val (.ref ma), .val (.ref aa), .val (.int mb), .val (.long sq), .second, .val (.double (13830554455654793216 : UInt64)), .second, .val (.int (((1 : Int32) <<< (mm &&& 31)) - (1 : Int32))), .unset, .unset] [(.int (lcmpW sq (1 : Int64)))])) t ∧ _
      by_cases hc64 : sq < (1 : Int64)
      · refine own_go (fun _ => XS.ifYes X63.here hx rfl (pc0 := 21) (pc' := 32) rfl (hb hby d4_21) rfl ((if0 _ _).trans (tlt ((lw_lt _ _).mpr hc64)).1) (by decide) (by decide)) ?_
        refine own_go (fun _ => XS.dload X63.here hx rfl (hb hby d4_32) rfl) ?_
        refine own_go (fun _ => XS.dconst0 X63.here hx rfl (hb hby d4_34) rfl) ?_
        show ∃ t o, Steps p.tables e below (T63.setTop (mkF m 35 #[.val (.ref fo), .val (.int mm), .val (.int (1 : Int32)), .val (.ref ma), .val (.ref aa), .val (.int mb), .val (.long sq), .second, .val (.double (13830554455654793216 : UInt64)), .second, .val (.int (((1 : Int32) <<< (mm &&& 31)) - (1 : Int32))), .unset, .unset] [(.double FP.dconst0), (.double (13830554455654793216 : UInt64))])) t ∧ _
        refine own_go (fun _ => XS.dcmpS X63.here hx rfl (hb hby d4_35) rfl (v := (-1 : Int32)) own_negd) ?_
        show ∃ t o, Steps p.tables e below (T63.setTop (mkF m 36 #[.val (.ref fo), .val (.int mm), .val (.int (1 : Int32)), .val (.ref ma), .val (.ref aa), .val (.int mb), .val (.long sq), .second, .val (.double (13830554455654793216 : UInt64)), .second, .val (.int (((1 : Int32) <<< (mm &&& 31)) - (1 : Int32))), .unset, .unset] [(.int (-1 : Int32))])) t ∧ _
        refine own_go (fun _ => XS.ifNo X63.here hx rfl (hb hby d4_36) rfl ((if0 _ _).trans (tlt (by decide : (-1 : Int32) < (0 : Int32))).2.1)) ?_
        refine own_go (fun _ => XS.iconst X63.here hx rfl (hb hby d4_39)) ?_
        refine own_go (fun _ => XS.goto X63.here hx rfl (pc0 := 40) (pc' := 44) rfl (hb hby d4_40) (by decide) (by decide)) ?_
        show ∃ t o, Steps p.tables e below (T63.setTop (mkF m 44 #[.val (.ref fo), .val (.int mm), .val (.int (1 : Int32)), .val (.ref ma), .val (.ref aa), .val (.int mb), .val (.long sq), .second, .val (.double (13830554455654793216 : UInt64)), .second, .val (.int (((1 : Int32) <<< (mm &&& 31)) - (1 : Int32))), .unset, .unset] [(.int (1 : Int32))])) t ∧ _
        obtain ⟨fs, hr, hrun, hended, hW, hsame⟩ := X63.leave (v := some (.int (1 : Int32))) (fun h => by rw [Bd.returns] at h; cases h)
        refine ⟨_, _, ?_, hrun, hended, _, _, rfl, ?_, ⟨_, rfl⟩, hW, hsame.mono (by decide) (by decide)⟩
        · exact retN X63 hx (t := .boolean) Bd.returns (by simp) (hb hby d4_44) hr
        · show Q_rmCheck1 Z _ _ _ _ _ _ _ _ _ _ _ _ _ _ _ _ _ _ _ h0 n0 _ T63.heap _
          rw [e63]
          exact ⟨(1 : Int32), (0 : Int32), (2 : Int64), (((1 : Int32) <<< (mm &&& 31)) - (1 : Int32)), M2, rfl, N63, (Keep.refl h0 [fo, ia, ma]), P1, P2, P3, P4, P5, P6, P7, P9, P10, (Or.inr (Or.inl ⟨rfl, rfl, rfl, rfl, Or.inl rfl⟩))⟩
      · refine own_go (fun _ => XS.ifNo X63.here hx rfl (hb hby d4_21) rfl ((if0 _ _).trans (flt (mt (lw_lt _ _).mp hc64)).1)) ?_
        refine own_go (fun _ => XS.lload X63.here hx rfl (hb hby d4_24) rfl) ?_
        refine own_go (fun _ => XS.iloadN X63.here hx rfl (hb hby d4_26) rfl) ?_
        show ∃ t o, Steps p.tables e below (T63.setTop (mkF m 27 #[.val (.ref fo), .val (.int mm), .val (.int (1 : Int32)), .val (.ref ma), .val (.ref aa), .val (.int mb), .val (.long sq), .second, .val (.double (13830554455654793216 : UInt64)), .second, .val (.int (((1 : Int32) <<< (mm &&& 31)) - (1 : Int32))), .unset, .unset] [(.int (1 : Int32)), (.long sq)])) t ∧ _
        refine own_go (fun _ => XS.i2l X63.here hx rfl (hb hby d4_27) rfl) ?_
        refine own_go (fun _ => XS.lcmp X63.here hx rfl (hb hby d4_28) rfl) ?_
        show ∃ t o, Steps p.tables e below (T63.setTop (mkF m 29 #[.val (.ref fo), .val (.int mm), .val (.int (1 : Int32)), .val (.ref ma), .val (.ref aa), .val (.int mb), .val (.long sq), .second, .val (.double (13830554455654793216 : UInt64)), .second, .val (.int (((1 : Int32) <<< (mm &&& 31)) - (1 : Int32))), .unset, .unset] [(.int (lcmpW sq (1 : Int64)))])) t ∧ _
        have hd65 : (1 : Int64) < sq := own_lt1 _ 1 rfl hq hc64
        refine own_go (fun _ => XS.ifNo X63.here hx rfl (hb hby d4_29) rfl ((if0 _ _).trans (tlt ((lw_gt _ _).mpr hd65)).2.2.2)) ?_
        refine own_go (fun _ => XS.dload X63.here hx rfl (hb hby d4_32) rfl) ?_
        refine own_go (fun _ => XS.dconst0 X63.here hx rfl (hb hby d4_34) rfl) ?_
        show ∃ t o, Steps p.tables e below (T63.setTop (mkF m 35 #[.val (.ref fo), .val (.int mm), .val (.int (1 : Int32)), .val (.ref ma), .val (.ref aa), .val (.int mb), .val (.long sq), .second, .val (.double (13830554455654793216 : UInt64)), .second, .val (.int (((1 : Int32) <<< (mm &&& 31)) - (1 : Int32))), .unset, .unset] [(.double FP.dconst0), (.double (13830554455654793216 : UInt64))])) t ∧ _
        refine own_go (fun _ => XS.dcmpS X63.here hx rfl (hb hby d4_35) rfl (v := (-1 : Int32)) own_negd) ?_
        show ∃ t o, Steps p.tables e below (T63.setTop (mkF m 36 #[.val (.ref fo), .val (.int mm), .val (.int (1 : Int32)), .val (.ref ma), .val (.ref aa), .val (.int mb), .val (.long sq), .second, .val (.double (13830554455654793216 : UInt64)), .second, .val (.int (((1 : Int32) <<< (mm &&& 31)) - (1 : Int32))), .unset, .unset] [(.int (-1 : Int32))])) t ∧ _
        refine own_go (fun _ => XS.ifNo X63.here hx rfl (hb hby d4_36) rfl ((if0 _ _).trans (tlt (by decide : (-1 : Int32) < (0 : Int32))).2.1)) ?_
        refine own_go (fun _ => XS.iconst X63.here hx rfl (hb hby d4_39)) ?_
        refine own_go (fun _ => XS.goto X63.here hx rfl (pc0 := 40) (pc' := 44) rfl (hb hby d4_40) (by decide) (by decide)) ?_
        show ∃ t o, Steps p.tables e below (T63.setTop (mkF m 44 #[.val (.ref fo), .val (.int mm), .val (.int (1 : Int32)), .val (.ref ma), .val (.ref aa), .val (.int mb), .val (.long sq), .second, .val (.double (13830554455654793216 : UInt64)), .second, .val (.int (((1 : Int32) <<< (mm &&& 31)) - (1 : Int32))), .unset, .unset] [(.int (1 : Int32))])) t ∧ _
        obtain ⟨fs, hr, hrun, hended, hW, hsame⟩ := X63.leave (v := some (.int (1 : Int32))) (fun h => by rw [Bd.returns] at h; cases h)
        refine ⟨_, _, ?_, hrun, hended, _, _, rfl, ?_, ⟨_, rfl⟩, hW, hsame.mono (by decide) (by decide)⟩
        · exact retN X63 hx (t := .boolean) Bd.returns (by simp) (hb hby d4_44) hr
        · show Q_rmCheck1 Z _ _ _ _ _ _ _ _ _ _ _ _ _ _ _ _ _ _ _ h0 n0 _ T63.heap _
          rw [e63]
          exact ⟨(1 : Int32), (0 : Int32), (2 : Int64), (((1 : Int32) <<< (mm &&& 31)) - (1 : Int32)), M2, rfl, N63, (Keep.refl h0 [fo, ia, ma]), P1, P2, P3, P4, P5, P6, P7, P9, P10, (Or.inr (Or.inl ⟨rfl, rfl, rfl, rfl, Or.inl rfl⟩))⟩
  · exact absurd hi0 (by decide)
theorem ef_rmCheck2 (m : MethodId) (x0 : Nat) (x1 : Int32) (x2 : Int32) (x3 : Nat) (x4 : Nat) (x5 : Int32) (x6 : Int64) : entryFrame m #[(.ref x0), (.int x1), (.int x2), (.ref x3), (.ref x4), (.int x5), (.long x6)] 13 = mkF m 0 #[.val (.ref x0), .val (.int x1), .val (.int x2), .val (.ref x3), .val (.ref x4), .val (.int x5), .val (.long x6), .second, .unset, .unset, .unset, .unset, .unset] [] := by first | (simp [entryFrame, mkF, argsToLocals, Value.category]; done) | rfl
def Q_rmCheck2 (Z : State) (fo : Nat) (da : Nat) (ia : Nat) (kd : ClassId) (ki : ClassId) (ma : Nat) (aa : Nat) (km : ClassId) (ka : ClassId) (mm : Int32) (fi : Int32) (sz : Int32) (fq : Int64) (M1 : Int32) (M2 : Int32) (A1 : UInt64) (A2 : UInt64) (mb : Int32) (sq : Int64) (h0 : Heap) (n0 : Nat) (v : Option Value) (h : Heap) (L : List Loc) : Prop := ∃ (fi2 : Int32), ∃ (sz2 : Int32), ∃ (fq2 : Int64), ∃ (N1 : Int32), ∃ (N2 : Int32), v = some (.int (1 : Int32)) ∧ Fr n0 L ∧ Keep h0 h [fo, ia, ma] ∧ Exa Z h fo "com/example/holdback/holdback/sim/InFlight" ∧ Fld Z h fo "com/example/holdback/holdback/sim/InFlight" "multicastAt" "[D" (.ref da) ∧ Fld Z h fo "com/example/holdback/holdback/sim/InFlight" "deliveredBy" "[I" (.ref ia) ∧ Fld Z h fo "com/example/holdback/holdback/sim/InFlight" "firstSeq" "J" (.long fq2) ∧ Fld Z h fo "com/example/holdback/holdback/sim/InFlight" "everyone" "I" (.int (((1 : Int32) <<< (mm &&& 31)) - (1 : Int32))) ∧ Fld Z h fo "com/example/holdback/holdback/sim/InFlight" "size" "I" (.int sz2) ∧ Fld Z h fo "com/example/holdback/holdback/sim/InFlight" "first" "I" (.int fi2) ∧ Arv Z h ia ki .int (16 : Int32) [(.int N1), (.int N2)] (.int (0 : Int32)) ∧ Arv Z h ma km .int (3 : Int32) [(.int (0 : Int32)), (.int N1), (.int N2)] (.int (0 : Int32)) ∧ (own_inv (2 : Int32) (((1 : Int32) <<< (mm &&& 31)) - (1 : Int32)) fi2 sz2 fq2 N1 N2)
set_option maxRecDepth 65536 in
set_option maxHeartbeats 40000000 in
theorem rmCheck2 (l : Launch) (Z : State) (a0 : Array Value) (hw : ∀ d ∈ tables_1, d.before a0 Z = true) (ws : List Jvm.Cond) (fo : Nat) (da : Nat) (ia : Nat) (kd : ClassId) (ki : ClassId) (ma : Nat) (aa : Nat) (km : ClassId) (ka : ClassId) (mm : Int32) (fi : Int32) (sz : Int32) (fq : Int64) (M1 : Int32) (M2 : Int32) (A1 : UInt64) (A2 : UInt64) (mb : Int32) (sq : Int64) (h0 : Heap) (n0 : Nat) (Z0 : n0 ≤ h0.size) (P1 : Exa Z h0 fo "com/example/holdback/holdback/sim/InFlight") (P2 : Fld Z h0 fo "com/example/holdback/holdback/sim/InFlight" "multicastAt" "[D" (.ref da)) (P3 : Fld Z h0 fo "com/example/holdback/holdback/sim/InFlight" "deliveredBy" "[I" (.ref ia)) (P4 : Fld Z h0 fo "com/example/holdback/holdback/sim/InFlight" "firstSeq" "J" (.long fq)) (P5 : Fld Z h0 fo "com/example/holdback/holdback/sim/InFlight" "everyone" "I" (.int (((1 : Int32) <<< (mm &&& 31)) - (1 : Int32)))) (P6 : Fld Z h0 fo "com/example/holdback/holdback/sim/InFlight" "size" "I" (.int sz)) (P7 : Fld Z h0 fo "com/example/holdback/holdback/sim/InFlight" "first" "I" (.int fi)) (P8 : Arv Z h0 da kd .double (16 : Int32) [(.double A1), (.double A2)] (.double (0 : UInt64))) (P9 : Arv Z h0 ia ki .int (16 : Int32) [(.int M1), (.int M2)] (.int (0 : Int32))) (P10 : Arv Z h0 ma km .int (3 : Int32) [(.int (0 : Int32)), (.int M1), (.int M2)] (.int (0 : Int32))) (P11 : Arv Z h0 aa ka .double (3 : Int32) [(.double (0 : UInt64)), (.double A1), (.double A2)] (.double (0 : UInt64))) (OLD : Old Z n0 h0) (gf : n0 ≤ fo) (gd : n0 ≤ da) (gi : n0 ≤ ia) (nfd : fo ≠ da) (nfi : fo ≠ ia) (ndi : da ≠ ia) (ndf : da ≠ fo) (nif : ia ≠ fo) (nid : ia ≠ da) (gm : n0 ≤ ma) (nmf_ : ma ≠ fo) (nmd_ : ma ≠ da) (nmi_ : ma ≠ ia) (naf_ : aa ≠ fo) (nad_ : aa ≠ da) (nai_ : aa ≠ ia) (nfm_ : fo ≠ ma) (ndm_ : da ≠ ma) (nim_ : ia ≠ ma) (nfa_ : fo ≠ aa) (nda_ : da ≠ aa) (nia_ : ia ≠ aa) (nma_ : ma ≠ aa) (nam_ : aa ≠ ma) (hI : own_inv (2 : Int32) (((1 : Int32) <<< (mm &&& 31)) - (1 : Int32)) fi sz fq M1 M2) (hbit : ((((1 : Int32) <<< (mm &&& 31)) - (1 : Int32)) ||| ((1 : Int32) <<< (mb &&& 31))) = (((1 : Int32) <<< (mm &&& 31)) - (1 : Int32))) (nA1 : Jvm.Free.Fl.NoNaN64 A1) (nA2 : Jvm.Free.Fl.NoNaN64 A2) :
    MetFree l (⟨"com/example/holdback/holdback/sim/InFlightDeliveredPinLaw", "check", "(Lcom/example/holdback/holdback/sim/InFlight;II[I[DIJ)Z"⟩ : MethodName) (head1 (Jvm.Cond.code (⟨"com/example/holdback/holdback/sim/InFlightDeliveredPinLaw", "check", "(Lcom/example/holdback/holdback/sim/InFlight;II[I[DIJ)Z"⟩ : MethodName) method_3_code 13 (some .boolean) :: ws) ({ frames := 1, cells := 0, slots := 0, locals := 21 } : Room)) (fun a U => a = #[(.ref fo), (.int mm), (.int (2 : Int32)), (.ref ma), (.ref aa), (.int mb), (.long sq)] ∧ Z.Warmed39 U.vm ∧ U.heap = h0) (fun _ _ _ _ _ => True) (fun _ U o U' => ∃ v L, o = .returned v ∧ Q_rmCheck2 Z fo da ia kd ki ma aa km ka mm fi sz fq M1 M2 A1 A2 mb sq h0 n0 v U'.heap L ∧ FrameEnd U o U' L ({ frames := 1, cells := 0, slots := 0, locals := 21 } : Room).cells ({ frames := 1, cells := 0, slots := 0, locals := 21 } : Room).slots) := by
  refine MetFree.of_bodySF (plainFor_of_name pn_com_example_holdback_holdback_sim_InFlightDeliveredPinLaw) hisR ?_
  intro p e s m args below meth c s₁ Bd hml0 hP hK
  obtain ⟨rfl, hZ, hh⟩ := hP
  have hx := Bd.exec
  have hby := Bd.bytes
  have hml : c.maxLocals = 13 := hml0
  have hown : s.vm.findClass "com/example/holdback/holdback/sim/InFlightDeliveredPinLaw" = some m.cls := findClass_of_methodNamed Bd.named
  have hnm := (name_of_methodNamed Bd.named Bd.method).1
  have X0 : Stand p l e ({ frames := 1, cells := 0, slots := 0, locals := 21 } : Room) s m #[(.ref fo), (.int mm), (.int (2 : Int32)), (.ref ma), (.ref aa), (.int mb), (.long sq)] below meth c s₁ [] 0 0 := Stand.of_body Bd
  have e0 : s₁.heap = h0 := by rw [← hh, Bd.state]; rfl
  have N0 := Fr.nil n0
  have pre0 : ∀ t, Steps p.tables e below (s₁.setTop (mkF m 0 #[.val (.ref fo), .val (.int mm), .val (.int (2 : Int32)), .val (.ref ma), .val (.ref aa), .val (.int mb), .val (.long sq), .second, .unset, .unset, .unset, .unset, .unset] [])) t → Steps p.tables e below (s₁.setTop (entryFrame m #[(.ref fo), (.int mm), (.int (2 : Int32)), (.ref ma), (.ref aa), (.int mb), (.long sq)] 13)) t := fun t k => castTop (ef_rmCheck2 m fo mm (2 : Int32) ma aa mb sq) k
  have oz := OLD.1
  have lt_aa : aa < h0.size := P11.lt
  have lt_da : da < h0.size := P8.lt
  have lt_fo : fo < h0.size := P1.lt
  have lt_ia : ia < h0.size := P9.lt
  have lt_ma : ma < h0.size := P10.lt
  refine own_go (B := s₁.setTop (mkF m 0 #[.val (.ref fo), .val (.int mm), .val (.int (2 : Int32)), .val (.ref ma), .val (.ref aa), .val (.int mb), .val (.long sq), .second, .unset, .unset, .unset, .unset, .unset] [])) pre0 ?_
  show ∃ t o, Steps p.tables e below (s₁.setTop (mkF m 0 #[.val (.ref fo), .val (.int mm), .val (.int (2 : Int32)), .val (.ref ma), .val (.ref aa), .val (.int mb), .val (.long sq), .second, .unset, .unset, .unset, .unset, .unset] [])) t ∧ _
  rcases hI with ⟨hi1, hi2, hi3, hi4⟩ | ⟨hi1, hi2, hi3, hi4, hi5⟩ | ⟨hi1, hi2, hi3, hi0, hi4, hi5⟩
  · have hi2' : sz = (2 : Int32) := hi2
    subst hi1 hi2' hi3
    show ∃ t o, Steps p.tables e below (s₁.setTop (mkF m 0 #[.val (.ref fo), .val (.int mm), .val (.int (2 : Int32)), .val (.ref ma), .val (.ref aa), .val (.int mb), .val (.long sq), .second, .unset, .unset, .unset, .unset, .unset] [])) t ∧ _
    rcases own_seq2 sq with hq | hq | hq
    · subst hq
      show ∃ t o, Steps p.tables e below (s₁.setTop (mkF m 0 #[.val (.ref fo), .val (.int mm), .val (.int (2 : Int32)), .val (.ref ma), .val (.ref aa), .val (.int mb), .val (.long (1 : Int64)), .second, .unset, .unset, .unset, .unset, .unset] [])) t ∧ _
      refine own_go (fun _ => XS.aloadN X0.here hx rfl (hb hby d4_0) rfl rfl) ?_
      refine own_go (fun _ => XS.iload X0.here hx rfl (hb hby d4_1) rfl) ?_
      refine own_go (fun _ => XS.lload X0.here hx rfl (hb hby d4_3) rfl) ?_
      show ∃ t o, Steps p.tables e below (s₁.setTop (mkF m 5 #[.val (.ref fo), .val (.int mm), .val (.int (2 : Int32)), .val (.ref ma), .val (.ref aa), .val (.int mb), .val (.long (1 : Int64)), .second, .unset, .unset, .unset, .unset, .unset] [(.long (1 : Int64)), (.int mb), (.ref fo)])) t ∧ _
      obtain ⟨cq12, kq12, q12a, q12b, q12c⟩ := isOf hZ e0 P1
      obtain ⟨_, _, ⟨T12, L12, k12, n12⟩, -, X12, ⟨Lc12, hQ12, l12, y12, z12⟩, st12⟩ := X0.virtualBack hx (y := (⟨"com/example/holdback/holdback/sim/InFlight", "delivered", "(IJ)D"⟩ : MethodName)) (z := (⟨"com/example/holdback/holdback/sim/InFlight", "delivered", "(IJ)D"⟩ : MethodName)) hown (mvT hZ (hw _ (List.mem_of_getElem? (i := 34) rfl))) (mvT hZ (hw _ (List.mem_of_getElem? (i := 35) rfl))) (notFace_of_selects (args := #[]) (mvT hZ (hw _ (List.mem_of_getElem? (i := 37) rfl)))) (mvT hZ (hw _ (List.mem_of_getElem? (i := 37) rfl))) (mvT hZ (hw _ (List.mem_of_getElem? (i := 36) rfl))) (by decide) (backOf (W := 0) (rmV2 l Z a0 hw [] fo da ia kd ki ((((1 : Int32) <<< (mm &&& 31)) - (1 : Int32))) M1 M2 A1 A2 mb h0 n0 Z0 P1 P2 P3 P4 P5 P6 P7 P8 P9 OLD gf gd gi nfd nfi ndi ndf nif nid (hi4 : ¬ (M1 = (((1 : Int32) <<< (mm &&& 31)) - (1 : Int32))))) hZ (hw _ (List.mem_of_getElem? (i := 38) rfl)) (hw _ (List.mem_of_getElem? (i := 6) rfl)) (by decide) (by decide)) q12a q12c (g := (mkF m 5 #[.val (.ref fo), .val (.int mm), .val (.int (2 : Int32)), .val (.ref ma), .val (.ref aa), .val (.int mb), .val (.long (1 : Int64)), .second, .unset, .unset, .unset, .unset, .unset] [(.long (1 : Int64)), (.int mb), (.ref fo)])) rfl (by rw [hml]; rfl) (Steps.refl _) (argsL := [(.int mb), (.long (1 : Int64))]) (rest := []) (lenOf pd__28IJ_29D rfl) rfl (by show 2 * 0 + _ ≤ _; exact Nat.le_of_eq rfl) (hb hby d4_5) (fun _ _ => ⟨rfl, e0, (by decide : 0 + 0 ≤ _), (by decide : 0 + 0 ≤ _)⟩)
      dsimp only [Pt.U, Pt.locs, Pt.cells, Pt.slots] at X12 l12 y12 z12 st12 hQ12
      subst l12 y12 z12
      obtain ⟨rr_12, fi2_12, sz2_12, fq2_12, rfl, Nq12, Kp12, G12_0, G12_1, G12_2, G12_3, G12_4, G12_5, G12_6, G12_7, H12_0, H12_1⟩ := hQ12
      have N12 := Fr.app N0 Nq12
      refine own_goT st12 ?_
      have le_12 : h0.size ≤ T12.heap.size := Kp12.1
      have K12 : Keep h0 T12.heap [fo, ia, ma] := Keep.trans (Keep.refl h0 [fo, ia, ma]) Kp12 (allS (Or.inl (List.mem_of_getElem? (i := 0) rfl)) (allS (Or.inl (List.mem_of_getElem? (i := 1) rfl)) all0))
      refine own_go (fun _ => XS.dstore X12.here hx rfl (hb hby d4_8) rfl (l' := #[.val (.ref fo), .val (.int mm), .val (.int (2 : Int32)), .val (.ref ma), .val (.ref aa), .val (.int mb), .val (.long (1 : Int64)), .second, .val (.double rr_12), .second, .unset, .unset, .unset]) rfl) ?_
      refine own_go (fun _ => XS.iconst X12.here hx rfl (hb hby d4_10)) ?_
      show ∃ t o, Steps p.tables e below (T12.setTop (mkF m 11 #[.val (.ref fo), .val (.int mm), .val (.int (2 : Int32)), .val (.ref ma), .val (.ref aa), .val (.int mb), .val (.long (1 : Int64)), .second, .val (.double rr_12), .second, .unset, .unset, .unset] [(.int (1 : Int32))])) t ∧ _
      refine own_go (fun _ => XS.iloadN X12.here hx rfl (hb hby d4_11) rfl) ?_
      refine own_go (fun _ => XS.ishl X12.here hx rfl (hb hby d4_12) rfl) ?_
      refine own_go (fun _ => XS.iconst X12.here hx rfl (hb hby d4_13)) ?_
      show ∃ t o, Steps p.tables e below (T12.setTop (mkF m 14 #[.val (.ref fo), .val (.int mm), .val (.int (2 : Int32)), .val (.ref ma), .val (.ref aa), .val (.int mb), .val (.long (1 : Int64)), .second, .val (.double rr_12), .second, .unset, .unset, .unset] [(.int (1 : Int32)), (.int ((1 : Int32) <<< (mm &&& 31)))])) t ∧ _
      refine own_go (fun _ => XS.isub X12.here hx rfl (hb hby d4_14) rfl) ?_
      refine own_go (fun _ => XS.istore X12.here hx rfl (hb hby d4_15) rfl (l' := #[.val (.ref fo), .val (.int mm), .val (.int (2 : Int32)), .val (.ref ma), .val (.ref aa), .val (.int mb), .val (.long (1 : Int64)), .second, .val (.double rr_12), .second, .val (.int (((1 : Int32) <<< (mm &&& 31)) - (1 : Int32))), .unset, .unset]) rfl) ?_
      refine own_go (fun _ => XS.lload X12.here hx rfl (hb hby d4_17) rfl) ?_
      show ∃ t o, Steps p.tables e below (T12.setTop (mkF m 19 #[.val (.ref fo), .val (.int mm), .val (.int (2 : Int32)), .val (.ref ma), .val (.ref aa), .val (.int mb), .val (.long (1 : Int64)), .second, .val (.double rr_12), .second, .val (.int (((1 : Int32) <<< (mm &&& 31)) - (1 : Int32))), .unset, .unset] [(.long (1 : Int64))])) t ∧ _
      refine own_go (fun _ => XS.lconst X12.here hx rfl (hb hby d4_19)) ?_
      refine own_go (fun _ => XS.lcmp X12.here hx rfl (hb hby d4_20) rfl) ?_
      show ∃ t o, Steps p.tables e below (T12.setTop (mkF m 21 #[.val (.ref fo), .val (.int mm), .val (.int (2 : Int32)), .val (.ref ma), .val (.ref aa), .val (.int mb), .val (.long (1 : Int64)), .second, .val (.double rr_12), .second, .val (.int (((1 : Int32) <<< (mm &&& 31)) - (1 : Int32))), .unset, .unset] [(.int (lcmpW (1 : Int64) (1 : Int64)))])) t ∧ _
      refine own_go (fun _ => XS.ifNo X12.here hx rfl (hb hby d4_21) rfl ((if0 _ _).trans (flt (mt (lw_lt _ _).mp (by decide : ¬ ((1 : Int64) < (1 : Int64))))).1)) ?_
      refine own_go (fun _ => XS.lload X12.here hx rfl (hb hby d4_24) rfl) ?_
      refine own_go (fun _ => XS.iloadN X12.here hx rfl (hb hby d4_26) rfl) ?_
      show ∃ t o, Steps p.tables e below (T12.setTop (mkF m 27 #[.val (.ref fo), .val (.int mm), .val (.int (2 : Int32)), .val (.ref ma), .val (.ref aa), .val (.int mb), .val (.long (1 : Int64)), .second, .val (.double rr_12), .second, .val (.int (((1 : Int32) <<< (mm &&& 31)) - (1 : Int32))), .unset, .unset] [(.int (2 : Int32)), (.long (1 : Int64))])) t ∧ _
      refine own_go (fun _ => XS.i2l X12.here hx rfl (hb hby d4_27) rfl) ?_
      refine own_go (fun _ => XS.lcmp X12.here hx rfl (hb hby d4_28) rfl) ?_
      show ∃ t o, Steps p.tables e below (T12.setTop (mkF m 29 #[.val (.ref fo), .val (.int mm), .val (.int (2 : Int32)), .val (.ref ma), .val (.ref aa), .val (.int mb), .val (.long (1 : Int64)), .second, .val (.double rr_12), .second, .val (.int (((1 : Int32) <<< (mm &&& 31)) - (1 : Int32))), .unset, .unset] [(.int (lcmpW (1 : Int64) (2 : Int64)))])) t ∧ _
      refine own_go (fun _ => XS.ifYes X12.here hx rfl (pc0 := 29) (pc' := 45) rfl (hb hby d4_29) rfl ((if0 _ _).trans (flt (mt (lw_gt _ _).mp (by decide : ¬ ((2 : Int64) < (1 : Int64))))).2.2.2) (by decide) (by decide)) ?_
      refine own_go (fun _ => XS.lload X12.here hx rfl (hb hby d4_45) rfl) ?_
      refine own_go (fun _ => XS.l2i X12.here hx rfl (hb hby d4_47) rfl) ?_
      show ∃ t o, Steps p.tables e below (T12.setTop (mkF m 48 #[.val (.ref fo), .val (.int mm), .val (.int (2 : Int32)), .val (.ref ma), .val (.ref aa), .val (.int mb), .val (.long (1 : Int64)), .second, .val (.double rr_12), .second, .val (.int (((1 : Int32) <<< (mm &&& 31)) - (1 : Int32))), .unset, .unset] [(.int (1 : Int32))])) t ∧ _
      refine own_go (fun _ => XS.istore X12.here hx rfl (hb hby d4_48) rfl (l' := #[.val (.ref fo), .val (.int mm), .val (.int (2 : Int32)), .val (.ref ma), .val (.ref aa), .val (.int mb), .val (.long (1 : Int64)), .second, .val (.double rr_12), .second, .val (.int (((1 : Int32) <<< (mm &&& 31)) - (1 : Int32))), .val (.int (1 : Int32)), .unset]) rfl) ?_
      refine own_go (fun _ => XS.aloadN X12.here hx rfl (hb hby d4_50) rfl rfl) ?_
      refine own_go (fun _ => XS.iload X12.here hx rfl (hb hby d4_51) rfl) ?_
      show ∃ t o, Steps p.tables e below (T12.setTop (mkF m 53 #[.val (.ref fo), .val (.int mm), .val (.int (2 : Int32)), .val (.ref ma), .val (.ref aa), .val (.int mb), .val (.long (1 : Int64)), .second, .val (.double rr_12), .second, .val (.int (((1 : Int32) <<< (mm &&& 31)) - (1 : Int32))), .val (.int (1 : Int32)), .unset] [(.int (1 : Int32)), (.ref ma)])) t ∧ _
      have F13 : Arv Z T12.heap ma km .int (3 : Int32) [(.int (0 : Int32)), (.int M1), (.int M2)] (.int (0 : Int32)) := (Arv.keep P10 Kp12 (ninS nmf_ (ninS nmi_ nin0)))
      obtain ⟨cl14, Ar14, q14, S14, N14, H14, G14⟩ := id F13
      have hin14 : ¬ ((1 : Int32) < 0 ∨ cl14.slots.size ≤ ((1 : Int32)).toNatClampNeg) := inb_of S14 ⟨by decide, by decide⟩
      have hat14 : cl14.slots[((1 : Int32)).toNatClampNeg]? = some (.int M1) := Has.at H14 hin14 rfl
      refine own_go (fun _ => X12.iaload hx (j := (1 : Int32)) (v := (.int M1)) Ar14.1 (State.isArrayOf_alike hZ.alike Ar14.2.1) Ar14.2.2 hin14 hat14 (g := (mkF m 53 #[.val (.ref fo), .val (.int mm), .val (.int (2 : Int32)), .val (.ref ma), .val (.ref aa), .val (.int mb), .val (.long (1 : Int64)), .second, .val (.double rr_12), .second, .val (.int (((1 : Int32) <<< (mm &&& 31)) - (1 : Int32))), .val (.int (1 : Int32)), .unset] [(.int (1 : Int32)), (.ref ma)])) rfl rfl (hb hby d4_53) _) ?_
      refine own_go (fun _ => XS.istore X12.here hx rfl (hb hby d4_54) rfl (l' := #[.val (.ref fo), .val (.int mm), .val (.int (2 : Int32)), .val (.ref ma), .val (.ref aa), .val (.int mb), .val (.long (1 : Int64)), .second, .val (.double rr_12), .second, .val (.int (((1 : Int32) <<< (mm &&& 31)) - (1 : Int32))), .val (.int (1 : Int32)), .val (.int M1)]) rfl) ?_
      refine own_go (fun _ => XS.aloadN X12.here hx rfl (hb hby d4_56) rfl rfl) ?_
      show ∃ t o, Steps p.tables e below (T12.setTop (mkF m 57 #[.val (.ref fo), .val (.int mm), .val (.int (2 : Int32)), .val (.ref ma), .val (.ref aa), .val (.int mb), .val (.long (1 : Int64)), .second, .val (.double rr_12), .second, .val (.int (((1 : Int32) <<< (mm &&& 31)) - (1 : Int32))), .val (.int (1 : Int32)), .val (.int M1)] [(.ref ma)])) t ∧ _
      refine own_go (fun _ => XS.iload X12.here hx rfl (hb hby d4_57) rfl) ?_
      refine own_go (fun _ => XS.iload X12.here hx rfl (hb hby d4_59) rfl) ?_
      refine own_go (fun _ => XS.iconst X12.here hx rfl (hb hby d4_61)) ?_
      show ∃ t o, Steps p.tables e below (T12.setTop (mkF m 62 #[.val (.ref fo), .val (.int mm), .val (.int (2 : Int32)), .val (.ref ma), .val (.ref aa), .val (.int mb), .val (.long (1 : Int64)), .second, .val (.double rr_12), .second, .val (.int (((1 : Int32) <<< (mm &&& 31)) - (1 : Int32))), .val (.int (1 : Int32)), .val (.int M1)] [(.int (1 : Int32)), (.int M1), (.int (1 : Int32)), (.ref ma)])) t ∧ _
      refine own_go (fun _ => XS.iload X12.here hx rfl (hb hby d4_62) rfl) ?_
      refine own_go (fun _ => XS.ishl X12.here hx rfl (hb hby d4_64) rfl) ?_
      refine own_go (fun _ => XS.ior X12.here hx rfl (hb hby d4_65) rfl) ?_
      show ∃ t o, Steps p.tables e below (T12.setTop (mkF m 66 #[.val (.ref fo), .val (.int mm), .val (.int (2 : Int32)), .val (.ref ma), .val (.ref aa), .val (.int mb), .val (.long (1 : Int64)), .second, .val (.double rr_12), .second, .val (.int (((1 : Int32) <<< (mm &&& 31)) - (1 : Int32))), .val (.int (1 : Int32)), .val (.int M1)] [(.int (M1 ||| ((1 : Int32) <<< (mb &&& 31)))), (.int (1 : Int32)), (.ref ma)])) t ∧ _
      obtain ⟨cl15, Ar15, q15, S15, N15, H15, G15⟩ := id F13
      have hin15 : ¬ ((1 : Int32) < 0 ∨ cl15.slots.size ≤ ((1 : Int32)).toNatClampNeg) := inb_of S15 ⟨by decide, by decide⟩
      obtain ⟨T16, h16, X16, e16, W16, st16⟩ := stI X12 hx hZ rfl Ar15 (j := (1 : Int32)) hin15 (g := (mkF m 66 #[.val (.ref fo), .val (.int mm), .val (.int (2 : Int32)), .val (.ref ma), .val (.ref aa), .val (.int mb), .val (.long (1 : Int64)), .second, .val (.double rr_12), .second, .val (.int (((1 : Int32) <<< (mm &&& 31)) - (1 : Int32))), .val (.int (1 : Int32)), .val (.int M1)] [(.int (M1 ||| ((1 : Int32) <<< (mb &&& 31)))), (.int (1 : Int32)), (.ref ma)])) rfl rfl (hb hby d4_66)
      refine own_go st16 ?_
      have le_16 : T12.heap.size ≤ h16.size := Nat.le_of_eq W16.size.symm
      have K16 : Keep h0 h16 [fo, ia, ma] := Keep.wr K12 W16 (Or.inl (List.mem_of_getElem? (i := 2) rfl))
      have N16 := Fr.snoc X16 N12 gm
      have V16 : Arv Z h16 ma km .int (3 : Int32) [(.int (0 : Int32)), (.int (M1 ||| ((1 : Int32) <<< (mb &&& 31)))), (.int M2)] (.int (0 : Int32)) := Arv.set Ar15 q15 S15 N15 H15 G15 rfl W16 1 rfl (Nat.le_of_ble_eq_true rfl)
      refine own_go (fun _ => XS.iload X16.here hx rfl (hb hby d4_67) rfl) ?_
      refine own_go (fun _ => XS.iload X16.here hx rfl (hb hby d4_69) rfl) ?_
      show ∃ t o, Steps p.tables e below (T16.setTop (mkF m 71 #[.val (.ref fo), .val (.int mm), .val (.int (2 : Int32)), .val (.ref ma), .val (.ref aa), .val (.int mb), .val (.long (1 : Int64)), .second, .val (.double rr_12), .second, .val (.int (((1 : Int32) <<< (mm &&& 31)) - (1 : Int32))), .val (.int (1 : Int32)), .val (.int M1)] [(.int (((1 : Int32) <<< (mm &&& 31)) - (1 : Int32))), (.int M1)])) t ∧ _
      refine own_go (fun _ => XS.icmpNo X16.here hx rfl (hb hby d4_71) rfl (feq hi4).1) ?_
      refine own_go (fun _ => XS.aloadN X16.here hx rfl (hb hby d4_74) rfl rfl) ?_
      refine own_go (fun _ => XS.iload X16.here hx rfl (hb hby d4_75) rfl) ?_
      show ∃ t o, Steps p.tables e below (T16.setTop (mkF m 77 #[.val (.ref fo), .val (.int mm), .val (.int (2 : Int32)), .val (.ref ma), .val (.ref aa), .val (.int mb), .val (.long (1 : Int64)), .second, .val (.double rr_12), .second, .val (.int (((1 : Int32) <<< (mm &&& 31)) - (1 : Int32))), .val (.int (1 : Int32)), .val (.int M1)] [(.int (1 : Int32)), (.ref ma)])) t ∧ _
      obtain ⟨cl17, Ar17, q17, S17, N17, H17, G17⟩ := id V16
      have hin17 : ¬ ((1 : Int32) < 0 ∨ cl17.slots.size ≤ ((1 : Int32)).toNatClampNeg) := inb_of S17 ⟨by decide, by decide⟩
      have hat17 : cl17.slots[((1 : Int32)).toNatClampNeg]? = some (.int (M1 ||| ((1 : Int32) <<< (mb &&& 31)))) := Has.at H17 hin17 rfl
      refine own_go (fun _ => X16.iaload hx (j := (1 : Int32)) (v := (.int (M1 ||| ((1 : Int32) <<< (mb &&& 31))))) (by rw [e16]; exact Ar17.1) (State.isArrayOf_alike hZ.alike Ar17.2.1) Ar17.2.2 hin17 hat17 (g := (mkF m 77 #[.val (.ref fo), .val (.int mm), .val (.int (2 : Int32)), .val (.ref ma), .val (.ref aa), .val (.int mb), .val (.long (1 : Int64)), .second, .val (.double rr_12), .second, .val (.int (((1 : Int32) <<< (mm &&& 31)) - (1 : Int32))), .val (.int (1 : Int32)), .val (.int M1)] [(.int (1 : Int32)), (.ref ma)])) rfl rfl (hb hby d4_77) _) ?_
      refine own_go (fun _ => XS.iload X16.here hx rfl (hb hby d4_78) rfl) ?_
      show ∃ t o, Steps p.tables e below (T16.setTop (mkF m 80 #[.val (.ref fo), .val (.int mm), .val (.int (2 : Int32)), .val (.ref ma), .val (.ref aa), .val (.int mb), .val (.long (1 : Int64)), .second, .val (.double rr_12), .second, .val (.int (((1 : Int32) <<< (mm &&& 31)) - (1 : Int32))), .val (.int (1 : Int32)), .val (.int M1)] [(.int (((1 : Int32) <<< (mm &&& 31)) - (1 : Int32))), (.int (M1 ||| ((1 : Int32) <<< (mb &&& 31))))])) t ∧ _
      by_cases hc18 : (M1 ||| ((1 : Int32) <<< (mb &&& 31))) = (((1 : Int32) <<< (mm &&& 31)) - (1 : Int32))
      · refine own_go (fun _ => XS.icmpNo X16.here hx rfl (hb hby d4_80) rfl (teq hc18).2) ?_
        refine own_go (fun _ => XS.dload X16.here hx rfl (hb hby d4_83) rfl) ?_
        refine own_go (fun _ => XS.aload X16.here hx rfl (hb hby d4_85) rfl rfl) ?_
        show ∃ t o, Steps p.tables e below (T16.setTop (mkF m 87 #[.val (.ref fo), .val (.int mm), .val (.int (2 : Int32)), .val (.ref ma), .val (.ref aa), .val (.int mb), .val (.long (1 : Int64)), .second, .val (.double rr_12), .second, .val (.int (((1 : Int32) <<< (mm &&& 31)) - (1 : Int32))), .val (.int (1 : Int32)), .val (.int M1)] [(.ref aa), (.double rr_12)])) t ∧ _
        refine own_go (fun _ => XS.iload X16.here hx rfl (hb hby d4_87) rfl) ?_
        have F19 : Arv Z h16 aa ka .double (3 : Int32) [(.double (0 : UInt64)), (.double A1), (.double A2)] (.double (0 : UInt64)) := (Arv.other (Arv.keep P11 Kp12 (ninS naf_ (ninS nai_ nin0))) W16 nam_)
        obtain ⟨cl20, Ar20, q20, S20, N20, H20, G20⟩ := id F19
        have hin20 : ¬ ((1 : Int32) < 0 ∨ cl20.slots.size ≤ ((1 : Int32)).toNatClampNeg) := inb_of S20 ⟨by decide, by decide⟩
        have hat20 : cl20.slots[((1 : Int32)).toNatClampNeg]? = some (.double A1) := Has.at H20 hin20 rfl
        refine own_go (fun _ => X16.daload hx (j := (1 : Int32)) (v := (.double A1)) (by rw [e16]; exact Ar20.1) (State.isArrayOf_alike hZ.alike Ar20.2.1) Ar20.2.2 hin20 hat20 (g := (mkF m 89 #[.val (.ref fo), .val (.int mm), .val (.int (2 : Int32)), .val (.ref ma), .val (.ref aa), .val (.int mb), .val (.long (1 : Int64)), .second, .val (.double rr_12), .second, .val (.int (((1 : Int32) <<< (mm &&& 31)) - (1 : Int32))), .val (.int (1 : Int32)), .val (.int M1)] [(.int (1 : Int32)), (.ref aa), (.double rr_12)])) rfl rfl (hb hby d4_89) _) ?_
        refine own_go (fun _ => XS.dcmpS X16.here hx rfl (hb hby d4_90) rfl (v := (0 : Int32)) (by rw [H12_0, if_pos ⟨hi4, hc18⟩]; exact dcmpV_self nA1 .l)) ?_
        show ∃ t o, Steps p.tables e below (T16.setTop (mkF m 91 #[.val (.ref fo), .val (.int mm), .val (.int (2 : Int32)), .val (.ref ma), .val (.ref aa), .val (.int mb), .val (.long (1 : Int64)), .second, .val (.double rr_12), .second, .val (.int (((1 : Int32) <<< (mm &&& 31)) - (1 : Int32))), .val (.int (1 : Int32)), .val (.int M1)] [(.int (0 : Int32))])) t ∧ _
        refine own_go (fun _ => XS.ifNo X16.here hx rfl (hb hby d4_91) rfl ((if0 _ _).trans (teq (by decide : (0 : Int32) = (0 : Int32))).2)) ?_
        refine own_go (fun _ => XS.iconst X16.here hx rfl (hb hby d4_94)) ?_
        refine own_go (fun _ => XS.goto X16.here hx rfl (pc0 := 95) (pc' := 99) rfl (hb hby d4_95) (by decide) (by decide)) ?_
        show ∃ t o, Steps p.tables e below (T16.setTop (mkF m 99 #[.val (.ref fo), .val (.int mm), .val (.int (2 : Int32)), .val (.ref ma), .val (.ref aa), .val (.int mb), .val (.long (1 : Int64)), .second, .val (.double rr_12), .second, .val (.int (((1 : Int32) <<< (mm &&& 31)) - (1 : Int32))), .val (.int (1 : Int32)), .val (.int M1)] [(.int (1 : Int32))])) t ∧ _
        have F21 : Exa Z h16 fo "com/example/holdback/holdback/sim/InFlight" := (Exa.wr W16 G12_0)
        have F22 : Fld Z h16 fo "com/example/holdback/holdback/sim/InFlight" "multicastAt" "[D" (.ref da) := (Fld.other W16 G12_1 (Or.inl nfm_))
        have F23 : Fld Z h16 fo "com/example/holdback/holdback/sim/InFlight" "deliveredBy" "[I" (.ref ia) := (Fld.other W16 G12_2 (Or.inl nfm_))
        have F24 : Fld Z h16 fo "com/example/holdback/holdback/sim/InFlight" "firstSeq" "J" (.long fq2_12) := (Fld.other W16 G12_3 (Or.inl nfm_))
        have F25 : Fld Z h16 fo "com/example/holdback/holdback/sim/InFlight" "everyone" "I" (.int (((1 : Int32) <<< (mm &&& 31)) - (1 : Int32))) := (Fld.other W16 G12_4 (Or.inl nfm_))
        have F26 : Fld Z h16 fo "com/example/holdback/holdback/sim/InFlight" "size" "I" (.int sz2_12) := (Fld.other W16 G12_5 (Or.inl nfm_))
        have F27 : Fld Z h16 fo "com/example/holdback/holdback/sim/InFlight" "first" "I" (.int fi2_12) := (Fld.other W16 G12_6 (Or.inl nfm_))
        have F28 : Arv Z h16 ia ki .int (16 : Int32) [(.int (M1 ||| ((1 : Int32) <<< (mb &&& 31)))), (.int M2)] (.int (0 : Int32)) := (Arv.other G12_7 W16 nim_)
        obtain ⟨fs, hr, hrun, hended, hW, hsame⟩ := X16.leave (v := some (.int (1 : Int32))) (fun h => by rw [Bd.returns] at h; cases h)
        refine ⟨_, _, ?_, hrun, hended, _, _, rfl, ?_, ⟨_, rfl⟩, hW, hsame.mono (by decide) (by decide)⟩
        · exact retN X16 hx (t := .boolean) Bd.returns (by simp) (hb hby d4_99) hr
        · show Q_rmCheck2 Z _ _ _ _ _ _ _ _ _ _ _ _ _ _ _ _ _ _ _ h0 n0 _ T16.heap _
          rw [e16]
          exact ⟨fi2_12, sz2_12, fq2_12, (M1 ||| ((1 : Int32) <<< (mb &&& 31))), M2, rfl, N16, K16, F21, F22, F23, F24, F25, F26, F27, F28, V16, H12_1⟩
      · refine own_go (fun _ => XS.icmpYes X16.here hx rfl (pc0 := 80) (pc' := 100) rfl (hb hby d4_80) rfl (feq hc18).2 (by decide) (by decide)) ?_
        refine own_go (fun _ => XS.dload X16.here hx rfl (hb hby d4_100) rfl) ?_
        refine own_go (fun _ => XS.dconst0 X16.here hx rfl (hb hby d4_102) rfl) ?_
        show ∃ t o, Steps p.tables e below (T16.setTop (mkF m 103 #[.val (.ref fo), .val (.int mm), .val (.int (2 : Int32)), .val (.ref ma), .val (.ref aa), .val (.int mb), .val (.long (1 : Int64)), .second, .val (.double rr_12), .second, .val (.int (((1 : Int32) <<< (mm &&& 31)) - (1 : Int32))), .val (.int (1 : Int32)), .val (.int M1)] [(.double FP.dconst0), (.double rr_12)])) t ∧ _
        refine own_go (fun _ => XS.dcmpS X16.here hx rfl (hb hby d4_103) rfl (v := (-1 : Int32)) (by rw [H12_0, if_neg (fun z => hc18 z.2)]; exact own_negd)) ?_
        show ∃ t o, Steps p.tables e below (T16.setTop (mkF m 104 #[.val (.ref fo), .val (.int mm), .val (.int (2 : Int32)), .val (.ref ma), .val (.ref aa), .val (.int mb), .val (.long (1 : Int64)), .second, .val (.double rr_12), .second, .val (.int (((1 : Int32) <<< (mm &&& 31)) - (1 : Int32))), .val (.int (1 : Int32)), .val (.int M1)] [(.int (-1 : Int32))])) t ∧ _
        refine own_go (fun _ => XS.ifNo X16.here hx rfl (hb hby d4_104) rfl ((if0 _ _).trans (tlt (by decide : (-1 : Int32) < (0 : Int32))).2.1)) ?_
        refine own_go (fun _ => XS.iconst X16.here hx rfl (hb hby d4_107)) ?_
        refine own_go (fun _ => XS.goto X16.here hx rfl (pc0 := 108) (pc' := 112) rfl (hb hby d4_108) (by decide) (by decide)) ?_
        show ∃ t o, Steps p.tables e below (T16.setTop (mkF m 112 #[.val (.ref fo), .val (.int mm), .val (.int (2 : Int32)), .val (.ref ma), .val (.ref aa), .val (.int mb), .val (.long (1 : Int64)), .second, .val (.double rr_12), .second, .val (.int (((1 : Int32) <<< (mm &&& 31)) - (1 : Int32))), .val (.int (1 : Int32)), .val (.int M1)] [(.int (1 : Int32))])) t ∧ _
        have F29 : Exa Z h16 fo "com/example/holdback/holdback/sim/InFlight" := (Exa.wr W16 G12_0)
        have F30 : Fld Z h16 fo "com/example/holdback/holdback/sim/InFlight" "multicastAt" "[D" (.ref da) := (Fld.other W16 G12_1 (Or.inl nfm_))
        have F31 : Fld Z h16 fo "com/example/holdback/holdback/sim/InFlight" "deliveredBy" "[I" (.ref ia) := (Fld.other W16 G12_2 (Or.inl nfm_))
        have F32 : Fld Z h16 fo "com/example/holdback/holdback/sim/InFlight" "firstSeq" "J" (.long fq2_12) := (Fld.other W16 G12_3 (Or.inl nfm_))
        have F33 : Fld Z h16 fo "com/example/holdback/holdback/sim/InFlight" "everyone" "I" (.int (((1 : Int32) <<< (mm &&& 31)) - (1 : Int32))) := (Fld.other W16 G12_4 (Or.inl nfm_))
        have F34 : Fld Z h16 fo "com/example/holdback/holdback/sim/InFlight" "size" "I" (.int sz2_12) := (Fld.other W16 G12_5 (Or.inl nfm_))
        have F35 : Fld Z h16 fo "com/example/holdback/holdback/sim/InFlight" "first" "I" (.int fi2_12) := (Fld.other W16 G12_6 (Or.inl nfm_))
        have F36 : Arv Z h16 ia ki .int (16 : Int32) [(.int (M1 ||| ((1 : Int32) <<< (mb &&& 31)))), (.int M2)] (.int (0 : Int32)) := (Arv.other G12_7 W16 nim_)
        obtain ⟨fs, hr, hrun, hended, hW, hsame⟩ := X16.leave (v := some (.int (1 : Int32))) (fun h => by rw [Bd.returns] at h; cases h)
        refine ⟨_, _, ?_, hrun, hended, _, _, rfl, ?_, ⟨_, rfl⟩, hW, hsame.mono (by decide) (by decide)⟩
        · exact retN X16 hx (t := .boolean) Bd.returns (by simp) (hb hby d4_112) hr
        · show Q_rmCheck2 Z _ _ _ _ _ _ _ _ _ _ _ _ _ _ _ _ _ _ _ h0 n0 _ T16.heap _
          rw [e16]
          exact ⟨fi2_12, sz2_12, fq2_12, (M1 ||| ((1 : Int32) <<< (mb &&& 31))), M2, rfl, N16, K16, F29, F30, F31, F32, F33, F34, F35, F36, V16, H12_1⟩
    · subst hq
      show ∃ t o, Steps p.tables e below (s₁.setTop (mkF m 0 #[.val (.ref fo), .val (.int mm), .val (.int (2 : Int32)), .val (.ref ma), .val (.ref aa), .val (.int mb), .val (.long (2 : Int64)), .second, .unset, .unset, .unset, .unset, .unset] [])) t ∧ _
      refine own_go (fun _ => XS.aloadN X0.here hx rfl (hb hby d4_0) rfl rfl) ?_
      refine own_go (fun _ => XS.iload X0.here hx rfl (hb hby d4_1) rfl) ?_
      refine own_go (fun _ => XS.lload X0.here hx rfl (hb hby d4_3) rfl) ?_
      show ∃ t o, Steps p.tables e below (s₁.setTop (mkF m 5 #[.val (.ref fo), .val (.int mm), .val (.int (2 : Int32)), .val (.ref ma), .val (.ref aa), .val (.int mb), .val (.long (2 : Int64)), .second, .unset, .unset, .unset, .unset, .unset] [(.long (2 : Int64)), (.int mb), (.ref fo)])) t ∧ _
      obtain ⟨cq37, kq37, q37a, q37b, q37c⟩ := isOf hZ e0 P1
      obtain ⟨_, _, ⟨T37, L37, k37, n37⟩, -, X37, ⟨Lc37, hQ37, l37, y37, z37⟩, st37⟩ := X0.virtualBack hx (y := (⟨"com/example/holdback/holdback/sim/InFlight", "delivered", "(IJ)D"⟩ : MethodName)) (z := (⟨"com/example/holdback/holdback/sim/InFlight", "delivered", "(IJ)D"⟩ : MethodName)) hown (mvT hZ (hw _ (List.mem_of_getElem? (i := 34) rfl))) (mvT hZ (hw _ (List.mem_of_getElem? (i := 35) rfl))) (notFace_of_selects (args := #[]) (mvT hZ (hw _ (List.mem_of_getElem? (i := 37) rfl)))) (mvT hZ (hw _ (List.mem_of_getElem? (i := 37) rfl))) (mvT hZ (hw _ (List.mem_of_getElem? (i := 36) rfl))) (by decide) (backOf (W := 0) (rmV3 l Z a0 hw [] fo da ia kd ki ((((1 : Int32) <<< (mm &&& 31)) - (1 : Int32))) M1 M2 A1 A2 mb h0 n0 Z0 P1 P2 P3 P4 P5 P6 P7 P8 P9 OLD gf gd gi nfd nfi ndi ndf nif nid (hi4 : ¬ (M1 = (((1 : Int32) <<< (mm &&& 31)) - (1 : Int32))))) hZ (hw _ (List.mem_of_getElem? (i := 38) rfl)) (hw _ (List.mem_of_getElem? (i := 6) rfl)) (by decide) (by decide)) q37a q37c (g := (mkF m 5 #[.val (.ref fo), .val (.int mm), .val (.int (2 : Int32)), .val (.ref ma), .val (.ref aa), .val (.int mb), .val (.long (2 : Int64)), .second, .unset, .unset, .unset, .unset, .unset] [(.long (2 : Int64)), (.int mb), (.ref fo)])) rfl (by rw [hml]; rfl) (Steps.refl _) (argsL := [(.int mb), (.long (2 : Int64))]) (rest := []) (lenOf pd__28IJ_29D rfl) rfl (by show 2 * 0 + _ ≤ _; exact Nat.le_of_eq rfl) (hb hby d4_5) (fun _ _ => ⟨rfl, e0, (by decide : 0 + 0 ≤ _), (by decide : 0 + 0 ≤ _)⟩)
      dsimp only [Pt.U, Pt.locs, Pt.cells, Pt.slots] at X37 l37 y37 z37 st37 hQ37
      subst l37 y37 z37
      obtain ⟨rr_37, fi2_37, sz2_37, fq2_37, rfl, Nq37, Kp37, G37_0, G37_1, G37_2, G37_3, G37_4, G37_5, G37_6, G37_7, H37_0, H37_1⟩ := hQ37
      have N37 := Fr.app N0 Nq37
      refine own_goT st37 ?_
      have le_37 : h0.size ≤ T37.heap.size := Kp37.1
      have K37 : Keep h0 T37.heap [fo, ia, ma] := Keep.trans (Keep.refl h0 [fo, ia, ma]) Kp37 (allS (Or.inl (List.mem_of_getElem? (i := 0) rfl)) (allS (Or.inl (List.mem_of_getElem? (i := 1) rfl)) all0))
      refine own_go (fun _ => XS.dstore X37.here hx rfl (hb hby d4_8) rfl (l' := #[.val (.ref fo), .val (.int mm), .val (.int (2 : Int32)), .val (.ref ma), .val (.ref aa), .val (.int mb), .val (.long (2 : Int64)), .second, .val (.double rr_37), .second, .unset, .unset, .unset]) rfl) ?_
      refine own_go (fun _ => XS.iconst X37.here hx rfl (hb hby d4_10)) ?_
      show ∃ t o, Steps p.tables e below (T37.setTop (mkF m 11 #[.val (.ref fo), .val (.int mm), .val (.int (2 : Int32)), .val (.ref ma), .val (.ref aa), .val (.int mb), .val (.long (2 : Int64)), .second, .val (.double rr_37), .second, .unset, .unset, .unset] [(.int (1 : Int32))])) t ∧ _
      refine own_go (fun _ => XS.iloadN X37.here hx rfl (hb hby d4_11) rfl) ?_
      refine own_go (fun _ => XS.ishl X37.here hx rfl (hb hby d4_12) rfl) ?_
      refine own_go (fun _ => XS.iconst X37.here hx rfl (hb hby d4_13)) ?_
      show ∃ t o, Steps p.tables e below (T37.setTop (mkF m 14 #[.val (.ref fo), .val (.int mm), .val (.int (2 : Int32)), .val (.ref ma), .val (.ref aa), .val (.int mb), .val (.long (2 : Int64)), .second, .val (.double rr_37), .second, .unset, .unset, .unset] [(.int (1 : Int32)), (.int ((1 : Int32) <<< (mm &&& 31)))])) t ∧ _
      refine own_go (fun _ => XS.isub X37.here hx rfl (hb hby d4_14) rfl) ?_
      refine own_go (fun _ => XS.istore X37.here hx rfl (hb hby d4_15) rfl (l' := #[.val (.ref fo), .val (.int mm), .val (.int (2 : Int32)), .val (.ref ma), .val (.ref aa), .val (.int mb), .val (.long (2 : Int64)), .second, .val (.double rr_37), .second, .val (.int (((1 : Int32) <<< (mm &&& 31)) - (1 : Int32))), .unset, .unset]) rfl) ?_
      refine own_go (fun _ => XS.lload X37.here hx rfl (hb hby d4_17) rfl) ?_
      show ∃ t o, Steps p.tables e below (T37.setTop (mkF m 19 #[.val (.ref fo), .val (.int mm), .val (.int (2 : Int32)), .val (.ref ma), .val (.ref aa), .val (.int mb), .val (.long (2 : Int64)), .second, .val (.double rr_37), .second, .val (.int (((1 : Int32) <<< (mm &&& 31)) - (1 : Int32))), .unset, .unset] [(.long (2 : Int64))])) t ∧ _
      refine own_go (fun _ => XS.lconst X37.here hx rfl (hb hby d4_19)) ?_
      refine own_go (fun _ => XS.lcmp X37.here hx rfl (hb hby d4_20) rfl) ?_
      show ∃ t o, Steps p.tables e below (T37.setTop (mkF m 21 #[.val (.ref fo), .val (.int mm), .val (.int (2 : Int32)), .val (.ref ma), .val (.ref aa), .val (.int mb), .val (.long (2 : Int64)), .second, .val (.double rr_37), .second, .val (.int (((1 : Int32) <<< (mm &&& 31)) - (1 : Int32))), .unset, .unset] [(.int (lcmpW (2 : Int64) (1 : Int64)))])) t ∧ _
      refine own_go (fun _ => XS.ifNo X37.here hx rfl (hb hby d4_21) rfl ((if0 _ _).trans (flt (mt (lw_lt _ _).mp (by decide : ¬ ((2 : Int64) < (1 : Int64))))).1)) ?_
      refine own_go (fun _ => XS.lload X37.here hx rfl (hb hby d4_24) rfl) ?_
      refine own_go (fun _ => XS.iloadN X37.here hx rfl (hb hby d4_26) rfl) ?_
      show ∃ t o, Steps p.tables e below (T37.setTop (mkF m 27 #[.val (.ref fo), .val (.int mm), .val (.int (2 : Int32)), .val (.ref ma), .val (.ref aa), .val (.int mb), .val (.long (2 : Int64)), .second, .val (.double rr_37), .second, .val (.int (((1 : Int32) <<< (mm &&& 31)) - (1 : Int32))), .unset, .unset] [(.int (2 : Int32)), (.long (2 : Int64))])) t ∧ _
      refine own_go (fun _ => XS.i2l X37.here hx rfl (hb hby d4_27) rfl) ?_
      refine own_go (fun _ => XS.lcmp X37.here hx rfl (hb hby d4_28) rfl) ?_
      show ∃ t o, Steps p.tables e below (T37.setTop (mkF m 29 #[.val (.ref fo), .val (.int mm), .val (.int (2 : Int32)), .val (.ref ma), .val (.ref aa), .val (.int mb), .val (.long (2 : Int64)), .second, .val (.double rr_37), .second, .val (.int (((1 : Int32) <<< (mm &&& 31)) - (1 : Int32))), .unset, .unset] [(.int (lcmpW (2 : Int64) (2 : Int64)))])) t ∧ _
      refine own_go (fun _ => XS.ifYes X37.here hx rfl (pc0 := 29) (pc' := 45) rfl (hb hby d4_29) rfl ((if0 _ _).trans (flt (mt (lw_gt _ _).mp (by decide : ¬ ((2 : Int64) < (2 : Int64))))).2.2.2) (by decide) (by decide)) ?_
      refine own_go (fun _ => XS.lload X37.here hx rfl (hb hby d4_45) rfl) ?_
      refine own_go (fun _ => XS.l2i X37.here hx rfl (hb hby d4_47) rfl) ?_
      show ∃ t o, Steps p.tables e below (T37.setTop (mkF m 48 #[.val (.ref fo), .val (.int mm), .val (.int (2 : Int32)), .val (.ref ma), .val (.ref aa), .val (.int mb), .val (.long (2 : Int64)), .second, .val (.double rr_37), .second, .val (.int (((1 : Int32) <<< (mm &&& 31)) - (1 : Int32))), .unset, .unset] [(.int (2 : Int32))])) t ∧ _
      refine own_go (fun _ => XS.istore X37.here hx rfl (hb hby d4_48) rfl (l' := #[.val (.ref fo), .val (.int mm), .val (.int (2 : Int32)), .val (.ref ma), .val (.ref aa), .val (.int mb), .val (.long (2 : Int64)), .second, .val (.double rr_37), .second, .val (.int (((1 : Int32) <<< (mm &&& 31)) - (1 : Int32))), .val (.int (2 : Int32)), .unset]) rfl) ?_
      refine own_go (fun _ => XS.aloadN X37.here hx rfl (hb hby d4_50) rfl rfl) ?_
      refine own_go (fun _ => XS.iload X37.here hx rfl (hb hby d4_51) rfl) ?_
      show ∃ t o, Steps p.tables e below (T37.setTop (mkF m 53 #[.val (.ref fo), .val (.int mm), .val (.int (2 : Int32)), .val (.ref ma), .val (.ref aa), .val (.int mb), .val (.long (2 : Int64)), .second, .val (.double rr_37), .second, .val (.int (((1 : Int32) <<< (mm &&& 31)) - (1 : Int32))), .val (.int (2 : Int32)), .unset] [(.int (2 : Int32)), (.ref ma)])) t ∧ _
      have F38 : Arv Z T37.heap ma km .int (3 : Int32) [(.int (0 : Int32)), (.int M1), (.int M2)] (.int (0 : Int32)) := (Arv.keep P10 Kp37 (ninS nmf_ (ninS nmi_ nin0)))
      obtain ⟨cl39, Ar39, q39, S39, N39, H39, G39⟩ := id F38
      have hin39 : ¬ ((2 : Int32) < 0 ∨ cl39.slots.size ≤ ((2 : Int32)).toNatClampNeg) := inb_of S39 ⟨by decide, by decide⟩
      have hat39 : cl39.slots[((2 : Int32)).toNatClampNeg]? = some (.int M2) := Has.at H39 hin39 rfl
      refine own_go (fun _ => X37.iaload hx (j := (2 : Int32)) (v := (.int M2)) Ar39.1 (State.isArrayOf_alike hZ.alike Ar39.2.1) Ar39.2.2 hin39 hat39 (g := (mkF m 53 #[.val (.ref fo), .val (.int mm), .val (.int (2 : Int32)), .val (.ref ma), .val (.ref aa), .val (.int mb), .val (.long (2 : Int64)), .second, .val (.double rr_37), .second, .val (.int (((1 : Int32) <<< (mm &&& 31)) - (1 : Int32))), .val (.int (2 : Int32)), .unset] [(.int (2 : Int32)), (.ref ma)])) rfl rfl (hb hby d4_53) _) ?_
      refine own_go (fun _ => XS.istore X37.here hx rfl (hb hby d4_54) rfl (l' := #[.val (.ref fo), .val (.int mm), .val (.int (2 : Int32)), .val (.ref ma), .val (.ref aa), .val (.int mb), .val (.long (2 : Int64)), .second, .val (.double rr_37), .second, .val (.int (((1 : Int32) <<< (mm &&& 31)) - (1 : Int32))), .val (.int (2 : Int32)), .val (.int M2)]) rfl) ?_
      refine own_go (fun _ => XS.aloadN X37.here hx rfl (hb hby d4_56) rfl rfl) ?_
      show ∃ t o, Steps p.tables e below (T37.setTop (mkF m 57 #[.val (.ref fo), .val (.int mm), .val (.int (2 : Int32)), .val (.ref ma), .val (.ref aa), .val (.int mb), .val (.long (2 : Int64)), .second, .val (.double rr_37), .second, .val (.int (((1 : Int32) <<< (mm &&& 31)) - (1 : Int32))), .val (.int (2 : Int32)), .val (.int M2)] [(.ref ma)])) t ∧ _
      refine own_go (fun _ => XS.iload X37.here hx rfl (hb hby d4_57) rfl) ?_
      refine own_go (fun _ => XS.iload X37.here hx rfl (hb hby d4_59) rfl) ?_
      refine own_go (fun _ => XS.iconst X37.here hx rfl (hb hby d4_61)) ?_
      show ∃ t o, Steps p.tables e below (T37.setTop (mkF m 62 #[.val (.ref fo), .val (.int mm), .val (.int (2 : Int32)), .val (.ref ma), .val (.ref aa), .val (.int mb), .val (.long (2 : Int64)), .second, .val (.double rr_37), .second, .val (.int (((1 : Int32) <<< (mm &&& 31)) - (1 : Int32))), .val (.int (2 : Int32)), .val (.int M2)] [(.int (1 : Int32)), (.int M2), (.int (2 : Int32)), (.ref ma)])) t ∧ _
      refine own_go (fun _ => XS.iload X37.here hx rfl (hb hby d4_62) rfl) ?_
      refine own_go (fun _ => XS.ishl X37.here hx rfl (hb hby d4_64) rfl) ?_
      refine own_go (fun _ => XS.ior X37.here hx rfl (hb hby d4_65) rfl) ?_
      show ∃ t o, Steps p.tables e below (T37.setTop (mkF m 66 #[.val (.ref fo), .val (.int mm), .val (.int (2 : Int32)), .val (.ref ma), .val (.ref aa), .val (.int mb), .val (.long (2 : Int64)), .second, .val (.double rr_37), .second, .val (.int (((1 : Int32) <<< (mm &&& 31)) - (1 : Int32))), .val (.int (2 : Int32)), .val (.int M2)] [(.int (M2 ||| ((1 : Int32) <<< (mb &&& 31)))), (.int (2 : Int32)), (.ref ma)])) t ∧ _
      obtain ⟨cl40, Ar40, q40, S40, N40, H40, G40⟩ := id F38
      have hin40 : ¬ ((2 : Int32) < 0 ∨ cl40.slots.size ≤ ((2 : Int32)).toNatClampNeg) := inb_of S40 ⟨by decide, by decide⟩
      obtain ⟨T41, h41, X41, e41, W41, st41⟩ := stI X37 hx hZ rfl Ar40 (j := (2 : Int32)) hin40 (g := (mkF m 66 #[.val (.ref fo), .val (.int mm), .val (.int (2 : Int32)), .val (.ref ma), .val (.ref aa), .val (.int mb), .val (.long (2 : Int64)), .second, .val (.double rr_37), .second, .val (.int (((1 : Int32) <<< (mm &&& 31)) - (1 : Int32))), .val (.int (2 : Int32)), .val (.int M2)] [(.int (M2 ||| ((1 : Int32) <<< (mb &&& 31)))), (.int (2 : Int32)), (.ref ma)])) rfl rfl (hb hby d4_66)
      refine own_go st41 ?_
      have le_41 : T37.heap.size ≤ h41.size := Nat.le_of_eq W41.size.symm
      have K41 : Keep h0 h41 [fo, ia, ma] := Keep.wr K37 W41 (Or.inl (List.mem_of_getElem? (i := 2) rfl))
      have N41 := Fr.snoc X41 N37 gm
      have V41 : Arv Z h41 ma km .int (3 : Int32) [(.int (0 : Int32)), (.int M1), (.int (M2 ||| ((1 : Int32) <<< (mb &&& 31))))] (.int (0 : Int32)) := Arv.set Ar40 q40 S40 N40 H40 G40 rfl W41 2 rfl (Nat.le_of_ble_eq_true rfl)
      refine own_go (fun _ => XS.iload X41.here hx rfl (hb hby d4_67) rfl) ?_
      refine own_go (fun _ => XS.iload X41.here hx rfl (hb hby d4_69) rfl) ?_
      show ∃ t o, Steps p.tables e below (T41.setTop (mkF m 71 #[.val (.ref fo), .val (.int mm), .val (.int (2 : Int32)), .val (.ref ma), .val (.ref aa), .val (.int mb), .val (.long (2 : Int64)), .second, .val (.double rr_37), .second, .val (.int (((1 : Int32) <<< (mm &&& 31)) - (1 : Int32))), .val (.int (2 : Int32)), .val (.int M2)] [(.int (((1 : Int32) <<< (mm &&& 31)) - (1 : Int32))), (.int M2)])) t ∧ _
      by_cases hc42 : M2 = (((1 : Int32) <<< (mm &&& 31)) - (1 : Int32))
      · refine own_go (fun _ => XS.icmpYes X41.here hx rfl (pc0 := 71) (pc' := 100) rfl (hb hby d4_71) rfl (teq hc42).1 (by decide) (by decide)) ?_
        refine own_go (fun _ => XS.dload X41.here hx rfl (hb hby d4_100) rfl) ?_
        refine own_go (fun _ => XS.dconst0 X41.here hx rfl (hb hby d4_102) rfl) ?_
        show ∃ t o, Steps p.tables e below (T41.setTop (mkF m 103 #[.val (.ref fo), .val (.int mm), .val (.int (2 : Int32)), .val (.ref ma), .val (.ref aa), .val (.int mb), .val (.long (2 : Int64)), .second, .val (.double rr_37), .second, .val (.int (((1 : Int32) <<< (mm &&& 31)) - (1 : Int32))), .val (.int (2 : Int32)), .val (.int M2)] [(.double FP.dconst0), (.double rr_37)])) t ∧ _
        refine own_go (fun _ => XS.dcmpS X41.here hx rfl (hb hby d4_103) rfl (v := (-1 : Int32)) (by rw [H37_0, if_neg (fun z => z.1 hc42)]; exact own_negd)) ?_
        show ∃ t o, Steps p.tables e below (T41.setTop (mkF m 104 #[.val (.ref fo), .val (.int mm), .val (.int (2 : Int32)), .val (.ref ma), .val (.ref aa), .val (.int mb), .val (.long (2 : Int64)), .second, .val (.double rr_37), .second, .val (.int (((1 : Int32) <<< (mm &&& 31)) - (1 : Int32))), .val (.int (2 : Int32)), .val (.int M2)] [(.int (-1 : Int32))])) t ∧ _
        refine own_go (fun _ => XS.ifNo X41.here hx rfl (hb hby d4_104) rfl ((if0 _ _).trans (tlt (by decide : (-1 : Int32) < (0 : Int32))).2.1)) ?_
        refine own_go (fun _ => XS.iconst X41.here hx rfl (hb hby d4_107)) ?_
        refine own_go (fun _ => XS.goto X41.here hx rfl (pc0 := 108) (pc' := 112) rfl (hb hby d4_108) (by decide) (by decide)) ?_
        show ∃ t o, Steps p.tables e below (T41.setTop (mkF m 112 #[.val (.ref fo), .val (.int mm), .val (.int (2 : Int32)), .val (.ref ma), .val (.ref aa), .val (.int mb), .val (.long (2 : Int64)), .second, .val (.double rr_37), .second, .val (.int (((1 : Int32) <<< (mm &&& 31)) - (1 : Int32))), .val (.int (2 : Int32)), .val (.int M2)] [(.int (1 : Int32))])) t ∧ _
        have F43 : Exa Z h41 fo "com/example/holdback/holdback/sim/InFlight" := (Exa.wr W41 G37_0)
        have F44 : Fld Z h41 fo "com/example/holdback/holdback/sim/InFlight" "multicastAt" "[D" (.ref da) := (Fld.other W41 G37_1 (Or.inl nfm_))
        have F45 : Fld Z h41 fo "com/example/holdback/holdback/sim/InFlight" "deliveredBy" "[I" (.ref ia) := (Fld.other W41 G37_2 (Or.inl nfm_))
        have F46 : Fld Z h41 fo "com/example/holdback/holdback/sim/InFlight" "firstSeq" "J" (.long fq2_37) := (Fld.other W41 G37_3 (Or.inl nfm_))
        have F47 : Fld Z h41 fo "com/example/holdback/holdback/sim/InFlight" "everyone" "I" (.int (((1 : Int32) <<< (mm &&& 31)) - (1 : Int32))) := (Fld.other W41 G37_4 (Or.inl nfm_))
        have F48 : Fld Z h41 fo "com/example/holdback/holdback/sim/InFlight" "size" "I" (.int sz2_37) := (Fld.other W41 G37_5 (Or.inl nfm_))
        have F49 : Fld Z h41 fo "com/example/holdback/holdback/sim/InFlight" "first" "I" (.int fi2_37) := (Fld.other W41 G37_6 (Or.inl nfm_))
        have F50 : Arv Z h41 ia ki .int (16 : Int32) [(.int M1), (.int (M2 ||| ((1 : Int32) <<< (mb &&& 31))))] (.int (0 : Int32)) := (Arv.other G37_7 W41 nim_)
        obtain ⟨fs, hr, hrun, hended, hW, hsame⟩ := X41.leave (v := some (.int (1 : Int32))) (fun h => by rw [Bd.returns] at h; cases h)
        refine ⟨_, _, ?_, hrun, hended, _, _, rfl, ?_, ⟨_, rfl⟩, hW, hsame.mono (by decide) (by decide)⟩
        · exact retN X41 hx (t := .boolean) Bd.returns (by simp) (hb hby d4_112) hr
        · show Q_rmCheck2 Z _ _ _ _ _ _ _ _ _ _ _ _ _ _ _ _ _ _ _ h0 n0 _ T41.heap _
          rw [e41]
          exact ⟨fi2_37, sz2_37, fq2_37, M1, (M2 ||| ((1 : Int32) <<< (mb &&& 31))), rfl, N41, K41, F43, F44, F45, F46, F47, F48, F49, F50, V41, H37_1⟩
      · refine own_go (fun _ => XS.icmpNo X41.here hx rfl (hb hby d4_71) rfl (feq hc42).1) ?_
        refine own_go (fun _ => XS.aloadN X41.here hx rfl (hb hby d4_74) rfl rfl) ?_
        refine own_go (fun _ => XS.iload X41.here hx rfl (hb hby d4_75) rfl) ?_
        show ∃ t o, Steps p.tables e below (T41.setTop (mkF m 77 #[.val (.ref fo), .val (.int mm), .val (.int (2 : Int32)), .val (.ref ma), .val (.ref aa), .val (.int mb), .val (.long (2 : Int64)), .second, .val (.double rr_37), .second, .val (.int (((1 : Int32) <<< (mm &&& 31)) - (1 : Int32))), .val (.int (2 : Int32)), .val (.int M2)] [(.int (2 : Int32)), (.ref ma)])) t ∧ _
        obtain ⟨cl51, Ar51, q51, S51, N51, H51, G51⟩ := id V41
        have hin51 : ¬ ((2 : Int32) < 0 ∨ cl51.slots.size ≤ ((2 : Int32)).toNatClampNeg) := inb_of S51 ⟨by decide, by decide⟩
        have hat51 : cl51.slots[((2 : Int32)).toNatClampNeg]? = some (.int (M2 ||| ((1 : Int32) <<< (mb &&& 31)))) := Has.at H51 hin51 rfl
        refine own_go (fun _ => X41.iaload hx (j := (2 : Int32)) (v := (.int (M2 ||| ((1 : Int32) <<< (mb &&& 31))))) (by rw [e41]; exact Ar51.1) (State.isArrayOf_alike hZ.alike Ar51.2.1) Ar51.2.2 hin51 hat51 (g := (mkF m 77 #[.val (.ref fo), .val (.int mm), .val (.int (2 : Int32)), .val (.ref ma), .val (.ref aa), .val (.int mb), .val (.long (2 : Int64)), .second, .val (.double rr_37), .second, .val (.int (((1 : Int32) <<< (mm &&& 31)) - (1 : Int32))), .val (.int (2 : Int32)), .val (.int M2)] [(.int (2 : Int32)), (.ref ma)])) rfl rfl (hb hby d4_77) _) ?_
        refine own_go (fun _ => XS.iload X41.here hx rfl (hb hby d4_78) rfl) ?_
        show ∃ t o, Steps p.tables e below (T41.setTop (mkF m 80 #[.val (.ref fo), .val (.int mm), .val (.int (2 : Int32)), .val (.ref ma), .val (.ref aa), .val (.int mb), .val (.long (2 : Int64)), .second, .val (.double rr_37), .second, .val (.int (((1 : Int32) <<< (mm &&& 31)) - (1 : Int32))), .val (.int (2 : Int32)), .val (.int M2)] [(.int (((1 : Int32) <<< (mm &&& 31)) - (1 : Int32))), (.int (M2 ||| ((1 : Int32) <<< (mb &&& 31))))])) t ∧ _
        by_cases hc52 : (M2 ||| ((1 : Int32) <<< (mb &&& 31))) = (((1 : Int32) <<< (mm &&& 31)) - (1 : Int32))
        · refine own_go (fun _ => XS.icmpNo X41.here hx rfl (hb hby d4_80) rfl (teq hc52).2) ?_
          refine own_go (fun _ => XS.dload X41.here hx rfl (hb hby d4_83) rfl) ?_
          refine own_go (fun _ => XS.aload X41.here hx rfl (hb hby d4_85) rfl rfl) ?_
          show ∃ t o, Steps p.tables e below (T41.setTop (mkF m 87 #[.val (.ref fo), .val (.int mm), .val (.int (2 : Int32)), .val (.ref ma), .val (.ref aa), .val (.int mb), .val (.long (2 : Int64)), .second, .val (.double rr_37), .second, .val (.int (((1 : Int32) <<< (mm &&& 31)) - (1 : Int32))), .val (.int (2 : Int32)), .val (.int M2)] [(.ref aa), (.double rr_37)])) t ∧ _
          refine own_go (fun _ => XS.iload X41.here hx rfl (hb hby d4_87) rfl) ?_
          have F53 : Arv Z h41 aa ka .double (3 : Int32) [(.double (0 : UInt64)), (.double A1), (.double A2)] (.double (0 : UInt64)) := (Arv.other (Arv.keep P11 Kp37 (ninS naf_ (ninS nai_ nin0))) W41 nam_)
          obtain ⟨cl54, Ar54, q54, S54, N54, H54, G54⟩ := id F53
          have hin54 : ¬ ((2 : Int32) < 0 ∨ cl54.slots.size ≤ ((2 : Int32)).toNatClampNeg) := inb_of S54 ⟨by decide, by decide⟩
          have hat54 : cl54.slots[((2 : Int32)).toNatClampNeg]? = some (.double A2) := Has.at H54 hin54 rfl
          refine own_go (fun _ => X41.daload hx (j := (2 : Int32)) (v := (.double A2)) (by rw [e41]; exact Ar54.1) (State.isArrayOf_alike hZ.alike Ar54.2.1) Ar54.2.2 hin54 hat54 (g := (mkF m 89 #[.val (.ref fo), .val (.int mm), .val (.int (2 : Int32)), .val (.ref ma), .val (.ref aa), .val (.int mb), .val (.long (2 : Int64)), .second, .val (.double rr_37), .second, .val (.int (((1 : Int32) <<< (mm &&& 31)) - (1 : Int32))), .val (.int (2 : Int32)), .val (.int M2)] [(.int (2 : Int32)), (.ref aa), (.double rr_37)])) rfl rfl (hb hby d4_89) _) ?_
          refine own_go (fun _ => XS.dcmpS X41.here hx rfl (hb hby d4_90) rfl (v := (0 : Int32)) (by rw [H37_0, if_pos ⟨hc42, hc52⟩]; exact dcmpV_self nA2 .l)) ?_
          show ∃ t o, Steps p.tables e below (T41.setTop (mkF m 91 #[.val (.ref fo), .val (.int mm), .val (.int (2 : Int32)), .val (.ref ma), .val (.ref aa), .val (.int mb), .val (.long (2 : Int64)), .second, .val (.double rr_37), .second, .val (.int (((1 : Int32) <<< (mm &&& 31)) - (1 : Int32))), .val (.int (2 : Int32)), .val (.int M2)] [(.int (0 : Int32))])) t ∧ _
          refine own_go (fun _ => XS.ifNo X41.here hx rfl (hb hby d4_91) rfl ((if0 _ _).trans (teq (by decide : (0 : Int32) = (0 : Int32))).2)) ?_
          refine own_go (fun _ => XS.iconst X41.here hx rfl (hb hby d4_94)) ?_
          refine own_go (fun _ => XS.goto X41.here hx rfl (pc0 := 95) (pc' := 99) rfl (hb hby d4_95) (by decide) (by decide)) ?_
          show ∃ t o, Steps p.tables e below (T41.setTop (mkF m 99 #[.val (.ref fo), .val (.int mm), .val (.int (2 : Int32)), .val (.ref ma), .val (.ref aa), .val (.int mb), .val (.long (2 : Int64)), .second, .val (.double rr_37), .second, .val (.int (((1 : Int32) <<< (mm &&& 31)) - (1 : Int32))), .val (.int (2 : Int32)), .val (.int M2)] [(.int (1 : Int32))])) t ∧ _
          have F55 : Exa Z h41 fo "com/example/holdback/holdback/sim/InFlight" := (Exa.wr W41 G37_0)
          have F56 : Fld Z h41 fo "com/example/holdback/holdback/sim/InFlight" "multicastAt" "[D" (.ref da) := (Fld.other W41 G37_1 (Or.inl nfm_))
          have F57 : Fld Z h41 fo "com/example/holdback/holdback/sim/InFlight" "deliveredBy" "[I" (.ref ia) := (Fld.other W41 G37_2 (Or.inl nfm_))
          have F58 : Fld Z h41 fo "com/example/holdback/holdback/sim/InFlight" "firstSeq" "J" (.long fq2_37) := (Fld.other W41 G37_3 (Or.inl nfm_))
          have F59 : Fld Z h41 fo "com/example/holdback/holdback/sim/InFlight" "everyone" "I" (.int (((1 : Int32) <<< (mm &&& 31)) - (1 : Int32))) := (Fld.other W41 G37_4 (Or.inl nfm_))
          have F60 : Fld Z h41 fo "com/example/holdback/holdback/sim/InFlight" "size" "I" (.int sz2_37) := (Fld.other W41 G37_5 (Or.inl nfm_))
          have F61 : Fld Z h41 fo "com/example/holdback/holdback/sim/InFlight" "first" "I" (.int fi2_37) := (Fld.other W41 G37_6 (Or.inl nfm_))
          have F62 : Arv Z h41 ia ki .int (16 : Int32) [(.int M1), (.int (M2 ||| ((1 : Int32) <<< (mb &&& 31))))] (.int (0 : Int32)) := (Arv.other G37_7 W41 nim_)
          obtain ⟨fs, hr, hrun, hended, hW, hsame⟩ := X41.leave (v := some (.int (1 : Int32))) (fun h => by rw [Bd.returns] at h; cases h)
          refine ⟨_, _, ?_, hrun, hended, _, _, rfl, ?_, ⟨_, rfl⟩, hW, hsame.mono (by decide) (by decide)⟩
          · exact retN X41 hx (t := .boolean) Bd.returns (by simp) (hb hby d4_99) hr
          · show Q_rmCheck2 Z _ _ _ _ _ _ _ _ _ _ _ _ _ _ _ _ _ _ _ h0 n0 _ T41.heap _
            rw [e41]
            exact ⟨fi2_37, sz2_37, fq2_37, M1, (M2 ||| ((1 : Int32) <<< (mb &&& 31))), rfl, N41, K41, F55, F56, F57, F58, F59, F60, F61, F62, V41, H37_1⟩
        · refine own_go (fun _ => XS.icmpYes X41.here hx rfl (pc0 := 80) (pc' := 100) rfl (hb hby d4_80) rfl (feq hc52).2 (by decide) (by decide)) ?_
          refine own_go (fun _ => XS.dload X41.here hx rfl (hb hby d4_100) rfl) ?_
          refine own_go (fun _ => XS.dconst0 X41.here hx rfl (hb hby d4_102) rfl) ?_
          show ∃ t o, Steps p.tables e below (T41.setTop (mkF m 103 #[.val (.ref fo), .val (.int mm), .val (.int (2 : Int32)), .val (.ref ma), .val (.ref aa), .val (.int mb), .val (.long (2 : Int64)), .second, .val (.double rr_37), .second, .val (.int (((1 : Int32) <<< (mm &&& 31)) - (1 : Int32))), .val (.int (2 : Int32)), .val (.int M2)] [(.double FP.dconst0), (.double rr_37)])) t ∧ _
          refine own_go (fun _ => XS.dcmpS X41.here hx rfl (hb hby d4_103) rfl (v := (-1 : Int32)) (by rw [H37_0, if_neg (fun z => hc52 z.2)]; exact own_negd)) ?_
          show ∃ t o, Steps p.tables e below (T41.setTop (mkF m 104 #[.val (.ref fo), .val (.int mm), .val (.int (2 : Int32)), .val (.ref ma), .val (.ref aa), .val (.int mb), .val (.long (2 : Int64)), .second, .val (.double rr_37), .second, .val (.int (((1 : Int32) <<< (mm &&& 31)) - (1 : Int32))), .val (.int (2 : Int32)), .val (.int M2)] [(.int (-1 : Int32))])) t ∧ _
          refine own_go (fun _ => XS.ifNo X41.here hx rfl (hb hby d4_104) rfl ((if0 _ _).trans (tlt (by decide : (-1 : Int32) < (0 : Int32))).2.1)) ?_
          refine own_go (fun _ => XS.iconst X41.here hx rfl (hb hby d4_107)) ?_
          refine own_go (fun _ => XS.goto X41.here hx rfl (pc0 := 108) (pc' := 112) rfl (hb hby d4_108) (by decide) (by decide)) ?_
          show ∃ t o, Steps p.tables e below (T41.setTop (mkF m 112 #[.val (.ref fo), .val (.int mm), .val (.int (2 : Int32)), .val (.ref ma), .val (.ref aa), .val (.int mb), .val (.long (2 : Int64)), .second, .val (.double rr_37), .second, .val (.int (((1 : Int32) <<< (mm &&& 31)) - (1 : Int32))), .val (.int (2 : Int32)), .val (.int M2)] [(.int (1 : Int32))])) t ∧ _
          have F63 : Exa Z h41 fo "com/example/holdback/holdback/sim/InFlight" := (Exa.wr W41 G37_0)
          have F64 : Fld Z h41 fo "com/example/holdback/holdback/sim/InFlight" "multicastAt" "[D" (.ref da) := (Fld.other W41 G37_1 (Or.inl nfm_))
          have F65 : Fld Z h41 fo "com/example/holdback/holdback/sim/InFlight" "deliveredBy" "[I" (.ref ia) := (Fld.other W41 G37_2 (Or.inl nfm_))
          have F66 : Fld Z h41 fo "com/example/holdback/holdback/sim/InFlight" "firstSeq" "J" (.long fq2_37) := (Fld.other W41 G37_3 (Or.inl nfm_))
          have F67 : Fld Z h41 fo "com/example/holdback/holdback/sim/InFlight" "everyone" "I" (.int (((1 : Int32) <<< (mm &&& 31)) - (1 : Int32))) := (Fld.other W41 G37_4 (Or.inl nfm_))
          have F68 : Fld Z h41 fo "com/example/holdback/holdback/sim/InFlight" "size" "I" (.int sz2_37) := (Fld.other W41 G37_5 (Or.inl nfm_))
          have F69 : Fld Z h41 fo "com/example/holdback/holdback/sim/InFlight" "first" "I" (.int fi2_37) := (Fld.other W41 G37_6 (Or.inl nfm_))
          have F70 : Arv Z h41 ia ki .int (16 : Int32) [(.int M1), (.int (M2 ||| ((1 : Int32) <<< (mb &&& 31))))] (.int (0 : Int32)) := (Arv.other G37_7 W41 nim_)
          obtain ⟨fs, hr, hrun, hended, hW, hsame⟩ := X41.leave (v := some (.int (1 : Int32))) (fun h => by rw [Bd.returns] at h; cases h)
          refine ⟨_, _, ?_, hrun, hended, _, _, rfl, ?_, ⟨_, rfl⟩, hW, hsame.mono (by decide) (by decide)⟩
          · exact retN X41 hx (t := .boolean) Bd.returns (by simp) (hb hby d4_112) hr
          · show Q_rmCheck2 Z _ _ _ _ _ _ _ _ _ _ _ _ _ _ _ _ _ _ _ h0 n0 _ T41.heap _
            rw [e41]
            exact ⟨fi2_37, sz2_37, fq2_37, M1, (M2 ||| ((1 : Int32) <<< (mb &&& 31))), rfl, N41, K41, F63, F64, F65, F66, F67, F68, F69, F70, V41, H37_1⟩
    · show ∃ t o, Steps p.tables e below (s₁.setTop (mkF m 0 #[.val (.ref fo), .val (.int mm), .val (.int (2 : Int32)), .val (.ref ma), .val (.ref aa), .val (.int mb), .val (.long sq), .second, .unset, .unset, .unset, .unset, .unset] [])) t ∧ _
      refine own_go (fun _ => XS.aloadN X0.here hx rfl (hb hby d4_0) rfl rfl) ?_
      refine own_go (fun _ => XS.iload X0.here hx rfl (hb hby d4_1) rfl) ?_
      refine own_go (fun _ => XS.lload X0.here hx rfl (hb hby d4_3) rfl) ?_
      show ∃ t o, Steps p.tables e below (s₁.setTop (mkF m 5 #[.val (.ref fo), .val (.int mm), .val (.int (2 : Int32)), .val (.ref ma), .val (.ref aa), .val (.int mb), .val (.long sq), .second, .unset, .unset, .unset, .unset, .unset] [(.long sq), (.int mb), (.ref fo)])) t ∧ _
      obtain ⟨cq71, kq71, q71a, q71b, q71c⟩ := isOf hZ e0 P1
      obtain ⟨_, _, ⟨T71, L71, k71, n71⟩, -, X71, ⟨Lc71, hQ71, l71, y71, z71⟩, st71⟩ := X0.virtualBack hx (y := (⟨"com/example/holdback/holdback/sim/InFlight", "delivered", "(IJ)D"⟩ : MethodName)) (z := (⟨"com/example/holdback/holdback/sim/InFlight", "delivered", "(IJ)D"⟩ : MethodName)) hown (mvT hZ (hw _ (List.mem_of_getElem? (i := 34) rfl))) (mvT hZ (hw _ (List.mem_of_getElem? (i := 35) rfl))) (notFace_of_selects (args := #[]) (mvT hZ (hw _ (List.mem_of_getElem? (i := 37) rfl)))) (mvT hZ (hw _ (List.mem_of_getElem? (i := 37) rfl))) (mvT hZ (hw _ (List.mem_of_getElem? (i := 36) rfl))) (by decide) (backOf (W := 0) (rmOut l Z a0 hw [] fo (2 : Int32) (1 : Int64) mb sq h0 n0 Z0 P4 P6 OLD (own_out 1 2 rfl rfl (by decide) (by decide) (by decide) (by decide) (by omega) : (sq - (1 : Int64)) < (0 : Int64) ∨ ¬ ((sq - (1 : Int64)) < (2 : Int32).toInt64))) hZ (hw _ (List.mem_of_getElem? (i := 38) rfl)) (hw _ (List.mem_of_getElem? (i := 6) rfl)) (by decide) (by decide)) q71a q71c (g := (mkF m 5 #[.val (.ref fo), .val (.int mm), .val (.int (2 : Int32)), .val (.ref ma), .val (.ref aa), .val (.int mb), .val (.long sq), .second, .unset, .unset, .unset, .unset, .unset] [(.long sq), (.int mb), (.ref fo)])) rfl (by rw [hml]; rfl) (Steps.refl _) (argsL := [(.int mb), (.long sq)]) (rest := []) (lenOf pd__28IJ_29D rfl) rfl (by show 2 * 0 + _ ≤ _; exact Nat.le_of_eq rfl) (hb hby d4_5) (fun _ _ => ⟨rfl, e0, (by decide : 0 + 0 ≤ _), (by decide : 0 + 0 ≤ _)⟩)
      dsimp only [Pt.U, Pt.locs, Pt.cells, Pt.slots] at X71 l71 y71 z71 st71 hQ71
      subst l71 y71 z71
      obtain ⟨rfl, Nq71, e71⟩ := hQ71
      have N71 := Fr.app N0 Nq71
      refine own_goT st71 ?_
      refine own_go (fun _ => XS.dstore X71.here hx rfl (hb hby d4_8) rfl (l' := #[.val (.ref fo), .val (.int mm), .val (.int (2 : Int32)), .val (.ref ma), .val (.ref aa), .val (.int mb), .val (.long sq), .second, .val (.double (13830554455654793216 : UInt64)), .second, .unset, .unset, .unset]) rfl) ?_
      refine own_go (fun _ => XS.iconst X71.here hx rfl (hb hby d4_10)) ?_
      show ∃ t o, Steps p.tables e below (T71.setTop (mkF m 11 #[.val (.ref fo), .val (.int mm), .val (.int (2 : Int32)), .val (.ref ma), .val (.ref aa), .val (.int mb), .val (.long sq), .second, .val (.double (13830554455654793216 : UInt64)), .second, .unset, .unset, .unset] [(.int (1 : Int32))])) t ∧ _
      refine own_go (fun _ => XS.iloadN X71.here hx rfl (hb hby d4_11) rfl) ?_
      refine own_go (fun _ => XS.ishl X71.here hx rfl (hb hby d4_12) rfl) ?_
      refine own_go (fun _ => XS.iconst X71.here hx rfl (hb hby d4_13)) ?_
      show ∃ t o, Steps p.tables e below (T71.setTop (mkF m 14 #[.val (.ref fo), .val (.int mm), .val (.int (2 : Int32)), .val (.ref ma), .val (.ref aa), .val (.int mb), .val (.long sq), .second, .val (.double (13830554455654793216 : UInt64)), .second, .unset, .unset, .unset] [(.int (1 : Int32)), (.int ((1 : Int32) <<< (mm &&& 31)))])) t ∧ _
      refine own_go (fun _ => XS.isub X71.here hx rfl (hb hby d4_14) rfl) ?_
      refine own_go (fun _ => XS.istore X71.here hx rfl (hb hby d4_15) rfl (l' := #[.val (.ref fo), .val (.int mm), .val (.int (2 : Int32)), .val (.ref ma), .val (.ref aa), .val (.int mb), .val (.long sq), .second, .val (.double (13830554455654793216 : UInt64)), .second, .val (.int (((1 : Int32) <<< (mm &&& 31)) - (1 : Int32))), .unset, .unset]) rfl) ?_
      refine own_go (fun _ => XS.lload X71.here hx rfl (hb hby d4_17) rfl) ?_
      show ∃ t o, Steps p.tables e below (T71.setTop (mkF m 19 #[.val (.ref fo), .val (.int mm), .val (.int (2 : Int32)), .val (.ref ma), .val (.ref aa), .val (.int mb), .val (.long sq), .second, .val (.double (13830554455654793216 : UInt64)), .second, .val (.int (((1 : Int32) <<< (mm &&& 31)) - (1 : Int32))), .unset, .unset] [(.long sq)])) t ∧ _
      refine own_go (fun _ => XS.lconst X71.here hx rfl (hb hby d4_19)) ?_
      refine own_go (fun _ => XS.lcmp X71.here hx rfl (hb hby d4_20) rfl) ?_
      show ∃ t o, Steps p.tables e below (T71.setTop (mkF m 21 #[.val (.ref fo), .val (.int mm), .val (.int (2 : Int32)), .val (.ref ma), .val (.ref aa), .val (.int mb), .val (.long sq), .second, .val (.double (13830554455654793216 : UInt64)), .second, .val (.int (((1 : Int32) <<< (mm &&& 31)) - (1 : Int32))), .unset, .unset] [(.int (lcmpW sq (1 : Int64)))])) t ∧ _
      by_cases hc72 : sq < (1 : Int64)
      · refine own_go (fun _ => XS.ifYes X71.here hx rfl (pc0 := 21) (pc' := 32) rfl (hb hby d4_21) rfl ((if0 _ _).trans (tlt ((lw_lt _ _).mpr hc72)).1) (by decide) (by decide)) ?_
        refine own_go (fun _ => XS.dload X71.here hx rfl (hb hby d4_32) rfl) ?_
        refine own_go (fun _ => XS.dconst0 X71.here hx rfl (hb hby d4_34) rfl) ?_
        show ∃ t o, Steps p.tables e below (T71.setTop (mkF m 35 #[.val (.ref fo), .val (.int mm), .val (.int (2 : Int32)), .val (.ref ma), .val (.ref aa), .val (.int mb), .val (.long sq), .second, .val (.double (13830554455654793216 : UInt64)), .second, .val (.int (((1 : Int32) <<< (mm &&& 31)) - (1 : Int32))), .unset, .unset] [(.double FP.dconst0), (.double (13830554455654793216 : UInt64))])) t ∧ _
        refine own_go (fun _ => XS.dcmpS X71.here hx rfl (hb hby d4_35) rfl (v := (-1 : Int32)) own_negd) ?_
        show ∃ t o, Steps p.tables e below (T71.setTop (mkF m 36 #[.val (.ref fo), .val (.int mm), .val (.int (2 : Int32)), .val (.ref ma), .val (.ref aa), .val (.int mb), .val (.long sq), .second, .val (.double (13830554455654793216 : UInt64)), .second, .val (.int (((1 : Int32) <<< (mm &&& 31)) - (1 : Int32))), .unset, .unset] [(.int (-1 : Int32))])) t ∧ _
        refine own_go (fun _ => XS.ifNo X71.here hx rfl (hb hby d4_36) rfl ((if0 _ _).trans (tlt (by decide : (-1 : Int32) < (0 : Int32))).2.1)) ?_
        refine own_go (fun _ => XS.iconst X71.here hx rfl (hb hby d4_39)) ?_
        refine own_go (fun _ => XS.goto X71.here hx rfl (pc0 := 40) (pc' := 44) rfl (hb hby d4_40) (by decide) (by decide)) ?_
        show ∃ t o, Steps p.tables e below (T71.setTop (mkF m 44 #[.val (.ref fo), .val (.int mm), .val (.int (2 : Int32)), .val (.ref ma), .val (.ref aa), .val (.int mb), .val (.long sq), .second, .val (.double (13830554455654793216 : UInt64)), .second, .val (.int (((1 : Int32) <<< (mm &&& 31)) - (1 : Int32))), .unset, .unset] [(.int (1 : Int32))])) t ∧ _
        obtain ⟨fs, hr, hrun, hended, hW, hsame⟩ := X71.leave (v := some (.int (1 : Int32))) (fun h => by rw [Bd.returns] at h; cases h)
        refine ⟨_, _, ?_, hrun, hended, _, _, rfl, ?_, ⟨_, rfl⟩, hW, hsame.mono (by decide) (by decide)⟩
        · exact retN X71 hx (t := .boolean) Bd.returns (by simp) (hb hby d4_44) hr
        · show Q_rmCheck2 Z _ _ _ _ _ _ _ _ _ _ _ _ _ _ _ _ _ _ _ h0 n0 _ T71.heap _
          rw [e71]
          exact ⟨(0 : Int32), (2 : Int32), (1 : Int64), M1, M2, rfl, N71, (Keep.refl h0 [fo, ia, ma]), P1, P2, P3, P4, P5, P6, P7, P9, P10, (Or.inl ⟨rfl, rfl, rfl, hi4⟩)⟩
      · refine own_go (fun _ => XS.ifNo X71.here hx rfl (hb hby d4_21) rfl ((if0 _ _).trans (flt (mt (lw_lt _ _).mp hc72)).1)) ?_
        refine own_go (fun _ => XS.lload X71.here hx rfl (hb hby d4_24) rfl) ?_
        refine own_go (fun _ => XS.iloadN X71.here hx rfl (hb hby d4_26) rfl) ?_
        show ∃ t o, Steps p.tables e below (T71.setTop (mkF m 27 #[.val (.ref fo), .val (.int mm), .val (.int (2 : Int32)), .val (.ref ma), .val (.ref aa), .val (.int mb), .val (.long sq), .second, .val (.double (13830554455654793216 : UInt64)), .second, .val (.int (((1 : Int32) <<< (mm &&& 31)) - (1 : Int32))), .unset, .unset] [(.int (2 : Int32)), (.long sq)])) t ∧ _
        refine own_go (fun _ => XS.i2l X71.here hx rfl (hb hby d4_27) rfl) ?_
        refine own_go (fun _ => XS.lcmp X71.here hx rfl (hb hby d4_28) rfl) ?_
        show ∃ t o, Steps p.tables e below (T71.setTop (mkF m 29 #[.val (.ref fo), .val (.int mm), .val (.int (2 : Int32)), .val (.ref ma), .val (.ref aa), .val (.int mb), .val (.long sq), .second, .val (.double (13830554455654793216 : UInt64)), .second, .val (.int (((1 : Int32) <<< (mm &&& 31)) - (1 : Int32))), .unset, .unset] [(.int (lcmpW sq (2 : Int64)))])) t ∧ _
        have hd73 : (2 : Int64) < sq := own_lt1 _ 2 rfl hq hc72
        refine own_go (fun _ => XS.ifNo X71.here hx rfl (hb hby d4_29) rfl ((if0 _ _).trans (tlt ((lw_gt _ _).mpr hd73)).2.2.2)) ?_
        refine own_go (fun _ => XS.dload X71.here hx rfl (hb hby d4_32) rfl) ?_
        refine own_go (fun _ => XS.dconst0 X71.here hx rfl (hb hby d4_34) rfl) ?_
        show ∃ t o, Steps p.tables e below (T71.setTop (mkF m 35 #[.val (.ref fo), .val (.int mm), .val (.int (2 : Int32)), .val (.ref ma), .val (.ref aa), .val (.int mb), .val (.long sq), .second, .val (.double (13830554455654793216 : UInt64)), .second, .val (.int (((1 : Int32) <<< (mm &&& 31)) - (1 : Int32))), .unset, .unset] [(.double FP.dconst0), (.double (13830554455654793216 : UInt64))])) t ∧ _
        refine own_go (fun _ => XS.dcmpS X71.here hx rfl (hb hby d4_35) rfl (v := (-1 : Int32)) own_negd) ?_
        show ∃ t o, Steps p.tables e below (T71.setTop (mkF m 36 #[.val (.ref fo), .val (.int mm), .val (.int (2 : Int32)), .val (.ref ma), .val (.ref aa), .val (.int mb), .val (.long sq), .second, .val (.double (13830554455654793216 : UInt64)), .second, .val (.int (((1 : Int32) <<< (mm &&& 31)) - (1 : Int32))), .unset, .unset] [(.int (-1 : Int32))])) t ∧ _
        refine own_go (fun _ => XS.ifNo X71.here hx rfl (hb hby d4_36) rfl ((if0 _ _).trans (tlt (by decide : (-1 : Int32) < (0 : Int32))).2.1)) ?_
        refine own_go (fun _ => XS.iconst X71.here hx rfl (hb hby d4_39)) ?_
        refine own_go (fun _ => XS.goto X71.here hx rfl (pc0 := 40) (pc' := 44) rfl (hb hby d4_40) (by decide) (by decide)) ?_
        show ∃ t o, Steps p.tables e below (T71.setTop (mkF m 44 #[.val (.ref fo), .val (.int mm), .val (.int (2 : Int32)), .val (.ref ma), .val (.ref aa), .val (.int mb), .val (.long sq), .second, .val (.double (13830554455654793216 : UInt64)), .second, .val (.int (((1 : Int32) <<< (mm &&& 31)) - (1 : Int32))), .unset, .unset] [(.int (1 : Int32))])) t ∧ _
        obtain ⟨fs, hr, hrun, hended, hW, hsame⟩ := X71.leave (v := some (.int (1 : Int32))) (fun h => by rw [Bd.returns] at h; cases h)
        refine ⟨_, _, ?_, hrun, hended, _, _, rfl, ?_, ⟨_, rfl⟩, hW, hsame.mono (by decide) (by decide)⟩
        · exact retN X71 hx (t := .boolean) Bd.returns (by simp) (hb hby d4_44) hr
        · show Q_rmCheck2 Z _ _ _ _ _ _ _ _ _ _ _ _ _ _ _ _ _ _ _ h0 n0 _ T71.heap _
          rw [e71]
          exact ⟨(0 : Int32), (2 : Int32), (1 : Int64), M1, M2, rfl, N71, (Keep.refl h0 [fo, ia, ma]), P1, P2, P3, P4, P5, P6, P7, P9, P10, (Or.inl ⟨rfl, rfl, rfl, hi4⟩)⟩
  · have hi2' : sz = (1 : Int32) := hi2
    subst hi1 hi2' hi3
    subst hi4
    have hi5' : ¬ (M2 = (((1 : Int32) <<< (mm &&& 31)) - (1 : Int32))) := hi5.resolve_left (by decide)
    show ∃ t o, Steps p.tables e below (s₁.setTop (mkF m 0 #[.val (.ref fo), .val (.int mm), .val (.int (2 : Int32)), .val (.ref ma), .val (.ref aa), .val (.int mb), .val (.long sq), .second, .unset, .unset, .unset, .unset, .unset] [])) t ∧ _
    rcases own_seq2 sq with hq | hq | hq
    · subst hq
      show ∃ t o, Steps p.tables e below (s₁.setTop (mkF m 0 #[.val (.ref fo), .val (.int mm), .val (.int (2 : Int32)), .val (.ref ma), .val (.ref aa), .val (.int mb), .val (.long (1 : Int64)), .second, .unset, .unset, .unset, .unset, .unset] [])) t ∧ _
      refine own_go (fun _ => XS.aloadN X0.here hx rfl (hb hby d4_0) rfl rfl) ?_
      refine own_go (fun _ => XS.iload X0.here hx rfl (hb hby d4_1) rfl) ?_
      refine own_go (fun _ => XS.lload X0.here hx rfl (hb hby d4_3) rfl) ?_
      show ∃ t o, Steps p.tables e below (s₁.setTop (mkF m 5 #[.val (.ref fo), .val (.int mm), .val (.int (2 : Int32)), .val (.ref ma), .val (.ref aa), .val (.int mb), .val (.long (1 : Int64)), .second, .unset, .unset, .unset, .unset, .unset] [(.long (1 : Int64)), (.int mb), (.ref fo)])) t ∧ _
      obtain ⟨cq74, kq74, q74a, q74b, q74c⟩ := isOf hZ e0 P1
      obtain ⟨_, _, ⟨T74, L74, k74, n74⟩, -, X74, ⟨Lc74, hQ74, l74, y74, z74⟩, st74⟩ := X0.virtualBack hx (y := (⟨"com/example/holdback/holdback/sim/InFlight", "delivered", "(IJ)D"⟩ : MethodName)) (z := (⟨"com/example/holdback/holdback/sim/InFlight", "delivered", "(IJ)D"⟩ : MethodName)) hown (mvT hZ (hw _ (List.mem_of_getElem? (i := 34) rfl))) (mvT hZ (hw _ (List.mem_of_getElem? (i := 35) rfl))) (notFace_of_selects (args := #[]) (mvT hZ (hw _ (List.mem_of_getElem? (i := 37) rfl)))) (mvT hZ (hw _ (List.mem_of_getElem? (i := 37) rfl))) (mvT hZ (hw _ (List.mem_of_getElem? (i := 36) rfl))) (by decide) (backOf (W := 0) (rmOut l Z a0 hw [] fo (1 : Int32) (2 : Int64) mb (1 : Int64) h0 n0 Z0 P4 P6 OLD (Or.inl (by decide) : ((1 : Int64) - (2 : Int64)) < (0 : Int64) ∨ ¬ (((1 : Int64) - (2 : Int64)) < (1 : Int32).toInt64))) hZ (hw _ (List.mem_of_getElem? (i := 38) rfl)) (hw _ (List.mem_of_getElem? (i := 6) rfl)) (by decide) (by decide)) q74a q74c (g := (mkF m 5 #[.val (.ref fo), .val (.int mm), .val (.int (2 : Int32)), .val (.ref ma), .val (.ref aa), .val (.int mb), .val (.long (1 : Int64)), .second, .unset, .unset, .unset, .unset, .unset] [(.long (1 : Int64)), (.int mb), (.ref fo)])) rfl (by rw [hml]; rfl) (Steps.refl _) (argsL := [(.int mb), (.long (1 : Int64))]) (rest := []) (lenOf pd__28IJ_29D rfl) rfl (by show 2 * 0 + _ ≤ _; exact Nat.le_of_eq rfl) (hb hby d4_5) (fun _ _ => ⟨rfl, e0, (by decide : 0 + 0 ≤ _), (by decide : 0 + 0 ≤ _)⟩)
      dsimp only [Pt.U, Pt.locs, Pt.cells, Pt.slots] at X74 l74 y74 z74 st74 hQ74
      subst l74 y74 z74
      obtain ⟨rfl, Nq74, e74⟩ := hQ74
      have N74 := Fr.app N0 Nq74
      refine own_goT st74 ?_
      refine own_go (fun _ => XS.dstore X74.here hx rfl (hb hby d4_8) rfl (l' := #[.val (.ref fo), .val (.int mm), .val (.int (2 : Int32)), .val (.ref ma), .val (.ref aa), .val (.int mb), .val (.long (1 : Int64)), .second, .val (.double (13830554455654793216 : UInt64)), .second, .unset, .unset, .unset]) rfl) ?_
      refine own_go (fun _ => XS.iconst X74.here hx rfl (hb hby d4_10)) ?_
      show ∃ t o, Steps p.tables e below (T74.setTop (mkF m 11 #[.val (.ref fo), .val (.int mm), .val (.int (2 : Int32)), .val (.ref ma), .val (.ref aa), .val (.int mb), .val (.long (1 : Int64)), .second, .val (.double (13830554455654793216 : UInt64)), .second, .unset, .unset, .unset] [(.int (1 : Int32))])) t ∧ _
      refine own_go (fun _ => XS.iloadN X74.here hx rfl (hb hby d4_11) rfl) ?_
      refine own_go (fun _ => XS.ishl X74.here hx rfl (hb hby d4_12) rfl) ?_
      refine own_go (fun _ => XS.iconst X74.here hx rfl (hb hby d4_13)) ?_
      show ∃ t o, Steps p.tables e below (T74.setTop (mkF m 14 #[.val (.ref fo), .val (.int mm), .val (.int (2 : Int32)), .val (.ref ma), .val (.ref aa), .val (.int mb), .val (.long (1 : Int64)), .second, .val (.double (13830554455654793216 : UInt64)), .second, .unset, .unset, .unset] [(.int (1 : Int32)), (.int ((1 : Int32) <<< (mm &&& 31)))])) t ∧ _
      refine own_go (fun _ => XS.isub X74.here hx rfl (hb hby d4_14) rfl) ?_
      refine own_go (fun _ => XS.istore X74.here hx rfl (hb hby d4_15) rfl (l' := #[.val (.ref fo), .val (.int mm), .val (.int (2 : Int32)), .val (.ref ma), .val (.ref aa), .val (.int mb), .val (.long (1 : Int64)), .second, .val (.double (13830554455654793216 : UInt64)), .second, .val (.int (((1 : Int32) <<< (mm &&& 31)) - (1 : Int32))), .unset, .unset]) rfl) ?_
      refine own_go (fun _ => XS.lload X74.here hx rfl (hb hby d4_17) rfl) ?_
      show ∃ t o, Steps p.tables e below (T74.setTop (mkF m 19 #[.val (.ref fo), .val (.int mm), .val (.int (2 : Int32)), .val (.ref ma), .val (.ref aa), .val (.int mb), .val (.long (1 : Int64)), .second, .val (.double (13830554455654793216 : UInt64)), .second, .val (.int (((1 : Int32) <<< (mm &&& 31)) - (1 : Int32))), .unset, .unset] [(.long (1 : Int64))])) t ∧ _
      refine own_go (fun _ => XS.lconst X74.here hx rfl (hb hby d4_19)) ?_
      refine own_go (fun _ => XS.lcmp X74.here hx rfl (hb hby d4_20) rfl) ?_
      show ∃ t o, Steps p.tables e below (T74.setTop (mkF m 21 #[.val (.ref fo), .val (.int mm), .val (.int (2 : Int32)), .val (.ref ma), .val (.ref aa), .val (.int mb), .val (.long (1 : Int64)), .second, .val (.double (13830554455654793216 : UInt64)), .second, .val (.int (((1 : Int32) <<< (mm &&& 31)) - (1 : Int32))), .unset, .unset] [(.int (lcmpW (1 : Int64) (1 : Int64)))])) t ∧ _
      refine own_go (fun _ => XS.ifNo X74.here hx rfl (hb hby d4_21) rfl ((if0 _ _).trans (flt (mt (lw_lt _ _).mp (by decide : ¬ ((1 : Int64) < (1 : Int64))))).1)) ?_
      refine own_go (fun _ => XS.lload X74.here hx rfl (hb hby d4_24) rfl) ?_
      refine own_go (fun _ => XS.iloadN X74.here hx rfl (hb hby d4_26) rfl) ?_
      show ∃ t o, Steps p.tables e below (T74.setTop (mkF m 27 #[.val (.ref fo), .val (.int mm), .val (.int (2 : Int32)), .val (.ref ma), .val (.ref aa), .val (.int mb), .val (.long (1 : Int64)), .second, .val (.double (13830554455654793216 : UInt64)), .second, .val (.int (((1 : Int32) <<< (mm &&& 31)) - (1 : Int32))), .unset, .unset] [(.int (2 : Int32)), (.long (1 : Int64))])) t ∧ _
      refine own_go (fun _ => XS.i2l X74.here hx rfl (hb hby d4_27) rfl) ?_
      refine own_go (fun _ => XS.lcmp X74.here hx rfl (hb hby d4_28) rfl) ?_
      show ∃ t o, Steps p.tables e below (T74.setTop (mkF m 29 #[.val (.ref fo), .val (.int mm), .val (.int (2 : Int32)), .val (.ref ma), .val (.ref aa), .val (.int mb), .val (.long (1 : Int64)), .second, .val (.double (13830554455654793216 : UInt64)), .second, .val (.int (((1 : Int32) <<< (mm &&& 31)) - (1 : Int32))), .unset, .unset] [(.int (lcmpW (1 : Int64) (2 : Int64)))])) t ∧ _
      refine own_go (fun _ => XS.ifYes X74.here hx rfl (pc0 := 29) (pc' := 45) rfl (hb hby d4_29) rfl ((if0 _ _).trans (flt (mt (lw_gt _ _).mp (by decide : ¬ ((2 : Int64) < (1 : Int64))))).2.2.2) (by decide) (by decide)) ?_
      refine own_go (fun _ => XS.lload X74.here hx rfl (hb hby d4_45) rfl) ?_
      refine own_go (fun _ => XS.l2i X74.here hx rfl (hb hby d4_47) rfl) ?_
      show ∃ t o, Steps p.tables e below (T74.setTop (mkF m 48 #[.val (.ref fo), .val (.int mm), .val (.int (2 : Int32)), .val (.ref ma), .val (.ref aa), .val (.int mb), .val (.long (1 : Int64)), .second, .val (.double (13830554455654793216 : UInt64)), .second, .val (.int (((1 : Int32) <<< (mm &&& 31)) - (1 : Int32))), .unset, .unset] [(.int (1 : Int32))])) t ∧ _
      refine own_go (fun _ => XS.istore X74.here hx rfl (hb hby d4_48) rfl (l' := #[.val (.ref fo), .val (.int mm), .val (.int (2 : Int32)), .val (.ref ma), .val (.ref aa), .val (.int mb), .val (.long (1 : Int64)), .second, .val (.double (13830554455654793216 : UInt64)), .second, .val (.int (((1 : Int32) <<< (mm &&& 31)) - (1 : Int32))), .val (.int (1 : Int32)), .unset]) rfl) ?_
      refine own_go (fun _ => XS.aloadN X74.here hx rfl (hb hby d4_50) rfl rfl) ?_
      refine own_go (fun _ => XS.iload X74.here hx rfl (hb hby d4_51) rfl) ?_
      show ∃ t o, Steps p.tables e below (T74.setTop (mkF m 53 #[.val (.ref fo), .val (.int mm), .val (.int (2 : Int32)), .val (.ref ma), .val (.ref aa), .val (.int mb), .val (.long (1 : Int64)), .second, .val (.double (13830554455654793216 : UInt64)), .second, .val (.int (((1 : Int32) <<< (mm &&& 31)) - (1 : Int32))), .val (.int (1 : Int32)), .unset] [(.int (1 : Int32)), (.ref ma)])) t ∧ _
      obtain ⟨cl75, Ar75, q75, S75, N75, H75, G75⟩ := id P10
      have hin75 : ¬ ((1 : Int32) < 0 ∨ cl75.slots.size ≤ ((1 : Int32)).toNatClampNeg) := inb_of S75 ⟨by decide, by decide⟩
      have hat75 : cl75.slots[((1 : Int32)).toNatClampNeg]? = some (.int (((1 : Int32) <<< (mm &&& 31)) - (1 : Int32))) := Has.at H75 hin75 rfl
      refine own_go (fun _ => X74.iaload hx (j := (1 : Int32)) (v := (.int (((1 : Int32) <<< (mm &&& 31)) - (1 : Int32)))) (by rw [e74]; exact Ar75.1) (State.isArrayOf_alike hZ.alike Ar75.2.1) Ar75.2.2 hin75 hat75 (g := (mkF m 53 #[.val (.ref fo), .val (.int mm), .val (.int (2 : Int32)), .val (.ref ma), .val (.ref aa), .val (.int mb), .val (.long (1 : Int64)), .second, .val (.double (13830554455654793216 : UInt64)), .second, .val (.int (((1 : Int32) <<< (mm &&& 31)) - (1 : Int32))), .val (.int (1 : Int32)), .unset] [(.int (1 : Int32)), (.ref ma)])) rfl rfl (hb hby d4_53) _) ?_
      refine own_go (fun _ => XS.istore X74.here hx rfl (hb hby d4_54) rfl (l' := #[.val (.ref fo), .val (.int mm), .val (.int (2 : Int32)), .val (.ref ma), .val (.ref aa), .val (.int mb), .val (.long (1 : Int64)), .second, .val (.double (13830554455654793216 : UInt64)), .second, .val (.int (((1 : Int32) <<< (mm &&& 31)) - (1 : Int32))), .val (.int (1 : Int32)), .val (.int (((1 : Int32) <<< (mm &&& 31)) - (1 : Int32)))]) rfl) ?_
      refine own_go (fun _ => XS.aloadN X74.here hx rfl (hb hby d4_56) rfl rfl) ?_
      show ∃ t o, Steps p.tables e below (T74.setTop (mkF m 57 #[.val (.ref fo), .val (.int mm), .val (.int (2 : Int32)), .val (.ref ma), .val (.ref aa), .val (.int mb), .val (.long (1 : Int64)), .second, .val (.double (13830554455654793216 : UInt64)), .second, .val (.int (((1 : Int32) <<< (mm &&& 31)) - (1 : Int32))), .val (.int (1 : Int32)), .val (.int (((1 : Int32) <<< (mm &&& 31)) - (1 : Int32)))] [(.ref ma)])) t ∧ _
      refine own_go (fun _ => XS.iload X74.here hx rfl (hb hby d4_57) rfl) ?_
      refine own_go (fun _ => XS.iload X74.here hx rfl (hb hby d4_59) rfl) ?_
      refine own_go (fun _ => XS.iconst X74.here hx rfl (hb hby d4_61)) ?_
      show ∃ t o, Steps p.tables e below (T74.setTop (mkF m 62 #[.val (.ref fo), .val (.int mm), .val (.int (2 : Int32)), .val (.ref ma), .val (.ref aa), .val (.int mb), .val (.long (1 : Int64)), .second, .val (.double (13830554455654793216 : UInt64)), .second, .val (.int (((1 : Int32) <<< (mm &&& 31)) - (1 : Int32))), .val (.int (1 : Int32)), .val (.int (((1 : Int32) <<< (mm &&& 31)) - (1 : Int32)))] [(.int (1 : Int32)), (.int (((1 : Int32) <<< (mm &&& 31)) - (1 : Int32))), (.int (1 : Int32)), (.ref ma)])) t ∧ _
      refine own_go (fun _ => XS.iload X74.here hx rfl (hb hby d4_62) rfl) ?_
      refine own_go (fun _ => XS.ishl X74.here hx rfl (hb hby d4_64) rfl) ?_
      refine own_go (fun _ => XS.ior X74.here hx rfl (hb hby d4_65) rfl) ?_
      show ∃ t o, Steps p.tables e below (T74.setTop (mkF m 66 #[.val (.ref fo), .val (.int mm), .val (.int (2 : Int32)), .val (.ref ma), .val (.ref aa), .val (.int mb), .val (.long (1 : Int64)), .second, .val (.double (13830554455654793216 : UInt64)), .second, .val (.int (((1 : Int32) <<< (mm &&& 31)) - (1 : Int32))), .val (.int (1 : Int32)), .val (.int (((1 : Int32) <<< (mm &&& 31)) - (1 : Int32)))] [(.int ((((1 : Int32) <<< (mm &&& 31)) - (1 : Int32)) ||| ((1 : Int32) <<< (mb &&& 31)))), (.int (1 : Int32)), (.ref ma)])) t ∧ _
      obtain ⟨cl76, Ar76, q76, S76, N76, H76, G76⟩ := id P10
      have hin76 : ¬ ((1 : Int32) < 0 ∨ cl76.slots.size ≤ ((1 : Int32)).toNatClampNeg) := inb_of S76 ⟨by decide, by decide⟩
      obtain ⟨T77, h77, X77, e77, W77, st77⟩ := stI X74 hx hZ e74 Ar76 (j := (1 : Int32)) hin76 (g := (mkF m 66 #[.val (.ref fo), .val (.int mm), .val (.int (2 : Int32)), .val (.ref ma), .val (.ref aa), .val (.int mb), .val (.long (1 : Int64)), .second, .val (.double (13830554455654793216 : UInt64)), .second, .val (.int (((1 : Int32) <<< (mm &&& 31)) - (1 : Int32))), .val (.int (1 : Int32)), .val (.int (((1 : Int32) <<< (mm &&& 31)) - (1 : Int32)))] [(.int ((((1 : Int32) <<< (mm &&& 31)) - (1 : Int32)) ||| ((1 : Int32) <<< (mb &&& 31)))), (.int (1 : Int32)), (.ref ma)])) rfl rfl (hb hby d4_66)
      refine own_go st77 ?_
      have le_77 : h0.size ≤ h77.size := Nat.le_of_eq W77.size.symm
      have K77 : Keep h0 h77 [fo, ia, ma] := Keep.wr (Keep.refl h0 [fo, ia, ma]) W77 (Or.inl (List.mem_of_getElem? (i := 2) rfl))
      have N77 := Fr.snoc X77 N74 gm
      have V77 : Arv Z h77 ma km .int (3 : Int32) [(.int (0 : Int32)), (.int ((((1 : Int32) <<< (mm &&& 31)) - (1 : Int32)) ||| ((1 : Int32) <<< (mb &&& 31)))), (.int M2)] (.int (0 : Int32)) := Arv.set Ar76 q76 S76 N76 H76 G76 rfl W77 1 rfl (Nat.le_of_ble_eq_true rfl)
      have F78 : Arv Z h77 ma km .int (3 : Int32) [(.int (0 : Int32)), (.int (((1 : Int32) <<< (mm &&& 31)) - (1 : Int32))), (.int M2)] (.int (0 : Int32)) := by have q := V77; rw [hbit] at q; exact q
      refine own_go (fun _ => XS.iload X77.here hx rfl (hb hby d4_67) rfl) ?_
      refine own_go (fun _ => XS.iload X77.here hx rfl (hb hby d4_69) rfl) ?_
      show ∃ t o, Steps p.tables e below (T77.setTop (mkF m 71 #[.val (.ref fo), .val (.int mm), .val (.int (2 : Int32)), .val (.ref ma), .val (.ref aa), .val (.int mb), .val (.long (1 : Int64)), .second, .val (.double (13830554455654793216 : UInt64)), .second, .val (.int (((1 : Int32) <<< (mm &&& 31)) - (1 : Int32))), .val (.int (1 : Int32)), .val (.int (((1 : Int32) <<< (mm &&& 31)) - (1 : Int32)))] [(.int (((1 : Int32) <<< (mm &&& 31)) - (1 : Int32))), (.int (((1 : Int32) <<< (mm &&& 31)) - (1 : Int32)))])) t ∧ _
      by_cases hc79 : (((1 : Int32) <<< (mm &&& 31)) - (1 : Int32)) = (((1 : Int32) <<< (mm &&& 31)) - (1 : Int32))
      · refine own_go (fun _ => XS.icmpYes X77.here hx rfl (pc0 := 71) (pc' := 100) rfl (hb hby d4_71) rfl (teq hc79).1 (by decide) (by decide)) ?_
        refine own_go (fun _ => XS.dload X77.here hx rfl (hb hby d4_100) rfl) ?_
        refine own_go (fun _ => XS.dconst0 X77.here hx rfl (hb hby d4_102) rfl) ?_
        show ∃ t o, Steps p.tables e below (T77.setTop (mkF m 103 #[.val (.ref fo), .val (.int mm), .val (.int (2 : Int32)), .val (.ref ma), .val (.ref aa), .val (.int mb), .val (.long (1 : Int64)), .second, .val (.double (13830554455654793216 : UInt64)), .second, .val (.int (((1 : Int32) <<< (mm &&& 31)) - (1 : Int32))), .val (.int (1 : Int32)), .val (.int (((1 : Int32) <<< (mm &&& 31)) - (1 : Int32)))] [(.double FP.dconst0), (.double (13830554455654793216 : UInt64))])) t ∧ _
        refine own_go (fun _ => XS.dcmpS X77.here hx rfl (hb hby d4_103) rfl (v := (-1 : Int32)) own_negd) ?_
        show ∃ t o, Steps p.tables e below (T77.setTop (mkF m 104 #[.val (.ref fo), .val (.int mm), .val (.int (2 : Int32)), .val (.ref ma), .val (.ref aa), .val (.int mb), .val (.long (1 : Int64)), .second, .val (.double (13830554455654793216 : UInt64)), .second, .val (.int (((1 : Int32) <<< (mm &&& 31)) - (1 : Int32))), .val (.int (1 : Int32)), .val (.int (((1 : Int32) <<< (mm &&& 31)) - (1 : Int32)))] [(.int (-1 : Int32))])) t ∧ _
        refine own_go (fun _ => XS.ifNo X77.here hx rfl (hb hby d4_104) rfl ((if0 _ _).trans (tlt (by decide : (-1 : Int32) < (0 : Int32))).2.1)) ?_
        refine own_go (fun _ => XS.iconst X77.here hx rfl (hb hby d4_107)) ?_
        refine own_go (fun _ => XS.goto X77.here hx rfl (pc0 := 108) (pc' := 112) rfl (hb hby d4_108) (by decide) (by decide)) ?_
        show ∃ t o, Steps p.tables e below (T77.setTop (mkF m 112 #[.val (.ref fo), .val (.int mm), .val (.int (2 : Int32)), .val (.ref ma), .val (.ref aa), .val (.int mb), .val (.long (1 : Int64)), .second, .val (.double (13830554455654793216 : UInt64)), .second, .val (.int (((1 : Int32) <<< (mm &&& 31)) - (1 : Int32))), .val (.int (1 : Int32)), .val (.int (((1 : Int32) <<< (mm &&& 31)) - (1 : Int32)))] [(.int (1 : Int32))])) t ∧ _
        have F80 : Exa Z h77 fo "com/example/holdback/holdback/sim/InFlight" := (Exa.wr W77 P1)
        have F81 : Fld Z h77 fo "com/example/holdback/holdback/sim/InFlight" "multicastAt" "[D" (.ref da) := (Fld.other W77 P2 (Or.inl nfm_))
        have F82 : Fld Z h77 fo "com/example/holdback/holdback/sim/InFlight" "deliveredBy" "[I" (.ref ia) := (Fld.other W77 P3 (Or.inl nfm_))
        have F83 : Fld Z h77 fo "com/example/holdback/holdback/sim/InFlight" "firstSeq" "J" (.long (2 : Int64)) := (Fld.other W77 P4 (Or.inl nfm_))
        have F84 : Fld Z h77 fo "com/example/holdback/holdback/sim/InFlight" "everyone" "I" (.int (((1 : Int32) <<< (mm &&& 31)) - (1 : Int32))) := (Fld.other W77 P5 (Or.inl nfm_))
        have F85 : Fld Z h77 fo "com/example/holdback/holdback/sim/InFlight" "size" "I" (.int (1 : Int32)) := (Fld.other W77 P6 (Or.inl nfm_))
        have F86 : Fld Z h77 fo "com/example/holdback/holdback/sim/InFlight" "first" "I" (.int (1 : Int32)) := (Fld.other W77 P7 (Or.inl nfm_))
        have F87 : Arv Z h77 ia ki .int (16 : Int32) [(.int (((1 : Int32) <<< (mm &&& 31)) - (1 : Int32))), (.int M2)] (.int (0 : Int32)) := (Arv.other P9 W77 nim_)
        obtain ⟨fs, hr, hrun, hended, hW, hsame⟩ := X77.leave (v := some (.int (1 : Int32))) (fun h => by rw [Bd.returns] at h; cases h)
        refine ⟨_, _, ?_, hrun, hended, _, _, rfl, ?_, ⟨_, rfl⟩, hW, hsame.mono (by decide) (by decide)⟩
        · exact retN X77 hx (t := .boolean) Bd.returns (by simp) (hb hby d4_112) hr
        · show Q_rmCheck2 Z _ _ _ _ _ _ _ _ _ _ _ _ _ _ _ _ _ _ _ h0 n0 _ T77.heap _
          rw [e77]
          exact ⟨(1 : Int32), (1 : Int32), (2 : Int64), (((1 : Int32) <<< (mm &&& 31)) - (1 : Int32)), M2, rfl, N77, K77, F80, F81, F82, F83, F84, F85, F86, F87, F78, (Or.inr (Or.inl ⟨rfl, rfl, rfl, rfl, Or.inr hi5'⟩))⟩
      · refine own_go (fun _ => XS.icmpNo X77.here hx rfl (hb hby d4_71) rfl (feq hc79).1) ?_
        refine own_go (fun _ => XS.aloadN X77.here hx rfl (hb hby d4_74) rfl rfl) ?_
        refine own_go (fun _ => XS.iload X77.here hx rfl (hb hby d4_75) rfl) ?_
        show ∃ t o, Steps p.tables e below (T77.setTop (mkF m 77 #[.val (.ref fo), .val (.int mm), .val (.int (2 : Int32)), .val (.ref ma), .val (.ref aa), .val (.int mb), .val (.long (1 : Int64)), .second, .val (.double (13830554455654793216 : UInt64)), .second, .val (.int (((1 : Int32) <<< (mm &&& 31)) - (1 : Int32))), .val (.int (1 : Int32)), .val (.int (((1 : Int32) <<< (mm &&& 31)) - (1 : Int32)))] [(.int (1 : Int32)), (.ref ma)])) t ∧ _
        obtain ⟨cl88, Ar88, q88, S88, N88, H88, G88⟩ := id F78
        have hin88 : ¬ ((1 : Int32) < 0 ∨ cl88.slots.size ≤ ((1 : Int32)).toNatClampNeg) := inb_of S88 ⟨by decide, by decide⟩
        have hat88 : cl88.slots[((1 : Int32)).toNatClampNeg]? = some (.int (((1 : Int32) <<< (mm &&& 31)) - (1 : Int32))) := Has.at H88 hin88 rfl
        refine own_go (fun _ => X77.iaload hx (j := (1 : Int32)) (v := (.int (((1 : Int32) <<< (mm &&& 31)) - (1 : Int32)))) (by rw [e77]; exact Ar88.1) (State.isArrayOf_alike hZ.alike Ar88.2.1) Ar88.2.2 hin88 hat88 (g := (mkF m 77 #[.val (.ref fo), .val (.int mm), .val (.int (2 : Int32)), .val (.ref ma), .val (.ref aa), .val (.int mb), .val (.long (1 : Int64)), .second, .val (.double (13830554455654793216 : UInt64)), .second, .val (.int (((1 : Int32) <<< (mm &&& 31)) - (1 : Int32))), .val (.int (1 : Int32)), .val (.int (((1 : Int32) <<< (mm &&& 31)) - (1 : Int32)))] [(.int (1 : Int32)), (.ref ma)])) rfl rfl (hb hby d4_77) _) ?_
        refine own_go (fun _ => XS.iload X77.here hx rfl (hb hby d4_78) rfl) ?_
        show ∃ t o, Steps p.tables e below (T77.setTop (mkF m 80 #[.val (.ref fo), .val (.int mm), .val (.int (2 : Int32)), .val (.ref ma), .val (.ref aa), .val (.int mb), .val (.long (1 : Int64)), .second, .val (.double (13830554455654793216 : UInt64)), .second, .val (.int (((1 : Int32) <<< (mm &&& 31)) - (1 : Int32))), .val (.int (1 : Int32)), .val (.int (((1 : Int32) <<< (mm &&& 31)) - (1 : Int32)))] [(.int (((1 : Int32) <<< (mm &&& 31)) - (1 : Int32))), (.int (((1 : Int32) <<< (mm &&& 31)) - (1 : Int32)))])) t ∧ _
        refine own_go (fun _ => XS.icmpYes X77.here hx rfl (pc0 := 80) (pc' := 100) rfl (hb hby d4_80) rfl (feq hc79).2 (by decide) (by decide)) ?_
        refine own_go (fun _ => XS.dload X77.here hx rfl (hb hby d4_100) rfl) ?_
        refine own_go (fun _ => XS.dconst0 X77.here hx rfl (hb hby d4_102) rfl) ?_
        show ∃ t o, Steps p.tables e below (T77.setTop (mkF m 103 #[.val (.ref fo), .val (.int mm), .val (.int (2 : Int32)), .val (.ref ma), .val (.ref aa), .val (.int mb), .val (.long (1 : Int64)), .second, .val (.double (13830554455654793216 : UInt64)), .second, .val (.int (((1 : Int32) <<< (mm &&& 31)) - (1 : Int32))), .val (.int (1 : Int32)), .val (.int (((1 : Int32) <<< (mm &&& 31)) - (1 : Int32)))] [(.double FP.dconst0), (.double (13830554455654793216 : UInt64))])) t ∧ _
        refine own_go (fun _ => XS.dcmpS X77.here hx rfl (hb hby d4_103) rfl (v := (-1 : Int32)) own_negd) ?_
        show ∃ t o, Steps p.tables e below (T77.setTop (mkF m 104 #[.val (.ref fo), .val (.int mm), .val (.int (2 : Int32)), .val (.ref ma), .val (.ref aa), .val (.int mb), .val (.long (1 : Int64)), .second, .val (.double (13830554455654793216 : UInt64)), .second, .val (.int (((1 : Int32) <<< (mm &&& 31)) - (1 : Int32))), .val (.int (1 : Int32)), .val (.int (((1 : Int32) <<< (mm &&& 31)) - (1 : Int32)))] [(.int (-1 : Int32))])) t ∧ _
        refine own_go (fun _ => XS.ifNo X77.here hx rfl (hb hby d4_104) rfl ((if0 _ _).trans (tlt (by decide : (-1 : Int32) < (0 : Int32))).2.1)) ?_
        refine own_go (fun _ => XS.iconst X77.here hx rfl (hb hby d4_107)) ?_
        refine own_go (fun _ => XS.goto X77.here hx rfl (pc0 := 108) (pc' := 112) rfl (hb hby d4_108) (by decide) (by decide)) ?_
        show ∃ t o, Steps p.tables e below (T77.setTop (mkF m 112 #[.val (.ref fo), .val (.int mm), .val (.int (2 : Int32)), .val (.ref ma), .val (.ref aa), .val (.int mb), .val (.long (1 : Int64)), .second, .val (.double (13830554455654793216 : UInt64)), .second, .val (.int (((1 : Int32) <<< (mm &&& 31)) - (1 : Int32))), .val (.int (1 : Int32)), .val (.int (((1 : Int32) <<< (mm &&& 31)) - (1 : Int32)))] [(.int (1 : Int32))])) t ∧ _
        have F89 : Exa Z h77 fo "com/example/holdback/holdback/sim/InFlight" := (Exa.wr W77 P1)
        have F90 : Fld Z h77 fo "com/example/holdback/holdback/sim/InFlight" "multicastAt" "[D" (.ref da) := (Fld.other W77 P2 (Or.inl nfm_))
        have F91 : Fld Z h77 fo "com/example/holdback/holdback/sim/InFlight" "deliveredBy" "[I" (.ref ia) := (Fld.other W77 P3 (Or.inl nfm_))
        have F92 : Fld Z h77 fo "com/example/holdback/holdback/sim/InFlight" "firstSeq" "J" (.long (2 : Int64)) := (Fld.other W77 P4 (Or.inl nfm_))
        have F93 : Fld Z h77 fo "com/example/holdback/holdback/sim/InFlight" "everyone" "I" (.int (((1 : Int32) <<< (mm &&& 31)) - (1 : Int32))) := (Fld.other W77 P5 (Or.inl nfm_))
        have F94 : Fld Z h77 fo "com/example/holdback/holdback/sim/InFlight" "size" "I" (.int (1 : Int32)) := (Fld.other W77 P6 (Or.inl nfm_))
        have F95 : Fld Z h77 fo "com/example/holdback/holdback/sim/InFlight" "first" "I" (.int (1 : Int32)) := (Fld.other W77 P7 (Or.inl nfm_))
        have F96 : Arv Z h77 ia ki .int (16 : Int32) [(.int (((1 : Int32) <<< (mm &&& 31)) - (1 : Int32))), (.int M2)] (.int (0 : Int32)) := (Arv.other P9 W77 nim_)
        obtain ⟨fs, hr, hrun, hended, hW, hsame⟩ := X77.leave (v := some (.int (1 : Int32))) (fun h => by rw [Bd.returns] at h; cases h)
        refine ⟨_, _, ?_, hrun, hended, _, _, rfl, ?_, ⟨_, rfl⟩, hW, hsame.mono (by decide) (by decide)⟩
        · exact retN X77 hx (t := .boolean) Bd.returns (by simp) (hb hby d4_112) hr
        · show Q_rmCheck2 Z _ _ _ _ _ _ _ _ _ _ _ _ _ _ _ _ _ _ _ h0 n0 _ T77.heap _
          rw [e77]
          exact ⟨(1 : Int32), (1 : Int32), (2 : Int64), (((1 : Int32) <<< (mm &&& 31)) - (1 : Int32)), M2, rfl, N77, K77, F89, F90, F91, F92, F93, F94, F95, F96, F78, (Or.inr (Or.inl ⟨rfl, rfl, rfl, rfl, Or.inr hi5'⟩))⟩
    · subst hq
      show ∃ t o, Steps p.tables e below (s₁.setTop (mkF m 0 #[.val (.ref fo), .val (.int mm), .val (.int (2 : Int32)), .val (.ref ma), .val (.ref aa), .val (.int mb), .val (.long (2 : Int64)), .second, .unset, .unset, .unset, .unset, .unset] [])) t ∧ _
      refine own_go (fun _ => XS.aloadN X0.here hx rfl (hb hby d4_0) rfl rfl) ?_
      refine own_go (fun _ => XS.iload X0.here hx rfl (hb hby d4_1) rfl) ?_
      refine own_go (fun _ => XS.lload X0.here hx rfl (hb hby d4_3) rfl) ?_
      show ∃ t o, Steps p.tables e below (s₁.setTop (mkF m 5 #[.val (.ref fo), .val (.int mm), .val (.int (2 : Int32)), .val (.ref ma), .val (.ref aa), .val (.int mb), .val (.long (2 : Int64)), .second, .unset, .unset, .unset, .unset, .unset] [(.long (2 : Int64)), (.int mb), (.ref fo)])) t ∧ _
      obtain ⟨cq97, kq97, q97a, q97b, q97c⟩ := isOf hZ e0 P1
      obtain ⟨_, _, ⟨T97, L97, k97, n97⟩, -, X97, ⟨Lc97, hQ97, l97, y97, z97⟩, st97⟩ := X0.virtualBack hx (y := (⟨"com/example/holdback/holdback/sim/InFlight", "delivered", "(IJ)D"⟩ : MethodName)) (z := (⟨"com/example/holdback/holdback/sim/InFlight", "delivered", "(IJ)D"⟩ : MethodName)) hown (mvT hZ (hw _ (List.mem_of_getElem? (i := 34) rfl))) (mvT hZ (hw _ (List.mem_of_getElem? (i := 35) rfl))) (notFace_of_selects (args := #[]) (mvT hZ (hw _ (List.mem_of_getElem? (i := 37) rfl)))) (mvT hZ (hw _ (List.mem_of_getElem? (i := 37) rfl))) (mvT hZ (hw _ (List.mem_of_getElem? (i := 36) rfl))) (by decide) (backOf (W := 0) (rmV4 l Z a0 hw [] fo da ia kd ki ((((1 : Int32) <<< (mm &&& 31)) - (1 : Int32))) ((((1 : Int32) <<< (mm &&& 31)) - (1 : Int32))) M2 A1 A2 mb h0 n0 Z0 P1 P2 P3 P4 P5 P6 P7 P8 P9 OLD gf gd gi nfd nfi ndi ndf nif nid (rfl : (((1 : Int32) <<< (mm &&& 31)) - (1 : Int32)) = (((1 : Int32) <<< (mm &&& 31)) - (1 : Int32))) hi5') hZ (hw _ (List.mem_of_getElem? (i := 38) rfl)) (hw _ (List.mem_of_getElem? (i := 6) rfl)) (by decide) (by decide)) q97a q97c (g := (mkF m 5 #[.val (.ref fo), .val (.int mm), .val (.int (2 : Int32)), .val (.ref ma), .val (.ref aa), .val (.int mb), .val (.long (2 : Int64)), .second, .unset, .unset, .unset, .unset, .unset] [(.long (2 : Int64)), (.int mb), (.ref fo)])) rfl (by rw [hml]; rfl) (Steps.refl _) (argsL := [(.int mb), (.long (2 : Int64))]) (rest := []) (lenOf pd__28IJ_29D rfl) rfl (by show 2 * 0 + _ ≤ _; exact Nat.le_of_eq rfl) (hb hby d4_5) (fun _ _ => ⟨rfl, e0, (by decide : 0 + 0 ≤ _), (by decide : 0 + 0 ≤ _)⟩)
      dsimp only [Pt.U, Pt.locs, Pt.cells, Pt.slots] at X97 l97 y97 z97 st97 hQ97
      subst l97 y97 z97
      obtain ⟨rr_97, fi2_97, sz2_97, fq2_97, rfl, Nq97, Kp97, G97_0, G97_1, G97_2, G97_3, G97_4, G97_5, G97_6, G97_7, H97_0, H97_1⟩ := hQ97
      have N97 := Fr.app N0 Nq97
      refine own_goT st97 ?_
      have le_97 : h0.size ≤ T97.heap.size := Kp97.1
      have K97 : Keep h0 T97.heap [fo, ia, ma] := Keep.trans (Keep.refl h0 [fo, ia, ma]) Kp97 (allS (Or.inl (List.mem_of_getElem? (i := 0) rfl)) (allS (Or.inl (List.mem_of_getElem? (i := 1) rfl)) all0))
      refine own_go (fun _ => XS.dstore X97.here hx rfl (hb hby d4_8) rfl (l' := #[.val (.ref fo), .val (.int mm), .val (.int (2 : Int32)), .val (.ref ma), .val (.ref aa), .val (.int mb), .val (.long (2 : Int64)), .second, .val (.double rr_97), .second, .unset, .unset, .unset]) rfl) ?_
      refine own_go (fun _ => XS.iconst X97.here hx rfl (hb hby d4_10)) ?_
      show ∃ t o, Steps p.tables e below (T97.setTop (mkF m 11 #[.val (.ref fo), .val (.int mm), .val (.int (2 : Int32)), .val (.ref ma), .val (.ref aa), .val (.int mb), .val (.long (2 : Int64)), .second, .val (.double rr_97), .second, .unset, .unset, .unset] [(.int (1 : Int32))])) t ∧ _
      refine own_go (fun _ => XS.iloadN X97.here hx rfl (hb hby d4_11) rfl) ?_
      refine own_go (fun _ => XS.ishl X97.here hx rfl (hb hby d4_12) rfl) ?_
      refine own_go (fun _ => XS.iconst X97.here hx rfl (hb hby d4_13)) ?_
      show ∃ t o, Steps p.tables e below (T97.setTop (mkF m 14 #[.val (.ref fo), .val (.int mm), .val (.int (2 : Int32)), .val (.ref ma), .val (.ref aa), .val (.int mb), .val (.long (2 : Int64)), .second, .val (.double rr_97), .second, .unset, .unset, .unset] [(.int (1 : Int32)), (.int ((1 : Int32) <<< (mm &&& 31)))])) t ∧ _
      refine own_go (fun _ => XS.isub X97.here hx rfl (hb hby d4_14) rfl) ?_
      refine own_go (fun _ => XS.istore X97.here hx rfl (hb hby d4_15) rfl (l' := #[.val (.ref fo), .val (.int mm), .val (.int (2 : Int32)), .val (.ref ma), .val (.ref aa), .val (.int mb), .val (.long (2 : Int64)), .second, .val (.double rr_97), .second, .val (.int (((1 : Int32) <<< (mm &&& 31)) - (1 : Int32))), .unset, .unset]) rfl) ?_
      refine own_go (fun _ => XS.lload X97.here hx rfl (hb hby d4_17) rfl) ?_
      show ∃ t o, Steps p.tables e below (T97.setTop (mkF m 19 #[.val (.ref fo), .val (.int mm), .val (.int (2 : Int32)), .val (.ref ma), .val (.ref aa), .val (.int mb), .val (.long (2 : Int64)), .second, .val (.double rr_97), .second, .val (.int (((1 : Int32) <<< (mm &&& 31)) - (1 : Int32))), .unset, .unset] [(.long (2 : Int64))])) t ∧ _
      refine own_go (fun _ => XS.lconst X97.here hx rfl (hb hby d4_19)) ?_
      refine own_go (fun _ => XS.lcmp X97.here hx rfl (hb hby d4_20) rfl) ?_
      show ∃ t o, Steps p.tables e below (T97.setTop (mkF m 21 #[.val (.ref fo), .val (.int mm), .val (.int (2 : Int32)), .val (.ref ma), .val (.ref aa), .val (.int mb), .val (.long (2 : Int64)), .second, .val (.double rr_97), .second, .val (.int (((1 : Int32) <<< (mm &&& 31)) - (1 : Int32))), .unset, .unset] [(.int (lcmpW (2 : Int64) (1 : Int64)))])) t ∧ _
      refine own_go (fun _ => XS.ifNo X97.here hx rfl (hb hby d4_21) rfl ((if0 _ _).trans (flt (mt (lw_lt _ _).mp (by decide : ¬ ((2 : Int64) < (1 : Int64))))).1)) ?_
      refine own_go (fun _ => XS.lload X97.here hx rfl (hb hby d4_24) rfl) ?_
      refine own_go (fun _ => XS.iloadN X97.here hx rfl (hb hby d4_26) rfl) ?_
      show ∃ t o, Steps p.tables e below (T97.setTop (mkF m 27 #[.val (.ref fo), .val (.int mm), .val (.int (2 : Int32)), .val (.ref ma), .val (.ref aa), .val (.int mb), .val (.long (2 : Int64)), .second, .val (.double rr_97), .second, .val (.int (((1 : Int32) <<< (mm &&& 31)) - (1 : Int32))), .unset, .unset] [(.int (2 : Int32)), (.long (2 : Int64))])) t ∧ _
      refine own_go (fun _ => XS.i2l X97.here hx rfl (hb hby d4_27) rfl) ?_
      refine own_go (fun _ => XS.lcmp X97.here hx rfl (hb hby d4_28) rfl) ?_
      show ∃ t o, Steps p.tables e below (T97.setTop (mkF m 29 #[.val (.ref fo), .val (.int mm), .val (.int (2 : Int32)), .val (.ref ma), .val (.ref aa), .val (.int mb), .val (.long (2 : Int64)), .second, .val (.double rr_97), .second, .val (.int (((1 : Int32) <<< (mm &&& 31)) - (1 : Int32))), .unset, .unset] [(.int (lcmpW (2 : Int64) (2 : Int64)))])) t ∧ _
      refine own_go (fun _ => XS.ifYes X97.here hx rfl (pc0 := 29) (pc' := 45) rfl (hb hby d4_29) rfl ((if0 _ _).trans (flt (mt (lw_gt _ _).mp (by decide : ¬ ((2 : Int64) < (2 : Int64))))).2.2.2) (by decide) (by decide)) ?_
      refine own_go (fun _ => XS.lload X97.here hx rfl (hb hby d4_45) rfl) ?_
      refine own_go (fun _ => XS.l2i X97.here hx rfl (hb hby d4_47) rfl) ?_
      show ∃ t o, Steps p.tables e below (T97.setTop (mkF m 48 #[.val (.ref fo), .val (.int mm), .val (.int (2 : Int32)), .val (.ref ma), .val (.ref aa), .val (.int mb), .val (.long (2 : Int64)), .second, .val (.double rr_97), .second, .val (.int (((1 : Int32) <<< (mm &&& 31)) - (1 : Int32))), .unset, .unset] [(.int (2 : Int32))])) t ∧ _
      refine own_go (fun _ => XS.istore X97.here hx rfl (hb hby d4_48) rfl (l' := #[.val (.ref fo), .val (.int mm), .val (.int (2 : Int32)), .val (.ref ma), .val (.ref aa), .val (.int mb), .val (.long (2 : Int64)), .second, .val (.double rr_97), .second, .val (.int (((1 : Int32) <<< (mm &&& 31)) - (1 : Int32))), .val (.int (2 : Int32)), .unset]) rfl) ?_
      refine own_go (fun _ => XS.aloadN X97.here hx rfl (hb hby d4_50) rfl rfl) ?_
      refine own_go (fun _ => XS.iload X97.here hx rfl (hb hby d4_51) rfl) ?_
      show ∃ t o, Steps p.tables e below (T97.setTop (mkF m 53 #[.val (.ref fo), .val (.int mm), .val (.int (2 : Int32)), .val (.ref ma), .val (.ref aa), .val (.int mb), .val (.long (2 : Int64)), .second, .val (.double rr_97), .second, .val (.int (((1 : Int32) <<< (mm &&& 31)) - (1 : Int32))), .val (.int (2 : Int32)), .unset] [(.int (2 : Int32)), (.ref ma)])) t ∧ _
      have F98 : Arv Z T97.heap ma km .int (3 : Int32) [(.int (0 : Int32)), (.int (((1 : Int32) <<< (mm &&& 31)) - (1 : Int32))), (.int M2)] (.int (0 : Int32)) := (Arv.keep P10 Kp97 (ninS nmf_ (ninS nmi_ nin0)))
      obtain ⟨cl99, Ar99, q99, S99, N99, H99, G99⟩ := id F98
      have hin99 : ¬ ((2 : Int32) < 0 ∨ cl99.slots.size ≤ ((2 : Int32)).toNatClampNeg) := inb_of S99 ⟨by decide, by decide⟩
      have hat99 : cl99.slots[((2 : Int32)).toNatClampNeg]? = some (.int M2) := Has.at H99 hin99 rfl
      refine own_go (fun _ => X97.iaload hx (j := (2 : Int32)) (v := (.int M2)) Ar99.1 (State.isArrayOf_alike hZ.alike Ar99.2.1) Ar99.2.2 hin99 hat99 (g := (mkF m 53 #[.val (.ref fo), .val (.int mm), .val (.int (2 : Int32)), .val (.ref ma), .val (.ref aa), .val (.int mb), .val (.long (2 : Int64)), .second, .val (.double rr_97), .second, .val (.int (((1 : Int32) <<< (mm &&& 31)) - (1 : Int32))), .val (.int (2 : Int32)), .unset] [(.int (2 : Int32)), (.ref ma)])) rfl rfl (hb hby d4_53) _) ?_
      refine own_go (fun _ => XS.istore X97.here hx rfl (hb hby d4_54) rfl (l' := #[.val (.ref fo), .val (.int mm), .val (.int (2 : Int32)), .val (.ref ma), .val (.ref aa), .val (.int mb), .val (.long (2 : Int64)), .second, .val (.double rr_97), .second, .val (.int (((1 : Int32) <<< (mm &&& 31)) - (1 : Int32))), .val (.int (2 : Int32)), .val (.int M2)]) rfl) ?_
      refine own_go (fun _ => XS.aloadN X97.here hx rfl (hb hby d4_56) rfl rfl) ?_
      show ∃ t o, Steps p.tables e below (T97.setTop (mkF m 57 #[.val (.ref fo), .val (.int mm), .val (.int (2 : Int32)), .val (.ref ma), .val (.ref aa), .val (.int mb), .val (.long (2 : Int64)), .second, .val (.double rr_97), .second, .val (.int (((1 : Int32) <<< (mm &&& 31)) - (1 : Int32))), .val (.int (2 : Int32)), .val (.int M2)] [(.ref ma)])) t ∧ _
      refine own_go (fun _ => XS.iload X97.here hx rfl (hb hby d4_57) rfl) ?_
      refine own_go (fun _ => XS.iload X97.here hx rfl (hb hby d4_59) rfl) ?_
      refine own_go (fun _ => XS.iconst X97.here hx rfl (hb hby d4_61)) ?_
      show ∃ t o, Steps p.tables e below (T97.setTop (mkF m 62 #[.val (.ref fo), .val (.int mm), .val (.int (2 : Int32)), .val (.ref ma), .val (.ref aa), .val (.int mb), .val (.long (2 : Int64)), .second, .val (.double rr_97), .second, .val (.int (((1 : Int32) <<< (mm &&& 31)) - (1 : Int32))), .val (.int (2 : Int32)), .val (.int M2)] [(.int (1 : Int32)), (.int M2), (.int (2 : Int32)), (.ref ma)])) t ∧ _
      refine own_go (fun _ => XS.iload X97.here hx rfl (hb hby d4_62) rfl) ?_
      refine own_go (fun _ => XS.ishl X97.here hx rfl (hb hby d4_64) rfl) ?_
      refine own_go (fun _ => XS.ior X97.here hx rfl (hb hby d4_65) rfl) ?_
      show ∃ t o, Steps p.tables e below (T97.setTop (mkF m 66 #[.val (.ref fo), .val (.int mm), .val (.int (2 : Int32)), .val (.ref ma), .val (.ref aa), .val (.int mb), .val (.long (2 : Int64)), .second, .val (.double rr_97), .second, .val (.int (((1 : Int32) <<< (mm &&& 31)) - (1 : Int32))), .val (.int (2 : Int32)), .val (.int M2)] [(.int (M2 ||| ((1 : Int32) <<< (mb &&& 31)))), (.int (2 : Int32)), (.ref ma)])) t ∧ _
      obtain ⟨cl100, Ar100, q100, S100, N100, H100, G100⟩ := id F98
      have hin100 : ¬ ((2 : Int32) < 0 ∨ cl100.slots.size ≤ ((2 : Int32)).toNatClampNeg) := inb_of S100 ⟨by decide, by decide⟩
      obtain ⟨T101, h101, X101, e101, W101, st101⟩ := stI X97 hx hZ rfl Ar100 (j := (2 : Int32)) hin100 (g := (mkF m 66 #[.val (.ref fo), .val (.int mm), .val (.int (2 : Int32)), .val (.ref ma), .val (.ref aa), .val (.int mb), .val (.long (2 : Int64)), .second, .val (.double rr_97), .second, .val (.int (((1 : Int32) <<< (mm &&& 31)) - (1 : Int32))), .val (.int (2 : Int32)), .val (.int M2)] [(.int (M2 ||| ((1 : Int32) <<< (mb &&& 31)))), (.int (2 : Int32)), (.ref ma)])) rfl rfl (hb hby d4_66)
      refine own_go st101 ?_
      have le_101 : T97.heap.size ≤ h101.size := Nat.le_of_eq W101.size.symm
      have K101 : Keep h0 h101 [fo, ia, ma] := Keep.wr K97 W101 (Or.inl (List.mem_of_getElem? (i := 2) rfl))
      have N101 := Fr.snoc X101 N97 gm
      have V101 : Arv Z h101 ma km .int (3 : Int32) [(.int (0 : Int32)), (.int (((1 : Int32) <<< (mm &&& 31)) - (1 : Int32))), (.int (M2 ||| ((1 : Int32) <<< (mb &&& 31))))] (.int (0 : Int32)) := Arv.set Ar100 q100 S100 N100 H100 G100 rfl W101 2 rfl (Nat.le_of_ble_eq_true rfl)
      refine own_go (fun _ => XS.iload X101.here hx rfl (hb hby d4_67) rfl) ?_
      refine own_go (fun _ => XS.iload X101.here hx rfl (hb hby d4_69) rfl) ?_
      show ∃ t o, Steps p.tables e below (T101.setTop (mkF m 71 #[.val (.ref fo), .val (.int mm), .val (.int (2 : Int32)), .val (.ref ma), .val (.ref aa), .val (.int mb), .val (.long (2 : Int64)), .second, .val (.double rr_97), .second, .val (.int (((1 : Int32) <<< (mm &&& 31)) - (1 : Int32))), .val (.int (2 : Int32)), .val (.int M2)] [(.int (((1 : Int32) <<< (mm &&& 31)) - (1 : Int32))), (.int M2)])) t ∧ _
      refine own_go (fun _ => XS.icmpNo X101.here hx rfl (hb hby d4_71) rfl (feq hi5').1) ?_
      refine own_go (fun _ => XS.aloadN X101.here hx rfl (hb hby d4_74) rfl rfl) ?_
      refine own_go (fun _ => XS.iload X101.here hx rfl (hb hby d4_75) rfl) ?_
      show ∃ t o, Steps p.tables e below (T101.setTop (mkF m 77 #[.val (.ref fo), .val (.int mm), .val (.int (2 : Int32)), .val (.ref ma), .val (.ref aa), .val (.int mb), .val (.long (2 : Int64)), .second, .val (.double rr_97), .second, .val (.int (((1 : Int32) <<< (mm &&& 31)) - (1 : Int32))), .val (.int (2 : Int32)), .val (.int M2)] [(.int (2 : Int32)), (.ref ma)])) t ∧ _
      obtain ⟨cl102, Ar102, q102, S102, N102, H102, G102⟩ := id V101
      have hin102 : ¬ ((2 : Int32) < 0 ∨ cl102.slots.size ≤ ((2 : Int32)).toNatClampNeg) := inb_of S102 ⟨by decide, by decide⟩
      have hat102 : cl102.slots[((2 : Int32)).toNatClampNeg]? = some (.int (M2 ||| ((1 : Int32) <<< (mb &&& 31)))) := Has.at H102 hin102 rfl
      refine own_go (fun _ => X101.iaload hx (j := (2 : Int32)) (v := (.int (M2 ||| ((1 : Int32) <<< (mb &&& 31))))) (by rw [e101]; exact Ar102.1) (State.isArrayOf_alike hZ.alike Ar102.2.1) Ar102.2.2 hin102 hat102 (g := (mkF m 77 #[.val (.ref fo), .val (.int mm), .val (.int (2 : Int32)), .val (.ref ma), .val (.ref aa), .val (.int mb), .val (.long (2 : Int64)), .second, .val (.double rr_97), .second, .val (.int (((1 : Int32) <<< (mm &&& 31)) - (1 : Int32))), .val (.int (2 : Int32)), .val (.int M2)] [(.int (2 : Int32)), (.ref ma)])) rfl rfl (hb hby d4_77) _) ?_
      refine own_go (fun _ => XS.iload X101.here hx rfl (hb hby d4_78) rfl) ?_
      show ∃ t o, Steps p.tables e below (T101.setTop (mkF m 80 #[.val (.ref fo), .val (.int mm), .val (.int (2 : Int32)), .val (.ref ma), .val (.ref aa), .val (.int mb), .val (.long (2 : Int64)), .second, .val (.double rr_97), .second, .val (.int (((1 : Int32) <<< (mm &&& 31)) - (1 : Int32))), .val (.int (2 : Int32)), .val (.int M2)] [(.int (((1 : Int32) <<< (mm &&& 31)) - (1 : Int32))), (.int (M2 ||| ((1 : Int32) <<< (mb &&& 31))))])) t ∧ _
      by_cases hc103 : (M2 ||| ((1 : Int32) <<< (mb &&& 31))) = (((1 : Int32) <<< (mm &&& 31)) - (1 : Int32))
      · refine own_go (fun _ => XS.icmpNo X101.here hx rfl (hb hby d4_80) rfl (teq hc103).2) ?_
        refine own_go (fun _ => XS.dload X101.here hx rfl (hb hby d4_83) rfl) ?_
        refine own_go (fun _ => XS.aload X101.here hx rfl (hb hby d4_85) rfl rfl) ?_
        show ∃ t o, Steps p.tables e below (T101.setTop (mkF m 87 #[.val (.ref fo), .val (.int mm), .val (.int (2 : Int32)), .val (.ref ma), .val (.ref aa), .val (.int mb), .val (.long (2 : Int64)), .second, .val (.double rr_97), .second, .val (.int (((1 : Int32) <<< (mm &&& 31)) - (1 : Int32))), .val (.int (2 : Int32)), .val (.int M2)] [(.ref aa), (.double rr_97)])) t ∧ _
        refine own_go (fun _ => XS.iload X101.here hx rfl (hb hby d4_87) rfl) ?_
        have F104 : Arv Z h101 aa ka .double (3 : Int32) [(.double (0 : UInt64)), (.double A1), (.double A2)] (.double (0 : UInt64)) := (Arv.other (Arv.keep P11 Kp97 (ninS naf_ (ninS nai_ nin0))) W101 nam_)
        obtain ⟨cl105, Ar105, q105, S105, N105, H105, G105⟩ := id F104
        have hin105 : ¬ ((2 : Int32) < 0 ∨ cl105.slots.size ≤ ((2 : Int32)).toNatClampNeg) := inb_of S105 ⟨by decide, by decide⟩
        have hat105 : cl105.slots[((2 : Int32)).toNatClampNeg]? = some (.double A2) := Has.at H105 hin105 rfl
        refine own_go (fun _ => X101.daload hx (j := (2 : Int32)) (v := (.double A2)) (by rw [e101]; exact Ar105.1) (State.isArrayOf_alike hZ.alike Ar105.2.1) Ar105.2.2 hin105 hat105 (g := (mkF m 89 #[.val (.ref fo), .val (.int mm), .val (.int (2 : Int32)), .val (.ref ma), .val (.ref aa), .val (.int mb), .val (.long (2 : Int64)), .second, .val (.double rr_97), .second, .val (.int (((1 : Int32) <<< (mm &&& 31)) - (1 : Int32))), .val (.int (2 : Int32)), .val (.int M2)] [(.int (2 : Int32)), (.ref aa), (.double rr_97)])) rfl rfl (hb hby d4_89) _) ?_
        refine own_go (fun _ => XS.dcmpS X101.here hx rfl (hb hby d4_90) rfl (v := (0 : Int32)) (by rw [H97_0, if_pos ⟨hi5', hc103⟩]; exact dcmpV_self nA2 .l)) ?_
        show ∃ t o, Steps p.tables e below (T101.setTop (mkF m 91 #[.val (.ref fo), .val (.int mm), .val (.int (2 : Int32)), .val (.ref ma), .val (.ref aa), .val (.int mb), .val (.long (2 : Int64)), .second, .val (.double rr_97), .second, .val (.int (((1 : Int32) <<< (mm &&& 31)) - (1 : Int32))), .val (.int (2 : Int32)), .val (.int M2)] [(.int (0 : Int32))])) t ∧ _
        refine own_go (fun _ => XS.ifNo X101.here hx rfl (hb hby d4_91) rfl ((if0 _ _).trans (teq (by decide : (0 : Int32) = (0 : Int32))).2)) ?_
        refine own_go (fun _ => XS.iconst X101.here hx rfl (hb hby d4_94)) ?_
        refine own_go (fun _ => XS.goto X101.here hx rfl (pc0 := 95) (pc' := 99) rfl (hb hby d4_95) (by decide) (by decide)) ?_
        show ∃ t o, Steps p.tables e below (T101.setTop (mkF m 99 #[.val (.ref fo), .val (.int mm), .val (.int (2 : Int32)), .val (.ref ma), .val (.ref aa), .val (.int mb), .val (.long (2 : Int64)), .second, .val (.double rr_97), .second, .val (.int (((1 : Int32) <<< (mm &&& 31)) - (1 : Int32))), .val (.int (2 : Int32)), .val (.int M2)] [(.int (1 : Int32))])) t ∧ _
        have F106 : Exa Z h101 fo "com/example/holdback/holdback/sim/InFlight" := (Exa.wr W101 G97_0)
        have F107 : Fld Z h101 fo "com/example/holdback/holdback/sim/InFlight" "multicastAt" "[D" (.ref da) := (Fld.other W101 G97_1 (Or.inl nfm_))
        have F108 : Fld Z h101 fo "com/example/holdback/holdback/sim/InFlight" "deliveredBy" "[I" (.ref ia) := (Fld.other W101 G97_2 (Or.inl nfm_))
        have F109 : Fld Z h101 fo "com/example/holdback/holdback/sim/InFlight" "firstSeq" "J" (.long fq2_97) := (Fld.other W101 G97_3 (Or.inl nfm_))
        have F110 : Fld Z h101 fo "com/example/holdback/holdback/sim/InFlight" "everyone" "I" (.int (((1 : Int32) <<< (mm &&& 31)) - (1 : Int32))) := (Fld.other W101 G97_4 (Or.inl nfm_))
        have F111 : Fld Z h101 fo "com/example/holdback/holdback/sim/InFlight" "size" "I" (.int sz2_97) := (Fld.other W101 G97_5 (Or.inl nfm_))
        have F112 : Fld Z h101 fo "com/example/holdback/holdback/sim/InFlight" "first" "I" (.int fi2_97) := (Fld.other W101 G97_6 (Or.inl nfm_))
        have F113 : Arv Z h101 ia ki .int (16 : Int32) [(.int (((1 : Int32) <<< (mm &&& 31)) - (1 : Int32))), (.int (M2 ||| ((1 : Int32) <<< (mb &&& 31))))] (.int (0 : Int32)) := (Arv.other G97_7 W101 nim_)
        obtain ⟨fs, hr, hrun, hended, hW, hsame⟩ := X101.leave (v := some (.int (1 : Int32))) (fun h => by rw [Bd.returns] at h; cases h)
        refine ⟨_, _, ?_, hrun, hended, _, _, rfl, ?_, ⟨_, rfl⟩, hW, hsame.mono (by decide) (by decide)⟩
        · exact retN X101 hx (t := .boolean) Bd.returns (by simp) (hb hby d4_99) hr
        · show Q_rmCheck2 Z _ _ _ _ _ _ _ _ _ _ _ _ _ _ _ _ _ _ _ h0 n0 _ T101.heap _
          rw [e101]
          exact ⟨fi2_97, sz2_97, fq2_97, (((1 : Int32) <<< (mm &&& 31)) - (1 : Int32)), (M2 ||| ((1 : Int32) <<< (mb &&& 31))), rfl, N101, K101, F106, F107, F108, F109, F110, F111, F112, F113, V101, H97_1⟩
      · refine own_go (fun _ => XS.icmpYes X101.here hx rfl (pc0 := 80) (pc' := 100) rfl (hb hby d4_80) rfl (feq hc103).2 (by decide) (by decide)) ?_
        refine own_go (fun _ => XS.dload X101.here hx rfl (hb hby d4_100) rfl) ?_
        refine own_go (fun _ => XS.dconst0 X101.here hx rfl (hb hby d4_102) rfl) ?_
        show ∃ t o, Steps p.tables e below (T101.setTop (mkF m 103 #[.val (.ref fo), .val (.int mm), .val (.int (2 : Int32)), .val (.ref ma), .val (.ref aa), .val (.int mb), .val (.long (2 : Int64)), .second, .val (.double rr_97), .second, .val (.int (((1 : Int32) <<< (mm &&& 31)) - (1 : Int32))), .val (.int (2 : Int32)), .val (.int M2)] [(.double FP.dconst0), (.double rr_97)])) t ∧ _
        refine own_go (fun _ => XS.dcmpS X101.here hx rfl (hb hby d4_103) rfl (v := (-1 : Int32)) (by rw [H97_0, if_neg (fun z => hc103 z.2)]; exact own_negd)) ?_
        show ∃ t o, Steps p.tables e below (T101.setTop (mkF m 104 #[.val (.ref fo), .val (.int mm), .val (.int (2 : Int32)), .val (.ref ma), .val (.ref aa), .val (.int mb), .val (.long (2 : Int64)), .second, .val (.double rr_97), .second, .val (.int (((1 : Int32) <<< (mm &&& 31)) - (1 : Int32))), .val (.int (2 : Int32)), .val (.int M2)] [(.int (-1 : Int32))])) t ∧ _
        refine own_go (fun _ => XS.ifNo X101.here hx rfl (hb hby d4_104) rfl ((if0 _ _).trans (tlt (by decide : (-1 : Int32) < (0 : Int32))).2.1)) ?_
        refine own_go (fun _ => XS.iconst X101.here hx rfl (hb hby d4_107)) ?_
        refine own_go (fun _ => XS.goto X101.here hx rfl (pc0 := 108) (pc' := 112) rfl (hb hby d4_108) (by decide) (by decide)) ?_
        show ∃ t o, Steps p.tables e below (T101.setTop (mkF m 112 #[.val (.ref fo), .val (.int mm), .val (.int (2 : Int32)), .val (.ref ma), .val (.ref aa), .val (.int mb), .val (.long (2 : Int64)), .second, .val (.double rr_97), .second, .val (.int (((1 : Int32) <<< (mm &&& 31)) - (1 : Int32))), .val (.int (2 : Int32)), .val (.int M2)] [(.int (1 : Int32))])) t ∧ _
        have F114 : Exa Z h101 fo "com/example/holdback/holdback/sim/InFlight" := (Exa.wr W101 G97_0)
        have F115 : Fld Z h101 fo "com/example/holdback/holdback/sim/InFlight" "multicastAt" "[D" (.ref da) := (Fld.other W101 G97_1 (Or.inl nfm_))
        have F116 : Fld Z h101 fo "com/example/holdback/holdback/sim/InFlight" "deliveredBy" "[I" (.ref ia) := (Fld.other W101 G97_2 (Or.inl nfm_))
        have F117 : Fld Z h101 fo "com/example/holdback/holdback/sim/InFlight" "firstSeq" "J" (.long fq2_97) := (Fld.other W101 G97_3 (Or.inl nfm_))
        have F118 : Fld Z h101 fo "com/example/holdback/holdback/sim/InFlight" "everyone" "I" (.int (((1 : Int32) <<< (mm &&& 31)) - (1 : Int32))) := (Fld.other W101 G97_4 (Or.inl nfm_))
        have F119 : Fld Z h101 fo "com/example/holdback/holdback/sim/InFlight" "size" "I" (.int sz2_97) := (Fld.other W101 G97_5 (Or.inl nfm_))
        have F120 : Fld Z h101 fo "com/example/holdback/holdback/sim/InFlight" "first" "I" (.int fi2_97) := (Fld.other W101 G97_6 (Or.inl nfm_))
        have F121 : Arv Z h101 ia ki .int (16 : Int32) [(.int (((1 : Int32) <<< (mm &&& 31)) - (1 : Int32))), (.int (M2 ||| ((1 : Int32) <<< (mb &&& 31))))] (.int (0 : Int32)) := (Arv.other G97_7 W101 nim_)
        obtain ⟨fs, hr, hrun, hended, hW, hsame⟩ := X101.leave (v := some (.int (1 : Int32))) (fun h => by rw [Bd.returns] at h; cases h)
        refine ⟨_, _, ?_, hrun, hended, _, _, rfl, ?_, ⟨_, rfl⟩, hW, hsame.mono (by decide) (by decide)⟩
        · exact retN X101 hx (t := .boolean) Bd.returns (by simp) (hb hby d4_112) hr
        · show Q_rmCheck2 Z _ _ _ _ _ _ _ _ _ _ _ _ _ _ _ _ _ _ _ h0 n0 _ T101.heap _
          rw [e101]
          exact ⟨fi2_97, sz2_97, fq2_97, (((1 : Int32) <<< (mm &&& 31)) - (1 : Int32)), (M2 ||| ((1 : Int32) <<< (mb &&& 31))), rfl, N101, K101, F114, F115, F116, F117, F118, F119, F120, F121, V101, H97_1⟩
    · show ∃ t o, Steps p.tables e below (s₁.setTop (mkF m 0 #[.val (.ref fo), .val (.int mm), .val (.int (2 : Int32)), .val (.ref ma), .val (.ref aa), .val (.int mb), .val (.long sq), .second, .unset, .unset, .unset, .unset, .unset] [])) t ∧ _
      refine own_go (fun _ => XS.aloadN X0.here hx rfl (hb hby d4_0) rfl rfl) ?_
      refine own_go (fun _ => XS.iload X0.here hx rfl (hb hby d4_1) rfl) ?_
      refine own_go (fun _ => XS.lload X0.here hx rfl (hb hby d4_3) rfl) ?_
      show ∃ t o, Steps p.tables e below (s₁.setTop (mkF m 5 #[.val (.ref fo), .val (.int mm), .val (.int (2 : Int32)), .val (.ref ma), .val (.ref aa), .val (.int mb), .val (.long sq), .second, .unset, .unset, .unset, .unset, .unset] [(.long sq), (.int mb), (.ref fo)])) t ∧ _
      obtain ⟨cq122, kq122, q122a, q122b, q122c⟩ := isOf hZ e0 P1
      obtain ⟨_, _, ⟨T122, L122, k122, n122⟩, -, X122, ⟨Lc122, hQ122, l122, y122, z122⟩, st122⟩ := X0.virtualBack hx (y := (⟨"com/example/holdback/holdback/sim/InFlight", "delivered", "(IJ)D"⟩ : MethodName)) (z := (⟨"com/example/holdback/holdback/sim/InFlight", "delivered", "(IJ)D"⟩ : MethodName)) hown (mvT hZ (hw _ (List.mem_of_getElem? (i := 34) rfl))) (mvT hZ (hw _ (List.mem_of_getElem? (i := 35) rfl))) (notFace_of_selects (args := #[]) (mvT hZ (hw _ (List.mem_of_getElem? (i := 37) rfl)))) (mvT hZ (hw _ (List.mem_of_getElem? (i := 37) rfl))) (mvT hZ (hw _ (List.mem_of_getElem? (i := 36) rfl))) (by decide) (backOf (W := 0) (rmOut l Z a0 hw [] fo (1 : Int32) (2 : Int64) mb sq h0 n0 Z0 P4 P6 OLD (own_out 2 1 rfl rfl (by decide) (by decide) (by decide) (by decide) (by omega) : (sq - (2 : Int64)) < (0 : Int64) ∨ ¬ ((sq - (2 : Int64)) < (1 : Int32).toInt64))) hZ (hw _ (List.mem_of_getElem? (i := 38) rfl)) (hw _ (List.mem_of_getElem? (i := 6) rfl)) (by decide) (by decide)) q122a q122c (g := (mkF m 5 #[.val (.ref fo), .val (.int mm), .val (.int (2 : Int32)), .val (.ref ma), .val (.ref aa), .val (.int mb), .val (.long sq), .second, .unset, .unset, .unset, .unset, .unset] [(.long sq), (.int mb), (.ref fo)])) rfl (by rw [hml]; rfl) (Steps.refl _) (argsL := [(.int mb), (.long sq)]) (rest := []) (lenOf pd__28IJ_29D rfl) rfl (by show 2 * 0 + _ ≤ _; exact Nat.le_of_eq rfl) (hb hby d4_5) (fun _ _ => ⟨rfl, e0, (by decide : 0 + 0 ≤ _), (by decide : 0 + 0 ≤ _)⟩)
      dsimp only [Pt.U, Pt.locs, Pt.cells, Pt.slots] at X122 l122 y122 z122 st122 hQ122
      subst l122 y122 z122
      obtain ⟨rfl, Nq122, e122⟩ := hQ122
      have N122 := Fr.app N0 Nq122
      refine own_goT st122 ?_
      refine own_go (fun _ => XS.dstore X122.here hx rfl (hb hby d4_8) rfl (l' := #[.val (.ref fo), .val (.int mm), .val (.int (2 : Int32)), .val (.ref ma), .val (.ref aa), .val (.int mb), .val (.long sq), .second, .val (.double (13830554455654793216 : UInt64)), .second, .unset, .unset, .unset]) rfl) ?_
      refine own_go (fun _ => XS.iconst X122.here hx rfl (hb hby d4_10)) ?_
      show ∃ t o, Steps p.tables e below (T122.setTop (mkF m 11 #[.val (.ref fo), .val (.int mm), .val (.int (2 : Int32)), .val (.ref ma), .val (.ref aa), .val (.int mb), .val (.long sq), .second, .val (.double (13830554455654793216 : UInt64)), .second, .unset, .unset, .unset] [(.int (1 : Int32))])) t ∧ _
      refine own_go (fun _ => XS.iloadN X122.here hx rfl (hb hby d4_11) rfl) ?_
      refine own_go (fun _ => XS.ishl X122.here hx rfl (hb hby d4_12) rfl) ?_
      refine own_go (fun _ => XS.iconst X122.here hx rfl (hb hby d4_13)) ?_
      show ∃ t o, Steps p.tables e below (T122.setTop (mkF m 14 #[.val (.ref fo), .val (.int mm), .val (.int (2 : Int32)), .val (.ref ma), .val (.ref aa), .val (.int mb), .val (.long sq), .second, .val (.double (13830554455654793216 : UInt64)), .second, .unset, .unset, .unset] [(.int (1 : Int32)), (.int ((1 : Int32) <<< (mm &&& 31)))])) t ∧ _
      refine own_go (fun _ => XS.isub X122.here hx rfl (hb hby d4_14) rfl) ?_
      refine own_go (fun _ => XS.istore X122.here hx rfl (hb hby d4_15) rfl (l' := #[.val (.ref fo), .val (.int mm), .val (.int (2 : Int32)), .val (.ref ma), .val (.ref aa), .val (.int mb), .val (.long sq), .second, .val (.double (13830554455654793216 : UInt64)), .second, .val (.int (((1 : Int32) <<< (mm &&& 31)) - (1 : Int32))), .unset, .unset]) rfl) ?_
      refine own_go (fun _ => XS.lload X122.here hx rfl (hb hby d4_17) rfl) ?_
      show ∃ t o, Steps p.tables e below (T122.setTop (mkF m 19 #[.val (.ref fo), .val (.int mm), .val (.int (2 : Int32)), .val (.ref ma), .val (.ref aa), .val (.int mb), .val (.long sq), .second, .val (.double (13830554455654793216 : UInt64)), .second, .val (.int (((1 : Int32) <<< (mm &&& 31)) - (1 : Int32))), .unset, .unset] [(.long sq)])) t ∧ _
      refine own_go (fun _ => XS.lconst X122.here hx rfl (hb hby d4_19)) ?_
      refine own_go (fun _ => XS.lcmp X122.here hx rfl (hb hby d4_20) rfl) ?_
      show ∃ t o, Steps p.tables e below (T122.setTop (mkF m 21 #[.val (.ref fo), .val (.int mm), .val (.int (2 : Int32)), .val (.ref ma), .val (.ref aa), .val (.int mb), .val (.long sq), .second, .val (.double (13830554455654793216 : UInt64)), .second, .val (.int (((1 : Int32) <<< (mm &&& 31)) - (1 : Int32))), .unset, .unset] [(.int (lcmpW sq (1 : Int64)))])) t ∧ _
      by_cases hc123 : sq < (1 : Int64)
      · refine own_go (fun _ => XS.ifYes X122.here hx rfl (pc0 := 21) (pc' := 32) rfl (hb hby d4_21) rfl ((if0 _ _).trans (tlt ((lw_lt _ _).mpr hc123)).1) (by decide) (by decide)) ?_
        refine own_go (fun _ => XS.dload X122.here hx rfl (hb hby d4_32) rfl) ?_
        refine own_go (fun _ => XS.dconst0 X122.here hx rfl (hb hby d4_34) rfl) ?_
        show ∃ t o, Steps p.tables e below (T122.setTop (mkF m 35 #[.val (.ref fo), .val (.int mm), .val (.int (2 : Int32)), .val (.ref ma), .val (.ref aa), .val (.int mb), .val (.long sq), .second, .val (.double (13830554455654793216 : UInt64)), .second, .val (.int (((1 : Int32) <<< (mm &&& 31)) - (1 : Int32))), .unset, .unset] [(.double FP.dconst0), (.double (13830554455654793216 : UInt64))])) t ∧ _
        refine own_go (fun _ => XS.dcmpS X122.here hx rfl (hb hby d4_35) rfl (v := (-1 : Int32)) own_negd) ?_
        show ∃ t o, Steps p.tables e below (T122.setTop (mkF m 36 #[.val (.ref fo), .val (.int mm), .val (.int (2 : Int32)), .val (.ref ma), .val (.ref aa), .val (.int mb), .val (.long sq), .second, .val (.double (13830554455654793216 : UInt64)), .second, .val (.int (((1 : Int32) <<< (mm &&& 31)) - (1 : Int32))), .unset, .unset] [(.int (-1 : Int32))])) t ∧ _
        refine own_go (fun _ => XS.ifNo X122.here hx rfl (hb hby d4_36) rfl ((if0 _ _).trans (tlt (by decide : (-1 : Int32) < (0 : Int32))).2.1)) ?_
        refine own_go (fun _ => XS.iconst X122.here hx rfl (hb hby d4_39)) ?_
        refine own_go (fun _ => XS.goto X122.here hx rfl (pc0 := 40) (pc' := 44) rfl (hb hby d4_40) (by decide) (by decide)) ?_
        show ∃ t o, Steps p.tables e below (T122.setTop (mkF m 44 #[.val (.ref fo), .val (.int mm), .val (.int (2 : Int32)), .val (.ref ma), .val (.ref aa), .val (.int mb), .val (.long sq), .second, .val (.double (13830554455654793216 : UInt64)), .second, .val (.int (((1 : Int32) <<< (mm &&& 31)) - (1 : Int32))), .unset, .unset] [(.int (1 : Int32))])) t ∧ _
        obtain ⟨fs, hr, hrun, hended, hW, hsame⟩ := X122.leave (v := some (.int (1 : Int32))) (fun h => by rw [Bd.returns] at h; cases h)
        refine ⟨_, _, ?_, hrun, hended, _, _, rfl, ?_, ⟨_, rfl⟩, hW, hsame.mono (by decide) (by decide)⟩
        · exact retN X122 hx (t := .boolean) Bd.returns (by simp) (hb hby d4_44) hr
        · show Q_rmCheck2 Z _ _ _ _ _ _ _ _ _ _ _ _ _ _ _ _ _ _ _ h0 n0 _ T122.heap _
          rw [e122]
          exact ⟨(1 : Int32), (1 : Int32), (2 : Int64), (((1 : Int32) <<< (mm &&& 31)) - (1 : Int32)), M2, rfl, N122, (Keep.refl h0 [fo, ia, ma]), P1, P2, P3, P4, P5, P6, P7, P9, P10, (Or.inr (Or.inl ⟨rfl, rfl, rfl, rfl, Or.inr hi5'⟩))⟩
      · refine own_go (fun _ => XS.ifNo X122.here hx rfl (hb hby d4_21) rfl ((if0 _ _).trans (flt (mt (lw_lt _ _).mp hc123)).1)) ?_
        refine own_go (fun _ => XS.lload X122.here hx rfl (hb hby d4_24) rfl) ?_
        refine own_go (fun _ => XS.iloadN X122.here hx rfl (hb hby d4_26) rfl) ?_
        show ∃ t o, Steps p.tables e below (T122.setTop (mkF m 27 #[.val (.ref fo), .val (.int mm), .val (.int (2 : Int32)), .val (.ref ma), .val (.ref aa), .val (.int mb), .val (.long sq), .second, .val (.double (13830554455654793216 : UInt64)), .second, .val (.int (((1 : Int32) <<< (mm &&& 31)) - (1 : Int32))), .unset, .unset] [(.int (2 : Int32)), (.long sq)])) t ∧ _
        refine own_go (fun _ => XS.i2l X122.here hx rfl (hb hby d4_27) rfl) ?_
        refine own_go (fun _ => XS.lcmp X122.here hx rfl (hb hby d4_28) rfl) ?_
        show ∃ t o, Steps p.tables e below (T122.setTop (mkF m 29 #[.val (.ref fo), .val (.int mm), .val (.int (2 : Int32)), .val (.ref ma), .val (.ref aa), .val (.int mb), .val (.long sq), .second, .val (.double (13830554455654793216 : UInt64)), .second, .val (.int (((1 : Int32) <<< (mm &&& 31)) - (1 : Int32))), .unset, .unset] [(.int (lcmpW sq (2 : Int64)))])) t ∧ _
        have hd124 : (2 : Int64) < sq := own_lt1 _ 2 rfl hq hc123
        refine own_go (fun _ => XS.ifNo X122.here hx rfl (hb hby d4_29) rfl ((if0 _ _).trans (tlt ((lw_gt _ _).mpr hd124)).2.2.2)) ?_
        refine own_go (fun _ => XS.dload X122.here hx rfl (hb hby d4_32) rfl) ?_
        refine own_go (fun _ => XS.dconst0 X122.here hx rfl (hb hby d4_34) rfl) ?_
        show ∃ t o, Steps p.tables e below (T122.setTop (mkF m 35 #[.val (.ref fo), .val (.int mm), .val (.int (2 : Int32)), .val (.ref ma), .val (.ref aa), .val (.int mb), .val (.long sq), .second, .val (.double (13830554455654793216 : UInt64)), .second, .val (.int (((1 : Int32) <<< (mm &&& 31)) - (1 : Int32))), .unset, .unset] [(.double FP.dconst0), (.double (13830554455654793216 : UInt64))])) t ∧ _
        refine own_go (fun _ => XS.dcmpS X122.here hx rfl (hb hby d4_35) rfl (v := (-1 : Int32)) own_negd) ?_
        show ∃ t o, Steps p.tables e below (T122.setTop (mkF m 36 #[.val (.ref fo), .val (.int mm), .val (.int (2 : Int32)), .val (.ref ma), .val (.ref aa), .val (.int mb), .val (.long sq), .second, .val (.double (13830554455654793216 : UInt64)), .second, .val (.int (((1 : Int32) <<< (mm &&& 31)) - (1 : Int32))), .unset, .unset] [(.int (-1 : Int32))])) t ∧ _
        refine own_go (fun _ => XS.ifNo X122.here hx rfl (hb hby d4_36) rfl ((if0 _ _).trans (tlt (by decide : (-1 : Int32) < (0 : Int32))).2.1)) ?_
        refine own_go (fun _ => XS.iconst X122.here hx rfl (hb hby d4_39)) ?_
        refine own_go (fun _ => XS.goto X122.here hx rfl (pc0 := 40) (pc' := 44) rfl (hb hby d4_40) (by decide) (by decide)) ?_
        show ∃ t o, Steps p.tables e below (T122.setTop (mkF m 44 #[.val (.ref fo), .val (.int mm), .val (.int (2 : Int32)), .val (.ref ma), .val (.ref aa), .val (.int mb), .val (.long sq), .second, .val (.double (13830554455654793216 : UInt64)), .second, .val (.int (((1 : Int32) <<< (mm &&& 31)) - (1 : Int32))), .unset, .unset] [(.int (1 : Int32))])) t ∧ _
        obtain ⟨fs, hr, hrun, hended, hW, hsame⟩ := X122.leave (v := some (.int (1 : Int32))) (fun h => by rw [Bd.returns] at h; cases h)
        refine ⟨_, _, ?_, hrun, hended, _, _, rfl, ?_, ⟨_, rfl⟩, hW, hsame.mono (by decide) (by decide)⟩
        · exact retN X122 hx (t := .boolean) Bd.returns (by simp) (hb hby d4_44) hr
        · show Q_rmCheck2 Z _ _ _ _ _ _ _ _ _ _ _ _ _ _ _ _ _ _ _ h0 n0 _ T122.heap _
          rw [e122]
          exact ⟨(1 : Int32), (1 : Int32), (2 : Int64), (((1 : Int32) <<< (mm &&& 31)) - (1 : Int32)), M2, rfl, N122, (Keep.refl h0 [fo, ia, ma]), P1, P2, P3, P4, P5, P6, P7, P9, P10, (Or.inr (Or.inl ⟨rfl, rfl, rfl, rfl, Or.inr hi5'⟩))⟩
  · have hi2' : sz = (0 : Int32) := hi2
    subst hi1 hi2' hi3
    subst hi4
    subst hi5
    show ∃ t o, Steps p.tables e below (s₁.setTop (mkF m 0 #[.val (.ref fo), .val (.int mm), .val (.int (2 : Int32)), .val (.ref ma), .val (.ref aa), .val (.int mb), .val (.long sq), .second, .unset, .unset, .unset, .unset, .unset] [])) t ∧ _
    rcases own_seq2 sq with hq | hq | hq
    · subst hq
      show ∃ t o, Steps p.tables e below (s₁.setTop (mkF m 0 #[.val (.ref fo), .val (.int mm), .val (.int (2 : Int32)), .val (.ref ma), .val (.ref aa), .val (.int mb), .val (.long (1 : Int64)), .second, .unset, .unset, .unset, .unset, .unset] [])) t ∧ _
      refine own_go (fun _ => XS.aloadN X0.here hx rfl (hb hby d4_0) rfl rfl) ?_
      refine own_go (fun _ => XS.iload X0.here hx rfl (hb hby d4_1) rfl) ?_
      refine own_go (fun _ => XS.lload X0.here hx rfl (hb hby d4_3) rfl) ?_
      show ∃ t o, Steps p.tables e below (s₁.setTop (mkF m 5 #[.val (.ref fo), .val (.int mm), .val (.int (2 : Int32)), .val (.ref ma), .val (.ref aa), .val (.int mb), .val (.long (1 : Int64)), .second, .unset, .unset, .unset, .unset, .unset] [(.long (1 : Int64)), (.int mb), (.ref fo)])) t ∧ _
      obtain ⟨cq125, kq125, q125a, q125b, q125c⟩ := isOf hZ e0 P1
      obtain ⟨_, _, ⟨T125, L125, k125, n125⟩, -, X125, ⟨Lc125, hQ125, l125, y125, z125⟩, st125⟩ := X0.virtualBack hx (y := (⟨"com/example/holdback/holdback/sim/InFlight", "delivered", "(IJ)D"⟩ : MethodName)) (z := (⟨"com/example/holdback/holdback/sim/InFlight", "delivered", "(IJ)D"⟩ : MethodName)) hown (mvT hZ (hw _ (List.mem_of_getElem? (i := 34) rfl))) (mvT hZ (hw _ (List.mem_of_getElem? (i := 35) rfl))) (notFace_of_selects (args := #[]) (mvT hZ (hw _ (List.mem_of_getElem? (i := 37) rfl)))) (mvT hZ (hw _ (List.mem_of_getElem? (i := 37) rfl))) (mvT hZ (hw _ (List.mem_of_getElem? (i := 36) rfl))) (by decide) (backOf (W := 0) (rmOut l Z a0 hw [] fo (0 : Int32) (3 : Int64) mb (1 : Int64) h0 n0 Z0 P4 P6 OLD (Or.inl (by decide) : ((1 : Int64) - (3 : Int64)) < (0 : Int64) ∨ ¬ (((1 : Int64) - (3 : Int64)) < (0 : Int32).toInt64))) hZ (hw _ (List.mem_of_getElem? (i := 38) rfl)) (hw _ (List.mem_of_getElem? (i := 6) rfl)) (by decide) (by decide)) q125a q125c (g := (mkF m 5 #[.val (.ref fo), .val (.int mm), .val (.int (2 : Int32)), .val (.ref ma), .val (.ref aa), .val (.int mb), .val (.long (1 : Int64)), .second, .unset, .unset, .unset, .unset, .unset] [(.long (1 : Int64)), (.int mb), (.ref fo)])) rfl (by rw [hml]; rfl) (Steps.refl _) (argsL := [(.int mb), (.long (1 : Int64))]) (rest := []) (lenOf pd__28IJ_29D rfl) rfl (by show 2 * 0 + _ ≤ _; exact Nat.le_of_eq rfl) (hb hby d4_5) (fun _ _ => ⟨rfl, e0, (by decide : 0 + 0 ≤ _), (by decide : 0 + 0 ≤ _)⟩)
      dsimp only [Pt.U, Pt.locs, Pt.cells, Pt.slots] at X125 l125 y125 z125 st125 hQ125
      subst l125 y125 z125
      obtain ⟨rfl, Nq125, e125⟩ := hQ125
      have N125 := Fr.app N0 Nq125
      refine own_goT st125 ?_
      refine own_go (fun _ => XS.dstore X125.here hx rfl (hb hby d4_8) rfl (l' := #[.val (.ref fo), .val (.int mm), .val (.int (2 : Int32)), .val (.ref ma), .val (.ref aa), .val (.int mb), .val (.long (1 : Int64)), .second, .val (.double (13830554455654793216 : UInt64)), .second, .unset, .unset, .unset]) rfl) ?_
      refine own_go (fun _ => XS.iconst X125.here hx rfl (hb hby d4_10)) ?_
      show ∃ t o, Steps p.tables e below (T125.setTop (mkF m 11 #[.val (.ref fo), .val (.int mm), .val (.int (2 : Int32)), .val (.ref ma), .val (.ref aa), .val (.int mb), .val (.long (1 : Int64)), .second, .val (.double (13830554455654793216 : UInt64)), .second, .unset, .unset, .unset] [(.int (1 : Int32))])) t ∧ _
      refine own_go (fun _ => XS.iloadN X125.here hx rfl (hb hby d4_11) rfl) ?_
      refine own_go (fun _ => XS.ishl X125.here hx rfl (hb hby d4_12) rfl) ?_
      refine own_go (fun _ => XS.iconst X125.here hx rfl (hb hby d4_13)) ?_
      show ∃ t o, Steps p.tables e below (T125.setTop (mkF m 14 #[.val (.ref fo), .val (.int mm), .val (.int (2 : Int32)), .val (.ref ma), .val (.ref aa), .val (.int mb), .val (.long (1 : Int64)), .second, .val (.double (13830554455654793216 : UInt64)), .second, .unset, .unset, .unset] [(.int (1 : Int32)), (.int ((1 : Int32) <<< (mm &&& 31)))])) t ∧ _
      refine own_go (fun _ => XS.isub X125.here hx rfl (hb hby d4_14) rfl) ?_
      refine own_go (fun _ => XS.istore X125.here hx rfl (hb hby d4_15) rfl (l' := #[.val (.ref fo), .val (.int mm), .val (.int (2 : Int32)), .val (.ref ma), .val (.ref aa), .val (.int mb), .val (.long (1 : Int64)), .second, .val (.double (13830554455654793216 : UInt64)), .second, .val (.int (((1 : Int32) <<< (mm &&& 31)) - (1 : Int32))), .unset, .unset]) rfl) ?_
      refine own_go (fun _ => XS.lload X125.here hx rfl (hb hby d4_17) rfl) ?_
      show ∃ t o, Steps p.tables e below (T125.setTop (mkF m 19 #[.val (.ref fo), .val (.int mm), .val (.int (2 : Int32)), .val (.ref ma), .val (.ref aa), .val (.int mb), .val (.long (1 : Int64)), .second, .val (.double (13830554455654793216 : UInt64)), .second, .val (.int (((1 : Int32) <<< (mm &&& 31)) - (1 : Int32))), .unset, .unset] [(.long (1 : Int64))])) t ∧ _
      refine own_go (fun _ => XS.lconst X125.here hx rfl (hb hby d4_19)) ?_
      refine own_go (fun _ => XS.lcmp X125.here hx rfl (hb hby d4_20) rfl) ?_
      show ∃ t o, Steps p.tables e below (T125.setTop (mkF m 21 #[.val (.ref fo), .val (.int mm), .val (.int (2 : Int32)), .val (.ref ma), .val (.ref aa), .val (.int mb), .val (.long (1 : Int64)), .second, .val (.double (13830554455654793216 : UInt64)), .second, .val (.int (((1 : Int32) <<< (mm &&& 31)) - (1 : Int32))), .unset, .unset] [(.int (lcmpW (1 : Int64) (1 : Int64)))])) t ∧ _
      refine own_go (fun _ => XS.ifNo X125.here hx rfl (hb hby d4_21) rfl ((if0 _ _).trans (flt (mt (lw_lt _ _).mp (by decide : ¬ ((1 : Int64) < (1 : Int64))))).1)) ?_
      refine own_go (fun _ => XS.lload X125.here hx rfl (hb hby d4_24) rfl) ?_
      refine own_go (fun _ => XS.iloadN X125.here hx rfl (hb hby d4_26) rfl) ?_
      show ∃ t o, Steps p.tables e below (T125.setTop (mkF m 27 #[.val (.ref fo), .val (.int mm), .val (.int (2 : Int32)), .val (.ref ma), .val (.ref aa), .val (.int mb), .val (.long (1 : Int64)), .second, .val (.double (13830554455654793216 : UInt64)), .second, .val (.int (((1 : Int32) <<< (mm &&& 31)) - (1 : Int32))), .unset, .unset] [(.int (2 : Int32)), (.long (1 : Int64))])) t ∧ _
      refine own_go (fun _ => XS.i2l X125.here hx rfl (hb hby d4_27) rfl) ?_
      refine own_go (fun _ => XS.lcmp X125.here hx rfl (hb hby d4_28) rfl) ?_
      show ∃ t o, Steps p.tables e below (T125.setTop (mkF m 29 #[.val (.ref fo), .val (.int mm), .val (.int (2 : Int32)), .val (.ref ma), .val (.ref aa), .val (.int mb), .val (.long (1 : Int64)), .second, .val (.double (13830554455654793216 : UInt64)), .second, .val (.int (((1 : Int32) <<< (mm &&& 31)) - (1 : Int32))), .unset, .unset] [(.int (lcmpW (1 : Int64) (2 : Int64)))])) t ∧ _
      refine own_go (fun _ => XS.ifYes X125.here hx rfl (pc0 := 29) (pc' := 45) rfl (hb hby d4_29) rfl ((if0 _ _).trans (flt (mt (lw_gt _ _).mp (by decide : ¬ ((2 : Int64) < (1 : Int64))))).2.2.2) (by decide) (by decide)) ?_
      refine own_go (fun _ => XS.lload X125.here hx rfl (hb hby d4_45) rfl) ?_
      refine own_go (fun _ => XS.l2i X125.here hx rfl (hb hby d4_47) rfl) ?_
      show ∃ t o, Steps p.tables e below (T125.setTop (mkF m 48 #[.val (.ref fo), .val (.int mm), .val (.int (2 : Int32)), .val (.ref ma), .val (.ref aa), .val (.int mb), .val (.long (1 : Int64)), .second, .val (.double (13830554455654793216 : UInt64)), .second, .val (.int (((1 : Int32) <<< (mm &&& 31)) - (1 : Int32))), .unset, .unset] [(.int (1 : Int32))])) t ∧ _
      refine own_go (fun _ => XS.istore X125.here hx rfl (hb hby d4_48) rfl (l' := #[.val (.ref fo), .val (.int mm), .val (.int (2 : Int32)), .val (.ref ma), .val (.ref aa), .val (.int mb), .val (.long (1 : Int64)), .second, .val (.double (13830554455654793216 : UInt64)), .second, .val (.int (((1 : Int32) <<< (mm &&& 31)) - (1 : Int32))), .val (.int (1 : Int32)), .unset]) rfl) ?_
      refine own_go (fun _ => XS.aloadN X125.here hx rfl (hb hby d4_50) rfl rfl) ?_
      refine own_go (fun _ => XS.iload X125.here hx rfl (hb hby d4_51) rfl) ?_
      show ∃ t o, Steps p.tables e below (T125.setTop (mkF m 53 #[.val (.ref fo), .val (.int mm), .val (.int (2 : Int32)), .val (.ref ma), .val (.ref aa), .val (.int mb), .val (.long (1 : Int64)), .second, .val (.double (13830554455654793216 : UInt64)), .second, .val (.int (((1 : Int32) <<< (mm &&& 31)) - (1 : Int32))), .val (.int (1 : Int32)), .unset] [(.int (1 : Int32)), (.ref ma)])) t ∧ _
      obtain ⟨cl126, Ar126, q126, S126, N126, H126, G126⟩ := id P10
      have hin126 : ¬ ((1 : Int32) < 0 ∨ cl126.slots.size ≤ ((1 : Int32)).toNatClampNeg) := inb_of S126 ⟨by decide, by decide⟩
      have hat126 : cl126.slots[((1 : Int32)).toNatClampNeg]? = some (.int (((1 : Int32) <<< (mm &&& 31)) - (1 : Int32))) := Has.at H126 hin126 rfl
      refine own_go (fun _ => X125.iaload hx (j := (1 : Int32)) (v := (.int (((1 : Int32) <<< (mm &&& 31)) - (1 : Int32)))) (by rw [e125]; exact Ar126.1) (State.isArrayOf_alike hZ.alike Ar126.2.1) Ar126.2.2 hin126 hat126 (g := (mkF m 53 #[.val (.ref fo), .val (.int mm), .val (.int (2 : Int32)), .val (.ref ma), .val (.ref aa), .val (.int mb), .val (.long (1 : Int64)), .second, .val (.double (13830554455654793216 : UInt64)), .second, .val (.int (((1 : Int32) <<< (mm &&& 31)) - (1 : Int32))), .val (.int (1 : Int32)), .unset] [(.int (1 : Int32)), (.ref ma)])) rfl rfl (hb hby d4_53) _) ?_
      refine own_go (fun _ => XS.istore X125.here hx rfl (hb hby d4_54) rfl (l' := #[.val (.ref fo), .val (.int mm), .val (.int (2 : Int32)), .val (.ref ma), .val (.ref aa), .val (.int mb), .val (.long (1 : Int64)), .second, .val (.double (13830554455654793216 : UInt64)), .second, .val (.int (((1 : Int32) <<< (mm &&& 31)) - (1 : Int32))), .val (.int (1 : Int32)), .val (.int (((1 : Int32) <<< (mm &&& 31)) - (1 : Int32)))]) rfl) ?_
      refine own_go (fun _ => XS.aloadN X125.here hx rfl (hb hby d4_56) rfl rfl) ?_
      show ∃ t o, Steps p.tables e below (T125.setTop (mkF m 57 #[.val (.ref fo), .val (.int mm), .val (.int (2 : Int32)), .val (.ref ma), .val (.ref aa), .val (.int mb), .val (.long (1 : Int64)), .second, .val (.double (13830554455654793216 : UInt64)), .second, .val (.int (((1 : Int32) <<< (mm &&& 31)) - (1 : Int32))), .val (.int (1 : Int32)), .val (.int (((1 : Int32) <<< (mm &&& 31)) - (1 : Int32)))] [(.ref ma)])) t ∧ _
      refine own_go (fun _ => XS.iload X125.here hx rfl (hb hby d4_57) rfl) ?_
      refine own_go (fun _ => XS.iload X125.here hx rfl (hb hby d4_59) rfl) ?_
      refine own_go (fun _ => XS.iconst X125.here hx rfl (hb hby d4_61)) ?_
      show ∃ t o, Steps p.tables e below (T125.setTop (mkF m 62 #[.val (.ref fo), .val (.int mm), .val (.int (2 : Int32)), .val (.ref ma), .val (.ref aa), .val (.int mb), .val (.long (1 : Int64)), .second, .val (.double (13830554455654793216 : UInt64)), .second, .val (.int (((1 : Int32) <<< (mm &&& 31)) - (1 : Int32))), .val (.int (1 : Int32)), .val (.int (((1 : Int32) <<< (mm &&& 31)) - (1 : Int32)))] [(.int (1 : Int32)), (.int (((1 : Int32) <<< (mm &&& 31)) - (1 : Int32))), (.int (1 : Int32)), (.ref ma)])) t ∧ _
      refine own_go (fun _ => XS.iload X125.here hx rfl (hb hby d4_62) rfl) ?_
      refine own_go (fun _ => XS.ishl X125.here hx rfl (hb hby d4_64) rfl) ?_
      refine own_go (fun _ => XS.ior X125.here hx rfl (hb hby d4_65) rfl) ?_
      show ∃ t o, Steps p.tables e below (T125.setTop (mkF m 66 #[.val (.ref fo), .val (.int mm), .val (.int (2 : Int32)), .val (.ref ma), .val (.ref aa), .val (.int mb), .val (.long (1 : Int64)), .second, .val (.double (13830554455654793216 : UInt64)), .second, .val (.int (((1 : Int32) <<< (mm &&& 31)) - (1 : Int32))), .val (.int (1 : Int32)), .val (.int (((1 : Int32) <<< (mm &&& 31)) - (1 : Int32)))] [(.int ((((1 : Int32) <<< (mm &&& 31)) - (1 : Int32)) ||| ((1 : Int32) <<< (mb &&& 31)))), (.int (1 : Int32)), (.ref ma)])) t ∧ _
      obtain ⟨cl127, Ar127, q127, S127, N127, H127, G127⟩ := id P10
      have hin127 : ¬ ((1 : Int32) < 0 ∨ cl127.slots.size ≤ ((1 : Int32)).toNatClampNeg) := inb_of S127 ⟨by decide, by decide⟩
      obtain ⟨T128, h128, X128, e128, W128, st128⟩ := stI X125 hx hZ e125 Ar127 (j := (1 : Int32)) hin127 (g := (mkF m 66 #[.val (.ref fo), .val (.int mm), .val (.int (2 : Int32)), .val (.ref ma), .val (.ref aa), .val (.int mb), .val (.long (1 : Int64)), .second, .val (.double (13830554455654793216 : UInt64)), .second, .val (.int (((1 : Int32) <<< (mm &&& 31)) - (1 : Int32))), .val (.int (1 : Int32)), .val (.int (((1 : Int32) <<< (mm &&& 31)) - (1 : Int32)))] [(.int ((((1 : Int32) <<< (mm &&& 31)) - (1 : Int32)) ||| ((1 : Int32) <<< (mb &&& 31)))), (.int (1 : Int32)), (.ref ma)])) rfl rfl (hb hby d4_66)
      refine own_go st128 ?_
      have le_128 : h0.size ≤ h128.size := Nat.le_of_eq W128.size.symm
      have K128 : Keep h0 h128 [fo, ia, ma] := Keep.wr (Keep.refl h0 [fo, ia, ma]) W128 (Or.inl (List.mem_of_getElem? (i := 2) rfl))
      have N128 := Fr.snoc X128 N125 gm
      have V128 : Arv Z h128 ma km .int (3 : Int32) [(.int (0 : Int32)), (.int ((((1 : Int32) <<< (mm &&& 31)) - (1 : Int32)) ||| ((1 : Int32) <<< (mb &&& 31)))), (.int (((1 : Int32) <<< (mm &&& 31)) - (1 : Int32)))] (.int (0 : Int32)) := Arv.set Ar127 q127 S127 N127 H127 G127 rfl W128 1 rfl (Nat.le_of_ble_eq_true rfl)
      have F129 : Arv Z h128 ma km .int (3 : Int32) [(.int (0 : Int32)), (.int (((1 : Int32) <<< (mm &&& 31)) - (1 : Int32))), (.int (((1 : Int32) <<< (mm &&& 31)) - (1 : Int32)))] (.int (0 : Int32)) := by have q := V128; rw [hbit] at q; exact q
      refine own_go (fun _ => XS.iload X128.here hx rfl (hb hby d4_67) rfl) ?_
      refine own_go (fun _ => XS.iload X128.here hx rfl (hb hby d4_69) rfl) ?_
      show ∃ t o, Steps p.tables e below (T128.setTop (mkF m 71 #[.val (.ref fo), .val (.int mm), .val (.int (2 : Int32)), .val (.ref ma), .val (.ref aa), .val (.int mb), .val (.long (1 : Int64)), .second, .val (.double (13830554455654793216 : UInt64)), .second, .val (.int (((1 : Int32) <<< (mm &&& 31)) - (1 : Int32))), .val (.int (1 : Int32)), .val (.int (((1 : Int32) <<< (mm &&& 31)) - (1 : Int32)))] [(.int (((1 : Int32) <<< (mm &&& 31)) - (1 : Int32))), (.int (((1 : Int32) <<< (mm &&& 31)) - (1 : Int32)))])) t ∧ _
      by_cases hc130 : (((1 : Int32) <<< (mm &&& 31)) - (1 : Int32)) = (((1 : Int32) <<< (mm &&& 31)) - (1 : Int32))
      · refine own_go (fun _ => XS.icmpYes X128.here hx rfl (pc0 := 71) (pc' := 100) rfl (hb hby d4_71) rfl (teq hc130).1 (by decide) (by decide)) ?_
        refine own_go (fun _ => XS.dload X128.here hx rfl (hb hby d4_100) rfl) ?_
        refine own_go (fun _ => XS.dconst0 X128.here hx rfl (hb hby d4_102) rfl) ?_
        show ∃ t o, Steps p.tables e below (T128.setTop (mkF m 103 #[.val (.ref fo), .val (.int mm), .val (.int (2 : Int32)), .val (.ref ma), .val (.ref aa), .val (.int mb), .val (.long (1 : Int64)), .second, .val (.double (13830554455654793216 : UInt64)), .second, .val (.int (((1 : Int32) <<< (mm &&& 31)) - (1 : Int32))), .val (.int (1 : Int32)), .val (.int (((1 : Int32) <<< (mm &&& 31)) - (1 : Int32)))] [(.double FP.dconst0), (.double (13830554455654793216 : UInt64))])) t ∧ _
        refine own_go (fun _ => XS.dcmpS X128.here hx rfl (hb hby d4_103) rfl (v := (-1 : Int32)) own_negd) ?_
        show ∃ t o, Steps p.tables e below (T128.setTop (mkF m 104 #[.val (.ref fo), .val (.int mm), .val (.int (2 : Int32)), .val (.ref ma), .val (.ref aa), .val (.int mb), .val (.long (1 : Int64)), .second, .val (.double (13830554455654793216 : UInt64)), .second, .val (.int (((1 : Int32) <<< (mm &&& 31)) - (1 : Int32))), .val (.int (1 : Int32)), .val (.int (((1 : Int32) <<< (mm &&& 31)) - (1 : Int32)))] [(.int (-1 : Int32))])) t ∧ _
        refine own_go (fun _ => XS.ifNo X128.here hx rfl (hb hby d4_104) rfl ((if0 _ _).trans (tlt (by decide : (-1 : Int32) < (0 : Int32))).2.1)) ?_
        refine own_go (fun _ => XS.iconst X128.here hx rfl (hb hby d4_107)) ?_
        refine own_go (fun _ => XS.goto X128.here hx rfl (pc0 := 108) (pc' := 112) rfl (hb hby d4_108) (by decide) (by decide)) ?_
        show ∃ t o, Steps p.tables e below (T128.setTop (mkF m 112 #[.val (.ref fo), .val (.int mm), .val (.int (2 : Int32)), .val (.ref ma), .val (.ref aa), .val (.int mb), .val (.long (1 : Int64)), .second, .val (.double (13830554455654793216 : UInt64)), .second, .val (.int (((1 : Int32) <<< (mm &&& 31)) - (1 : Int32))), .val (.int (1 : Int32)), .val (.int (((1 : Int32) <<< (mm &&& 31)) - (1 : Int32)))] [(.int (1 : Int32))])) t ∧ _
        have F131 : Exa Z h128 fo "com/example/holdback/holdback/sim/InFlight" := (Exa.wr W128 P1)
        have F132 : Fld Z h128 fo "com/example/holdback/holdback/sim/InFlight" "multicastAt" "[D" (.ref da) := (Fld.other W128 P2 (Or.inl nfm_))
        have F133 : Fld Z h128 fo "com/example/holdback/holdback/sim/InFlight" "deliveredBy" "[I" (.ref ia) := (Fld.other W128 P3 (Or.inl nfm_))
        have F134 : Fld Z h128 fo "com/example/holdback/holdback/sim/InFlight" "firstSeq" "J" (.long (3 : Int64)) := (Fld.other W128 P4 (Or.inl nfm_))
        have F135 : Fld Z h128 fo "com/example/holdback/holdback/sim/InFlight" "everyone" "I" (.int (((1 : Int32) <<< (mm &&& 31)) - (1 : Int32))) := (Fld.other W128 P5 (Or.inl nfm_))
        have F136 : Fld Z h128 fo "com/example/holdback/holdback/sim/InFlight" "size" "I" (.int (0 : Int32)) := (Fld.other W128 P6 (Or.inl nfm_))
        have F137 : Fld Z h128 fo "com/example/holdback/holdback/sim/InFlight" "first" "I" (.int (2 : Int32)) := (Fld.other W128 P7 (Or.inl nfm_))
        have F138 : Arv Z h128 ia ki .int (16 : Int32) [(.int (((1 : Int32) <<< (mm &&& 31)) - (1 : Int32))), (.int (((1 : Int32) <<< (mm &&& 31)) - (1 : Int32)))] (.int (0 : Int32)) := (Arv.other P9 W128 nim_)
        obtain ⟨fs, hr, hrun, hended, hW, hsame⟩ := X128.leave (v := some (.int (1 : Int32))) (fun h => by rw [Bd.returns] at h; cases h)
        refine ⟨_, _, ?_, hrun, hended, _, _, rfl, ?_, ⟨_, rfl⟩, hW, hsame.mono (by decide) (by decide)⟩
        · exact retN X128 hx (t := .boolean) Bd.returns (by simp) (hb hby d4_112) hr
        · show Q_rmCheck2 Z _ _ _ _ _ _ _ _ _ _ _ _ _ _ _ _ _ _ _ h0 n0 _ T128.heap _
          rw [e128]
          exact ⟨(2 : Int32), (0 : Int32), (3 : Int64), (((1 : Int32) <<< (mm &&& 31)) - (1 : Int32)), (((1 : Int32) <<< (mm &&& 31)) - (1 : Int32)), rfl, N128, K128, F131, F132, F133, F134, F135, F136, F137, F138, F129, (Or.inr (Or.inr ⟨rfl, rfl, rfl, rfl, rfl, rfl⟩))⟩
      · refine own_go (fun _ => XS.icmpNo X128.here hx rfl (hb hby d4_71) rfl (feq hc130).1) ?_
        refine own_go (fun _ => XS.aloadN X128.here hx rfl (hb hby d4_74) rfl rfl) ?_
        refine own_go (fun _ => XS.iload X128.here hx rfl (hb hby d4_75) rfl) ?_
        show ∃ t o, Steps p.tables e below (T128.setTop (mkF m 77 #[.val (.ref fo), .val (.int mm), .val (.int (2 : Int32)), .val (.ref ma), .val (.ref aa), .val (.int mb), .val (.long (1 : Int64)), .second, .val (.double (13830554455654793216 : UInt64)), .second, .val (.int (((1 : Int32) <<< (mm &&& 31)) - (1 : Int32))), .val (.int (1 : Int32)), .val (.int (((1 : Int32) <<< (mm &&& 31)) - (1 : Int32)))] [(.int (1 : Int32)), (.ref ma)])) t ∧ _
        obtain ⟨cl139, Ar139, q139, S139, N139, H139, G139⟩ := id F129
        have hin139 : ¬ ((1 : Int32) < 0 ∨ cl139.slots.size ≤ ((1 : Int32)).toNatClampNeg) := inb_of S139 ⟨by decide, by decide⟩
        have hat139 : cl139.slots[((1 : Int32)).toNatClampNeg]? = some (.int (((1 : Int32) <<< (mm &&& 31)) - (1 : Int32))) := Has.at H139 hin139 rfl
        refine own_go (fun _ => X128.iaload hx (j := (1 : Int32)) (v := (.int (((1 : Int32) <<< (mm &&& 31)) - (1 : Int32)))) (by rw [e128]; exact Ar139.1) (State.isArrayOf_alike hZ.alike Ar139.2.1) Ar139.2.2 hin139 hat139 (g := (mkF m 77 #[.val (.ref fo), .val (.int mm), .val (.int (2 : Int32)), .val (.ref ma), .val (.ref aa), .val (.int mb), .val (.long (1 : Int64)), .second, .val (.double (13830554455654793216 : UInt64)), .second, .val (.int (((1 : Int32) <<< (mm &&& 31)) - (1 : Int32))), .val (.int (1 : Int32)), .val (.int (((1 : Int32) <<< (mm &&& 31)) - (1 : Int32)))] [(.int (1 : Int32)), (.ref ma)])) rfl rfl (hb hby d4_77) _) ?_
        refine own_go (fun _ => XS.iload X128.here hx rfl (hb hby d4_78) rfl) ?_
        show ∃ t o, Steps p.tables e below (T128.setTop (mkF m 80 #[.val (.ref fo), .val (.int mm), .val (.int (2 : Int32)), .val (.ref ma), .val (.ref aa), .val (.int mb), .val (.long (1 : Int64)), .second, .val (.double (13830554455654793216 : UInt64)), .second, .val (.int (((1 : Int32) <<< (mm &&& 31)) - (1 : Int32))), .val (.int (1 : Int32)), .val (.int (((1 : Int32) <<< (mm &&& 31)) - (1 : Int32)))] [(.int (((1 : Int32) <<< (mm &&& 31)) - (1 : Int32))), (.int (((1 : Int32) <<< (mm &&& 31)) - (1 : Int32)))])) t ∧ _
        refine own_go (fun _ => XS.icmpYes X128.here hx rfl (pc0 := 80) (pc' := 100) rfl (hb hby d4_80) rfl (feq hc130).2 (by decide) (by decide)) ?_
        refine own_go (fun _ => XS.dload X128.here hx rfl (hb hby d4_100) rfl) ?_
        refine own_go (fun _ => XS.dconst0 X128.here hx rfl (hb hby d4_102) rfl) ?_
        show ∃ t o, Steps p.tables e below (T128.setTop (mkF m 103 #[.val (.ref fo), .val (.int mm), .val (.int (2 : Int32)), .val (.ref ma), .val (.ref aa), .val (.int mb), .val (.long (1 : Int64)), .second, .val (.double (13830554455654793216 : UInt64)), .second, .val (.int (((1 : Int32) <<< (mm &&& 31)) - (1 : Int32))), .val (.int (1 : Int32)), .val (.int (((1 : Int32) <<< (mm &&& 31)) - (1 : Int32)))] [(.double FP.dconst0), (.double (13830554455654793216 : UInt64))])) t ∧ _
        refine own_go (fun _ => XS.dcmpS X128.here hx rfl (hb hby d4_103) rfl (v := (-1 : Int32)) own_negd) ?_
        show ∃ t o, Steps p.tables e below (T128.setTop (mkF m 104 #[.val (.ref fo), .val (.int mm), .val (.int (2 : Int32)), .val (.ref ma), .val (.ref aa), .val (.int mb), .val (.long (1 : Int64)), .second, .val (.double (13830554455654793216 : UInt64)), .second, .val (.int (((1 : Int32) <<< (mm &&& 31)) - (1 : Int32))), .val (.int (1 : Int32)), .val (.int (((1 : Int32) <<< (mm &&& 31)) - (1 : Int32)))] [(.int (-1 : Int32))])) t ∧ _
        refine own_go (fun _ => XS.ifNo X128.here hx rfl (hb hby d4_104) rfl ((if0 _ _).trans (tlt (by decide : (-1 : Int32) < (0 : Int32))).2.1)) ?_
        refine own_go (fun _ => XS.iconst X128.here hx rfl (hb hby d4_107)) ?_
        refine own_go (fun _ => XS.goto X128.here hx rfl (pc0 := 108) (pc' := 112) rfl (hb hby d4_108) (by decide) (by decide)) ?_
        show ∃ t o, Steps p.tables e below (T128.setTop (mkF m 112 #[.val (.ref fo), .val (.int mm), .val (.int (2 : Int32)), .val (.ref ma), .val (.ref aa), .val (.int mb), .val (.long (1 : Int64)), .second, .val (.double (13830554455654793216 : UInt64)), .second, .val (.int (((1 : Int32) <<< (mm &&& 31)) - (1 : Int32))), .val (.int (1 : Int32)), .val (.int (((1 : Int32) <<< (mm &&& 31)) - (1 : Int32)))] [(.int (1 : Int32))])) t ∧ _
        have F140 : Exa Z h128 fo "com/example/holdback/holdback/sim/InFlight" := (Exa.wr W128 P1)
        have F141 : Fld Z h128 fo "com/example/holdback/holdback/sim/InFlight" "multicastAt" "[D" (.ref da) := (Fld.other W128 P2 (Or.inl nfm_))
        have F142 : Fld Z h128 fo "com/example/holdback/holdback/sim/InFlight" "deliveredBy" "[I" (.ref ia) := (Fld.other W128 P3 (Or.inl nfm_))
        have F143 : Fld Z h128 fo "com/example/holdback/holdback/sim/InFlight" "firstSeq" "J" (.long (3 : Int64)) := (Fld.other W128 P4 (Or.inl nfm_))
        have F144 : Fld Z h128 fo "com/example/holdback/holdback/sim/InFlight" "everyone" "I" (.int (((1 : Int32) <<< (mm &&& 31)) - (1 : Int32))) := (Fld.other W128 P5 (Or.inl nfm_))
        have F145 : Fld Z h128 fo "com/example/holdback/holdback/sim/InFlight" "size" "I" (.int (0 : Int32)) := (Fld.other W128 P6 (Or.inl nfm_))
        have F146 : Fld Z h128 fo "com/example/holdback/holdback/sim/InFlight" "first" "I" (.int (2 : Int32)) := (Fld.other W128 P7 (Or.inl nfm_))
        have F147 : Arv Z h128 ia ki .int (16 : Int32) [(.int (((1 : Int32) <<< (mm &&& 31)) - (1 : Int32))), (.int (((1 : Int32) <<< (mm &&& 31)) - (1 : Int32)))] (.int (0 : Int32)) := (Arv.other P9 W128 nim_)
        obtain ⟨fs, hr, hrun, hended, hW, hsame⟩ := X128.leave (v := some (.int (1 : Int32))) (fun h => by rw [Bd.returns] at h; cases h)
        refine ⟨_, _, ?_, hrun, hended, _, _, rfl, ?_, ⟨_, rfl⟩, hW, hsame.mono (by decide) (by decide)⟩
        · exact retN X128 hx (t := .boolean) Bd.returns (by simp) (hb hby d4_112) hr
        · show Q_rmCheck2 Z _ _ _ _ _ _ _ _ _ _ _ _ _ _ _ _ _ _ _ h0 n0 _ T128.heap _
          rw [e128]
          exact ⟨(2 : Int32), (0 : Int32), (3 : Int64), (((1 : Int32) <<< (mm &&& 31)) - (1 : Int32)), (((1 : Int32) <<< (mm &&& 31)) - (1 : Int32)), rfl, N128, K128, F140, F141, F142, F143, F144, F145, F146, F147, F129, (Or.inr (Or.inr ⟨rfl, rfl, rfl, rfl, rfl, rfl⟩))⟩
    · subst hq
      show ∃ t o, Steps p.tables e below (s₁.setTop (mkF m 0 #[.val (.ref fo), .val (.int mm), .val (.int (2 : Int32)), .val (.ref ma), .val (.ref aa), .val (.int mb), .val (.long (2 : Int64)), .second, .unset, .unset, .unset, .unset, .unset] [])) t ∧ _
      refine own_go (fun _ => XS.aloadN X0.here hx rfl (hb hby d4_0) rfl rfl) ?_
      refine own_go (fun _ => XS.iload X0.here hx rfl (hb hby d4_1) rfl) ?_
      refine own_go (fun _ => XS.lload X0.here hx rfl (hb hby d4_3) rfl) ?_
      show ∃ t o, Steps p.tables e below (s₁.setTop (mkF m 5 #[.val (.ref fo), .val (.int mm), .val (.int (2 : Int32)), .val (.ref ma), .val (.ref aa), .val (.int mb), .val (.long (2 : Int64)), .second, .unset, .unset, .unset, .unset, .unset] [(.long (2 : Int64)), (.int mb), (.ref fo)])) t ∧ _
      obtain ⟨cq148, kq148, q148a, q148b, q148c⟩ := isOf hZ e0 P1
      obtain ⟨_, _, ⟨T148, L148, k148, n148⟩, -, X148, ⟨Lc148, hQ148, l148, y148, z148⟩, st148⟩ := X0.virtualBack hx (y := (⟨"com/example/holdback/holdback/sim/InFlight", "delivered", "(IJ)D"⟩ : MethodName)) (z := (⟨"com/example/holdback/holdback/sim/InFlight", "delivered", "(IJ)D"⟩ : MethodName)) hown (mvT hZ (hw _ (List.mem_of_getElem? (i := 34) rfl))) (mvT hZ (hw _ (List.mem_of_getElem? (i := 35) rfl))) (notFace_of_selects (args := #[]) (mvT hZ (hw _ (List.mem_of_getElem? (i := 37) rfl)))) (mvT hZ (hw _ (List.mem_of_getElem? (i := 37) rfl))) (mvT hZ (hw _ (List.mem_of_getElem? (i := 36) rfl))) (by decide) (backOf (W := 0) (rmOut l Z a0 hw [] fo (0 : Int32) (3 : Int64) mb (2 : Int64) h0 n0 Z0 P4 P6 OLD (Or.inl (by decide) : ((2 : Int64) - (3 : Int64)) < (0 : Int64) ∨ ¬ (((2 : Int64) - (3 : Int64)) < (0 : Int32).toInt64))) hZ (hw _ (List.mem_of_getElem? (i := 38) rfl)) (hw _ (List.mem_of_getElem? (i := 6) rfl)) (by decide) (by decide)) q148a q148c (g := (mkF m 5 #[.val (.ref fo), .val (.int mm), .val (.int (2 : Int32)), .val (.ref ma), .val (.ref aa), .val (.int mb), .val (.long (2 : Int64)), .second, .unset, .unset, .unset, .unset, .unset] [(.long (2 : Int64)), (.int mb), (.ref fo)])) rfl (by rw [hml]; rfl) (Steps.refl _) (argsL := [(.int mb), (.long (2 : Int64))]) (rest := []) (lenOf pd__28IJ_29D rfl) rfl (by show 2 * 0 + _ ≤ _; exact Nat.le_of_eq rfl) (hb hby d4_5) (fun _ _ => ⟨rfl, e0, (by decide : 0 + 0 ≤ _), (by decide : 0 + 0 ≤ _)⟩)
      dsimp only [Pt.U, Pt.locs, Pt.cells, Pt.slots] at X148 l148 y148 z148 st148 hQ148
      subst l148 y148 z148
      obtain ⟨rfl, Nq148, e148⟩ := hQ148
      have N148 := Fr.app N0 Nq148
      refine own_goT st148 ?_
      refine own_go (fun _ => XS.dstore X148.here hx rfl (hb hby d4_8) rfl (l' := #[.val (.ref fo), .val (.int mm), .val (.int (2 : Int32)), .val (.ref ma), .val (.ref aa), .val (.int mb), .val (.long (2 : Int64)), .second, .val (.double (13830554455654793216 : UInt64)), .second, .unset, .unset, .unset]) rfl) ?_
      refine own_go (fun _ => XS.iconst X148.here hx rfl (hb hby d4_10)) ?_
      show ∃ t o, Steps p.tables e below (T148.setTop (mkF m 11 #[.val (.ref fo), .val (.int mm), .val (.int (2 : Int32)), .val (.ref ma), .val (.ref aa), .val (.int mb), .val (.long (2 : Int64)), .second, .val (.double (13830554455654793216 : UInt64)), .second, .unset, .unset, .unset] [(.int (1 : Int32))])) t ∧ _
      refine own_go (fun _ => XS.iloadN X148.here hx rfl (hb hby d4_11) rfl) ?_
      refine own_go (fun _ => XS.ishl X148.here hx rfl (hb hby d4_12) rfl) ?_
      refine own_go (fun _ => XS.iconst X148.here hx rfl (hb hby d4_13)) ?_
      show ∃ t o, Steps p.tables e below (T148.setTop (mkF m 14 #[.val (.ref fo), .val (.int mm), .val (.int (2 : Int32)), .val (.ref ma), .val (.ref aa), .val (.int mb), .val (.long (2 : Int64)), .second, .val (.double (13830554455654793216 : UInt64)), .second, .unset, .unset, .unset] [(.int (1 : Int32)), (.int ((1 : Int32) <<< (mm &&& 31)))])) t ∧ _
      refine own_go (fun _ => XS.isub X148.here hx rfl (hb hby d4_14) rfl) ?_
      refine own_go (fun _ => XS.istore X148.here hx rfl (hb hby d4_15) rfl (l' := #[.val (.ref fo), .val (.int mm), .val (.int (2 : Int32)), .val (.ref ma), .val (.ref aa), .val (.int mb), .val (.long (2 : Int64)), .second, .val (.double (13830554455654793216 : UInt64)), .second, .val (.int (((1 : Int32) <<< (mm &&& 31)) - (1 : Int32))), .unset, .unset]) rfl) ?_
      refine own_go (fun _ => XS.lload X148.here hx rfl (hb hby d4_17) rfl) ?_
      show ∃ t o, Steps p.tables e below (T148.setTop (mkF m 19 #[.val (.ref fo), .val (.int mm), .val (.int (2 : Int32)), .val (.ref ma), .val (.ref aa), .val (.int mb), .val (.long (2 : Int64)), .second, .val (.double (13830554455654793216 : UInt64)), .second, .val (.int (((1 : Int32) <<< (mm &&& 31)) - (1 : Int32))), .unset, .unset] [(.long (2 : Int64))])) t ∧ _
      refine own_go (fun _ => XS.lconst X148.here hx rfl (hb hby d4_19)) ?_
      refine own_go (fun _ => XS.lcmp X148.here hx rfl (hb hby d4_20) rfl) ?_
      show ∃ t o, Steps p.tables e below (T148.setTop (mkF m 21 #[.val (.ref fo), .val (.int mm), .val (.int (2 : Int32)), .val (.ref ma), .val (.ref aa), .val (.int mb), .val (.long (2 : Int64)), .second, .val (.double (13830554455654793216 : UInt64)), .second, .val (.int (((1 : Int32) <<< (mm &&& 31)) - (1 : Int32))), .unset, .unset] [(.int (lcmpW (2 : Int64) (1 : Int64)))])) t ∧ _
      refine own_go (fun _ => XS.ifNo X148.here hx rfl (hb hby d4_21) rfl ((if0 _ _).trans (flt (mt (lw_lt _ _).mp (by decide : ¬ ((2 : Int64) < (1 : Int64))))).1)) ?_
      refine own_go (fun _ => XS.lload X148.here hx rfl (hb hby d4_24) rfl) ?_
      refine own_go (fun _ => XS.iloadN X148.here hx rfl (hb hby d4_26) rfl) ?_
      show ∃ t o, Steps p.tables e below (T148.setTop (mkF m 27 #[.val (.ref fo), .val (.int mm), .val (.int (2 : Int32)), .val (.ref ma), .val (.ref aa), .val (.int mb), .val (.long (2 : Int64)), .second, .val (.double (13830554455654793216 : UInt64)), .second, .val (.int (((1 : Int32) <<< (mm &&& 31)) - (1 : Int32))), .unset, .unset] [(.int (2 : Int32)), (.long (2 : Int64))])) t ∧ _
      refine own_go (fun _ => XS.i2l X148.here hx rfl (hb hby d4_27) rfl) ?_
      refine own_go (fun _ => XS.lcmp X148.here hx rfl (hb hby d4_28) rfl) ?_
      show ∃ t o, Steps p.tables e below (T148.setTop (mkF m 29 #[.val (.ref fo), .val (.int mm), .val (.int (2 : Int32)), .val (.ref ma), .val (.ref aa), .val (.int mb), .val (.long (2 : Int64)), .second, .val (.double (13830554455654793216 : UInt64)), .second, .val (.int (((1 : Int32) <<< (mm &&& 31)) - (1 : Int32))), .unset, .unset] [(.int (lcmpW (2 : Int64) (2 : Int64)))])) t ∧ _
      refine own_go (fun _ => XS.ifYes X148.here hx rfl (pc0 := 29) (pc' := 45) rfl (hb hby d4_29) rfl ((if0 _ _).trans (flt (mt (lw_gt _ _).mp (by decide : ¬ ((2 : Int64) < (2 : Int64))))).2.2.2) (by decide) (by decide)) ?_
      refine own_go (fun _ => XS.lload X148.here hx rfl (hb hby d4_45) rfl) ?_
      refine own_go (fun _ => XS.l2i X148.here hx rfl (hb hby d4_47) rfl) ?_
      show ∃ t o, Steps p.tables e below (T148.setTop (mkF m 48 #[.val (.ref fo), .val (.int mm), .val (.int (2 : Int32)), .val (.ref ma), .val (.ref aa), .val (.int mb), .val (.long (2 : Int64)), .second, .val (.double (13830554455654793216 : UInt64)), .second, .val (.int (((1 : Int32) <<< (mm &&& 31)) - (1 : Int32))), .unset, .unset] [(.int (2 : Int32))])) t ∧ _
      refine own_go (fun _ => XS.istore X148.here hx rfl (hb hby d4_48) rfl (l' := #[.val (.ref fo), .val (.int mm), .val (.int (2 : Int32)), .val (.ref ma), .val (.ref aa), .val (.int mb), .val (.long (2 : Int64)), .second, .val (.double (13830554455654793216 : UInt64)), .second, .val (.int (((1 : Int32) <<< (mm &&& 31)) - (1 : Int32))), .val (.int (2 : Int32)), .unset]) rfl) ?_
      refine own_go (fun _ => XS.aloadN X148.here hx rfl (hb hby d4_50) rfl rfl) ?_
      refine own_go (fun _ => XS.iload X148.here hx rfl (hb hby d4_51) rfl) ?_
      show ∃ t o, Steps p.tables e below (T148.setTop (mkF m 53 #[.val (.ref fo), .val (.int mm), .val (.int (2 : Int32)), .val (.ref ma), .val (.ref aa), .val (.int mb), .val (.long (2 : Int64)), .second, .val (.double (13830554455654793216 : UInt64)), .second, .val (.int (((1 : Int32) <<< (mm &&& 31)) - (1 : Int32))), .val (.int (2 : Int32)), .unset] [(.int (2 : Int32)), (.ref ma)])) t ∧ _
      obtain ⟨cl149, Ar149, q149, S149, N149, H149, G149⟩ := id P10
      have hin149 : ¬ ((2 : Int32) < 0 ∨ cl149.slots.size ≤ ((2 : Int32)).toNatClampNeg) := inb_of S149 ⟨by decide, by decide⟩
      have hat149 : cl149.slots[((2 : Int32)).toNatClampNeg]? = some (.int (((1 : Int32) <<< (mm &&& 31)) - (1 : Int32))) := Has.at H149 hin149 rfl
      refine own_go (fun _ => X148.iaload hx (j := (2 : Int32)) (v := (.int (((1 : Int32) <<< (mm &&& 31)) - (1 : Int32)))) (by rw [e148]; exact Ar149.1) (State.isArrayOf_alike hZ.alike Ar149.2.1) Ar149.2.2 hin149 hat149 (g := (mkF m 53 #[.val (.ref fo), .val (.int mm), .val (.int (2 : Int32)), .val (.ref ma), .val (.ref aa), .val (.int mb), .val (.long (2 : Int64)), .second, .val (.double (13830554455654793216 : UInt64)), .second, .val (.int (((1 : Int32) <<< (mm &&& 31)) - (1 : Int32))), .val (.int (2 : Int32)), .unset] [(.int (2 : Int32)), (.ref ma)])) rfl rfl (hb hby d4_53) _) ?_
      refine own_go (fun _ => XS.istore X148.here hx rfl (hb hby d4_54) rfl (l' := #[.val (.ref fo), .val (.int mm), .val (.int (2 : Int32)), .val (.ref ma), .val (.ref aa), .val (.int mb), .val (.long (2 : Int64)), .second, .val (.double (13830554455654793216 : UInt64)), .second, .val (.int (((1 : Int32) <<< (mm &&& 31)) - (1 : Int32))), .val (.int (2 : Int32)), .val (.int (((1 : Int32) <<< (mm &&& 31)) - (1 : Int32)))]) rfl) ?_
      refine own_go (fun _ => XS.aloadN X148.here hx rfl (hb hby d4_56) rfl rfl) ?_
      show ∃ t o, Steps p.tables e below (T148.setTop (mkF m 57 #[.val (.ref fo), .val (.int mm), .val (.int (2 : Int32)), .val (.ref ma), .val (.ref aa), .val (.int mb), .val (.long (2 : Int64)), .second, .val (.double (13830554455654793216 : UInt64)), .second, .val (.int (((1 : Int32) <<< (mm &&& 31)) - (1 : Int32))), .val (.int (2 : Int32)), .val (.int (((1 : Int32) <<< (mm &&& 31)) - (1 : Int32)))] [(.ref ma)])) t ∧ _
      refine own_go (fun _ => XS.iload X148.here hx rfl (hb hby d4_57) rfl) ?_
      refine own_go (fun _ => XS.iload X148.here hx rfl (hb hby d4_59) rfl) ?_
      refine own_go (fun _ => XS.iconst X148.here hx rfl (hb hby d4_61)) ?_
      show ∃ t o, Steps p.tables e below (T148.setTop (mkF m 62 #[.val (.ref fo), .val (.int mm), .val (.int (2 : Int32)), .val (.ref ma), .val (.ref aa), .val (.int mb), .val (.long (2 : Int64)), .second, .val (.double (13830554455654793216 : UInt64)), .second, .val (.int (((1 : Int32) <<< (mm &&& 31)) - (1 : Int32))), .val (.int (2 : Int32)), .val (.int (((1 : Int32) <<< (mm &&& 31)) - (1 : Int32)))] [(.int (1 : Int32)), (.int (((1 : Int32) <<< (mm &&& 31)) - (1 : Int32))), (.int (2 : Int32)), (.ref ma)])) t ∧ _
      refine own_go (fun _ => XS.iload X148.here hx rfl (hb hby d4_62) rfl) ?_
      refine own_go (fun _ => XS.ishl X148.here hx rfl (hb hby d4_64) rfl) ?_
      refine own_go (fun _ => XS.ior X148.here hx rfl (hb hby d4_65) rfl) ?_
      show ∃ t o, Steps p.tables e below (T148.setTop (mkF m 66 #[.val (.ref fo), .val (.int mm), .val (.int (2 : Int32)), .val (.ref ma), .val (.ref aa), .val (.int mb), .val (.long (2 : Int64)), .second, .val (.double (13830554455654793216 : UInt64)), .second, .val (.int (((1 : Int32) <<< (mm &&& 31)) - (1 : Int32))), .val (.int (2 : Int32)), .val (.int (((1 : Int32) <<< (mm &&& 31)) - (1 : Int32)))] [(.int ((((1 : Int32) <<< (mm &&& 31)) - (1 : Int32)) ||| ((1 : Int32) <<< (mb &&& 31)))), (.int (2 : Int32)), (.ref ma)])) t ∧ _
      obtain ⟨cl150, Ar150, q150, S150, N150, H150, G150⟩ := id P10
      have hin150 : ¬ ((2 : Int32) < 0 ∨ cl150.slots.size ≤ ((2 : Int32)).toNatClampNeg) := inb_of S150 ⟨by decide, by decide⟩
      obtain ⟨T151, h151, X151, e151, W151, st151⟩ := stI X148 hx hZ e148 Ar150 (j := (2 : Int32)) hin150 (g := (mkF m 66 #[.val (.ref fo), .val (.int mm), .val (.int (2 : Int32)), .val (.ref ma), .val (.ref aa), .val (.int mb), .val (.long (2 : Int64)), .second, .val (.double (13830554455654793216 : UInt64)), .second, .val (.int (((1 : Int32) <<< (mm &&& 31)) - (1 : Int32))), .val (.int (2 : Int32)), .val (.int (((1 : Int32) <<< (mm &&& 31)) - (1 : Int32)))] [(.int ((((1 : Int32) <<< (mm &&& 31)) - (1 : Int32)) ||| ((1 : Int32) <<< (mb &&& 31)))), (.int (2 : Int32)), (.ref ma)])) rfl rfl (hb hby d4_66)
      refine own_go st151 ?_
      have le_151 : h0.size ≤ h151.size := Nat.le_of_eq W151.size.symm
      have K151 : Keep h0 h151 [fo, ia, ma] := Keep.wr (Keep.refl h0 [fo, ia, ma]) W151 (Or.inl (List.mem_of_getElem? (i := 2) rfl))
      have N151 := Fr.snoc X151 N148 gm
      have V151 : Arv Z h151 ma km .int (3 : Int32) [(.int (0 : Int32)), (.int (((1 : Int32) <<< (mm &&& 31)) - (1 : Int32))), (.int ((((1 : Int32) <<< (mm &&& 31)) - (1 : Int32)) ||| ((1 : Int32) <<< (mb &&& 31))))] (.int (0 : Int32)) := Arv.set Ar150 q150 S150 N150 H150 G150 rfl W151 2 rfl (Nat.le_of_ble_eq_true rfl)
      have F152 : Arv Z h151 ma km .int (3 : Int32) [(.int (0 : Int32)), (.int (((1 : Int32) <<< (mm &&& 31)) - (1 : Int32))), (.int (((1 : Int32) <<< (mm &&& 31)) - (1 : Int32)))] (.int (0 : Int32)) := by have q := V151; rw [hbit] at q; exact q
      refine own_go (fun _ => XS.iload X151.here hx rfl (hb hby d4_67) rfl) ?_
      refine own_go (fun _ => XS.iload X151.here hx rfl (hb hby d4_69) rfl) ?_
      show ∃ t o, Steps p.tables e below (T151.setTop (mkF m 71 #[.val (.ref fo), .val (.int mm), .val (.int (2 : Int32)), .val (.ref ma), .val (.ref aa), .val (.int mb), .val (.long (2 : Int64)), .second, .val (.double (13830554455654793216 : UInt64)), .second, .val (.int (((1 : Int32) <<< (mm &&& 31)) - (1 : Int32))), .val (.int (2 : Int32)), .val (.int (((1 : Int32) <<< (mm &&& 31)) - (1 : Int32)))] [(.int (((1 : Int32) <<< (mm &&& 31)) - (1 : Int32))), (.int (((1 : Int32) <<< (mm &&& 31)) - (1 : Int32)))])) t ∧ _
      by_cases hc153 : (((1 : Int32) <<< (mm &&& 31)) - (1 : Int32)) = (((1 : Int32) <<< (mm &&& 31)) - (1 : Int32))
      · refine own_go (fun _ => XS.icmpYes X151.here hx rfl (pc0 := 71) (pc' := 100) rfl (hb hby d4_71) rfl (teq hc153).1 (by decide) (by decide)) ?_
        refine own_go (fun _ => XS.dload X151.here hx rfl (hb hby d4_100) rfl) ?_
        refine own_go (fun _ => XS.dconst0 X151.here hx rfl (hb hby d4_102) rfl) ?_
        show ∃ t o, Steps p.tables e below (T151.setTop (mkF m 103 #[.val (.ref fo), .val (.int mm), .val (.int (2 : Int32)), .val (.ref ma), .val (.ref aa), .val (.int mb), .val (.long (2 : Int64)), .second, .val (.double (13830554455654793216 : UInt64)), .second, .val (.int (((1 : Int32) <<< (mm &&& 31)) - (1 : Int32))), .val (.int (2 : Int32)), .val (.int (((1 : Int32) <<< (mm &&& 31)) - (1 : Int32)))] [(.double FP.dconst0), (.double (13830554455654793216 : UInt64))])) t ∧ _
        refine own_go (fun _ => XS.dcmpS X151.here hx rfl (hb hby d4_103) rfl (v := (-1 : Int32)) own_negd) ?_
        show ∃ t o, Steps p.tables e below (T151.setTop (mkF m 104 #[.val (.ref fo), .val (.int mm), .val (.int (2 : Int32)), .val (.ref ma), .val (.ref aa), .val (.int mb), .val (.long (2 : Int64)), .second, .val (.double (13830554455654793216 : UInt64)), .second, .val (.int (((1 : Int32) <<< (mm &&& 31)) - (1 : Int32))), .val (.int (2 : Int32)), .val (.int (((1 : Int32) <<< (mm &&& 31)) - (1 : Int32)))] [(.int (-1 : Int32))])) t ∧ _
        refine own_go (fun _ => XS.ifNo X151.here hx rfl (hb hby d4_104) rfl ((if0 _ _).trans (tlt (by decide : (-1 : Int32) < (0 : Int32))).2.1)) ?_
        refine own_go (fun _ => XS.iconst X151.here hx rfl (hb hby d4_107)) ?_
        refine own_go (fun _ => XS.goto X151.here hx rfl (pc0 := 108) (pc' := 112) rfl (hb hby d4_108) (by decide) (by decide)) ?_
        show ∃ t o, Steps p.tables e below (T151.setTop (mkF m 112 #[.val (.ref fo), .val (.int mm), .val (.int (2 : Int32)), .val (.ref ma), .val (.ref aa), .val (.int mb), .val (.long (2 : Int64)), .second, .val (.double (13830554455654793216 : UInt64)), .second, .val (.int (((1 : Int32) <<< (mm &&& 31)) - (1 : Int32))), .val (.int (2 : Int32)), .val (.int (((1 : Int32) <<< (mm &&& 31)) - (1 : Int32)))] [(.int (1 : Int32))])) t ∧ _
        have F154 : Exa Z h151 fo "com/example/holdback/holdback/sim/InFlight" := (Exa.wr W151 P1)
        have F155 : Fld Z h151 fo "com/example/holdback/holdback/sim/InFlight" "multicastAt" "[D" (.ref da) := (Fld.other W151 P2 (Or.inl nfm_))
        have F156 : Fld Z h151 fo "com/example/holdback/holdback/sim/InFlight" "deliveredBy" "[I" (.ref ia) := (Fld.other W151 P3 (Or.inl nfm_))
        have F157 : Fld Z h151 fo "com/example/holdback/holdback/sim/InFlight" "firstSeq" "J" (.long (3 : Int64)) := (Fld.other W151 P4 (Or.inl nfm_))
        have F158 : Fld Z h151 fo "com/example/holdback/holdback/sim/InFlight" "everyone" "I" (.int (((1 : Int32) <<< (mm &&& 31)) - (1 : Int32))) := (Fld.other W151 P5 (Or.inl nfm_))
        have F159 : Fld Z h151 fo "com/example/holdback/holdback/sim/InFlight" "size" "I" (.int (0 : Int32)) := (Fld.other W151 P6 (Or.inl nfm_))
        have F160 : Fld Z h151 fo "com/example/holdback/holdback/sim/InFlight" "first" "I" (.int (2 : Int32)) := (Fld.other W151 P7 (Or.inl nfm_))
        have F161 : Arv Z h151 ia ki .int (16 : Int32) [(.int (((1 : Int32) <<< (mm &&& 31)) - (1 : Int32))), (.int (((1 : Int32) <<< (mm &&& 31)) - (1 : Int32)))] (.int (0 : Int32)) := (Arv.other P9 W151 nim_)
        obtain ⟨fs, hr, hrun, hended, hW, hsame⟩ := X151.leave (v := some (.int (1 : Int32))) (fun h => by rw [Bd.returns] at h; cases h)
        refine ⟨_, _, ?_, hrun, hended, _, _, rfl, ?_, ⟨_, rfl⟩, hW, hsame.mono (by decide) (by decide)⟩
        · exact retN X151 hx (t := .boolean) Bd.returns (by simp) (hb hby d4_112) hr
        · show Q_rmCheck2 Z _ _ _ _ _ _ _ _ _ _ _ _ _ _ _ _ _ _ _ h0 n0 _ T151.heap _
          rw [e151]
          exact ⟨(2 : Int32), (0 : Int32), (3 : Int64), (((1 : Int32) <<< (mm &&& 31)) - (1 : Int32)), (((1 : Int32) <<< (mm &&& 31)) - (1 : Int32)), rfl, N151, K151, F154, F155, F156, F157, F158, F159, F160, F161, F152, (Or.inr (Or.inr ⟨rfl, rfl, rfl, rfl, rfl, rfl⟩))⟩
      · refine own_go (fun _ => XS.icmpNo X151.here hx rfl (hb hby d4_71) rfl (feq hc153).1) ?_
        refine own_go (fun _ => XS.aloadN X151.here hx rfl (hb hby d4_74) rfl rfl) ?_
        refine own_go (fun _ => XS.iload X151.here hx rfl (hb hby d4_75) rfl) ?_
        show ∃ t o, Steps p.tables e below (T151.setTop (mkF m 77 #[.val (.ref fo), .val (.int mm), .val (.int (2 : Int32)), .val (.ref ma), .val (.ref aa), .val (.int mb), .val (.long (2 : Int64)), .second, .val (.double (13830554455654793216 : UInt64)), .second, .val (.int (((1 : Int32) <<< (mm &&& 31)) - (1 : Int32))), .val (.int (2 : Int32)), .val (.int (((1 : Int32) <<< (mm &&& 31)) - (1 : Int32)))] [(.int (2 : Int32)), (.ref ma)])) t ∧ _
        obtain ⟨cl162, Ar162, q162, S162, N162, H162, G162⟩ := id F152
        have hin162 : ¬ ((2 : Int32) < 0 ∨ cl162.slots.size ≤ ((2 : Int32)).toNatClampNeg) := inb_of S162 ⟨by decide, by decide⟩
        have hat162 : cl162.slots[((2 : Int32)).toNatClampNeg]? = some (.int (((1 : Int32) <<< (mm &&& 31)) - (1 : Int32))) := Has.at H162 hin162 rfl
        refine own_go (fun _ => X151.iaload hx (j := (2 : Int32)) (v := (.int (((1 : Int32) <<< (mm &&& 31)) - (1 : Int32)))) (by rw [e151]; exact Ar162.1) (State.isArrayOf_alike hZ.alike Ar162.2.1) Ar162.2.2 hin162 hat162 (g := (mkF m 77 #[.val (.ref fo), .val (.int mm), .val (.int (2 : Int32)), .val (.ref ma), .val (.ref aa), .val (.int mb), .val (.long (2 : Int64)), .second, .val (.double (13830554455654793216 : UInt64)), .second, .val (.int (((1 : Int32) <<< (mm &&& 31)) - (1 : Int32))), .val (.int (2 : Int32)), .val (.int (((1 : Int32) <<< (mm &&& 31)) - (1 : Int32)))] [(.int (2 : Int32)), (.ref ma)])) rfl rfl (hb hby d4_77) _) ?_
        refine own_go (fun _ => XS.iload X151.here hx rfl (hb hby d4_78) rfl) ?_
        show ∃ t o, Steps p.tables e below (T151.setTop (mkF m 80 #[.val (.ref fo), .val (.int mm), .val (.int (2 : Int32)), .val (.ref ma), .val (.ref aa), .val (.int mb), .val (.long (2 : Int64)), .second, .val (.double (13830554455654793216 : UInt64)), .second, .val (.int (((1 : Int32) <<< (mm &&& 31)) - (1 : Int32))), .val (.int (2 : Int32)), .val (.int (((1 : Int32) <<< (mm &&& 31)) - (1 : Int32)))] [(.int (((1 : Int32) <<< (mm &&& 31)) - (1 : Int32))), (.int (((1 : Int32) <<< (mm &&& 31)) - (1 : Int32)))])) t ∧ _
        refine own_go (fun _ => XS.icmpYes X151.here hx rfl (pc0 := 80) (pc' := 100) rfl (hb hby d4_80) rfl (feq hc153).2 (by decide) (by decide)) ?_
        refine own_go (fun _ => XS.dload X151.here hx rfl (hb hby d4_100) rfl) ?_
        refine own_go (fun _ => XS.dconst0 X151.here hx rfl (hb hby d4_102) rfl) ?_
        show ∃ t o, Steps p.tables e below (T151.setTop (mkF m 103 #[.val (.ref fo), .val (.int mm), .val (.int (2 : Int32)), .val (.ref ma), .val (.ref aa), .val (.int mb), .val (.long (2 : Int64)), .second, .val (.double (13830554455654793216 : UInt64)), .second, .val (.int (((1 : Int32) <<< (mm &&& 31)) - (1 : Int32))), .val (.int (2 : Int32)), .val (.int (((1 : Int32) <<< (mm &&& 31)) - (1 : Int32)))] [(.double FP.dconst0), (.double (13830554455654793216 : UInt64))])) t ∧ _
        refine own_go (fun _ => XS.dcmpS X151.here hx rfl (hb hby d4_103) rfl (v := (-1 : Int32)) own_negd) ?_
        show ∃ t o, Steps p.tables e below (T151.setTop (mkF m 104 #[.val (.ref fo), .val (.int mm), .val (.int (2 : Int32)), .val (.ref ma), .val (.ref aa), .val (.int mb), .val (.long (2 : Int64)), .second, .val (.double (13830554455654793216 : UInt64)), .second, .val (.int (((1 : Int32) <<< (mm &&& 31)) - (1 : Int32))), .val (.int (2 : Int32)), .val (.int (((1 : Int32) <<< (mm &&& 31)) - (1 : Int32)))] [(.int (-1 : Int32))])) t ∧ _
        refine own_go (fun _ => XS.ifNo X151.here hx rfl (hb hby d4_104) rfl ((if0 _ _).trans (tlt (by decide : (-1 : Int32) < (0 : Int32))).2.1)) ?_
        refine own_go (fun _ => XS.iconst X151.here hx rfl (hb hby d4_107)) ?_
        refine own_go (fun _ => XS.goto X151.here hx rfl (pc0 := 108) (pc' := 112) rfl (hb hby d4_108) (by decide) (by decide)) ?_
        show ∃ t o, Steps p.tables e below (T151.setTop (mkF m 112 #[.val (.ref fo), .val (.int mm), .val (.int (2 : Int32)), .val (.ref ma), .val (.ref aa), .val (.int mb), .val (.long (2 : Int64)), .second, .val (.double (13830554455654793216 : UInt64)), .second, .val (.int (((1 : Int32) <<< (mm &&& 31)) - (1 : Int32))), .val (.int (2 : Int32)), .val (.int (((1 : Int32) <<< (mm &&& 31)) - (1 : Int32)))] [(.int (1 : Int32))])) t ∧ _
        have F163 : Exa Z h151 fo "com/example/holdback/holdback/sim/InFlight" := (Exa.wr W151 P1)
        have F164 : Fld Z h151 fo "com/example/holdback/holdback/sim/InFlight" "multicastAt" "[D" (.ref da) := (Fld.other W151 P2 (Or.inl nfm_))
        have F165 : Fld Z h151 fo "com/example/holdback/holdback/sim/InFlight" "deliveredBy" "[I" (.ref ia) := (Fld.other W151 P3 (Or.inl nfm_))
        have F166 : Fld Z h151 fo "com/example/holdback/holdback/sim/InFlight" "firstSeq" "J" (.long (3 : Int64)) := (Fld.other W151 P4 (Or.inl nfm_))
        have F167 : Fld Z h151 fo "com/example/holdback/holdback/sim/InFlight" "everyone" "I" (.int (((1 : Int32) <<< (mm &&& 31)) - (1 : Int32))) := (Fld.other W151 P5 (Or.inl nfm_))
        have F168 : Fld Z h151 fo "com/example/holdback/holdback/sim/InFlight" "size" "I" (.int (0 : Int32)) := (Fld.other W151 P6 (Or.inl nfm_))
        have F169 : Fld Z h151 fo "com/example/holdback/holdback/sim/InFlight" "first" "I" (.int (2 : Int32)) := (Fld.other W151 P7 (Or.inl nfm_))
        have F170 : Arv Z h151 ia ki .int (16 : Int32) [(.int (((1 : Int32) <<< (mm &&& 31)) - (1 : Int32))), (.int (((1 : Int32) <<< (mm &&& 31)) - (1 : Int32)))] (.int (0 : Int32)) := (Arv.other P9 W151 nim_)
        obtain ⟨fs, hr, hrun, hended, hW, hsame⟩ := X151.leave (v := some (.int (1 : Int32))) (fun h => by rw [Bd.returns] at h; cases h)
        refine ⟨_, _, ?_, hrun, hended, _, _, rfl, ?_, ⟨_, rfl⟩, hW, hsame.mono (by decide) (by decide)⟩
        · exact retN X151 hx (t := .boolean) Bd.returns (by simp) (hb hby d4_112) hr
        · show Q_rmCheck2 Z _ _ _ _ _ _ _ _ _ _ _ _ _ _ _ _ _ _ _ h0 n0 _ T151.heap _
          rw [e151]
          exact ⟨(2 : Int32), (0 : Int32), (3 : Int64), (((1 : Int32) <<< (mm &&& 31)) - (1 : Int32)), (((1 : Int32) <<< (mm &&& 31)) - (1 : Int32)), rfl, N151, K151, F163, F164, F165, F166, F167, F168, F169, F170, F152, (Or.inr (Or.inr ⟨rfl, rfl, rfl, rfl, rfl, rfl⟩))⟩
    · show ∃ t o, Steps p.tables e below (s₁.setTop (mkF m 0 #[.val (.ref fo), .val (.int mm), .val (.int (2 : Int32)), .val (.ref ma), .val (.ref aa), .val (.int mb), .val (.long sq), .second, .unset, .unset, .unset, .unset, .unset] [])) t ∧ _
      refine own_go (fun _ => XS.aloadN X0.here hx rfl (hb hby d4_0) rfl rfl) ?_
      refine own_go (fun _ => XS.iload X0.here hx rfl (hb hby d4_1) rfl) ?_
      refine own_go (fun _ => XS.lload X0.here hx rfl (hb hby d4_3) rfl) ?_
      show ∃ t o, Steps p.tables e below (s₁.setTop (mkF m 5 #[.val (.ref fo), .val (.int mm), .val (.int (2 : Int32)), .val (.ref ma), .val (.ref aa), .val (.int mb), .val (.long sq), .second, .unset, .unset, .unset, .unset, .unset] [(.long sq), (.int mb), (.ref fo)])) t ∧ _
      obtain ⟨cq171, kq171, q171a, q171b, q171c⟩ := isOf hZ e0 P1
      obtain ⟨_, _, ⟨T171, L171, k171, n171⟩, -, X171, ⟨Lc171, hQ171, l171, y171, z171⟩, st171⟩ := X0.virtualBack hx (y := (⟨"com/example/holdback/holdback/sim/InFlight", "delivered", "(IJ)D"⟩ : MethodName)) (z := (⟨"com/example/holdback/holdback/sim/InFlight", "delivered", "(IJ)D"⟩ : MethodName)) hown (mvT hZ (hw _ (List.mem_of_getElem? (i := 34) rfl))) (mvT hZ (hw _ (List.mem_of_getElem? (i := 35) rfl))) (notFace_of_selects (args := #[]) (mvT hZ (hw _ (List.mem_of_getElem? (i := 37) rfl)))) (mvT hZ (hw _ (List.mem_of_getElem? (i := 37) rfl))) (mvT hZ (hw _ (List.mem_of_getElem? (i := 36) rfl))) (by decide) (backOf (W := 0) (rmOut l Z a0 hw [] fo (0 : Int32) (3 : Int64) mb sq h0 n0 Z0 P4 P6 OLD (own_out 3 0 rfl rfl (by decide) (by decide) (by decide) (by decide) (by omega) : (sq - (3 : Int64)) < (0 : Int64) ∨ ¬ ((sq - (3 : Int64)) < (0 : Int32).toInt64))) hZ (hw _ (List.mem_of_getElem? (i := 38) rfl)) (hw _ (List.mem_of_getElem? (i := 6) rfl)) (by decide) (by decide)) q171a q171c (g := (mkF m 5 #[.val (.ref fo), .val (.int mm), .val (.int (2 : Int32)), .val (.ref ma), .val (.ref aa), .val (.int mb), .val (.long sq), .second, .unset, .unset, .unset, .unset, .unset] [(.long sq), (.int mb), (.ref fo)])) rfl (by rw [hml]; rfl) (Steps.refl _) (argsL := [(.int mb), (.long sq)]) (rest := []) (lenOf pd__28IJ_29D rfl) rfl (by show 2 * 0 + _ ≤ _; exact Nat.le_of_eq rfl) (hb hby d4_5) (fun _ _ => ⟨rfl, e0, (by decide : 0 + 0 ≤ _), (by decide : 0 + 0 ≤ _)⟩)
      dsimp only [Pt.U, Pt.locs, Pt.cells, Pt.slots] at X171 l171 y171 z171 st171 hQ171
      subst l171 y171 z171
      obtain ⟨rfl, Nq171, e171⟩ := hQ171
      have N171 := Fr.app N0 Nq171
      refine own_goT st171 ?_
      refine own_go (fun _ => XS.dstore X171.here hx rfl (hb hby d4_8) rfl (l' := #[.val (.ref fo), .val (.int mm), .val (.int (2 : Int32)), .val (.ref ma), .val (.ref aa), .val (.int mb), .val (.long sq), .second, .val (.double (13830554455654793216 : UInt64)), .second, .unset, .unset, .unset]) rfl) ?_
      refine own_go (fun _ => XS.iconst X171.here hx rfl (hb hby d4_10)) ?_
      show ∃ t o, Steps p.tables e below (T171.setTop (mkF m 11 #[.val (.ref fo), .val (.int mm), .val (.int (2 : Int32)), .val (.ref ma), .val (.ref aa), .val (.int mb), .val (.long sq), .second, .val (.double (13830554455654793216 : UInt64)), .second, .unset, .unset, .unset] [(.int (1 : Int32))])) t ∧ _
      refine own_go (fun _ => XS.iloadN X171.here hx rfl (hb hby d4_11) rfl) ?_
      refine own_go (fun _ => XS.ishl X171.here hx rfl (hb hby d4_12) rfl) ?_
      refine own_go (fun _ => XS.iconst X171.here hx rfl (hb hby d4_13)) ?_
      show ∃ t o, Steps p.tables e below (T171.setTop (mkF m 14 #[.val (.ref fo), .val (.int mm), .val (.int (2 : Int32)), .val (.ref ma), .val (.ref aa), .val (.int mb), .val (.long sq), .second, .val (.double (13830554455654793216 : UInt64)), .second, .unset, .unset, .unset] [(.int (1 : Int32)), (.int ((1 : Int32) <<< (mm &&& 31)))])) t ∧ _
      refine own_go (fun _ => XS.isub X171.here hx rfl (hb hby d4_14) rfl) ?_
      refine own_go (fun _ => XS.istore X171.here hx rfl (hb hby d4_15) rfl (l' := #[.val (.ref fo), .val (.int mm), .val (.int (2 : Int32)), .val (.ref ma), .val (.ref aa), .val (.int mb), .val (.long sq), .second, .val (.double (13830554455654793216 : UInt64)), .second, .val (.int (((1 : Int32) <<< (mm &&& 31)) - (1 : Int32))), .unset, .unset]) rfl) ?_
      refine own_go (fun _ => XS.lload X171.here hx rfl (hb hby d4_17) rfl) ?_
      show ∃ t o, Steps p.tables e below (T171.setTop (mkF m 19 #[.val (.ref fo), .val (.int mm), .val (.int (2 : Int32)), .val (.ref ma), .val (.ref aa), .val (.int mb), .val (.long sq), .second, .val (.double (13830554455654793216 : UInt64)), .second, .val (.int (((1 : Int32) <<< (mm &&& 31)) - (1 : Int32))), .unset, .unset] [(.long sq)])) t ∧ _
      refine own_go (fun _ => XS.lconst X171.here hx rfl (hb hby d4_19)) ?_
      refine own_go (fun _ => XS.lcmp X171.here hx rfl (hb hby d4_20) rfl) ?_
      show ∃ t o, Steps p.tables e below (T171.setTop (mkF m 21 #[.val (.ref fo), .val (.int mm), .val (.int (2 : Int32)), .val (.ref ma), .val (.ref aa), .val (.int mb), .val (.long sq), .second, .val (.double (13830554455654793216 : UInt64)), .second, .val (.int (((1 : Int32) <<< (mm &&& 31)) - (1 : Int32))), .unset, .unset] [(.int (lcmpW sq (1 : Int64)))])) t ∧ _
      by_cases hc172 : sq < (1 : Int64)
      · refine own_go (fun _ => XS.ifYes X171.here hx rfl (pc0 := 21) (pc' := 32) rfl (hb hby d4_21) rfl ((if0 _ _).trans (tlt ((lw_lt _ _).mpr hc172)).1) (by decide) (by decide)) ?_
        refine own_go (fun _ => XS.dload X171.here hx rfl (hb hby d4_32) rfl) ?_
        refine own_go (fun _ => XS.dconst0 X171.here hx rfl (hb hby d4_34) rfl) ?_
        show ∃ t o, Steps p.tables e below (T171.setTop (mkF m 35 #[.val (.ref fo), .val (.int mm), .val (.int (2 : Int32)), .val (.ref ma), .val (.ref aa), .val (.int mb), .val (.long sq), .second, .val (.double (13830554455654793216 : UInt64)), .second, .val (.int (((1 : Int32) <<< (mm &&& 31)) - (1 : Int32))), .unset, .unset] [(.double FP.dconst0), (.double (13830554455654793216 : UInt64))])) t ∧ _
        refine own_go (fun _ => XS.dcmpS X171.here hx rfl (hb hby d4_35) rfl (v := (-1 : Int32)) own_negd) ?_
        show ∃ t o, Steps p.tables e below (T171.setTop (mkF m 36 #[.val (.ref fo), .val (.int mm), .val (.int (2 : Int32)), .val (.ref ma), .val (.ref aa), .val (.int mb), .val (.long sq), .second, .val (.double (13830554455654793216 : UInt64)), .second, .val (.int (((1 : Int32) <<< (mm &&& 31)) - (1 : Int32))), .unset, .unset] [(.int (-1 : Int32))])) t ∧ _
        refine own_go (fun _ => XS.ifNo X171.here hx rfl (hb hby d4_36) rfl ((if0 _ _).trans (tlt (by decide : (-1 : Int32) < (0 : Int32))).2.1)) ?_
        refine own_go (fun _ => XS.iconst X171.here hx rfl (hb hby d4_39)) ?_
        refine own_go (fun _ => XS.goto X171.here hx rfl (pc0 := 40) (pc' := 44) rfl (hb hby d4_40) (by decide) (by decide)) ?_
        show ∃ t o, Steps p.tables e below (T171.setTop (mkF m 44 #[.val (.ref fo), .val (.int mm), .val (.int (2 : Int32)), .val (.ref ma), .val (.ref aa), .val (.int mb), .val (.long sq), .second, .val (.double (13830554455654793216 : UInt64)), .second, .val (.int (((1 : Int32) <<< (mm &&& 31)) - (1 : Int32))), .unset, .unset] [(.int (1 : Int32))])) t ∧ _
        obtain ⟨fs, hr, hrun, hended, hW, hsame⟩ := X171.leave (v := some (.int (1 : Int32))) (fun h => by rw [Bd.returns] at h; cases h)
        refine ⟨_, _, ?_, hrun, hended, _, _, rfl, ?_, ⟨_, rfl⟩, hW, hsame.mono (by decide) (by decide)⟩
        · exact retN X171 hx (t := .boolean) Bd.returns (by simp) (hb hby d4_44) hr
        · show Q_rmCheck2 Z _ _ _ _ _ _ _ _ _ _ _ _ _ _ _ _ _ _ _ h0 n0 _ T171.heap _
          rw [e171]
          exact ⟨(2 : Int32), (0 : Int32), (3 : Int64), (((1 : Int32) <<< (mm &&& 31)) - (1 : Int32)), (((1 : Int32) <<< (mm &&& 31)) - (1 : Int32)), rfl, N171, (Keep.refl h0 [fo, ia, ma]), P1, P2, P3, P4, P5, P6, P7, P9, P10, (Or.inr (Or.inr ⟨rfl, rfl, rfl, rfl, rfl, rfl⟩))⟩
      · refine own_go (fun _ => XS.ifNo X171.here hx rfl (hb hby d4_21) rfl ((if0 _ _).trans (flt (mt (lw_lt _ _).mp hc172)).1)) ?_
        refine own_go (fun _ => XS.lload X171.here hx rfl (hb hby d4_24) rfl) ?_
        refine own_go (fun _ => XS.iloadN X171.here hx rfl (hb hby d4_26) rfl) ?_
        show ∃ t o, Steps p.tables e below (T171.setTop (mkF m 27 #[.val (.ref fo), .val (.int mm), .val (.int (2 : Int32)), .val (.ref ma), .val (.ref aa), .val (.int mb), .val (.long sq), .second, .val (.double (13830554455654793216 : UInt64)), .second, .val (.int (((1 : Int32) <<< (mm &&& 31)) - (1 : Int32))), .unset, .unset] [(.int (2 : Int32)), (.long sq)])) t ∧ _
        refine own_go (fun _ => XS.i2l X171.here hx rfl (hb hby d4_27) rfl) ?_
        refine own_go (fun _ => XS.lcmp X171.here hx rfl (hb hby d4_28) rfl) ?_
        show ∃ t o, Steps p.tables e below (T171.setTop (mkF m 29 #[.val (.ref fo), .val (.int mm), .val (.int (2 : Int32)), .val (.ref ma), .val (.ref aa), .val (.int mb), .val (.long sq), .second, .val (.double (13830554455654793216 : UInt64)), .second, .val (.int (((1 : Int32) <<< (mm &&& 31)) - (1 : Int32))), .unset, .unset] [(.int (lcmpW sq (2 : Int64)))])) t ∧ _
        have hd173 : (2 : Int64) < sq := own_lt1 _ 2 rfl hq hc172
        refine own_go (fun _ => XS.ifNo X171.here hx rfl (hb hby d4_29) rfl ((if0 _ _).trans (tlt ((lw_gt _ _).mpr hd173)).2.2.2)) ?_
        refine own_go (fun _ => XS.dload X171.here hx rfl (hb hby d4_32) rfl) ?_
        refine own_go (fun _ => XS.dconst0 X171.here hx rfl (hb hby d4_34) rfl) ?_
        show ∃ t o, Steps p.tables e below (T171.setTop (mkF m 35 #[.val (.ref fo), .val (.int mm), .val (.int (2 : Int32)), .val (.ref ma), .val (.ref aa), .val (.int mb), .val (.long sq), .second, .val (.double (13830554455654793216 : UInt64)), .second, .val (.int (((1 : Int32) <<< (mm &&& 31)) - (1 : Int32))), .unset, .unset] [(.double FP.dconst0), (.double (13830554455654793216 : UInt64))])) t ∧ _
        refine own_go (fun _ => XS.dcmpS X171.here hx rfl (hb hby d4_35) rfl (v := (-1 : Int32)) own_negd) ?_
        show ∃ t o, Steps p.tables e below (T171.setTop (mkF m 36 #[.val (.ref fo), .val (.int mm), .val (.int (2 : Int32)), .val (.ref ma), .val (.ref aa), .val (.int mb), .val (.long sq), .second, .val (.double (13830554455654793216 : UInt64)), .second, .val (.int (((1 : Int32) <<< (mm &&& 31)) - (1 : Int32))), .unset, .unset] [(.int (-1 : Int32))])) t ∧ _
        refine own_go (fun _ => XS.ifNo X171.here hx rfl (hb hby d4_36) rfl ((if0 _ _).trans (tlt (by decide : (-1 : Int32) < (0 : Int32))).2.1)) ?_
        refine own_go (fun _ => XS.iconst X171.here hx rfl (hb hby d4_39)) ?_
        refine own_go (fun _ => XS.goto X171.here hx rfl (pc0 := 40) (pc' := 44) rfl (hb hby d4_40) (by decide) (by decide)) ?_
        show ∃ t o, Steps p.tables e below (T171.setTop (mkF m 44 #[.val (.ref fo), .val (.int mm), .val (.int (2 : Int32)), .val (.ref ma), .val (.ref aa), .val (.int mb), .val (.long sq), .second, .val (.double (13830554455654793216 : UInt64)), .second, .val (.int (((1 : Int32) <<< (mm &&& 31)) - (1 : Int32))), .unset, .unset] [(.int (1 : Int32))])) t ∧ _
        obtain ⟨fs, hr, hrun, hended, hW, hsame⟩ := X171.leave (v := some (.int (1 : Int32))) (fun h => by rw [Bd.returns] at h; cases h)
        refine ⟨_, _, ?_, hrun, hended, _, _, rfl, ?_, ⟨_, rfl⟩, hW, hsame.mono (by decide) (by decide)⟩
        · exact retN X171 hx (t := .boolean) Bd.returns (by simp) (hb hby d4_44) hr
        · show Q_rmCheck2 Z _ _ _ _ _ _ _ _ _ _ _ _ _ _ _ _ _ _ _ h0 n0 _ T171.heap _
          rw [e171]
          exact ⟨(2 : Int32), (0 : Int32), (3 : Int64), (((1 : Int32) <<< (mm &&& 31)) - (1 : Int32)), (((1 : Int32) <<< (mm &&& 31)) - (1 : Int32)), rfl, N171, (Keep.refl h0 [fo, ia, ma]), P1, P2, P3, P4, P5, P6, P7, P9, P10, (Or.inr (Or.inr ⟨rfl, rfl, rfl, rfl, rfl, rfl⟩))⟩
theorem own_nn (x : Int32) : Jvm.Free.Fl.NoNaN64 (FP.i2d x) := nn_w (i2d_w x)
theorem ef_rm0 (m : MethodId) (x0 : Int32) (x1 : Int32) (x2 : Int32) (x3 : Int64) (x4 : Int32) : entryFrame m #[(.int x0), (.int x1), (.int x2), (.long x3), (.int x4)] maxLocals = mkF m 0 #[.val (.int x0), .val (.int x1), .val (.int x2), .val (.long x3), .second, .val (.int x4), .unset, .unset, .unset, .unset, .unset, .unset] [] := by first | (simp [entryFrame, mkF, argsToLocals, Value.category, maxLocals]; done) | rfl
theorem pd__28I_29V : parseMethodDescriptor "(I)V" = some ⟨[.int], none⟩ := by decide +kernel
theorem pd__28D_29V : parseMethodDescriptor "(D)V" = some ⟨[.double], none⟩ := by decide +kernel
theorem pd_h80816b9d : parseMethodDescriptor "(Lcom/example/holdback/holdback/sim/InFlight;II[I[DIJ)Z" = some ⟨[(.object "com/example/holdback/holdback/sim/InFlight"), .int, .int, (.array .int), (.array .double), .int, .long], some .boolean⟩ := by decide +kernel
def Q_rm0 (Z : State) (i1 : Int32) (i2 : Int32) (i3 : Int32) (d1 : Int64) (i4 : Int32) (h0 : Heap) (n0 : Nat) (v : Option Value) (h : Heap) (L : List Loc) : Prop := v = some (.int (1 : Int32)) ∧ Fr n0 L ∧ Keep h0 h []
set_option maxRecDepth 65536 in
set_option maxHeartbeats 40000000 in
theorem rm0 (l : Launch) (Z : State) (a0 : Array Value) (hw : ∀ d ∈ tables_1, d.before a0 Z = true) (ws : List Jvm.Cond) (i1 : Int32) (i2 : Int32) (i3 : Int32) (d1 : Int64) (i4 : Int32) (h0 : Heap) (n0 : Nat) (Z0 : n0 ≤ h0.size) (OLD : Old Z n0 h0) :
    MetFree l x (head1 (Jvm.Cond.code x code maxLocals ret :: ws) room_1) (fun a U => a = #[(.int i1), (.int i2), (.int i3), (.long d1), (.int i4)] ∧ Z.Warmed39 U.vm ∧ U.heap = h0) (fun _ _ _ _ _ => True) (fun _ U o U' => ∃ v L, o = .returned v ∧ Q_rm0 Z i1 i2 i3 d1 i4 h0 n0 v U'.heap L ∧ FrameEnd U o U' L room_1.cells room_1.slots) := by
  refine MetFree.of_bodySF (plainFor_of_name pn_com_example_holdback_holdback_sim_InFlightDeliveredPinLaw) hisR ?_
  intro p e s m args below meth c s₁ Bd hml0 hP hK
  obtain ⟨rfl, hZ, hh⟩ := hP
  have hx := Bd.exec
  have hby := Bd.bytes
  have hml : c.maxLocals = 12 := hml0
  have hown : s.vm.findClass "com/example/holdback/holdback/sim/InFlightDeliveredPinLaw" = some m.cls := findClass_of_methodNamed Bd.named
  have hnm := (name_of_methodNamed Bd.named Bd.method).1
  have X0 : Stand p l e room_1 s m #[(.int i1), (.int i2), (.int i3), (.long d1), (.int i4)] below meth c s₁ [] 0 0 := Stand.of_body Bd
  have e0 : s₁.heap = h0 := by rw [← hh, Bd.state]; rfl
  have N0 := Fr.nil n0
  have pre0 : ∀ t, Steps p.tables e below (s₁.setTop (mkF m 0 #[.val (.int i1), .val (.int i2), .val (.int i3), .val (.long d1), .second, .val (.int i4), .unset, .unset, .unset, .unset, .unset, .unset] [])) t → Steps p.tables e below (s₁.setTop (entryFrame m #[(.int i1), (.int i2), (.int i3), (.long d1), (.int i4)] maxLocals)) t := fun t k => castTop (ef_rm0 m i1 i2 i3 d1 i4) k
  have oz := OLD.1
  refine own_go (B := s₁.setTop (mkF m 0 #[.val (.int i1), .val (.int i2), .val (.int i3), .val (.long d1), .second, .val (.int i4), .unset, .unset, .unset, .unset, .unset, .unset] [])) pre0 ?_
  show ∃ t o, Steps p.tables e below (s₁.setTop (mkF m 0 #[.val (.int i1), .val (.int i2), .val (.int i3), .val (.long d1), .second, .val (.int i4), .unset, .unset, .unset, .unset, .unset, .unset] [])) t ∧ _
  refine own_go (fun _ => XS.iconst X0.here hx rfl (hb hby at_0)) ?_
  refine own_go (fun _ => XS.iloadN X0.here hx rfl (hb hby at_1) rfl) ?_
  refine own_go (fun _ => X0.ldcInt hx hown (mvT hZ (hw _ (List.mem_of_getElem? (i := 0) rfl))) (g := (mkF m 2 #[.val (.int i1), .val (.int i2), .val (.int i3), .val (.long d1), .second, .val (.int i4), .unset, .unset, .unset, .unset, .unset, .unset] [(.int i1), (.int (1 : Int32))])) rfl (hb hby at_2) _) ?_
  show ∃ t o, Steps p.tables e below (s₁.setTop (mkF m 4 #[.val (.int i1), .val (.int i2), .val (.int i3), .val (.long d1), .second, .val (.int i4), .unset, .unset, .unset, .unset, .unset, .unset] [(.int (2147483647 : Int32)), (.int i1), (.int (1 : Int32))])) t ∧ _
  refine own_go (fun _ => XS.iand X0.here hx rfl (hb hby at_4) rfl) ?_
  refine own_go (fun _ => XS.iconst X0.here hx rfl (hb hby at_5)) ?_
  refine own_go (fun _ => iremM X0 hx rfl (hb hby at_6) rfl (by decide)) ?_
  show ∃ t o, Steps p.tables e below (s₁.setTop (mkF m 7 #[.val (.int i1), .val (.int i2), .val (.int i3), .val (.long d1), .second, .val (.int i4), .unset, .unset, .unset, .unset, .unset, .unset] [(.int ((i1 &&& (2147483647 : Int32)) % (3 : Int32))), (.int (1 : Int32))])) t ∧ _
  refine own_go (fun _ => XS.iadd X0.here hx rfl (hb hby at_7) rfl) ?_
  refine own_go (fun _ => XS.istore X0.here hx rfl (hb hby at_8) rfl (l' := #[.val (.int i1), .val (.int i2), .val (.int i3), .val (.long d1), .second, .val (.int i4), .val (.int ((1 : Int32) + ((i1 &&& (2147483647 : Int32)) % (3 : Int32)))), .unset, .unset, .unset, .unset, .unset]) rfl) ?_
  show ∃ t o, Steps p.tables e below (s₁.setTop (mkF m 10 #[.val (.int i1), .val (.int i2), .val (.int i3), .val (.long d1), .second, .val (.int i4), .val (.int ((1 : Int32) + ((i1 &&& (2147483647 : Int32)) % (3 : Int32)))), .unset, .unset, .unset, .unset, .unset] [])) t ∧ _
  obtain ⟨mm, hmm⟩ : ∃ z, z = ((1 : Int32) + ((i1 &&& (2147483647 : Int32)) % (3 : Int32))) := ⟨_, rfl⟩
  rw [← hmm]
  have hm3 := own_ndiv i1
  rw [← hmm] at hm3
  refine own_go (fun _ => XS.iconst X0.here hx rfl (hb hby at_10)) ?_
  show ∃ t o, Steps p.tables e below (s₁.setTop (mkF m 11 #[.val (.int i1), .val (.int i2), .val (.int i3), .val (.long d1), .second, .val (.int i4), .val (.int mm), .unset, .unset, .unset, .unset, .unset] [(.int (1 : Int32))])) t ∧ _
  refine own_go (fun _ => XS.iloadN X0.here hx rfl (hb hby at_11) rfl) ?_
  refine own_go (fun _ => XS.bipush X0.here hx rfl (hb hby at_12)) ?_
  refine own_go (fun _ => XS.iushr X0.here hx rfl (hb hby at_14) rfl) ?_
  show ∃ t o, Steps p.tables e below (s₁.setTop (mkF m 15 #[.val (.int i1), .val (.int i2), .val (.int i3), .val (.long d1), .second, .val (.int i4), .val (.int mm), .unset, .unset, .unset, .unset, .unset] [(.int ((i1.toUInt32 >>> ((8 : Int32) &&& 31).toUInt32).toInt32)), (.int (1 : Int32))])) t ∧ _
  refine own_go (fun _ => XS.iconst X0.here hx rfl (hb hby at_15)) ?_
  refine own_go (fun _ => XS.iand X0.here hx rfl (hb hby at_16) rfl) ?_
  refine own_go (fun _ => XS.iadd X0.here hx rfl (hb hby at_17) rfl) ?_
  show ∃ t o, Steps p.tables e below (s₁.setTop (mkF m 18 #[.val (.int i1), .val (.int i2), .val (.int i3), .val (.long d1), .second, .val (.int i4), .val (.int mm), .unset, .unset, .unset, .unset, .unset] [(.int ((1 : Int32) + (((i1.toUInt32 >>> ((8 : Int32) &&& 31).toUInt32).toInt32) &&& (1 : Int32))))])) t ∧ _
  refine own_go (fun _ => XS.istore X0.here hx rfl (hb hby at_18) rfl (l' := #[.val (.int i1), .val (.int i2), .val (.int i3), .val (.long d1), .second, .val (.int i4), .val (.int mm), .val (.int ((1 : Int32) + (((i1.toUInt32 >>> ((8 : Int32) &&& 31).toUInt32).toInt32) &&& (1 : Int32)))), .unset, .unset, .unset, .unset]) rfl) ?_
  show ∃ t o, Steps p.tables e below (s₁.setTop (mkF m 20 #[.val (.int i1), .val (.int i2), .val (.int i3), .val (.long d1), .second, .val (.int i4), .val (.int mm), .val (.int ((1 : Int32) + (((i1.toUInt32 >>> ((8 : Int32) &&& 31).toUInt32).toInt32) &&& (1 : Int32)))), .unset, .unset, .unset, .unset] [])) t ∧ _
  rcases own_n12 ((i1.toUInt32 >>> ((8 : Int32) &&& 31).toUInt32).toInt32) with hn | hn
  · rw [hn]
    refine own_go (fun _ => XS.iconst X0.here hx rfl (hb hby at_20)) ?_
    show ∃ t o, Steps p.tables e below (s₁.setTop (mkF m 21 #[.val (.int i1), .val (.int i2), .val (.int i3), .val (.long d1), .second, .val (.int i4), .val (.int mm), .val (.int (1 : Int32)), .unset, .unset, .unset, .unset] [(.int (3 : Int32))])) t ∧ _
    obtain ⟨T1, h1, k1, X1, e1, E1, A1, st1⟩ := newP X0 hx hZ (hw _ (List.mem_of_getElem? (i := 1) rfl)) e0 (g := (mkF m 21 #[.val (.int i1), .val (.int i2), .val (.int i3), .val (.long d1), .second, .val (.int i4), .val (.int mm), .val (.int (1 : Int32)), .unset, .unset, .unset, .unset] [(.int (3 : Int32))])) rfl (hb hby at_21) rfl (by decide) (cap := 3) (by decide) (by decide) (by decide) (by decide)
    obtain ⟨b1, g1⟩ : ∃ z, z = h0.size := ⟨_, rfl⟩
    rw [← g1] at A1 st1
    refine own_go st1 ?_
    have le_1 : h0.size ≤ h1.size := E1.1
    have lt_b1 : b1 < h1.size := A1.lt
    have V_b1 : Arv Z h1 b1 k1 .double (3 : Int32) [(.double (0 : UInt64)), (.double (0 : UInt64)), (.double (0 : UInt64))] (.double (0 : UInt64)) := (Arv.new A1 (by decide)).pad (pad_rep [] (.double (0 : UInt64)) 3)
    have K1 : Keep h0 h1 [] := Keep.ext (Keep.refl h0 []) E1
    refine own_go (fun _ => XS.astore X1.here hx rfl (hb hby at_23) rfl rfl (l' := #[.val (.int i1), .val (.int i2), .val (.int i3), .val (.long d1), .second, .val (.int i4), .val (.int mm), .val (.int (1 : Int32)), .val (.ref b1), .unset, .unset, .unset]) rfl) ?_
    refine own_go (fun _ => XS.aload X1.here hx rfl (hb hby at_25) rfl rfl) ?_
    show ∃ t o, Steps p.tables e below (T1.setTop (mkF m 27 #[.val (.int i1), .val (.int i2), .val (.int i3), .val (.long d1), .second, .val (.int i4), .val (.int mm), .val (.int (1 : Int32)), .val (.ref b1), .unset, .unset, .unset] [(.ref b1)])) t ∧ _
    refine own_go (fun _ => XS.iconst X1.here hx rfl (hb hby at_27)) ?_
    refine own_go (fun _ => XS.iloadN X1.here hx rfl (hb hby at_28) rfl) ?_
    refine own_go (fun _ => X1.ldcInt hx hown (mvT hZ (hw _ (List.mem_of_getElem? (i := 2) rfl))) (g := (mkF m 29 #[.val (.int i1), .val (.int i2), .val (.int i3), .val (.long d1), .second, .val (.int i4), .val (.int mm), .val (.int (1 : Int32)), .val (.ref b1), .unset, .unset, .unset] [(.int i2), (.int (1 : Int32)), (.ref b1)])) rfl (hb hby at_29) _) ?_
    show ∃ t o, Steps p.tables e below (T1.setTop (mkF m 31 #[.val (.int i1), .val (.int i2), .val (.int i3), .val (.long d1), .second, .val (.int i4), .val (.int mm), .val (.int (1 : Int32)), .val (.ref b1), .unset, .unset, .unset] [(.int (65535 : Int32)), (.int i2), (.int (1 : Int32)), (.ref b1)])) t ∧ _
    refine own_go (fun _ => XS.iand X1.here hx rfl (hb hby at_31) rfl) ?_
    refine own_go (fun _ => XS.i2dS X1.here hx rfl (hb hby at_32) rfl rfl) ?_
    obtain ⟨cl2, Ar2, q2, S2, N2, H2, G2⟩ := id V_b1
    have hin2 : ¬ ((1 : Int32) < 0 ∨ cl2.slots.size ≤ ((1 : Int32)).toNatClampNeg) := inb_of S2 ⟨by decide, by decide⟩
    obtain ⟨T3, h3, X3, e3, W3, st3⟩ := stD X1 hx hZ e1 Ar2 (j := (1 : Int32)) hin2 (g := (mkF m 33 #[.val (.int i1), .val (.int i2), .val (.int i3), .val (.long d1), .second, .val (.int i4), .val (.int mm), .val (.int (1 : Int32)), .val (.ref b1), .unset, .unset, .unset] [(.double (FP.i2d (i2 &&& (65535 : Int32)))), (.int (1 : Int32)), (.ref b1)])) rfl rfl (hb hby at_33)
    refine own_go st3 ?_
    have ge4 : n0 ≤ b1 := by omega
    have le_3 : h1.size ≤ h3.size := Nat.le_of_eq W3.size.symm
    have sz5 : h0.size ≤ b1 := by omega
    have K3 : Keep h0 h3 [] := Keep.wr K1 W3 (Or.inr sz5)
    have N3 := Fr.snoc X3 N0 ge4
    have V3 : Arv Z h3 b1 k1 .double (3 : Int32) [(.double (0 : UInt64)), (.double (FP.i2d (i2 &&& (65535 : Int32)))), (.double (0 : UInt64))] (.double (0 : UInt64)) := Arv.set Ar2 q2 S2 N2 H2 G2 rfl W3 1 rfl (Nat.le_of_ble_eq_true rfl)
    show ∃ t o, Steps p.tables e below (T3.setTop (mkF m 34 #[.val (.int i1), .val (.int i2), .val (.int i3), .val (.long d1), .second, .val (.int i4), .val (.int mm), .val (.int (1 : Int32)), .val (.ref b1), .unset, .unset, .unset] [])) t ∧ _
    refine own_go (fun _ => XS.aload X3.here hx rfl (hb hby at_34) rfl rfl) ?_
    refine own_go (fun _ => XS.iconst X3.here hx rfl (hb hby at_36)) ?_
    refine own_go (fun _ => XS.iloadN X3.here hx rfl (hb hby at_37) rfl) ?_
    show ∃ t o, Steps p.tables e below (T3.setTop (mkF m 38 #[.val (.int i1), .val (.int i2), .val (.int i3), .val (.long d1), .second, .val (.int i4), .val (.int mm), .val (.int (1 : Int32)), .val (.ref b1), .unset, .unset, .unset] [(.int i2), (.int (2 : Int32)), (.ref b1)])) t ∧ _
    refine own_go (fun _ => XS.bipush X3.here hx rfl (hb hby at_38)) ?_
    refine own_go (fun _ => XS.iushr X3.here hx rfl (hb hby at_40) rfl) ?_
    refine own_go (fun _ => X3.ldcInt hx hown (mvT hZ (hw _ (List.mem_of_getElem? (i := 2) rfl))) (g := (mkF m 41 #[.val (.int i1), .val (.int i2), .val (.int i3), .val (.long d1), .second, .val (.int i4), .val (.int mm), .val (.int (1 : Int32)), .val (.ref b1), .unset, .unset, .unset] [(.int ((i2.toUInt32 >>> ((16 : Int32) &&& 31).toUInt32).toInt32)), (.int (2 : Int32)), (.ref b1)])) rfl (hb hby at_41) _) ?_
    show ∃ t o, Steps p.tables e below (T3.setTop (mkF m 43 #[.val (.int i1), .val (.int i2), .val (.int i3), .val (.long d1), .second, .val (.int i4), .val (.int mm), .val (.int (1 : Int32)), .val (.ref b1), .unset, .unset, .unset] [(.int (65535 : Int32)), (.int ((i2.toUInt32 >>> ((16 : Int32) &&& 31).toUInt32).toInt32)), (.int (2 : Int32)), (.ref b1)])) t ∧ _
    refine own_go (fun _ => XS.iand X3.here hx rfl (hb hby at_43) rfl) ?_
    refine own_go (fun _ => XS.i2dS X3.here hx rfl (hb hby at_44) rfl rfl) ?_
    obtain ⟨cl6, Ar6, q6, S6, N6, H6, G6⟩ := id V3
    have hin6 : ¬ ((2 : Int32) < 0 ∨ cl6.slots.size ≤ ((2 : Int32)).toNatClampNeg) := inb_of S6 ⟨by decide, by decide⟩
    obtain ⟨T7, h7, X7, e7, W7, st7⟩ := stD X3 hx hZ e3 Ar6 (j := (2 : Int32)) hin6 (g := (mkF m 45 #[.val (.int i1), .val (.int i2), .val (.int i3), .val (.long d1), .second, .val (.int i4), .val (.int mm), .val (.int (1 : Int32)), .val (.ref b1), .unset, .unset, .unset] [(.double (FP.i2d (((i2.toUInt32 >>> ((16 : Int32) &&& 31).toUInt32).toInt32) &&& (65535 : Int32)))), (.int (2 : Int32)), (.ref b1)])) rfl rfl (hb hby at_45)
    refine own_go st7 ?_
    have le_7 : h3.size ≤ h7.size := Nat.le_of_eq W7.size.symm
    have K7 : Keep h0 h7 [] := Keep.wr K3 W7 (Or.inr sz5)
    have N7 := Fr.snoc X7 N3 ge4
    have V7 : Arv Z h7 b1 k1 .double (3 : Int32) [(.double (0 : UInt64)), (.double (FP.i2d (i2 &&& (65535 : Int32)))), (.double (FP.i2d (((i2.toUInt32 >>> ((16 : Int32) &&& 31).toUInt32).toInt32) &&& (65535 : Int32))))] (.double (0 : UInt64)) := Arv.set Ar6 q6 S6 N6 H6 G6 rfl W7 2 rfl (Nat.le_of_ble_eq_true rfl)
    show ∃ t o, Steps p.tables e below (T7.setTop (mkF m 46 #[.val (.int i1), .val (.int i2), .val (.int i3), .val (.long d1), .second, .val (.int i4), .val (.int mm), .val (.int (1 : Int32)), .val (.ref b1), .unset, .unset, .unset] [])) t ∧ _
    refine own_go (fun _ => XS.iconst X7.here hx rfl (hb hby at_46)) ?_
    show ∃ t o, Steps p.tables e below (T7.setTop (mkF m 47 #[.val (.int i1), .val (.int i2), .val (.int i3), .val (.long d1), .second, .val (.int i4), .val (.int mm), .val (.int (1 : Int32)), .val (.ref b1), .unset, .unset, .unset] [(.int (3 : Int32))])) t ∧ _
    obtain ⟨T8, h8, k8, X8, e8, E8, A8, st8⟩ := newP X7 hx hZ (hw _ (List.mem_of_getElem? (i := 3) rfl)) e7 (g := (mkF m 47 #[.val (.int i1), .val (.int i2), .val (.int i3), .val (.long d1), .second, .val (.int i4), .val (.int mm), .val (.int (1 : Int32)), .val (.ref b1), .unset, .unset, .unset] [(.int (3 : Int32))])) rfl (hb hby at_47) rfl (by decide) (cap := 3) (by decide) (by decide) (by decide) (by decide)
    obtain ⟨b8, g8⟩ : ∃ z, z = h7.size := ⟨_, rfl⟩
    rw [← g8] at A8 st8
    refine own_go st8 ?_
    have le_8 : h7.size ≤ h8.size := E8.1
    have lt_b8 : b8 < h8.size := A8.lt
    have V_b8 : Arv Z h8 b8 k8 .int (3 : Int32) [(.int (0 : Int32)), (.int (0 : Int32)), (.int (0 : Int32))] (.int (0 : Int32)) := (Arv.new A8 (by decide)).pad (pad_rep [] (.int (0 : Int32)) 3)
    have K8 : Keep h0 h8 [] := Keep.ext K7 E8
    refine own_go (fun _ => XS.astore X8.here hx rfl (hb hby at_49) rfl rfl (l' := #[.val (.int i1), .val (.int i2), .val (.int i3), .val (.long d1), .second, .val (.int i4), .val (.int mm), .val (.int (1 : Int32)), .val (.ref b1), .val (.ref b8), .unset, .unset]) rfl) ?_
    show ∃ t o, Steps p.tables e below (T8.setTop (mkF m 51 #[.val (.int i1), .val (.int i2), .val (.int i3), .val (.long d1), .second, .val (.int i4), .val (.int mm), .val (.int (1 : Int32)), .val (.ref b1), .val (.ref b8), .unset, .unset] [])) t ∧ _
    obtain ⟨T9, h9, X9, e9, E9, A9, D9, -, st9⟩ := newO X8 hx hZ hown (hw _ (List.mem_of_getElem? (i := 4) rfl)) (hw _ (List.mem_of_getElem? (i := 5) rfl)) (hw _ (List.mem_of_getElem? (i := 6) rfl)) e8 (g := (mkF m 51 #[.val (.int i1), .val (.int i2), .val (.int i3), .val (.long d1), .second, .val (.int i4), .val (.int mm), .val (.int (1 : Int32)), .val (.ref b1), .val (.ref b8), .unset, .unset] [])) rfl (hb hby at_51) (by decide) (by decide)
    obtain ⟨b9, g9⟩ : ∃ z, z = h8.size := ⟨_, rfl⟩
    rw [← g9] at A9 D9 st9
    refine own_go st9 ?_
    have le_9 : h8.size ≤ h9.size := E9.1
    have lt_b9 : b9 < h9.size := A9.lt
    have F_multicastAt_b9 : Fld Z h9 b9 "com/example/holdback/holdback/sim/InFlight" "multicastAt" "[D" .null := D9 (Or.inl (hw _ (List.mem_of_getElem? (i := 14) rfl))) (ty := (.array .double)) (by decide)
    have F_deliveredBy_b9 : Fld Z h9 b9 "com/example/holdback/holdback/sim/InFlight" "deliveredBy" "[I" .null := D9 (Or.inl (hw _ (List.mem_of_getElem? (i := 16) rfl))) (ty := (.array .int)) (by decide)
    have F_firstSeq_b9 : Fld Z h9 b9 "com/example/holdback/holdback/sim/InFlight" "firstSeq" "J" (.long (0 : Int64)) := D9 (Or.inl (hw _ (List.mem_of_getElem? (i := 18) rfl))) (ty := .long) (by decide)
    have F_everyone_b9 : Fld Z h9 b9 "com/example/holdback/holdback/sim/InFlight" "everyone" "I" (.int (0 : Int32)) := D9 (Or.inr (hw _ (List.mem_of_getElem? (i := 20) rfl))) (ty := .int) (by decide)
    have F_size_b9 : Fld Z h9 b9 "com/example/holdback/holdback/sim/InFlight" "size" "I" (.int (0 : Int32)) := D9 (Or.inl (hw _ (List.mem_of_getElem? (i := 27) rfl))) (ty := .int) (by decide)
    have F_first_b9 : Fld Z h9 b9 "com/example/holdback/holdback/sim/InFlight" "first" "I" (.int (0 : Int32)) := D9 (Or.inl (hw _ (List.mem_of_getElem? (i := 29) rfl))) (ty := .int) (by decide)
    have K9 : Keep h0 h9 [] := Keep.ext K8 E9
    refine own_go (fun _ => XS.dup X9.here hx rfl (hb hby at_54) rfl rfl) ?_
    refine own_go (fun _ => XS.iload X9.here hx rfl (hb hby at_55) rfl) ?_
    show ∃ t o, Steps p.tables e below (T9.setTop (mkF m 57 #[.val (.int i1), .val (.int i2), .val (.int i3), .val (.long d1), .second, .val (.int i4), .val (.int mm), .val (.int (1 : Int32)), .val (.ref b1), .val (.ref b8), .unset, .unset] [(.int mm), (.ref b9), (.ref b9)])) t ∧ _
    have F10 : Old Z n0 h9 := (((Old.wr (Old.wr (OLD.ext E1) W3 ge4) W7 ge4).ext E8).ext E9)
    have ge11 : n0 ≤ b9 := by omega
    have zl12 : n0 ≤ h9.size := by omega
    obtain ⟨_, _, ⟨T13, L13, k13, n13⟩, -, X13, ⟨Lc13, hQ13, l13, y13, z13⟩, st13⟩ := X9.specialBack hx (y := (⟨"com/example/holdback/holdback/sim/InFlight", "<init>", "(I)V"⟩ : MethodName)) rfl hown (mvT hZ (hw _ (List.mem_of_getElem? (i := 7) rfl))) (mvT hZ (hw _ (List.mem_of_getElem? (i := 8) rfl))) (mvT hZ (hw _ (List.mem_of_getElem? (i := 9) rfl))) (by decide) (backOf (W := 1) (rmInit l Z a0 hw [] b9 mm h9 n0 zl12 A9 F_multicastAt_b9 F_deliveredBy_b9 F_firstSeq_b9 F_everyone_b9 F_size_b9 F_first_b9 F10 ge11) hZ (hw _ (List.mem_of_getElem? (i := 9) rfl)) (hw _ (List.mem_of_getElem? (i := 6) rfl)) (by decide) (by decide)) (g := (mkF m 57 #[.val (.int i1), .val (.int i2), .val (.int i3), .val (.long d1), .second, .val (.int i4), .val (.int mm), .val (.int (1 : Int32)), .val (.ref b1), .val (.ref b8), .unset, .unset] [(.int mm), (.ref b9), (.ref b9)])) rfl (by rw [hml]; rfl) (Steps.refl _) (a := b9) (argsL := [(.int mm)]) (rest := [(.ref b9)]) (lenOf pd__28I_29V rfl) rfl (by show 2 * 0 + _ ≤ _; exact Nat.le_of_eq rfl) (hb hby at_57) (fun _ _ => ⟨rfl, e9, (by decide : 3 + 2 ≤ _), (by decide : 12 + 32 ≤ _)⟩)
    dsimp only [Pt.U, Pt.locs, Pt.cells, Pt.slots] at X13 l13 y13 z13 st13 hQ13
    subst l13 y13 z13
    obtain ⟨da_13, ia_13, kd_13, ki_13, rfl, Nq13, Kp13, G13_0, G13_1, G13_2, G13_3, G13_4, G13_5, G13_6, G13_7, G13_8, H13_0, H13_1, H13_2⟩ := hQ13
    have N13 := Fr.app N7 Nq13
    refine own_goT st13 ?_
    have le_13 : h9.size ≤ T13.heap.size := Kp13.1
    have sz14 : h0.size ≤ b9 := by omega
    have K13 : Keep h0 T13.heap [] := Keep.trans K9 Kp13 (allS (Or.inr sz14) all0)
    have lt_da_13 : da_13 < T13.heap.size := (G13_7).lt
    have lt_ia_13 : ia_13 < T13.heap.size := (G13_8).lt
    refine own_go (fun _ => XS.astore X13.here hx rfl (hb hby at_60) rfl rfl (l' := #[.val (.int i1), .val (.int i2), .val (.int i3), .val (.long d1), .second, .val (.int i4), .val (.int mm), .val (.int (1 : Int32)), .val (.ref b1), .val (.ref b8), .val (.ref b9), .unset]) rfl) ?_
    refine own_go (fun _ => XS.aload X13.here hx rfl (hb hby at_62) rfl rfl) ?_
    show ∃ t o, Steps p.tables e below (T13.setTop (mkF m 64 #[.val (.int i1), .val (.int i2), .val (.int i3), .val (.long d1), .second, .val (.int i4), .val (.int mm), .val (.int (1 : Int32)), .val (.ref b1), .val (.ref b8), .val (.ref b9), .unset] [(.ref b9)])) t ∧ _
    refine own_go (fun _ => XS.aload X13.here hx rfl (hb hby at_64) rfl rfl) ?_
    refine own_go (fun _ => XS.iconst X13.here hx rfl (hb hby at_66)) ?_
    have ne15 : b1 ≠ b9 := own_ne (by omega)
    have F16 : Arv Z T13.heap b1 k1 .double (3 : Int32) [(.double (0 : UInt64)), (.double (FP.i2d (i2 &&& (65535 : Int32)))), (.double (FP.i2d (((i2.toUInt32 >>> ((16 : Int32) &&& 31).toUInt32).toInt32) &&& (65535 : Int32))))] (.double (0 : UInt64)) := (Arv.keep ((V7.ext E8).ext E9) Kp13 (ninS ne15 nin0))
    obtain ⟨cl17, Ar17, q17, S17, N17, H17, G17⟩ := id F16
    have hin17 : ¬ ((1 : Int32) < 0 ∨ cl17.slots.size ≤ ((1 : Int32)).toNatClampNeg) := inb_of S17 ⟨by decide, by decide⟩
    have hat17 : cl17.slots[((1 : Int32)).toNatClampNeg]? = some (.double (FP.i2d (i2 &&& (65535 : Int32)))) := Has.at H17 hin17 rfl
    refine own_go (fun _ => X13.daload hx (j := (1 : Int32)) (v := (.double (FP.i2d (i2 &&& (65535 : Int32))))) Ar17.1 (State.isArrayOf_alike hZ.alike Ar17.2.1) Ar17.2.2 hin17 hat17 (g := (mkF m 67 #[.val (.int i1), .val (.int i2), .val (.int i3), .val (.long d1), .second, .val (.int i4), .val (.int mm), .val (.int (1 : Int32)), .val (.ref b1), .val (.ref b8), .val (.ref b9), .unset] [(.int (1 : Int32)), (.ref b1), (.ref b9)])) rfl rfl (hb hby at_67) _) ?_
    show ∃ t o, Steps p.tables e below (T13.setTop (mkF m 68 #[.val (.int i1), .val (.int i2), .val (.int i3), .val (.long d1), .second, .val (.int i4), .val (.int mm), .val (.int (1 : Int32)), .val (.ref b1), .val (.ref b8), .val (.ref b9), .unset] [(.double (FP.i2d (i2 &&& (65535 : Int32)))), (.ref b9)])) t ∧ _
    have F18 : Old Z n0 T13.heap := (Old.keep F10 Kp13 (allS ge11 all0))
    have ge19 : n0 ≤ da_13 := by omega
    have ge20 : n0 ≤ ia_13 := by omega
    have ne21 : b9 ≠ da_13 := own_ne (by omega)
    have ne22 : b9 ≠ ia_13 := own_ne (by omega)
    have ne23 : da_13 ≠ b9 := own_ne (by omega)
    have ne24 : ia_13 ≠ b9 := own_ne (by omega)
    have ne25 : ia_13 ≠ da_13 := own_ne (by omega)
    have zl26 : n0 ≤ T13.heap.size := by omega
    obtain ⟨cq27, kq27, q27a, q27b, q27c⟩ := isOf hZ rfl G13_0
    obtain ⟨_, _, ⟨T27, L27, k27, n27⟩, -, X27, ⟨Lc27, hQ27, l27, y27, z27⟩, st27⟩ := X13.virtualBack hx (y := (⟨"com/example/holdback/holdback/sim/InFlight", "add", "(D)V"⟩ : MethodName)) (z := (⟨"com/example/holdback/holdback/sim/InFlight", "add", "(D)V"⟩ : MethodName)) hown (mvT hZ (hw _ (List.mem_of_getElem? (i := 21) rfl))) (mvT hZ (hw _ (List.mem_of_getElem? (i := 22) rfl))) (notFace_of_selects (args := #[]) (mvT hZ (hw _ (List.mem_of_getElem? (i := 24) rfl)))) (mvT hZ (hw _ (List.mem_of_getElem? (i := 24) rfl))) (mvT hZ (hw _ (List.mem_of_getElem? (i := 23) rfl))) (by decide) (backOf (W := 0) (rmAdd1 l Z a0 hw [] b9 da_13 ia_13 kd_13 ki_13 ((((1 : Int32) <<< (mm &&& 31)) - (1 : Int32))) ((FP.i2d (i2 &&& (65535 : Int32)))) T13.heap n0 zl26 G13_0 G13_1 G13_2 G13_3 G13_4 G13_5 G13_6 G13_7 G13_8 F18 ge11 ge19 ge20 ne21 ne22 H13_2 ne23 ne24 ne25) hZ (hw _ (List.mem_of_getElem? (i := 25) rfl)) (hw _ (List.mem_of_getElem? (i := 6) rfl)) (by decide) (by decide)) q27a q27c (g := (mkF m 68 #[.val (.int i1), .val (.int i2), .val (.int i3), .val (.long d1), .second, .val (.int i4), .val (.int mm), .val (.int (1 : Int32)), .val (.ref b1), .val (.ref b8), .val (.ref b9), .unset] [(.double (FP.i2d (i2 &&& (65535 : Int32)))), (.ref b9)])) rfl (by rw [hml]; rfl) (Steps.refl _) (argsL := [(.double (FP.i2d (i2 &&& (65535 : Int32))))]) (rest := []) (lenOf pd__28D_29V rfl) rfl (by show 2 * 0 + _ ≤ _; exact Nat.le_of_eq rfl) (hb hby at_68) (fun _ _ => ⟨rfl, rfl, (by decide : 5 + 0 ≤ _), (by decide : 44 + 0 ≤ _)⟩)
    dsimp only [Pt.U, Pt.locs, Pt.cells, Pt.slots] at X27 l27 y27 z27 st27 hQ27
    subst l27 y27 z27
    obtain ⟨rfl, Nq27, Kp27, G27_0, G27_1, G27_2, G27_3, G27_4, G27_5, G27_6, G27_7, G27_8⟩ := hQ27
    have N27 := Fr.app N13 Nq27
    refine own_goT st27 ?_
    have le_27 : T13.heap.size ≤ T27.heap.size := Kp27.1
    have sz28 : h0.size ≤ ia_13 := by omega
    have sz29 : h0.size ≤ da_13 := by omega
    have K27 : Keep h0 T27.heap [] := Keep.trans K13 Kp27 (allS (Or.inr sz14) (allS (Or.inr sz29) (allS (Or.inr sz28) all0)))
    refine own_go (fun _ => XS.iload X27.here hx rfl (hb hby at_71) rfl) ?_
    refine own_go (fun _ => XS.iconst X27.here hx rfl (hb hby at_73)) ?_
    show ∃ t o, Steps p.tables e below (T27.setTop (mkF m 74 #[.val (.int i1), .val (.int i2), .val (.int i3), .val (.long d1), .second, .val (.int i4), .val (.int mm), .val (.int (1 : Int32)), .val (.ref b1), .val (.ref b8), .val (.ref b9), .unset] [(.int (2 : Int32)), (.int (1 : Int32))])) t ∧ _
    refine own_go (fun _ => XS.icmpYes X27.here hx rfl (pc0 := 74) (pc' := 86) rfl (hb hby at_74) rfl (feq (by decide : ¬ ((1 : Int32) = (2 : Int32)))).2 (by decide) (by decide)) ?_
    refine own_go (fun _ => XS.iconst X27.here hx rfl (hb hby at_86)) ?_
    refine own_go (fun _ => XS.istore X27.here hx rfl (hb hby at_87) rfl (l' := #[.val (.int i1), .val (.int i2), .val (.int i3), .val (.long d1), .second, .val (.int i4), .val (.int mm), .val (.int (1 : Int32)), .val (.ref b1), .val (.ref b8), .val (.ref b9), .val (.int (1 : Int32))]) rfl) ?_
    show ∃ t o, Steps p.tables e below (T27.setTop (mkF m 89 #[.val (.int i1), .val (.int i2), .val (.int i3), .val (.long d1), .second, .val (.int i4), .val (.int mm), .val (.int (1 : Int32)), .val (.ref b1), .val (.ref b8), .val (.ref b9), .val (.int (1 : Int32))] [])) t ∧ _
    refine own_go (fun _ => XS.iload X27.here hx rfl (hb hby at_89) rfl) ?_
    refine own_go (fun _ => XS.aload X27.here hx rfl (hb hby at_91) rfl rfl) ?_
    refine own_go (fun _ => XS.iload X27.here hx rfl (hb hby at_93) rfl) ?_
    show ∃ t o, Steps p.tables e below (T27.setTop (mkF m 95 #[.val (.int i1), .val (.int i2), .val (.int i3), .val (.long d1), .second, .val (.int i4), .val (.int mm), .val (.int (1 : Int32)), .val (.ref b1), .val (.ref b8), .val (.ref b9), .val (.int (1 : Int32))] [(.int mm), (.ref b9), (.int (1 : Int32))])) t ∧ _
    refine own_go (fun _ => XS.iload X27.here hx rfl (hb hby at_95) rfl) ?_
    refine own_go (fun _ => XS.aload X27.here hx rfl (hb hby at_97) rfl rfl) ?_
    refine own_go (fun _ => XS.aload X27.here hx rfl (hb hby at_99) rfl rfl) ?_
    show ∃ t o, Steps p.tables e below (T27.setTop (mkF m 101 #[.val (.int i1), .val (.int i2), .val (.int i3), .val (.long d1), .second, .val (.int i4), .val (.int mm), .val (.int (1 : Int32)), .val (.ref b1), .val (.ref b8), .val (.ref b9), .val (.int (1 : Int32))] [(.ref b1), (.ref b8), (.int (1 : Int32)), (.int mm), (.ref b9), (.int (1 : Int32))])) t ∧ _
    refine own_go (fun _ => XS.iloadN X27.here hx rfl (hb hby at_101) rfl) ?_
    refine own_go (fun _ => XS.iconst X27.here hx rfl (hb hby at_102)) ?_
    refine own_go (fun _ => XS.iand X27.here hx rfl (hb hby at_103) rfl) ?_
    show ∃ t o, Steps p.tables e below (T27.setTop (mkF m 104 #[.val (.int i1), .val (.int i2), .val (.int i3), .val (.long d1), .second, .val (.int i4), .val (.int mm), .val (.int (1 : Int32)), .val (.ref b1), .val (.ref b8), .val (.ref b9), .val (.int (1 : Int32))] [(.int (i3 &&& (3 : Int32))), (.ref b1), (.ref b8), (.int (1 : Int32)), (.int mm), (.ref b9), (.int (1 : Int32))])) t ∧ _
    refine own_go (fun _ => XS.iload X27.here hx rfl (hb hby at_104) rfl) ?_
    refine own_go (fun _ => iremM X27 hx rfl (hb hby at_106) rfl (own_mz mm hm3)) ?_
    refine own_go (fun _ => XS.iloadN X27.here hx rfl (hb hby at_107) rfl) ?_
    show ∃ t o, Steps p.tables e below (T27.setTop (mkF m 108 #[.val (.int i1), .val (.int i2), .val (.int i3), .val (.long d1), .second, .val (.int i4), .val (.int mm), .val (.int (1 : Int32)), .val (.ref b1), .val (.ref b8), .val (.ref b9), .val (.int (1 : Int32))] [(.int i3), (.int ((i3 &&& (3 : Int32)) % mm)), (.ref b1), (.ref b8), (.int (1 : Int32)), (.int mm), (.ref b9), (.int (1 : Int32))])) t ∧ _
    refine own_go (fun _ => XS.iconst X27.here hx rfl (hb hby at_108)) ?_
    refine own_go (fun _ => XS.iushr X27.here hx rfl (hb hby at_109) rfl) ?_
    refine own_go (fun _ => XS.iconst X27.here hx rfl (hb hby at_110)) ?_
    show ∃ t o, Steps p.tables e below (T27.setTop (mkF m 111 #[.val (.int i1), .val (.int i2), .val (.int i3), .val (.long d1), .second, .val (.int i4), .val (.int mm), .val (.int (1 : Int32)), .val (.ref b1), .val (.ref b8), .val (.ref b9), .val (.int (1 : Int32))] [(.int (3 : Int32)), (.int ((i3.toUInt32 >>> ((2 : Int32) &&& 31).toUInt32).toInt32)), (.int ((i3 &&& (3 : Int32)) % mm)), (.ref b1), (.ref b8), (.int (1 : Int32)), (.int mm), (.ref b9), (.int (1 : Int32))])) t ∧ _
    refine own_go (fun _ => XS.iand X27.here hx rfl (hb hby at_111) rfl) ?_
    refine own_go (fun _ => XS.i2l X27.here hx rfl (hb hby at_112) rfl) ?_
    show ∃ t o, Steps p.tables e below (T27.setTop (mkF m 113 #[.val (.int i1), .val (.int i2), .val (.int i3), .val (.long d1), .second, .val (.int i4), .val (.int mm), .val (.int (1 : Int32)), .val (.ref b1), .val (.ref b8), .val (.ref b9), .val (.int (1 : Int32))] [(.long ((((i3.toUInt32 >>> ((2 : Int32) &&& 31).toUInt32).toInt32) &&& (3 : Int32)).toInt64)), (.int ((i3 &&& (3 : Int32)) % mm)), (.ref b1), (.ref b8), (.int (1 : Int32)), (.int mm), (.ref b9), (.int (1 : Int32))])) t ∧ _
    have ne30 : b8 ≠ b9 := own_ne (by omega)
    have ne31 : b8 ≠ ia_13 := own_ne (by omega)
    have ne32 : b8 ≠ da_13 := own_ne (by omega)
    have F33 : Arv Z T27.heap b8 k8 .int (3 : Int32) [(.int (0 : Int32)), (.int (0 : Int32)), (.int (0 : Int32))] (.int (0 : Int32)) := (Arv.keep (Arv.keep (V_b8.ext E9) Kp13 (ninS ne30 nin0)) Kp27 (ninS ne30 (ninS ne32 (ninS ne31 nin0))))
    have ne34 : b1 ≠ ia_13 := own_ne (by omega)
    have ne35 : b1 ≠ da_13 := own_ne (by omega)
    have F36 : Arv Z T27.heap b1 k1 .double (3 : Int32) [(.double (0 : UInt64)), (.double (FP.i2d (i2 &&& (65535 : Int32)))), (.double (FP.i2d (((i2.toUInt32 >>> ((16 : Int32) &&& 31).toUInt32).toInt32) &&& (65535 : Int32))))] (.double (0 : UInt64)) := (Arv.keep F16 Kp27 (ninS ne15 (ninS ne35 (ninS ne34 nin0))))
    have F37 : Old Z n0 T27.heap := (Old.keep F18 Kp27 (allS ge11 (allS ge19 (allS ge20 all0))))
    have ge38 : n0 ≤ b8 := by omega
    have ne39 : b9 ≠ b8 := own_ne (by omega)
    have ne40 : da_13 ≠ b8 := own_ne (by omega)
    have ne41 : ia_13 ≠ b8 := own_ne (by omega)
    have ne42 : b9 ≠ b1 := own_ne (by omega)
    have ne43 : da_13 ≠ b1 := own_ne (by omega)
    have ne44 : ia_13 ≠ b1 := own_ne (by omega)
    have ne45 : b8 ≠ b1 := own_ne (by omega)
    have ne46 : b1 ≠ b8 := own_ne (by omega)
    have zl47 : n0 ≤ T27.heap.size := by omega
    obtain ⟨_, _, ⟨T48, L48, k48, n48⟩, -, X48, ⟨Lc48, hQ48, l48, y48, z48⟩, st48⟩ := Jvm.LawKit.callS X27 hx (y := (⟨"com/example/holdback/holdback/sim/InFlightDeliveredPinLaw", "check", "(Lcom/example/holdback/holdback/sim/InFlight;II[I[DIJ)Z"⟩ : MethodName)) hown (mvT hZ (hw _ (List.mem_of_getElem? (i := 30) rfl))) (mvT hZ (hw _ (List.mem_of_getElem? (i := 31) rfl))) (mvT hZ (hw _ (List.mem_of_getElem? (i := 32) rfl))) (mvT hZ (hw _ (List.mem_of_getElem? (i := 33) rfl))) (by decide) (backOf (W := 1) (rmCheck1 l Z a0 hw [] b9 da_13 ia_13 kd_13 ki_13 b8 b1 k8 k1 mm (0 : Int32) (1 : Int32) (1 : Int64) (0 : Int32) (0 : Int32) ((FP.i2d (i2 &&& (65535 : Int32)))) ((FP.i2d (((i2.toUInt32 >>> ((16 : Int32) &&& 31).toUInt32).toInt32) &&& (65535 : Int32)))) (((i3 &&& (3 : Int32)) % mm)) (((((i3.toUInt32 >>> ((2 : Int32) &&& 31).toUInt32).toInt32) &&& (3 : Int32)).toInt64)) T27.heap n0 zl47 G27_0 G27_1 G27_2 G27_3 G27_4 G27_5 G27_6 G27_7 G27_8 F33 F36 F37 ge11 ge19 ge20 ne21 ne22 H13_2 ne23 ne24 ne25 ge38 ne30 ne32 ne31 ne15 ne35 ne34 ne39 ne40 ne41 ne42 ne43 ne44 ne45 ne46 (Or.inl ⟨rfl, rfl, rfl, own_ev mm hm3⟩ : own_inv (1 : Int32) (((1 : Int32) <<< (mm &&& 31)) - (1 : Int32)) (0 : Int32) (1 : Int32) (1 : Int64) (0 : Int32) (0 : Int32)) (own_bit mm i3 hm3 : ((((1 : Int32) <<< (mm &&& 31)) - (1 : Int32)) ||| ((1 : Int32) <<< (((i3 &&& (3 : Int32)) % mm) &&& 31))) = (((1 : Int32) <<< (mm &&& 31)) - (1 : Int32))) (own_nn _ : Jvm.Free.Fl.NoNaN64 (FP.i2d (i2 &&& (65535 : Int32)))) (own_nn _ : Jvm.Free.Fl.NoNaN64 (FP.i2d (((i2.toUInt32 >>> ((16 : Int32) &&& 31).toUInt32).toInt32) &&& (65535 : Int32))))) hZ (hw _ (List.mem_of_getElem? (i := 33) rfl)) (hw _ (List.mem_of_getElem? (i := 32) rfl)) (by decide) (by decide)) (g := (mkF m 113 #[.val (.int i1), .val (.int i2), .val (.int i3), .val (.long d1), .second, .val (.int i4), .val (.int mm), .val (.int (1 : Int32)), .val (.ref b1), .val (.ref b8), .val (.ref b9), .val (.int (1 : Int32))] [(.long ((((i3.toUInt32 >>> ((2 : Int32) &&& 31).toUInt32).toInt32) &&& (3 : Int32)).toInt64)), (.int ((i3 &&& (3 : Int32)) % mm)), (.ref b1), (.ref b8), (.int (1 : Int32)), (.int mm), (.ref b9), (.int (1 : Int32))])) rfl (by rw [hml]; rfl) (argsL := [(.ref b9), (.int mm), (.int (1 : Int32)), (.ref b8), (.ref b1), (.int ((i3 &&& (3 : Int32)) % mm)), (.long ((((i3.toUInt32 >>> ((2 : Int32) &&& 31).toUInt32).toInt32) &&& (3 : Int32)).toInt64))]) (rest := [(.int (1 : Int32))]) (lenOf pd_h80816b9d rfl) rfl (by show 2 * 0 + _ ≤ _; exact Nat.le_of_eq rfl) (hb hby at_113) (fun _ _ => ⟨rfl, rfl, (by decide : 5 + 0 ≤ _), (by decide : 44 + 0 ≤ _)⟩)
    dsimp only [Pt.U, Pt.locs, Pt.cells, Pt.slots] at X48 l48 y48 z48 st48 hQ48
    subst l48 y48 z48
    obtain ⟨fi2_48, sz2_48, fq2_48, N1_48, N2_48, rfl, Nq48, Kp48, G48_0, G48_1, G48_2, G48_3, G48_4, G48_5, G48_6, G48_7, G48_8, H48_0⟩ := hQ48
    have N48 := Fr.app N27 Nq48
    refine own_go st48 ?_
    have le_48 : T27.heap.size ≤ T48.heap.size := Kp48.1
    have sz49 : h0.size ≤ b8 := by omega
    have K48 : Keep h0 T48.heap [] := Keep.trans K27 Kp48 (allS (Or.inr sz14) (allS (Or.inr sz28) (allS (Or.inr sz49) all0)))
    refine own_go (fun _ => XS.iand X48.here hx rfl (hb hby at_116) rfl) ?_
    refine own_go (fun _ => XS.istore X48.here hx rfl (hb hby at_117) rfl (l' := #[.val (.int i1), .val (.int i2), .val (.int i3), .val (.long d1), .second, .val (.int i4), .val (.int mm), .val (.int (1 : Int32)), .val (.ref b1), .val (.ref b8), .val (.ref b9), .val (.int (1 : Int32))]) rfl) ?_
    show ∃ t o, Steps p.tables e below (T48.setTop (mkF m 119 #[.val (.int i1), .val (.int i2), .val (.int i3), .val (.long d1), .second, .val (.int i4), .val (.int mm), .val (.int (1 : Int32)), .val (.ref b1), .val (.ref b8), .val (.ref b9), .val (.int (1 : Int32))] [])) t ∧ _
    refine own_go (fun _ => XS.iload X48.here hx rfl (hb hby at_119) rfl) ?_
    refine own_go (fun _ => XS.aload X48.here hx rfl (hb hby at_121) rfl rfl) ?_
    refine own_go (fun _ => XS.iload X48.here hx rfl (hb hby at_123) rfl) ?_
    show ∃ t o, Steps p.tables e below (T48.setTop (mkF m 125 #[.val (.int i1), .val (.int i2), .val (.int i3), .val (.long d1), .second, .val (.int i4), .val (.int mm), .val (.int (1 : Int32)), .val (.ref b1), .val (.ref b8), .val (.ref b9), .val (.int (1 : Int32))] [(.int mm), (.ref b9), (.int (1 : Int32))])) t ∧ _
    refine own_go (fun _ => XS.iload X48.here hx rfl (hb hby at_125) rfl) ?_
    refine own_go (fun _ => XS.aload X48.here hx rfl (hb hby at_127) rfl rfl) ?_
    refine own_go (fun _ => XS.aload X48.here hx rfl (hb hby at_129) rfl rfl) ?_
    show ∃ t o, Steps p.tables e below (T48.setTop (mkF m 131 #[.val (.int i1), .val (.int i2), .val (.int i3), .val (.long d1), .second, .val (.int i4), .val (.int mm), .val (.int (1 : Int32)), .val (.ref b1), .val (.ref b8), .val (.ref b9), .val (.int (1 : Int32))] [(.ref b1), (.ref b8), (.int (1 : Int32)), (.int mm), (.ref b9), (.int (1 : Int32))])) t ∧ _
    refine own_go (fun _ => XS.iloadN X48.here hx rfl (hb hby at_131) rfl) ?_
    refine own_go (fun _ => XS.iconst X48.here hx rfl (hb hby at_132)) ?_
    refine own_go (fun _ => XS.iushr X48.here hx rfl (hb hby at_133) rfl) ?_
    show ∃ t o, Steps p.tables e below (T48.setTop (mkF m 134 #[.val (.int i1), .val (.int i2), .val (.int i3), .val (.long d1), .second, .val (.int i4), .val (.int mm), .val (.int (1 : Int32)), .val (.ref b1), .val (.ref b8), .val (.ref b9), .val (.int (1 : Int32))] [(.int ((i3.toUInt32 >>> ((4 : Int32) &&& 31).toUInt32).toInt32)), (.ref b1), (.ref b8), (.int (1 : Int32)), (.int mm), (.ref b9), (.int (1 : Int32))])) t ∧ _
    refine own_go (fun _ => XS.iconst X48.here hx rfl (hb hby at_134)) ?_
    refine own_go (fun _ => XS.iand X48.here hx rfl (hb hby at_135) rfl) ?_
    refine own_go (fun _ => XS.iload X48.here hx rfl (hb hby at_136) rfl) ?_
    show ∃ t o, Steps p.tables e below (T48.setTop (mkF m 138 #[.val (.int i1), .val (.int i2), .val (.int i3), .val (.long d1), .second, .val (.int i4), .val (.int mm), .val (.int (1 : Int32)), .val (.ref b1), .val (.ref b8), .val (.ref b9), .val (.int (1 : Int32))] [(.int mm), (.int (((i3.toUInt32 >>> ((4 : Int32) &&& 31).toUInt32).toInt32) &&& (3 : Int32))), (.ref b1), (.ref b8), (.int (1 : Int32)), (.int mm), (.ref b9), (.int (1 : Int32))])) t ∧ _
    refine own_go (fun _ => iremM X48 hx rfl (hb hby at_138) rfl (own_mz mm hm3)) ?_
    refine own_go (fun _ => XS.iloadN X48.here hx rfl (hb hby at_139) rfl) ?_
    refine own_go (fun _ => XS.bipush X48.here hx rfl (hb hby at_140)) ?_
    show ∃ t o, Steps p.tables e below (T48.setTop (mkF m 142 #[.val (.int i1), .val (.int i2), .val (.int i3), .val (.long d1), .second, .val (.int i4), .val (.int mm), .val (.int (1 : Int32)), .val (.ref b1), .val (.ref b8), .val (.ref b9), .val (.int (1 : Int32))] [(.int (6 : Int32)), (.int i3), (.int ((((i3.toUInt32 >>> ((4 : Int32) &&& 31).toUInt32).toInt32) &&& (3 : Int32)) % mm)), (.ref b1), (.ref b8), (.int (1 : Int32)), (.int mm), (.ref b9), (.int (1 : Int32))])) t ∧ _
    refine own_go (fun _ => XS.iushr X48.here hx rfl (hb hby at_142) rfl) ?_
    refine own_go (fun _ => XS.iconst X48.here hx rfl (hb hby at_143)) ?_
    refine own_go (fun _ => XS.iand X48.here hx rfl (hb hby at_144) rfl) ?_
    show ∃ t o, Steps p.tables e below (T48.setTop (mkF m 145 #[.val (.int i1), .val (.int i2), .val (.int i3), .val (.long d1), .second, .val (.int i4), .val (.int mm), .val (.int (1 : Int32)), .val (.ref b1), .val (.ref b8), .val (.ref b9), .val (.int (1 : Int32))] [(.int (((i3.toUInt32 >>> ((6 : Int32) &&& 31).toUInt32).toInt32) &&& (3 : Int32))), (.int ((((i3.toUInt32 >>> ((4 : Int32) &&& 31).toUInt32).toInt32) &&& (3 : Int32)) % mm)), (.ref b1), (.ref b8), (.int (1 : Int32)), (.int mm), (.ref b9), (.int (1 : Int32))])) t ∧ _
    refine own_go (fun _ => XS.i2l X48.here hx rfl (hb hby at_145) rfl) ?_
    show ∃ t o, Steps p.tables e below (T48.setTop (mkF m 146 #[.val (.int i1), .val (.int i2), .val (.int i3), .val (.long d1), .second, .val (.int i4), .val (.int mm), .val (.int (1 : Int32)), .val (.ref b1), .val (.ref b8), .val (.ref b9), .val (.int (1 : Int32))] [(.long ((((i3.toUInt32 >>> ((6 : Int32) &&& 31).toUInt32).toInt32) &&& (3 : Int32)).toInt64)), (.int ((((i3.toUInt32 >>> ((4 : Int32) &&& 31).toUInt32).toInt32) &&& (3 : Int32)) % mm)), (.ref b1), (.ref b8), (.int (1 : Int32)), (.int mm), (.ref b9), (.int (1 : Int32))])) t ∧ _
    have F50 : Arv Z T48.heap da_13 kd_13 .double (16 : Int32) [(.double (FP.i2d (i2 &&& (65535 : Int32)))), (.double (0 : UInt64))] (.double (0 : UInt64)) := (Arv.keep G27_7 Kp48 (ninS ne23 (ninS H13_2 (ninS ne40 nin0))))
    have F51 : Arv Z T48.heap b1 k1 .double (3 : Int32) [(.double (0 : UInt64)), (.double (FP.i2d (i2 &&& (65535 : Int32)))), (.double (FP.i2d (((i2.toUInt32 >>> ((16 : Int32) &&& 31).toUInt32).toInt32) &&& (65535 : Int32))))] (.double (0 : UInt64)) := (Arv.keep F36 Kp48 (ninS ne15 (ninS ne34 (ninS ne46 nin0))))
    have F52 : Old Z n0 T48.heap := (Old.keep F37 Kp48 (allS ge11 (allS ge20 (allS ge38 all0))))
    have zl53 : n0 ≤ T48.heap.size := by omega
    obtain ⟨_, _, ⟨T54, L54, k54, n54⟩, -, X54, ⟨Lc54, hQ54, l54, y54, z54⟩, st54⟩ := Jvm.LawKit.callS X48 hx (y := (⟨"com/example/holdback/holdback/sim/InFlightDeliveredPinLaw", "check", "(Lcom/example/holdback/holdback/sim/InFlight;II[I[DIJ)Z"⟩ : MethodName)) hown (mvT hZ (hw _ (List.mem_of_getElem? (i := 30) rfl))) (mvT hZ (hw _ (List.mem_of_getElem? (i := 31) rfl))) (mvT hZ (hw _ (List.mem_of_getElem? (i := 32) rfl))) (mvT hZ (hw _ (List.mem_of_getElem? (i := 33) rfl))) (by decide) (backOf (W := 1) (rmCheck1 l Z a0 hw [] b9 da_13 ia_13 kd_13 ki_13 b8 b1 k8 k1 mm fi2_48 sz2_48 fq2_48 N1_48 N2_48 ((FP.i2d (i2 &&& (65535 : Int32)))) ((FP.i2d (((i2.toUInt32 >>> ((16 : Int32) &&& 31).toUInt32).toInt32) &&& (65535 : Int32)))) (((((i3.toUInt32 >>> ((4 : Int32) &&& 31).toUInt32).toInt32) &&& (3 : Int32)) % mm)) (((((i3.toUInt32 >>> ((6 : Int32) &&& 31).toUInt32).toInt32) &&& (3 : Int32)).toInt64)) T48.heap n0 zl53 G48_0 G48_1 G48_2 G48_3 G48_4 G48_5 G48_6 F50 G48_7 G48_8 F51 F52 ge11 ge19 ge20 ne21 ne22 H13_2 ne23 ne24 ne25 ge38 ne30 ne32 ne31 ne15 ne35 ne34 ne39 ne40 ne41 ne42 ne43 ne44 ne45 ne46 H48_0 (own_bit mm ((i3.toUInt32 >>> ((4 : Int32) &&& 31).toUInt32).toInt32) hm3 : ((((1 : Int32) <<< (mm &&& 31)) - (1 : Int32)) ||| ((1 : Int32) <<< (((((i3.toUInt32 >>> ((4 : Int32) &&& 31).toUInt32).toInt32) &&& (3 : Int32)) % mm) &&& 31))) = (((1 : Int32) <<< (mm &&& 31)) - (1 : Int32))) (own_nn _ : Jvm.Free.Fl.NoNaN64 (FP.i2d (i2 &&& (65535 : Int32)))) (own_nn _ : Jvm.Free.Fl.NoNaN64 (FP.i2d (((i2.toUInt32 >>> ((16 : Int32) &&& 31).toUInt32).toInt32) &&& (65535 : Int32))))) hZ (hw _ (List.mem_of_getElem? (i := 33) rfl)) (hw _ (List.mem_of_getElem? (i := 32) rfl)) (by decide) (by decide)) (g := (mkF m 146 #[.val (.int i1), .val (.int i2), .val (.int i3), .val (.long d1), .second, .val (.int i4), .val (.int mm), .val (.int (1 : Int32)), .val (.ref b1), .val (.ref b8), .val (.ref b9), .val (.int (1 : Int32))] [(.long ((((i3.toUInt32 >>> ((6 : Int32) &&& 31).toUInt32).toInt32) &&& (3 : Int32)).toInt64)), (.int ((((i3.toUInt32 >>> ((4 : Int32) &&& 31).toUInt32).toInt32) &&& (3 : Int32)) % mm)), (.ref b1), (.ref b8), (.int (1 : Int32)), (.int mm), (.ref b9), (.int (1 : Int32))])) rfl (by rw [hml]; rfl) (argsL := [(.ref b9), (.int mm), (.int (1 : Int32)), (.ref b8), (.ref b1), (.int ((((i3.toUInt32 >>> ((4 : Int32) &&& 31).toUInt32).toInt32) &&& (3 : Int32)) % mm)), (.long ((((i3.toUInt32 >>> ((6 : Int32) &&& 31).toUInt32).toInt32) &&& (3 : Int32)).toInt64))]) (rest := [(.int (1 : Int32))]) (lenOf pd_h80816b9d rfl) rfl (by show 2 * 0 + _ ≤ _; exact Nat.le_of_eq rfl) (hb hby at_146) (fun _ _ => ⟨rfl, rfl, (by decide : 5 + 0 ≤ _), (by decide : 44 + 0 ≤ _)⟩)
    dsimp only [Pt.U, Pt.locs, Pt.cells, Pt.slots] at X54 l54 y54 z54 st54 hQ54
    subst l54 y54 z54
    obtain ⟨fi2_54, sz2_54, fq2_54, N1_54, N2_54, rfl, Nq54, Kp54, G54_0, G54_1, G54_2, G54_3, G54_4, G54_5, G54_6, G54_7, G54_8, H54_0⟩ := hQ54
    have N54 := Fr.app N48 Nq54
    refine own_go st54 ?_
    have le_54 : T48.heap.size ≤ T54.heap.size := Kp54.1
    have K54 : Keep h0 T54.heap [] := Keep.trans K48 Kp54 (allS (Or.inr sz14) (allS (Or.inr sz28) (allS (Or.inr sz49) all0)))
    refine own_go (fun _ => XS.iand X54.here hx rfl (hb hby at_149) rfl) ?_
    refine own_go (fun _ => XS.istore X54.here hx rfl (hb hby at_150) rfl (l' := #[.val (.int i1), .val (.int i2), .val (.int i3), .val (.long d1), .second, .val (.int i4), .val (.int mm), .val (.int (1 : Int32)), .val (.ref b1), .val (.ref b8), .val (.ref b9), .val (.int (1 : Int32))]) rfl) ?_
    show ∃ t o, Steps p.tables e below (T54.setTop (mkF m 152 #[.val (.int i1), .val (.int i2), .val (.int i3), .val (.long d1), .second, .val (.int i4), .val (.int mm), .val (.int (1 : Int32)), .val (.ref b1), .val (.ref b8), .val (.ref b9), .val (.int (1 : Int32))] [])) t ∧ _
    refine own_go (fun _ => XS.iload X54.here hx rfl (hb hby at_152) rfl) ?_
    refine own_go (fun _ => XS.aload X54.here hx rfl (hb hby at_154) rfl rfl) ?_
    refine own_go (fun _ => XS.iload X54.here hx rfl (hb hby at_156) rfl) ?_
    show ∃ t o, Steps p.tables e below (T54.setTop (mkF m 158 #[.val (.int i1), .val (.int i2), .val (.int i3), .val (.long d1), .second, .val (.int i4), .val (.int mm), .val (.int (1 : Int32)), .val (.ref b1), .val (.ref b8), .val (.ref b9), .val (.int (1 : Int32))] [(.int mm), (.ref b9), (.int (1 : Int32))])) t ∧ _
    refine own_go (fun _ => XS.iload X54.here hx rfl (hb hby at_158) rfl) ?_
    refine own_go (fun _ => XS.aload X54.here hx rfl (hb hby at_160) rfl rfl) ?_
    refine own_go (fun _ => XS.aload X54.here hx rfl (hb hby at_162) rfl rfl) ?_
    show ∃ t o, Steps p.tables e below (T54.setTop (mkF m 164 #[.val (.int i1), .val (.int i2), .val (.int i3), .val (.long d1), .second, .val (.int i4), .val (.int mm), .val (.int (1 : Int32)), .val (.ref b1), .val (.ref b8), .val (.ref b9), .val (.int (1 : Int32))] [(.ref b1), (.ref b8), (.int (1 : Int32)), (.int mm), (.ref b9), (.int (1 : Int32))])) t ∧ _
    refine own_go (fun _ => XS.iloadN X54.here hx rfl (hb hby at_164) rfl) ?_
    refine own_go (fun _ => XS.bipush X54.here hx rfl (hb hby at_165)) ?_
    refine own_go (fun _ => XS.iushr X54.here hx rfl (hb hby at_167) rfl) ?_
    show ∃ t o, Steps p.tables e below (T54.setTop (mkF m 168 #[.val (.int i1), .val (.int i2), .val (.int i3), .val (.long d1), .second, .val (.int i4), .val (.int mm), .val (.int (1 : Int32)), .val (.ref b1), .val (.ref b8), .val (.ref b9), .val (.int (1 : Int32))] [(.int ((i3.toUInt32 >>> ((8 : Int32) &&& 31).toUInt32).toInt32)), (.ref b1), (.ref b8), (.int (1 : Int32)), (.int mm), (.ref b9), (.int (1 : Int32))])) t ∧ _
    refine own_go (fun _ => XS.iconst X54.here hx rfl (hb hby at_168)) ?_
    refine own_go (fun _ => XS.iand X54.here hx rfl (hb hby at_169) rfl) ?_
    refine own_go (fun _ => XS.iload X54.here hx rfl (hb hby at_170) rfl) ?_
    show ∃ t o, Steps p.tables e below (T54.setTop (mkF m 172 #[.val (.int i1), .val (.int i2), .val (.int i3), .val (.long d1), .second, .val (.int i4), .val (.int mm), .val (.int (1 : Int32)), .val (.ref b1), .val (.ref b8), .val (.ref b9), .val (.int (1 : Int32))] [(.int mm), (.int (((i3.toUInt32 >>> ((8 : Int32) &&& 31).toUInt32).toInt32) &&& (3 : Int32))), (.ref b1), (.ref b8), (.int (1 : Int32)), (.int mm), (.ref b9), (.int (1 : Int32))])) t ∧ _
    refine own_go (fun _ => iremM X54 hx rfl (hb hby at_172) rfl (own_mz mm hm3)) ?_
    refine own_go (fun _ => XS.iloadN X54.here hx rfl (hb hby at_173) rfl) ?_
    refine own_go (fun _ => XS.bipush X54.here hx rfl (hb hby at_174)) ?_
    show ∃ t o, Steps p.tables e below (T54.setTop (mkF m 176 #[.val (.int i1), .val (.int i2), .val (.int i3), .val (.long d1), .second, .val (.int i4), .val (.int mm), .val (.int (1 : Int32)), .val (.ref b1), .val (.ref b8), .val (.ref b9), .val (.int (1 : Int32))] [(.int (10 : Int32)), (.int i3), (.int ((((i3.toUInt32 >>> ((8 : Int32) &&& 31).toUInt32).toInt32) &&& (3 : Int32)) % mm)), (.ref b1), (.ref b8), (.int (1 : Int32)), (.int mm), (.ref b9), (.int (1 : Int32))])) t ∧ _
    refine own_go (fun _ => XS.iushr X54.here hx rfl (hb hby at_176) rfl) ?_
    refine own_go (fun _ => XS.iconst X54.here hx rfl (hb hby at_177)) ?_
    refine own_go (fun _ => XS.iand X54.here hx rfl (hb hby at_178) rfl) ?_
    show ∃ t o, Steps p.tables e below (T54.setTop (mkF m 179 #[.val (.int i1), .val (.int i2), .val (.int i3), .val (.long d1), .second, .val (.int i4), .val (.int mm), .val (.int (1 : Int32)), .val (.ref b1), .val (.ref b8), .val (.ref b9), .val (.int (1 : Int32))] [(.int (((i3.toUInt32 >>> ((10 : Int32) &&& 31).toUInt32).toInt32) &&& (3 : Int32))), (.int ((((i3.toUInt32 >>> ((8 : Int32) &&& 31).toUInt32).toInt32) &&& (3 : Int32)) % mm)), (.ref b1), (.ref b8), (.int (1 : Int32)), (.int mm), (.ref b9), (.int (1 : Int32))])) t ∧ _
    refine own_go (fun _ => XS.i2l X54.here hx rfl (hb hby at_179) rfl) ?_
    show ∃ t o, Steps p.tables e below (T54.setTop (mkF m 180 #[.val (.int i1), .val (.int i2), .val (.int i3), .val (.long d1), .second, .val (.int i4), .val (.int mm), .val (.int (1 : Int32)), .val (.ref b1), .val (.ref b8), .val (.ref b9), .val (.int (1 : Int32))] [(.long ((((i3.toUInt32 >>> ((10 : Int32) &&& 31).toUInt32).toInt32) &&& (3 : Int32)).toInt64)), (.int ((((i3.toUInt32 >>> ((8 : Int32) &&& 31).toUInt32).toInt32) &&& (3 : Int32)) % mm)), (.ref b1), (.ref b8), (.int (1 : Int32)), (.int mm), (.ref b9), (.int (1 : Int32))])) t ∧ _
    have F55 : Arv Z T54.heap da_13 kd_13 .double (16 : Int32) [(.double (FP.i2d (i2 &&& (65535 : Int32)))), (.double (0 : UInt64))] (.double (0 : UInt64)) := (Arv.keep F50 Kp54 (ninS ne23 (ninS H13_2 (ninS ne40 nin0))))
    have F56 : Arv Z T54.heap b1 k1 .double (3 : Int32) [(.double (0 : UInt64)), (.double (FP.i2d (i2 &&& (65535 : Int32)))), (.double (FP.i2d (((i2.toUInt32 >>> ((16 : Int32) &&& 31).toUInt32).toInt32) &&& (65535 : Int32))))] (.double (0 : UInt64)) := (Arv.keep F51 Kp54 (ninS ne15 (ninS ne34 (ninS ne46 nin0))))
    have F57 : Old Z n0 T54.heap := (Old.keep F52 Kp54 (allS ge11 (allS ge20 (allS ge38 all0))))
    have zl58 : n0 ≤ T54.heap.size := by omega
    obtain ⟨_, _, ⟨T59, L59, k59, n59⟩, -, X59, ⟨Lc59, hQ59, l59, y59, z59⟩, st59⟩ := Jvm.LawKit.callS X54 hx (y := (⟨"com/example/holdback/holdback/sim/InFlightDeliveredPinLaw", "check", "(Lcom/example/holdback/holdback/sim/InFlight;II[I[DIJ)Z"⟩ : MethodName)) hown (mvT hZ (hw _ (List.mem_of_getElem? (i := 30) rfl))) (mvT hZ (hw _ (List.mem_of_getElem? (i := 31) rfl))) (mvT hZ (hw _ (List.mem_of_getElem? (i := 32) rfl))) (mvT hZ (hw _ (List.mem_of_getElem? (i := 33) rfl))) (by decide) (backOf (W := 1) (rmCheck1 l Z a0 hw [] b9 da_13 ia_13 kd_13 ki_13 b8 b1 k8 k1 mm fi2_54 sz2_54 fq2_54 N1_54 N2_54 ((FP.i2d (i2 &&& (65535 : Int32)))) ((FP.i2d (((i2.toUInt32 >>> ((16 : Int32) &&& 31).toUInt32).toInt32) &&& (65535 : Int32)))) (((((i3.toUInt32 >>> ((8 : Int32) &&& 31).toUInt32).toInt32) &&& (3 : Int32)) % mm)) (((((i3.toUInt32 >>> ((10 : Int32) &&& 31).toUInt32).toInt32) &&& (3 : Int32)).toInt64)) T54.heap n0 zl58 G54_0 G54_1 G54_2 G54_3 G54_4 G54_5 G54_6 F55 G54_7 G54_8 F56 F57 ge11 ge19 ge20 ne21 ne22 H13_2 ne23 ne24 ne25 ge38 ne30 ne32 ne31 ne15 ne35 ne34 ne39 ne40 ne41 ne42 ne43 ne44 ne45 ne46 H54_0 (own_bit mm ((i3.toUInt32 >>> ((8 : Int32) &&& 31).toUInt32).toInt32) hm3 : ((((1 : Int32) <<< (mm &&& 31)) - (1 : Int32)) ||| ((1 : Int32) <<< (((((i3.toUInt32 >>> ((8 : Int32) &&& 31).toUInt32).toInt32) &&& (3 : Int32)) % mm) &&& 31))) = (((1 : Int32) <<< (mm &&& 31)) - (1 : Int32))) (own_nn _ : Jvm.Free.Fl.NoNaN64 (FP.i2d (i2 &&& (65535 : Int32)))) (own_nn _ : Jvm.Free.Fl.NoNaN64 (FP.i2d (((i2.toUInt32 >>> ((16 : Int32) &&& 31).toUInt32).toInt32) &&& (65535 : Int32))))) hZ (hw _ (List.mem_of_getElem? (i := 33) rfl)) (hw _ (List.mem_of_getElem? (i := 32) rfl)) (by decide) (by decide)) (g := (mkF m 180 #[.val (.int i1), .val (.int i2), .val (.int i3), .val (.long d1), .second, .val (.int i4), .val (.int mm), .val (.int (1 : Int32)), .val (.ref b1), .val (.ref b8), .val (.ref b9), .val (.int (1 : Int32))] [(.long ((((i3.toUInt32 >>> ((10 : Int32) &&& 31).toUInt32).toInt32) &&& (3 : Int32)).toInt64)), (.int ((((i3.toUInt32 >>> ((8 : Int32) &&& 31).toUInt32).toInt32) &&& (3 : Int32)) % mm)), (.ref b1), (.ref b8), (.int (1 : Int32)), (.int mm), (.ref b9), (.int (1 : Int32))])) rfl (by rw [hml]; rfl) (argsL := [(.ref b9), (.int mm), (.int (1 : Int32)), (.ref b8), (.ref b1), (.int ((((i3.toUInt32 >>> ((8 : Int32) &&& 31).toUInt32).toInt32) &&& (3 : Int32)) % mm)), (.long ((((i3.toUInt32 >>> ((10 : Int32) &&& 31).toUInt32).toInt32) &&& (3 : Int32)).toInt64))]) (rest := [(.int (1 : Int32))]) (lenOf pd_h80816b9d rfl) rfl (by show 2 * 0 + _ ≤ _; exact Nat.le_of_eq rfl) (hb hby at_180) (fun _ _ => ⟨rfl, rfl, (by decide : 5 + 0 ≤ _), (by decide : 44 + 0 ≤ _)⟩)
    dsimp only [Pt.U, Pt.locs, Pt.cells, Pt.slots] at X59 l59 y59 z59 st59 hQ59
    subst l59 y59 z59
    obtain ⟨fi2_59, sz2_59, fq2_59, N1_59, N2_59, rfl, Nq59, Kp59, G59_0, G59_1, G59_2, G59_3, G59_4, G59_5, G59_6, G59_7, G59_8, H59_0⟩ := hQ59
    have N59 := Fr.app N54 Nq59
    refine own_go st59 ?_
    have le_59 : T54.heap.size ≤ T59.heap.size := Kp59.1
    have K59 : Keep h0 T59.heap [] := Keep.trans K54 Kp59 (allS (Or.inr sz14) (allS (Or.inr sz28) (allS (Or.inr sz49) all0)))
    refine own_go (fun _ => XS.iand X59.here hx rfl (hb hby at_183) rfl) ?_
    refine own_go (fun _ => XS.istore X59.here hx rfl (hb hby at_184) rfl (l' := #[.val (.int i1), .val (.int i2), .val (.int i3), .val (.long d1), .second, .val (.int i4), .val (.int mm), .val (.int (1 : Int32)), .val (.ref b1), .val (.ref b8), .val (.ref b9), .val (.int (1 : Int32))]) rfl) ?_
    show ∃ t o, Steps p.tables e below (T59.setTop (mkF m 186 #[.val (.int i1), .val (.int i2), .val (.int i3), .val (.long d1), .second, .val (.int i4), .val (.int mm), .val (.int (1 : Int32)), .val (.ref b1), .val (.ref b8), .val (.ref b9), .val (.int (1 : Int32))] [])) t ∧ _
    refine own_go (fun _ => XS.iload X59.here hx rfl (hb hby at_186) rfl) ?_
    refine own_go (fun _ => XS.aload X59.here hx rfl (hb hby at_188) rfl rfl) ?_
    refine own_go (fun _ => XS.iload X59.here hx rfl (hb hby at_190) rfl) ?_
    show ∃ t o, Steps p.tables e below (T59.setTop (mkF m 192 #[.val (.int i1), .val (.int i2), .val (.int i3), .val (.long d1), .second, .val (.int i4), .val (.int mm), .val (.int (1 : Int32)), .val (.ref b1), .val (.ref b8), .val (.ref b9), .val (.int (1 : Int32))] [(.int mm), (.ref b9), (.int (1 : Int32))])) t ∧ _
    refine own_go (fun _ => XS.iload X59.here hx rfl (hb hby at_192) rfl) ?_
    refine own_go (fun _ => XS.aload X59.here hx rfl (hb hby at_194) rfl rfl) ?_
    refine own_go (fun _ => XS.aload X59.here hx rfl (hb hby at_196) rfl rfl) ?_
    show ∃ t o, Steps p.tables e below (T59.setTop (mkF m 198 #[.val (.int i1), .val (.int i2), .val (.int i3), .val (.long d1), .second, .val (.int i4), .val (.int mm), .val (.int (1 : Int32)), .val (.ref b1), .val (.ref b8), .val (.ref b9), .val (.int (1 : Int32))] [(.ref b1), (.ref b8), (.int (1 : Int32)), (.int mm), (.ref b9), (.int (1 : Int32))])) t ∧ _
    refine own_go (fun _ => XS.iloadN X59.here hx rfl (hb hby at_198) rfl) ?_
    refine own_go (fun _ => XS.bipush X59.here hx rfl (hb hby at_199)) ?_
    refine own_go (fun _ => XS.iushr X59.here hx rfl (hb hby at_201) rfl) ?_
    show ∃ t o, Steps p.tables e below (T59.setTop (mkF m 202 #[.val (.int i1), .val (.int i2), .val (.int i3), .val (.long d1), .second, .val (.int i4), .val (.int mm), .val (.int (1 : Int32)), .val (.ref b1), .val (.ref b8), .val (.ref b9), .val (.int (1 : Int32))] [(.int ((i3.toUInt32 >>> ((12 : Int32) &&& 31).toUInt32).toInt32)), (.ref b1), (.ref b8), (.int (1 : Int32)), (.int mm), (.ref b9), (.int (1 : Int32))])) t ∧ _
    refine own_go (fun _ => XS.iconst X59.here hx rfl (hb hby at_202)) ?_
    refine own_go (fun _ => XS.iand X59.here hx rfl (hb hby at_203) rfl) ?_
    refine own_go (fun _ => XS.iload X59.here hx rfl (hb hby at_204) rfl) ?_
    show ∃ t o, Steps p.tables e below (T59.setTop (mkF m 206 #[.val (.int i1), .val (.int i2), .val (.int i3), .val (.long d1), .second, .val (.int i4), .val (.int mm), .val (.int (1 : Int32)), .val (.ref b1), .val (.ref b8), .val (.ref b9), .val (.int (1 : Int32))] [(.int mm), (.int (((i3.toUInt32 >>> ((12 : Int32) &&& 31).toUInt32).toInt32) &&& (3 : Int32))), (.ref b1), (.ref b8), (.int (1 : Int32)), (.int mm), (.ref b9), (.int (1 : Int32))])) t ∧ _
    refine own_go (fun _ => iremM X59 hx rfl (hb hby at_206) rfl (own_mz mm hm3)) ?_
    refine own_go (fun _ => XS.iloadN X59.here hx rfl (hb hby at_207) rfl) ?_
    refine own_go (fun _ => XS.bipush X59.here hx rfl (hb hby at_208)) ?_
    show ∃ t o, Steps p.tables e below (T59.setTop (mkF m 210 #[.val (.int i1), .val (.int i2), .val (.int i3), .val (.long d1), .second, .val (.int i4), .val (.int mm), .val (.int (1 : Int32)), .val (.ref b1), .val (.ref b8), .val (.ref b9), .val (.int (1 : Int32))] [(.int (14 : Int32)), (.int i3), (.int ((((i3.toUInt32 >>> ((12 : Int32) &&& 31).toUInt32).toInt32) &&& (3 : Int32)) % mm)), (.ref b1), (.ref b8), (.int (1 : Int32)), (.int mm), (.ref b9), (.int (1 : Int32))])) t ∧ _
    refine own_go (fun _ => XS.iushr X59.here hx rfl (hb hby at_210) rfl) ?_
    refine own_go (fun _ => XS.iconst X59.here hx rfl (hb hby at_211)) ?_
    refine own_go (fun _ => XS.iand X59.here hx rfl (hb hby at_212) rfl) ?_
    show ∃ t o, Steps p.tables e below (T59.setTop (mkF m 213 #[.val (.int i1), .val (.int i2), .val (.int i3), .val (.long d1), .second, .val (.int i4), .val (.int mm), .val (.int (1 : Int32)), .val (.ref b1), .val (.ref b8), .val (.ref b9), .val (.int (1 : Int32))] [(.int (((i3.toUInt32 >>> ((14 : Int32) &&& 31).toUInt32).toInt32) &&& (3 : Int32))), (.int ((((i3.toUInt32 >>> ((12 : Int32) &&& 31).toUInt32).toInt32) &&& (3 : Int32)) % mm)), (.ref b1), (.ref b8), (.int (1 : Int32)), (.int mm), (.ref b9), (.int (1 : Int32))])) t ∧ _
    refine own_go (fun _ => XS.i2l X59.here hx rfl (hb hby at_213) rfl) ?_
    show ∃ t o, Steps p.tables e below (T59.setTop (mkF m 214 #[.val (.int i1), .val (.int i2), .val (.int i3), .val (.long d1), .second, .val (.int i4), .val (.int mm), .val (.int (1 : Int32)), .val (.ref b1), .val (.ref b8), .val (.ref b9), .val (.int (1 : Int32))] [(.long ((((i3.toUInt32 >>> ((14 : Int32) &&& 31).toUInt32).toInt32) &&& (3 : Int32)).toInt64)), (.int ((((i3.toUInt32 >>> ((12 : Int32) &&& 31).toUInt32).toInt32) &&& (3 : Int32)) % mm)), (.ref b1), (.ref b8), (.int (1 : Int32)), (.int mm), (.ref b9), (.int (1 : Int32))])) t ∧ _
    have F60 : Arv Z T59.heap da_13 kd_13 .double (16 : Int32) [(.double (FP.i2d (i2 &&& (65535 : Int32)))), (.double (0 : UInt64))] (.double (0 : UInt64)) := (Arv.keep F55 Kp59 (ninS ne23 (ninS H13_2 (ninS ne40 nin0))))
    have F61 : Arv Z T59.heap b1 k1 .double (3 : Int32) [(.double (0 : UInt64)), (.double (FP.i2d (i2 &&& (65535 : Int32)))), (.double (FP.i2d (((i2.toUInt32 >>> ((16 : Int32) &&& 31).toUInt32).toInt32) &&& (65535 : Int32))))] (.double (0 : UInt64)) := (Arv.keep F56 Kp59 (ninS ne15 (ninS ne34 (ninS ne46 nin0))))
    have F62 : Old Z n0 T59.heap := (Old.keep F57 Kp59 (allS ge11 (allS ge20 (allS ge38 all0))))
    have zl63 : n0 ≤ T59.heap.size := by omega
    obtain ⟨_, _, ⟨T64, L64, k64, n64⟩, -, X64, ⟨Lc64, hQ64, l64, y64, z64⟩, st64⟩ := Jvm.LawKit.callS X59 hx (y := (⟨"com/example/holdback/holdback/sim/InFlightDeliveredPinLaw", "check", "(Lcom/example/holdback/holdback/sim/InFlight;II[I[DIJ)Z"⟩ : MethodName)) hown (mvT hZ (hw _ (List.mem_of_getElem? (i := 30) rfl))) (mvT hZ (hw _ (List.mem_of_getElem? (i := 31) rfl))) (mvT hZ (hw _ (List.mem_of_getElem? (i := 32) rfl))) (mvT hZ (hw _ (List.mem_of_getElem? (i := 33) rfl))) (by decide) (backOf (W := 1) (rmCheck1 l Z a0 hw [] b9 da_13 ia_13 kd_13 ki_13 b8 b1 k8 k1 mm fi2_59 sz2_59 fq2_59 N1_59 N2_59 ((FP.i2d (i2 &&& (65535 : Int32)))) ((FP.i2d (((i2.toUInt32 >>> ((16 : Int32) &&& 31).toUInt32).toInt32) &&& (65535 : Int32)))) (((((i3.toUInt32 >>> ((12 : Int32) &&& 31).toUInt32).toInt32) &&& (3 : Int32)) % mm)) (((((i3.toUInt32 >>> ((14 : Int32) &&& 31).toUInt32).toInt32) &&& (3 : Int32)).toInt64)) T59.heap n0 zl63 G59_0 G59_1 G59_2 G59_3 G59_4 G59_5 G59_6 F60 G59_7 G59_8 F61 F62 ge11 ge19 ge20 ne21 ne22 H13_2 ne23 ne24 ne25 ge38 ne30 ne32 ne31 ne15 ne35 ne34 ne39 ne40 ne41 ne42 ne43 ne44 ne45 ne46 H59_0 (own_bit mm ((i3.toUInt32 >>> ((12 : Int32) &&& 31).toUInt32).toInt32) hm3 : ((((1 : Int32) <<< (mm &&& 31)) - (1 : Int32)) ||| ((1 : Int32) <<< (((((i3.toUInt32 >>> ((12 : Int32) &&& 31).toUInt32).toInt32) &&& (3 : Int32)) % mm) &&& 31))) = (((1 : Int32) <<< (mm &&& 31)) - (1 : Int32))) (own_nn _ : Jvm.Free.Fl.NoNaN64 (FP.i2d (i2 &&& (65535 : Int32)))) (own_nn _ : Jvm.Free.Fl.NoNaN64 (FP.i2d (((i2.toUInt32 >>> ((16 : Int32) &&& 31).toUInt32).toInt32) &&& (65535 : Int32))))) hZ (hw _ (List.mem_of_getElem? (i := 33) rfl)) (hw _ (List.mem_of_getElem? (i := 32) rfl)) (by decide) (by decide)) (g := (mkF m 214 #[.val (.int i1), .val (.int i2), .val (.int i3), .val (.long d1), .second, .val (.int i4), .val (.int mm), .val (.int (1 : Int32)), .val (.ref b1), .val (.ref b8), .val (.ref b9), .val (.int (1 : Int32))] [(.long ((((i3.toUInt32 >>> ((14 : Int32) &&& 31).toUInt32).toInt32) &&& (3 : Int32)).toInt64)), (.int ((((i3.toUInt32 >>> ((12 : Int32) &&& 31).toUInt32).toInt32) &&& (3 : Int32)) % mm)), (.ref b1), (.ref b8), (.int (1 : Int32)), (.int mm), (.ref b9), (.int (1 : Int32))])) rfl (by rw [hml]; rfl) (argsL := [(.ref b9), (.int mm), (.int (1 : Int32)), (.ref b8), (.ref b1), (.int ((((i3.toUInt32 >>> ((12 : Int32) &&& 31).toUInt32).toInt32) &&& (3 : Int32)) % mm)), (.long ((((i3.toUInt32 >>> ((14 : Int32) &&& 31).toUInt32).toInt32) &&& (3 : Int32)).toInt64))]) (rest := [(.int (1 : Int32))]) (lenOf pd_h80816b9d rfl) rfl (by show 2 * 0 + _ ≤ _; exact Nat.le_of_eq rfl) (hb hby at_214) (fun _ _ => ⟨rfl, rfl, (by decide : 5 + 0 ≤ _), (by decide : 44 + 0 ≤ _)⟩)
    dsimp only [Pt.U, Pt.locs, Pt.cells, Pt.slots] at X64 l64 y64 z64 st64 hQ64
    subst l64 y64 z64
    obtain ⟨fi2_64, sz2_64, fq2_64, N1_64, N2_64, rfl, Nq64, Kp64, G64_0, G64_1, G64_2, G64_3, G64_4, G64_5, G64_6, G64_7, G64_8, H64_0⟩ := hQ64
    have N64 := Fr.app N59 Nq64
    refine own_go st64 ?_
    have le_64 : T59.heap.size ≤ T64.heap.size := Kp64.1
    have K64 : Keep h0 T64.heap [] := Keep.trans K59 Kp64 (allS (Or.inr sz14) (allS (Or.inr sz28) (allS (Or.inr sz49) all0)))
    refine own_go (fun _ => XS.iand X64.here hx rfl (hb hby at_217) rfl) ?_
    refine own_go (fun _ => XS.istore X64.here hx rfl (hb hby at_218) rfl (l' := #[.val (.int i1), .val (.int i2), .val (.int i3), .val (.long d1), .second, .val (.int i4), .val (.int mm), .val (.int (1 : Int32)), .val (.ref b1), .val (.ref b8), .val (.ref b9), .val (.int (1 : Int32))]) rfl) ?_
    show ∃ t o, Steps p.tables e below (T64.setTop (mkF m 220 #[.val (.int i1), .val (.int i2), .val (.int i3), .val (.long d1), .second, .val (.int i4), .val (.int mm), .val (.int (1 : Int32)), .val (.ref b1), .val (.ref b8), .val (.ref b9), .val (.int (1 : Int32))] [])) t ∧ _
    refine own_go (fun _ => XS.iload X64.here hx rfl (hb hby at_220) rfl) ?_
    refine own_go (fun _ => XS.aload X64.here hx rfl (hb hby at_222) rfl rfl) ?_
    refine own_go (fun _ => XS.iload X64.here hx rfl (hb hby at_224) rfl) ?_
    show ∃ t o, Steps p.tables e below (T64.setTop (mkF m 226 #[.val (.int i1), .val (.int i2), .val (.int i3), .val (.long d1), .second, .val (.int i4), .val (.int mm), .val (.int (1 : Int32)), .val (.ref b1), .val (.ref b8), .val (.ref b9), .val (.int (1 : Int32))] [(.int mm), (.ref b9), (.int (1 : Int32))])) t ∧ _
    refine own_go (fun _ => XS.iload X64.here hx rfl (hb hby at_226) rfl) ?_
    refine own_go (fun _ => XS.aload X64.here hx rfl (hb hby at_228) rfl rfl) ?_
    refine own_go (fun _ => XS.aload X64.here hx rfl (hb hby at_230) rfl rfl) ?_
    show ∃ t o, Steps p.tables e below (T64.setTop (mkF m 232 #[.val (.int i1), .val (.int i2), .val (.int i3), .val (.long d1), .second, .val (.int i4), .val (.int mm), .val (.int (1 : Int32)), .val (.ref b1), .val (.ref b8), .val (.ref b9), .val (.int (1 : Int32))] [(.ref b1), (.ref b8), (.int (1 : Int32)), (.int mm), (.ref b9), (.int (1 : Int32))])) t ∧ _
    refine own_go (fun _ => XS.iloadN X64.here hx rfl (hb hby at_232) rfl) ?_
    refine own_go (fun _ => XS.bipush X64.here hx rfl (hb hby at_233)) ?_
    refine own_go (fun _ => XS.iushr X64.here hx rfl (hb hby at_235) rfl) ?_
    show ∃ t o, Steps p.tables e below (T64.setTop (mkF m 236 #[.val (.int i1), .val (.int i2), .val (.int i3), .val (.long d1), .second, .val (.int i4), .val (.int mm), .val (.int (1 : Int32)), .val (.ref b1), .val (.ref b8), .val (.ref b9), .val (.int (1 : Int32))] [(.int ((i3.toUInt32 >>> ((16 : Int32) &&& 31).toUInt32).toInt32)), (.ref b1), (.ref b8), (.int (1 : Int32)), (.int mm), (.ref b9), (.int (1 : Int32))])) t ∧ _
    refine own_go (fun _ => XS.iconst X64.here hx rfl (hb hby at_236)) ?_
    refine own_go (fun _ => XS.iand X64.here hx rfl (hb hby at_237) rfl) ?_
    refine own_go (fun _ => XS.iload X64.here hx rfl (hb hby at_238) rfl) ?_
    show ∃ t o, Steps p.tables e below (T64.setTop (mkF m 240 #[.val (.int i1), .val (.int i2), .val (.int i3), .val (.long d1), .second, .val (.int i4), .val (.int mm), .val (.int (1 : Int32)), .val (.ref b1), .val (.ref b8), .val (.ref b9), .val (.int (1 : Int32))] [(.int mm), (.int (((i3.toUInt32 >>> ((16 : Int32) &&& 31).toUInt32).toInt32) &&& (3 : Int32))), (.ref b1), (.ref b8), (.int (1 : Int32)), (.int mm), (.ref b9), (.int (1 : Int32))])) t ∧ _
    refine own_go (fun _ => iremM X64 hx rfl (hb hby at_240) rfl (own_mz mm hm3)) ?_
    refine own_go (fun _ => XS.iloadN X64.here hx rfl (hb hby at_241) rfl) ?_
    refine own_go (fun _ => XS.bipush X64.here hx rfl (hb hby at_242)) ?_
    show ∃ t o, Steps p.tables e below (T64.setTop (mkF m 244 #[.val (.int i1), .val (.int i2), .val (.int i3), .val (.long d1), .second, .val (.int i4), .val (.int mm), .val (.int (1 : Int32)), .val (.ref b1), .val (.ref b8), .val (.ref b9), .val (.int (1 : Int32))] [(.int (18 : Int32)), (.int i3), (.int ((((i3.toUInt32 >>> ((16 : Int32) &&& 31).toUInt32).toInt32) &&& (3 : Int32)) % mm)), (.ref b1), (.ref b8), (.int (1 : Int32)), (.int mm), (.ref b9), (.int (1 : Int32))])) t ∧ _
    refine own_go (fun _ => XS.iushr X64.here hx rfl (hb hby at_244) rfl) ?_
    refine own_go (fun _ => XS.iconst X64.here hx rfl (hb hby at_245)) ?_
    refine own_go (fun _ => XS.iand X64.here hx rfl (hb hby at_246) rfl) ?_
    show ∃ t o, Steps p.tables e below (T64.setTop (mkF m 247 #[.val (.int i1), .val (.int i2), .val (.int i3), .val (.long d1), .second, .val (.int i4), .val (.int mm), .val (.int (1 : Int32)), .val (.ref b1), .val (.ref b8), .val (.ref b9), .val (.int (1 : Int32))] [(.int (((i3.toUInt32 >>> ((18 : Int32) &&& 31).toUInt32).toInt32) &&& (3 : Int32))), (.int ((((i3.toUInt32 >>> ((16 : Int32) &&& 31).toUInt32).toInt32) &&& (3 : Int32)) % mm)), (.ref b1), (.ref b8), (.int (1 : Int32)), (.int mm), (.ref b9), (.int (1 : Int32))])) t ∧ _
    refine own_go (fun _ => XS.i2l X64.here hx rfl (hb hby at_247) rfl) ?_
    show ∃ t o, Steps p.tables e below (T64.setTop (mkF m 248 #[.val (.int i1), .val (.int i2), .val (.int i3), .val (.long d1), .second, .val (.int i4), .val (.int mm), .val (.int (1 : Int32)), .val (.ref b1), .val (.ref b8), .val (.ref b9), .val (.int (1 : Int32))] [(.long ((((i3.toUInt32 >>> ((18 : Int32) &&& 31).toUInt32).toInt32) &&& (3 : Int32)).toInt64)), (.int ((((i3.toUInt32 >>> ((16 : Int32) &&& 31).toUInt32).toInt32) &&& (3 : Int32)) % mm)), (.ref b1), (.ref b8), (.int (1 : Int32)), (.int mm), (.ref b9), (.int (1 : Int32))])) t ∧ _
    have F65 : Arv Z T64.heap da_13 kd_13 .double (16 : Int32) [(.double (FP.i2d (i2 &&& (65535 : Int32)))), (.double (0 : UInt64))] (.double (0 : UInt64)) := (Arv.keep F60 Kp64 (ninS ne23 (ninS H13_2 (ninS ne40 nin0))))
    have F66 : Arv Z T64.heap b1 k1 .double (3 : Int32) [(.double (0 : UInt64)), (.double (FP.i2d (i2 &&& (65535 : Int32)))), (.double (FP.i2d (((i2.toUInt32 >>> ((16 : Int32) &&& 31).toUInt32).toInt32) &&& (65535 : Int32))))] (.double (0 : UInt64)) := (Arv.keep F61 Kp64 (ninS ne15 (ninS ne34 (ninS ne46 nin0))))
    have F67 : Old Z n0 T64.heap := (Old.keep F62 Kp64 (allS ge11 (allS ge20 (allS ge38 all0))))
    have zl68 : n0 ≤ T64.heap.size := by omega
    obtain ⟨_, _, ⟨T69, L69, k69, n69⟩, -, X69, ⟨Lc69, hQ69, l69, y69, z69⟩, st69⟩ := Jvm.LawKit.callS X64 hx (y := (⟨"com/example/holdback/holdback/sim/InFlightDeliveredPinLaw", "check", "(Lcom/example/holdback/holdback/sim/InFlight;II[I[DIJ)Z"⟩ : MethodName)) hown (mvT hZ (hw _ (List.mem_of_getElem? (i := 30) rfl))) (mvT hZ (hw _ (List.mem_of_getElem? (i := 31) rfl))) (mvT hZ (hw _ (List.mem_of_getElem? (i := 32) rfl))) (mvT hZ (hw _ (List.mem_of_getElem? (i := 33) rfl))) (by decide) (backOf (W := 1) (rmCheck1 l Z a0 hw [] b9 da_13 ia_13 kd_13 ki_13 b8 b1 k8 k1 mm fi2_64 sz2_64 fq2_64 N1_64 N2_64 ((FP.i2d (i2 &&& (65535 : Int32)))) ((FP.i2d (((i2.toUInt32 >>> ((16 : Int32) &&& 31).toUInt32).toInt32) &&& (65535 : Int32)))) (((((i3.toUInt32 >>> ((16 : Int32) &&& 31).toUInt32).toInt32) &&& (3 : Int32)) % mm)) (((((i3.toUInt32 >>> ((18 : Int32) &&& 31).toUInt32).toInt32) &&& (3 : Int32)).toInt64)) T64.heap n0 zl68 G64_0 G64_1 G64_2 G64_3 G64_4 G64_5 G64_6 F65 G64_7 G64_8 F66 F67 ge11 ge19 ge20 ne21 ne22 H13_2 ne23 ne24 ne25 ge38 ne30 ne32 ne31 ne15 ne35 ne34 ne39 ne40 ne41 ne42 ne43 ne44 ne45 ne46 H64_0 (own_bit mm ((i3.toUInt32 >>> ((16 : Int32) &&& 31).toUInt32).toInt32) hm3 : ((((1 : Int32) <<< (mm &&& 31)) - (1 : Int32)) ||| ((1 : Int32) <<< (((((i3.toUInt32 >>> ((16 : Int32) &&& 31).toUInt32).toInt32) &&& (3 : Int32)) % mm) &&& 31))) = (((1 : Int32) <<< (mm &&& 31)) - (1 : Int32))) (own_nn _ : Jvm.Free.Fl.NoNaN64 (FP.i2d (i2 &&& (65535 : Int32)))) (own_nn _ : Jvm.Free.Fl.NoNaN64 (FP.i2d (((i2.toUInt32 >>> ((16 : Int32) &&& 31).toUInt32).toInt32) &&& (65535 : Int32))))) hZ (hw _ (List.mem_of_getElem? (i := 33) rfl)) (hw _ (List.mem_of_getElem? (i := 32) rfl)) (by decide) (by decide)) (g := (mkF m 248 #[.val (.int i1), .val (.int i2), .val (.int i3), .val (.long d1), .second, .val (.int i4), .val (.int mm), .val (.int (1 : Int32)), .val (.ref b1), .val (.ref b8), .val (.ref b9), .val (.int (1 : Int32))] [(.long ((((i3.toUInt32 >>> ((18 : Int32) &&& 31).toUInt32).toInt32) &&& (3 : Int32)).toInt64)), (.int ((((i3.toUInt32 >>> ((16 : Int32) &&& 31).toUInt32).toInt32) &&& (3 : Int32)) % mm)), (.ref b1), (.ref b8), (.int (1 : Int32)), (.int mm), (.ref b9), (.int (1 : Int32))])) rfl (by rw [hml]; rfl) (argsL := [(.ref b9), (.int mm), (.int (1 : Int32)), (.ref b8), (.ref b1), (.int ((((i3.toUInt32 >>> ((16 : Int32) &&& 31).toUInt32).toInt32) &&& (3 : Int32)) % mm)), (.long ((((i3.toUInt32 >>> ((18 : Int32) &&& 31).toUInt32).toInt32) &&& (3 : Int32)).toInt64))]) (rest := [(.int (1 : Int32))]) (lenOf pd_h80816b9d rfl) rfl (by show 2 * 0 + _ ≤ _; exact Nat.le_of_eq rfl) (hb hby at_248) (fun _ _ => ⟨rfl, rfl, (by decide : 5 + 0 ≤ _), (by decide : 44 + 0 ≤ _)⟩)
    dsimp only [Pt.U, Pt.locs, Pt.cells, Pt.slots] at X69 l69 y69 z69 st69 hQ69
    subst l69 y69 z69
    obtain ⟨fi2_69, sz2_69, fq2_69, N1_69, N2_69, rfl, Nq69, Kp69, G69_0, G69_1, G69_2, G69_3, G69_4, G69_5, G69_6, G69_7, G69_8, H69_0⟩ := hQ69
    have N69 := Fr.app N64 Nq69
    refine own_go st69 ?_
    have le_69 : T64.heap.size ≤ T69.heap.size := Kp69.1
    have K69 : Keep h0 T69.heap [] := Keep.trans K64 Kp69 (allS (Or.inr sz14) (allS (Or.inr sz28) (allS (Or.inr sz49) all0)))
    refine own_go (fun _ => XS.iand X69.here hx rfl (hb hby at_251) rfl) ?_
    refine own_go (fun _ => XS.istore X69.here hx rfl (hb hby at_252) rfl (l' := #[.val (.int i1), .val (.int i2), .val (.int i3), .val (.long d1), .second, .val (.int i4), .val (.int mm), .val (.int (1 : Int32)), .val (.ref b1), .val (.ref b8), .val (.ref b9), .val (.int (1 : Int32))]) rfl) ?_
    show ∃ t o, Steps p.tables e below (T69.setTop (mkF m 254 #[.val (.int i1), .val (.int i2), .val (.int i3), .val (.long d1), .second, .val (.int i4), .val (.int mm), .val (.int (1 : Int32)), .val (.ref b1), .val (.ref b8), .val (.ref b9), .val (.int (1 : Int32))] [])) t ∧ _
    refine own_go (fun _ => XS.iload X69.here hx rfl (hb hby at_254) rfl) ?_
    refine own_go (fun _ => XS.aload X69.here hx rfl (hb hby at_256) rfl rfl) ?_
    refine own_go (fun _ => XS.iload X69.here hx rfl (hb hby at_258) rfl) ?_
    show ∃ t o, Steps p.tables e below (T69.setTop (mkF m 260 #[.val (.int i1), .val (.int i2), .val (.int i3), .val (.long d1), .second, .val (.int i4), .val (.int mm), .val (.int (1 : Int32)), .val (.ref b1), .val (.ref b8), .val (.ref b9), .val (.int (1 : Int32))] [(.int mm), (.ref b9), (.int (1 : Int32))])) t ∧ _
    refine own_go (fun _ => XS.iload X69.here hx rfl (hb hby at_260) rfl) ?_
    refine own_go (fun _ => XS.aload X69.here hx rfl (hb hby at_262) rfl rfl) ?_
    refine own_go (fun _ => XS.aload X69.here hx rfl (hb hby at_264) rfl rfl) ?_
    show ∃ t o, Steps p.tables e below (T69.setTop (mkF m 266 #[.val (.int i1), .val (.int i2), .val (.int i3), .val (.long d1), .second, .val (.int i4), .val (.int mm), .val (.int (1 : Int32)), .val (.ref b1), .val (.ref b8), .val (.ref b9), .val (.int (1 : Int32))] [(.ref b1), (.ref b8), (.int (1 : Int32)), (.int mm), (.ref b9), (.int (1 : Int32))])) t ∧ _
    refine own_go (fun _ => XS.iloadN X69.here hx rfl (hb hby at_266) rfl) ?_
    refine own_go (fun _ => XS.bipush X69.here hx rfl (hb hby at_267)) ?_
    refine own_go (fun _ => XS.iushr X69.here hx rfl (hb hby at_269) rfl) ?_
    show ∃ t o, Steps p.tables e below (T69.setTop (mkF m 270 #[.val (.int i1), .val (.int i2), .val (.int i3), .val (.long d1), .second, .val (.int i4), .val (.int mm), .val (.int (1 : Int32)), .val (.ref b1), .val (.ref b8), .val (.ref b9), .val (.int (1 : Int32))] [(.int ((i3.toUInt32 >>> ((20 : Int32) &&& 31).toUInt32).toInt32)), (.ref b1), (.ref b8), (.int (1 : Int32)), (.int mm), (.ref b9), (.int (1 : Int32))])) t ∧ _
    refine own_go (fun _ => XS.iconst X69.here hx rfl (hb hby at_270)) ?_
    refine own_go (fun _ => XS.iand X69.here hx rfl (hb hby at_271) rfl) ?_
    refine own_go (fun _ => XS.iload X69.here hx rfl (hb hby at_272) rfl) ?_
    show ∃ t o, Steps p.tables e below (T69.setTop (mkF m 274 #[.val (.int i1), .val (.int i2), .val (.int i3), .val (.long d1), .second, .val (.int i4), .val (.int mm), .val (.int (1 : Int32)), .val (.ref b1), .val (.ref b8), .val (.ref b9), .val (.int (1 : Int32))] [(.int mm), (.int (((i3.toUInt32 >>> ((20 : Int32) &&& 31).toUInt32).toInt32) &&& (3 : Int32))), (.ref b1), (.ref b8), (.int (1 : Int32)), (.int mm), (.ref b9), (.int (1 : Int32))])) t ∧ _
    refine own_go (fun _ => iremM X69 hx rfl (hb hby at_274) rfl (own_mz mm hm3)) ?_
    refine own_go (fun _ => XS.iloadN X69.here hx rfl (hb hby at_275) rfl) ?_
    refine own_go (fun _ => XS.bipush X69.here hx rfl (hb hby at_276)) ?_
    show ∃ t o, Steps p.tables e below (T69.setTop (mkF m 278 #[.val (.int i1), .val (.int i2), .val (.int i3), .val (.long d1), .second, .val (.int i4), .val (.int mm), .val (.int (1 : Int32)), .val (.ref b1), .val (.ref b8), .val (.ref b9), .val (.int (1 : Int32))] [(.int (22 : Int32)), (.int i3), (.int ((((i3.toUInt32 >>> ((20 : Int32) &&& 31).toUInt32).toInt32) &&& (3 : Int32)) % mm)), (.ref b1), (.ref b8), (.int (1 : Int32)), (.int mm), (.ref b9), (.int (1 : Int32))])) t ∧ _
    refine own_go (fun _ => XS.iushr X69.here hx rfl (hb hby at_278) rfl) ?_
    refine own_go (fun _ => XS.iconst X69.here hx rfl (hb hby at_279)) ?_
    refine own_go (fun _ => XS.iand X69.here hx rfl (hb hby at_280) rfl) ?_
    show ∃ t o, Steps p.tables e below (T69.setTop (mkF m 281 #[.val (.int i1), .val (.int i2), .val (.int i3), .val (.long d1), .second, .val (.int i4), .val (.int mm), .val (.int (1 : Int32)), .val (.ref b1), .val (.ref b8), .val (.ref b9), .val (.int (1 : Int32))] [(.int (((i3.toUInt32 >>> ((22 : Int32) &&& 31).toUInt32).toInt32) &&& (3 : Int32))), (.int ((((i3.toUInt32 >>> ((20 : Int32) &&& 31).toUInt32).toInt32) &&& (3 : Int32)) % mm)), (.ref b1), (.ref b8), (.int (1 : Int32)), (.int mm), (.ref b9), (.int (1 : Int32))])) t ∧ _
    refine own_go (fun _ => XS.i2l X69.here hx rfl (hb hby at_281) rfl) ?_
    show ∃ t o, Steps p.tables e below (T69.setTop (mkF m 282 #[.val (.int i1), .val (.int i2), .val (.int i3), .val (.long d1), .second, .val (.int i4), .val (.int mm), .val (.int (1 : Int32)), .val (.ref b1), .val (.ref b8), .val (.ref b9), .val (.int (1 : Int32))] [(.long ((((i3.toUInt32 >>> ((22 : Int32) &&& 31).toUInt32).toInt32) &&& (3 : Int32)).toInt64)), (.int ((((i3.toUInt32 >>> ((20 : Int32) &&& 31).toUInt32).toInt32) &&& (3 : Int32)) % mm)), (.ref b1), (.ref b8), (.int (1 : Int32)), (.int mm), (.ref b9), (.int (1 : Int32))])) t ∧ _
    have F70 : Arv Z T69.heap da_13 kd_13 .double (16 : Int32) [(.double (FP.i2d (i2 &&& (65535 : Int32)))), (.double (0 : UInt64))] (.double (0 : UInt64)) := (Arv.keep F65 Kp69 (ninS ne23 (ninS H13_2 (ninS ne40 nin0))))
    have F71 : Arv Z T69.heap b1 k1 .double (3 : Int32) [(.double (0 : UInt64)), (.double (FP.i2d (i2 &&& (65535 : Int32)))), (.double (FP.i2d (((i2.toUInt32 >>> ((16 : Int32) &&& 31).toUInt32).toInt32) &&& (65535 : Int32))))] (.double (0 : UInt64)) := (Arv.keep F66 Kp69 (ninS ne15 (ninS ne34 (ninS ne46 nin0))))
    have F72 : Old Z n0 T69.heap := (Old.keep F67 Kp69 (allS ge11 (allS ge20 (allS ge38 all0))))
    have zl73 : n0 ≤ T69.heap.size := by omega
    obtain ⟨_, _, ⟨T74, L74, k74, n74⟩, -, X74, ⟨Lc74, hQ74, l74, y74, z74⟩, st74⟩ := Jvm.LawKit.callS X69 hx (y := (⟨"com/example/holdback/holdback/sim/InFlightDeliveredPinLaw", "check", "(Lcom/example/holdback/holdback/sim/InFlight;II[I[DIJ)Z"⟩ : MethodName)) hown (mvT hZ (hw _ (List.mem_of_getElem? (i := 30) rfl))) (mvT hZ (hw _ (List.mem_of_getElem? (i := 31) rfl))) (mvT hZ (hw _ (List.mem_of_getElem? (i := 32) rfl))) (mvT hZ (hw _ (List.mem_of_getElem? (i := 33) rfl))) (by decide) (backOf (W := 1) (rmCheck1 l Z a0 hw [] b9 da_13 ia_13 kd_13 ki_13 b8 b1 k8 k1 mm fi2_69 sz2_69 fq2_69 N1_69 N2_69 ((FP.i2d (i2 &&& (65535 : Int32)))) ((FP.i2d (((i2.toUInt32 >>> ((16 : Int32) &&& 31).toUInt32).toInt32) &&& (65535 : Int32)))) (((((i3.toUInt32 >>> ((20 : Int32) &&& 31).toUInt32).toInt32) &&& (3 : Int32)) % mm)) (((((i3.toUInt32 >>> ((22 : Int32) &&& 31).toUInt32).toInt32) &&& (3 : Int32)).toInt64)) T69.heap n0 zl73 G69_0 G69_1 G69_2 G69_3 G69_4 G69_5 G69_6 F70 G69_7 G69_8 F71 F72 ge11 ge19 ge20 ne21 ne22 H13_2 ne23 ne24 ne25 ge38 ne30 ne32 ne31 ne15 ne35 ne34 ne39 ne40 ne41 ne42 ne43 ne44 ne45 ne46 H69_0 (own_bit mm ((i3.toUInt32 >>> ((20 : Int32) &&& 31).toUInt32).toInt32) hm3 : ((((1 : Int32) <<< (mm &&& 31)) - (1 : Int32)) ||| ((1 : Int32) <<< (((((i3.toUInt32 >>> ((20 : Int32) &&& 31).toUInt32).toInt32) &&& (3 : Int32)) % mm) &&& 31))) = (((1 : Int32) <<< (mm &&& 31)) - (1 : Int32))) (own_nn _ : Jvm.Free.Fl.NoNaN64 (FP.i2d (i2 &&& (65535 : Int32)))) (own_nn _ : Jvm.Free.Fl.NoNaN64 (FP.i2d (((i2.toUInt32 >>> ((16 : Int32) &&& 31).toUInt32).toInt32) &&& (65535 : Int32))))) hZ (hw _ (List.mem_of_getElem? (i := 33) rfl)) (hw _ (List.mem_of_getElem? (i := 32) rfl)) (by decide) (by decide)) (g := (mkF m 282 #[.val (.int i1), .val (.int i2), .val (.int i3), .val (.long d1), .second, .val (.int i4), .val (.int mm), .val (.int (1 : Int32)), .val (.ref b1), .val (.ref b8), .val (.ref b9), .val (.int (1 : Int32))] [(.long ((((i3.toUInt32 >>> ((22 : Int32) &&& 31).toUInt32).toInt32) &&& (3 : Int32)).toInt64)), (.int ((((i3.toUInt32 >>> ((20 : Int32) &&& 31).toUInt32).toInt32) &&& (3 : Int32)) % mm)), (.ref b1), (.ref b8), (.int (1 : Int32)), (.int mm), (.ref b9), (.int (1 : Int32))])) rfl (by rw [hml]; rfl) (argsL := [(.ref b9), (.int mm), (.int (1 : Int32)), (.ref b8), (.ref b1), (.int ((((i3.toUInt32 >>> ((20 : Int32) &&& 31).toUInt32).toInt32) &&& (3 : Int32)) % mm)), (.long ((((i3.toUInt32 >>> ((22 : Int32) &&& 31).toUInt32).toInt32) &&& (3 : Int32)).toInt64))]) (rest := [(.int (1 : Int32))]) (lenOf pd_h80816b9d rfl) rfl (by show 2 * 0 + _ ≤ _; exact Nat.le_of_eq rfl) (hb hby at_282) (fun _ _ => ⟨rfl, rfl, (by decide : 5 + 0 ≤ _), (by decide : 44 + 0 ≤ _)⟩)
    dsimp only [Pt.U, Pt.locs, Pt.cells, Pt.slots] at X74 l74 y74 z74 st74 hQ74
    subst l74 y74 z74
    obtain ⟨fi2_74, sz2_74, fq2_74, N1_74, N2_74, rfl, Nq74, Kp74, G74_0, G74_1, G74_2, G74_3, G74_4, G74_5, G74_6, G74_7, G74_8, H74_0⟩ := hQ74
    have N74 := Fr.app N69 Nq74
    refine own_go st74 ?_
    have le_74 : T69.heap.size ≤ T74.heap.size := Kp74.1
    have K74 : Keep h0 T74.heap [] := Keep.trans K69 Kp74 (allS (Or.inr sz14) (allS (Or.inr sz28) (allS (Or.inr sz49) all0)))
    refine own_go (fun _ => XS.iand X74.here hx rfl (hb hby at_285) rfl) ?_
    refine own_go (fun _ => XS.istore X74.here hx rfl (hb hby at_286) rfl (l' := #[.val (.int i1), .val (.int i2), .val (.int i3), .val (.long d1), .second, .val (.int i4), .val (.int mm), .val (.int (1 : Int32)), .val (.ref b1), .val (.ref b8), .val (.ref b9), .val (.int (1 : Int32))]) rfl) ?_
    show ∃ t o, Steps p.tables e below (T74.setTop (mkF m 288 #[.val (.int i1), .val (.int i2), .val (.int i3), .val (.long d1), .second, .val (.int i4), .val (.int mm), .val (.int (1 : Int32)), .val (.ref b1), .val (.ref b8), .val (.ref b9), .val (.int (1 : Int32))] [])) t ∧ _
    refine own_go (fun _ => XS.iload X74.here hx rfl (hb hby at_288) rfl) ?_
    refine own_go (fun _ => XS.aload X74.here hx rfl (hb hby at_290) rfl rfl) ?_
    refine own_go (fun _ => XS.iload X74.here hx rfl (hb hby at_292) rfl) ?_
    show ∃ t o, Steps p.tables e below (T74.setTop (mkF m 294 #[.val (.int i1), .val (.int i2), .val (.int i3), .val (.long d1), .second, .val (.int i4), .val (.int mm), .val (.int (1 : Int32)), .val (.ref b1), .val (.ref b8), .val (.ref b9), .val (.int (1 : Int32))] [(.int mm), (.ref b9), (.int (1 : Int32))])) t ∧ _
    refine own_go (fun _ => XS.iload X74.here hx rfl (hb hby at_294) rfl) ?_
    refine own_go (fun _ => XS.aload X74.here hx rfl (hb hby at_296) rfl rfl) ?_
    refine own_go (fun _ => XS.aload X74.here hx rfl (hb hby at_298) rfl rfl) ?_
    show ∃ t o, Steps p.tables e below (T74.setTop (mkF m 300 #[.val (.int i1), .val (.int i2), .val (.int i3), .val (.long d1), .second, .val (.int i4), .val (.int mm), .val (.int (1 : Int32)), .val (.ref b1), .val (.ref b8), .val (.ref b9), .val (.int (1 : Int32))] [(.ref b1), (.ref b8), (.int (1 : Int32)), (.int mm), (.ref b9), (.int (1 : Int32))])) t ∧ _
    refine own_go (fun _ => XS.iload X74.here hx rfl (hb hby at_300) rfl) ?_
    refine own_go (fun _ => XS.iconst X74.here hx rfl (hb hby at_302)) ?_
    refine own_go (fun _ => XS.iand X74.here hx rfl (hb hby at_303) rfl) ?_
    show ∃ t o, Steps p.tables e below (T74.setTop (mkF m 304 #[.val (.int i1), .val (.int i2), .val (.int i3), .val (.long d1), .second, .val (.int i4), .val (.int mm), .val (.int (1 : Int32)), .val (.ref b1), .val (.ref b8), .val (.ref b9), .val (.int (1 : Int32))] [(.int (i4 &&& (3 : Int32))), (.ref b1), (.ref b8), (.int (1 : Int32)), (.int mm), (.ref b9), (.int (1 : Int32))])) t ∧ _
    refine own_go (fun _ => XS.iload X74.here hx rfl (hb hby at_304) rfl) ?_
    refine own_go (fun _ => iremM X74 hx rfl (hb hby at_306) rfl (own_mz mm hm3)) ?_
    refine own_go (fun _ => XS.lloadN X74.here hx rfl (hb hby at_307) rfl) ?_
    show ∃ t o, Steps p.tables e below (T74.setTop (mkF m 308 #[.val (.int i1), .val (.int i2), .val (.int i3), .val (.long d1), .second, .val (.int i4), .val (.int mm), .val (.int (1 : Int32)), .val (.ref b1), .val (.ref b8), .val (.ref b9), .val (.int (1 : Int32))] [(.long d1), (.int ((i4 &&& (3 : Int32)) % mm)), (.ref b1), (.ref b8), (.int (1 : Int32)), (.int mm), (.ref b9), (.int (1 : Int32))])) t ∧ _
    have F75 : Arv Z T74.heap da_13 kd_13 .double (16 : Int32) [(.double (FP.i2d (i2 &&& (65535 : Int32)))), (.double (0 : UInt64))] (.double (0 : UInt64)) := (Arv.keep F70 Kp74 (ninS ne23 (ninS H13_2 (ninS ne40 nin0))))
    have F76 : Arv Z T74.heap b1 k1 .double (3 : Int32) [(.double (0 : UInt64)), (.double (FP.i2d (i2 &&& (65535 : Int32)))), (.double (FP.i2d (((i2.toUInt32 >>> ((16 : Int32) &&& 31).toUInt32).toInt32) &&& (65535 : Int32))))] (.double (0 : UInt64)) := (Arv.keep F71 Kp74 (ninS ne15 (ninS ne34 (ninS ne46 nin0))))
    have F77 : Old Z n0 T74.heap := (Old.keep F72 Kp74 (allS ge11 (allS ge20 (allS ge38 all0))))
    have zl78 : n0 ≤ T74.heap.size := by omega
    obtain ⟨_, _, ⟨T79, L79, k79, n79⟩, -, X79, ⟨Lc79, hQ79, l79, y79, z79⟩, st79⟩ := Jvm.LawKit.callS X74 hx (y := (⟨"com/example/holdback/holdback/sim/InFlightDeliveredPinLaw", "check", "(Lcom/example/holdback/holdback/sim/InFlight;II[I[DIJ)Z"⟩ : MethodName)) hown (mvT hZ (hw _ (List.mem_of_getElem? (i := 30) rfl))) (mvT hZ (hw _ (List.mem_of_getElem? (i := 31) rfl))) (mvT hZ (hw _ (List.mem_of_getElem? (i := 32) rfl))) (mvT hZ (hw _ (List.mem_of_getElem? (i := 33) rfl))) (by decide) (backOf (W := 1) (rmCheck1 l Z a0 hw [] b9 da_13 ia_13 kd_13 ki_13 b8 b1 k8 k1 mm fi2_74 sz2_74 fq2_74 N1_74 N2_74 ((FP.i2d (i2 &&& (65535 : Int32)))) ((FP.i2d (((i2.toUInt32 >>> ((16 : Int32) &&& 31).toUInt32).toInt32) &&& (65535 : Int32)))) (((i4 &&& (3 : Int32)) % mm)) d1 T74.heap n0 zl78 G74_0 G74_1 G74_2 G74_3 G74_4 G74_5 G74_6 F75 G74_7 G74_8 F76 F77 ge11 ge19 ge20 ne21 ne22 H13_2 ne23 ne24 ne25 ge38 ne30 ne32 ne31 ne15 ne35 ne34 ne39 ne40 ne41 ne42 ne43 ne44 ne45 ne46 H74_0 (own_bit mm i4 hm3 : ((((1 : Int32) <<< (mm &&& 31)) - (1 : Int32)) ||| ((1 : Int32) <<< (((i4 &&& (3 : Int32)) % mm) &&& 31))) = (((1 : Int32) <<< (mm &&& 31)) - (1 : Int32))) (own_nn _ : Jvm.Free.Fl.NoNaN64 (FP.i2d (i2 &&& (65535 : Int32)))) (own_nn _ : Jvm.Free.Fl.NoNaN64 (FP.i2d (((i2.toUInt32 >>> ((16 : Int32) &&& 31).toUInt32).toInt32) &&& (65535 : Int32))))) hZ (hw _ (List.mem_of_getElem? (i := 33) rfl)) (hw _ (List.mem_of_getElem? (i := 32) rfl)) (by decide) (by decide)) (g := (mkF m 308 #[.val (.int i1), .val (.int i2), .val (.int i3), .val (.long d1), .second, .val (.int i4), .val (.int mm), .val (.int (1 : Int32)), .val (.ref b1), .val (.ref b8), .val (.ref b9), .val (.int (1 : Int32))] [(.long d1), (.int ((i4 &&& (3 : Int32)) % mm)), (.ref b1), (.ref b8), (.int (1 : Int32)), (.int mm), (.ref b9), (.int (1 : Int32))])) rfl (by rw [hml]; rfl) (argsL := [(.ref b9), (.int mm), (.int (1 : Int32)), (.ref b8), (.ref b1), (.int ((i4 &&& (3 : Int32)) % mm)), (.long d1)]) (rest := [(.int (1 : Int32))]) (lenOf pd_h80816b9d rfl) rfl (by show 2 * 0 + _ ≤ _; exact Nat.le_of_eq rfl) (hb hby at_308) (fun _ _ => ⟨rfl, rfl, (by decide : 5 + 0 ≤ _), (by decide : 44 + 0 ≤ _)⟩)
    dsimp only [Pt.U, Pt.locs, Pt.cells, Pt.slots] at X79 l79 y79 z79 st79 hQ79
    subst l79 y79 z79
    obtain ⟨fi2_79, sz2_79, fq2_79, N1_79, N2_79, rfl, Nq79, Kp79, G79_0, G79_1, G79_2, G79_3, G79_4, G79_5, G79_6, G79_7, G79_8, H79_0⟩ := hQ79
    have N79 := Fr.app N74 Nq79
    refine own_go st79 ?_
    have le_79 : T74.heap.size ≤ T79.heap.size := Kp79.1
    have K79 : Keep h0 T79.heap [] := Keep.trans K74 Kp79 (allS (Or.inr sz14) (allS (Or.inr sz28) (allS (Or.inr sz49) all0)))
    refine own_go (fun _ => XS.iand X79.here hx rfl (hb hby at_311) rfl) ?_
    refine own_go (fun _ => XS.istore X79.here hx rfl (hb hby at_312) rfl (l' := #[.val (.int i1), .val (.int i2), .val (.int i3), .val (.long d1), .second, .val (.int i4), .val (.int mm), .val (.int (1 : Int32)), .val (.ref b1), .val (.ref b8), .val (.ref b9), .val (.int (1 : Int32))]) rfl) ?_
    show ∃ t o, Steps p.tables e below (T79.setTop (mkF m 314 #[.val (.int i1), .val (.int i2), .val (.int i3), .val (.long d1), .second, .val (.int i4), .val (.int mm), .val (.int (1 : Int32)), .val (.ref b1), .val (.ref b8), .val (.ref b9), .val (.int (1 : Int32))] [])) t ∧ _
    refine own_go (fun _ => XS.iload X79.here hx rfl (hb hby at_314) rfl) ?_
    show ∃ t o, Steps p.tables e below (T79.setTop (mkF m 316 #[.val (.int i1), .val (.int i2), .val (.int i3), .val (.long d1), .second, .val (.int i4), .val (.int mm), .val (.int (1 : Int32)), .val (.ref b1), .val (.ref b8), .val (.ref b9), .val (.int (1 : Int32))] [(.int (1 : Int32))])) t ∧ _
    obtain ⟨fs, hr, hrun, hended, hW, hsame⟩ := X79.leave (v := some (.int (1 : Int32))) (fun h => by rw [Bd.returns] at h; cases h)
    refine ⟨_, _, ?_, hrun, hended, _, _, rfl, ?_, ⟨_, rfl⟩, hW, hsame.mono (by decide) (by decide)⟩
    · exact retN X79 hx (t := .boolean) Bd.returns (by simp) (hb hby at_316) hr
    · show Q_rm0 Z _ _ _ _ _ h0 n0 _ T79.heap _
      exact ⟨rfl, N79, K79⟩
  · rw [hn]
    refine own_go (fun _ => XS.iconst X0.here hx rfl (hb hby at_20)) ?_
    show ∃ t o, Steps p.tables e below (s₁.setTop (mkF m 21 #[.val (.int i1), .val (.int i2), .val (.int i3), .val (.long d1), .second, .val (.int i4), .val (.int mm), .val (.int (2 : Int32)), .unset, .unset, .unset, .unset] [(.int (3 : Int32))])) t ∧ _
    obtain ⟨T80, h80, k80, X80, e80, E80, A80, st80⟩ := newP X0 hx hZ (hw _ (List.mem_of_getElem? (i := 1) rfl)) e0 (g := (mkF m 21 #[.val (.int i1), .val (.int i2), .val (.int i3), .val (.long d1), .second, .val (.int i4), .val (.int mm), .val (.int (2 : Int32)), .unset, .unset, .unset, .unset] [(.int (3 : Int32))])) rfl (hb hby at_21) rfl (by decide) (cap := 3) (by decide) (by decide) (by decide) (by decide)
    obtain ⟨b80, g80⟩ : ∃ z, z = h0.size := ⟨_, rfl⟩
    rw [← g80] at A80 st80
    refine own_go st80 ?_
    have le_80 : h0.size ≤ h80.size := E80.1
    have lt_b80 : b80 < h80.size := A80.lt
    have V_b80 : Arv Z h80 b80 k80 .double (3 : Int32) [(.double (0 : UInt64)), (.double (0 : UInt64)), (.double (0 : UInt64))] (.double (0 : UInt64)) := (Arv.new A80 (by decide)).pad (pad_rep [] (.double (0 : UInt64)) 3)
    have K80 : Keep h0 h80 [] := Keep.ext (Keep.refl h0 []) E80
    refine own_go (fun _ => XS.astore X80.here hx rfl (hb hby at_23) rfl rfl (l' := #[.val (.int i1), .val (.int i2), .val (.int i3), .val (.long d1), .second, .val (.int i4), .val (.int mm), .val (.int (2 : Int32)), .val (.ref b80), .unset, .unset, .unset]) rfl) ?_
    refine own_go (fun _ => XS.aload X80.here hx rfl (hb hby at_25) rfl rfl) ?_
    show ∃ t o, Steps p.tables e below (T80.setTop (mkF m 27 #[.val (.int i1), .val (.int i2), .val (.int i3), .val (.long d1), .second, .val (.int i4), .val (.int mm), .val (.int (2 : Int32)), .val (.ref b80), .unset, .unset, .unset] [(.ref b80)])) t ∧ _
    refine own_go (fun _ => XS.iconst X80.here hx rfl (hb hby at_27)) ?_
    refine own_go (fun _ => XS.iloadN X80.here hx rfl (hb hby at_28) rfl) ?_
    refine own_go (fun _ => X80.ldcInt hx hown (mvT hZ (hw _ (List.mem_of_getElem? (i := 2) rfl))) (g := (mkF m 29 #[.val (.int i1), .val (.int i2), .val (.int i3), .val (.long d1), .second, .val (.int i4), .val (.int mm), .val (.int (2 : Int32)), .val (.ref b80), .unset, .unset, .unset] [(.int i2), (.int (1 : Int32)), (.ref b80)])) rfl (hb hby at_29) _) ?_
    show ∃ t o, Steps p.tables e below (T80.setTop (mkF m 31 #[.val (.int i1), .val (.int i2), .val (.int i3), .val (.long d1), .second, .val (.int i4), .val (.int mm), .val (.int (2 : Int32)), .val (.ref b80), .unset, .unset, .unset] [(.int (65535 : Int32)), (.int i2), (.int (1 : Int32)), (.ref b80)])) t ∧ _
    refine own_go (fun _ => XS.iand X80.here hx rfl (hb hby at_31) rfl) ?_
    refine own_go (fun _ => XS.i2dS X80.here hx rfl (hb hby at_32) rfl rfl) ?_
    obtain ⟨cl81, Ar81, q81, S81, N81, H81, G81⟩ := id V_b80
    have hin81 : ¬ ((1 : Int32) < 0 ∨ cl81.slots.size ≤ ((1 : Int32)).toNatClampNeg) := inb_of S81 ⟨by decide, by decide⟩
    obtain ⟨T82, h82, X82, e82, W82, st82⟩ := stD X80 hx hZ e80 Ar81 (j := (1 : Int32)) hin81 (g := (mkF m 33 #[.val (.int i1), .val (.int i2), .val (.int i3), .val (.long d1), .second, .val (.int i4), .val (.int mm), .val (.int (2 : Int32)), .val (.ref b80), .unset, .unset, .unset] [(.double (FP.i2d (i2 &&& (65535 : Int32)))), (.int (1 : Int32)), (.ref b80)])) rfl rfl (hb hby at_33)
    refine own_go st82 ?_
    have ge83 : n0 ≤ b80 := by omega
    have le_82 : h80.size ≤ h82.size := Nat.le_of_eq W82.size.symm
    have sz84 : h0.size ≤ b80 := by omega
    have K82 : Keep h0 h82 [] := Keep.wr K80 W82 (Or.inr sz84)
    have N82 := Fr.snoc X82 N0 ge83
    have V82 : Arv Z h82 b80 k80 .double (3 : Int32) [(.double (0 : UInt64)), (.double (FP.i2d (i2 &&& (65535 : Int32)))), (.double (0 : UInt64))] (.double (0 : UInt64)) := Arv.set Ar81 q81 S81 N81 H81 G81 rfl W82 1 rfl (Nat.le_of_ble_eq_true rfl)
    show ∃ t o, Steps p.tables e below (T82.setTop (mkF m 34 #[.val (.int i1), .val (.int i2), .val (.int i3), .val (.long d1), .second, .val (.int i4), .val (.int mm), .val (.int (2 : Int32)), .val (.ref b80), .unset, .unset, .unset] [])) t ∧ _
    refine own_go (fun _ => XS.aload X82.here hx rfl (hb hby at_34) rfl rfl) ?_
    refine own_go (fun _ => XS.iconst X82.here hx rfl (hb hby at_36)) ?_
    refine own_go (fun _ => XS.iloadN X82.here hx rfl (hb hby at_37) rfl) ?_
    show ∃ t o, Steps p.tables e below (T82.setTop (mkF m 38 #[.val (.int i1), .val (.int i2), .val (.int i3), .val (.long d1), .second, .val (.int i4), .val (.int mm), .val (.int (2 : Int32)), .val (.ref b80), .unset, .unset, .unset] [(.int i2), (.int (2 : Int32)), (.ref b80)])) t ∧ _
    refine own_go (fun _ => XS.bipush X82.here hx rfl (hb hby at_38)) ?_
    refine own_go (fun _ => XS.iushr X82.here hx rfl (hb hby at_40) rfl) ?_
    refine own_go (fun _ => X82.ldcInt hx hown (mvT hZ (hw _ (List.mem_of_getElem? (i := 2) rfl))) (g := (mkF m 41 #[.val (.int i1), .val (.int i2), .val (.int i3), .val (.long d1), .second, .val (.int i4), .val (.int mm), .val (.int (2 : Int32)), .val (.ref b80), .unset, .unset, .unset] [(.int ((i2.toUInt32 >>> ((16 : Int32) &&& 31).toUInt32).toInt32)), (.int (2 : Int32)), (.ref b80)])) rfl (hb hby at_41) _) ?_
    show ∃ t o, Steps p.tables e below (T82.setTop (mkF m 43 #[.val (.int i1), .val (.int i2), .val (.int i3), .val (.long d1), .second, .val (.int i4), .val (.int mm), .val (.int (2 : Int32)), .val (.ref b80), .unset, .unset, .unset] [(.int (65535 : Int32)), (.int ((i2.toUInt32 >>> ((16 : Int32) &&& 31).toUInt32).toInt32)), (.int (2 : Int32)), (.ref b80)])) t ∧ _
    refine own_go (fun _ => XS.iand X82.here hx rfl (hb hby at_43) rfl) ?_
    refine own_go (fun _ => XS.i2dS X82.here hx rfl (hb hby at_44) rfl rfl) ?_
    obtain ⟨cl85, Ar85, q85, S85, N85, H85, G85⟩ := id V82
    have hin85 : ¬ ((2 : Int32) < 0 ∨ cl85.slots.size ≤ ((2 : Int32)).toNatClampNeg) := inb_of S85 ⟨by decide, by decide⟩
    obtain ⟨T86, h86, X86, e86, W86, st86⟩ := stD X82 hx hZ e82 Ar85 (j := (2 : Int32)) hin85 (g := (mkF m 45 #[.val (.int i1), .val (.int i2), .val (.int i3), .val (.long d1), .second, .val (.int i4), .val (.int mm), .val (.int (2 : Int32)), .val (.ref b80), .unset, .unset, .unset] [(.double (FP.i2d (((i2.toUInt32 >>> ((16 : Int32) &&& 31).toUInt32).toInt32) &&& (65535 : Int32)))), (.int (2 : Int32)), (.ref b80)])) rfl rfl (hb hby at_45)
    refine own_go st86 ?_
    have le_86 : h82.size ≤ h86.size := Nat.le_of_eq W86.size.symm
    have K86 : Keep h0 h86 [] := Keep.wr K82 W86 (Or.inr sz84)
    have N86 := Fr.snoc X86 N82 ge83
    have V86 : Arv Z h86 b80 k80 .double (3 : Int32) [(.double (0 : UInt64)), (.double (FP.i2d (i2 &&& (65535 : Int32)))), (.double (FP.i2d (((i2.toUInt32 >>> ((16 : Int32) &&& 31).toUInt32).toInt32) &&& (65535 : Int32))))] (.double (0 : UInt64)) := Arv.set Ar85 q85 S85 N85 H85 G85 rfl W86 2 rfl (Nat.le_of_ble_eq_true rfl)
    show ∃ t o, Steps p.tables e below (T86.setTop (mkF m 46 #[.val (.int i1), .val (.int i2), .val (.int i3), .val (.long d1), .second, .val (.int i4), .val (.int mm), .val (.int (2 : Int32)), .val (.ref b80), .unset, .unset, .unset] [])) t ∧ _
    refine own_go (fun _ => XS.iconst X86.here hx rfl (hb hby at_46)) ?_
    show ∃ t o, Steps p.tables e below (T86.setTop (mkF m 47 #[.val (.int i1), .val (.int i2), .val (.int i3), .val (.long d1), .second, .val (.int i4), .val (.int mm), .val (.int (2 : Int32)), .val (.ref b80), .unset, .unset, .unset] [(.int (3 : Int32))])) t ∧ _
    obtain ⟨T87, h87, k87, X87, e87, E87, A87, st87⟩ := newP X86 hx hZ (hw _ (List.mem_of_getElem? (i := 3) rfl)) e86 (g := (mkF m 47 #[.val (.int i1), .val (.int i2), .val (.int i3), .val (.long d1), .second, .val (.int i4), .val (.int mm), .val (.int (2 : Int32)), .val (.ref b80), .unset, .unset, .unset] [(.int (3 : Int32))])) rfl (hb hby at_47) rfl (by decide) (cap := 3) (by decide) (by decide) (by decide) (by decide)
    obtain ⟨b87, g87⟩ : ∃ z, z = h86.size := ⟨_, rfl⟩
    rw [← g87] at A87 st87
    refine own_go st87 ?_
    have le_87 : h86.size ≤ h87.size := E87.1
    have lt_b87 : b87 < h87.size := A87.lt
    have V_b87 : Arv Z h87 b87 k87 .int (3 : Int32) [(.int (0 : Int32)), (.int (0 : Int32)), (.int (0 : Int32))] (.int (0 : Int32)) := (Arv.new A87 (by decide)).pad (pad_rep [] (.int (0 : Int32)) 3)
    have K87 : Keep h0 h87 [] := Keep.ext K86 E87
    refine own_go (fun _ => XS.astore X87.here hx rfl (hb hby at_49) rfl rfl (l' := #[.val (.int i1), .val (.int i2), .val (.int i3), .val (.long d1), .second, .val (.int i4), .val (.int mm), .val (.int (2 : Int32)), .val (.ref b80), .val (.ref b87), .unset, .unset]) rfl) ?_
    show ∃ t o, Steps p.tables e below (T87.setTop (mkF m 51 #[.val (.int i1), .val (.int i2), .val (.int i3), .val (.long d1), .second, .val (.int i4), .val (.int mm), .val (.int (2 : Int32)), .val (.ref b80), .val (.ref b87), .unset, .unset] [])) t ∧ _
    obtain ⟨T88, h88, X88, e88, E88, A88, D88, -, st88⟩ := newO X87 hx hZ hown (hw _ (List.mem_of_getElem? (i := 4) rfl)) (hw _ (List.mem_of_getElem? (i := 5) rfl)) (hw _ (List.mem_of_getElem? (i := 6) rfl)) e87 (g := (mkF m 51 #[.val (.int i1), .val (.int i2), .val (.int i3), .val (.long d1), .second, .val (.int i4), .val (.int mm), .val (.int (2 : Int32)), .val (.ref b80), .val (.ref b87), .unset, .unset] [])) rfl (hb hby at_51) (by decide) (by decide)
    obtain ⟨b88, g88⟩ : ∃ z, z = h87.size := ⟨_, rfl⟩
    rw [← g88] at A88 D88 st88
    refine own_go st88 ?_
    have le_88 : h87.size ≤ h88.size := E88.1
    have lt_b88 : b88 < h88.size := A88.lt
    have F_multicastAt_b88 : Fld Z h88 b88 "com/example/holdback/holdback/sim/InFlight" "multicastAt" "[D" .null := D88 (Or.inl (hw _ (List.mem_of_getElem? (i := 14) rfl))) (ty := (.array .double)) (by decide)
    have F_deliveredBy_b88 : Fld Z h88 b88 "com/example/holdback/holdback/sim/InFlight" "deliveredBy" "[I" .null := D88 (Or.inl (hw _ (List.mem_of_getElem? (i := 16) rfl))) (ty := (.array .int)) (by decide)
    have F_firstSeq_b88 : Fld Z h88 b88 "com/example/holdback/holdback/sim/InFlight" "firstSeq" "J" (.long (0 : Int64)) := D88 (Or.inl (hw _ (List.mem_of_getElem? (i := 18) rfl))) (ty := .long) (by decide)
    have F_everyone_b88 : Fld Z h88 b88 "com/example/holdback/holdback/sim/InFlight" "everyone" "I" (.int (0 : Int32)) := D88 (Or.inr (hw _ (List.mem_of_getElem? (i := 20) rfl))) (ty := .int) (by decide)
    have F_size_b88 : Fld Z h88 b88 "com/example/holdback/holdback/sim/InFlight" "size" "I" (.int (0 : Int32)) := D88 (Or.inl (hw _ (List.mem_of_getElem? (i := 27) rfl))) (ty := .int) (by decide)
    have F_first_b88 : Fld Z h88 b88 "com/example/holdback/holdback/sim/InFlight" "first" "I" (.int (0 : Int32)) := D88 (Or.inl (hw _ (List.mem_of_getElem? (i := 29) rfl))) (ty := .int) (by decide)
    have K88 : Keep h0 h88 [] := Keep.ext K87 E88
    refine own_go (fun _ => XS.dup X88.here hx rfl (hb hby at_54) rfl rfl) ?_
    refine own_go (fun _ => XS.iload X88.here hx rfl (hb hby at_55) rfl) ?_
    show ∃ t o, Steps p.tables e below (T88.setTop (mkF m 57 #[.val (.int i1), .val (.int i2), .val (.int i3), .val (.long d1), .second, .val (.int i4), .val (.int mm), .val (.int (2 : Int32)), .val (.ref b80), .val (.ref b87), .unset, .unset] [(.int mm), (.ref b88), (.ref b88)])) t ∧ _
    have F89 : Old Z n0 h88 := (((Old.wr (Old.wr (OLD.ext E80) W82 ge83) W86 ge83).ext E87).ext E88)
    have ge90 : n0 ≤ b88 := by omega
    have zl91 : n0 ≤ h88.size := by omega
    obtain ⟨_, _, ⟨T92, L92, k92, n92⟩, -, X92, ⟨Lc92, hQ92, l92, y92, z92⟩, st92⟩ := X88.specialBack hx (y := (⟨"com/example/holdback/holdback/sim/InFlight", "<init>", "(I)V"⟩ : MethodName)) rfl hown (mvT hZ (hw _ (List.mem_of_getElem? (i := 7) rfl))) (mvT hZ (hw _ (List.mem_of_getElem? (i := 8) rfl))) (mvT hZ (hw _ (List.mem_of_getElem? (i := 9) rfl))) (by decide) (backOf (W := 1) (rmInit l Z a0 hw [] b88 mm h88 n0 zl91 A88 F_multicastAt_b88 F_deliveredBy_b88 F_firstSeq_b88 F_everyone_b88 F_size_b88 F_first_b88 F89 ge90) hZ (hw _ (List.mem_of_getElem? (i := 9) rfl)) (hw _ (List.mem_of_getElem? (i := 6) rfl)) (by decide) (by decide)) (g := (mkF m 57 #[.val (.int i1), .val (.int i2), .val (.int i3), .val (.long d1), .second, .val (.int i4), .val (.int mm), .val (.int (2 : Int32)), .val (.ref b80), .val (.ref b87), .unset, .unset] [(.int mm), (.ref b88), (.ref b88)])) rfl (by rw [hml]; rfl) (Steps.refl _) (a := b88) (argsL := [(.int mm)]) (rest := [(.ref b88)]) (lenOf pd__28I_29V rfl) rfl (by show 2 * 0 + _ ≤ _; exact Nat.le_of_eq rfl) (hb hby at_57) (fun _ _ => ⟨rfl, e88, (by decide : 3 + 2 ≤ _), (by decide : 12 + 32 ≤ _)⟩)
    dsimp only [Pt.U, Pt.locs, Pt.cells, Pt.slots] at X92 l92 y92 z92 st92 hQ92
    subst l92 y92 z92
    obtain ⟨da_92, ia_92, kd_92, ki_92, rfl, Nq92, Kp92, G92_0, G92_1, G92_2, G92_3, G92_4, G92_5, G92_6, G92_7, G92_8, H92_0, H92_1, H92_2⟩ := hQ92
    have N92 := Fr.app N86 Nq92
    refine own_goT st92 ?_
    have le_92 : h88.size ≤ T92.heap.size := Kp92.1
    have sz93 : h0.size ≤ b88 := by omega
    have K92 : Keep h0 T92.heap [] := Keep.trans K88 Kp92 (allS (Or.inr sz93) all0)
    have lt_da_92 : da_92 < T92.heap.size := (G92_7).lt
    have lt_ia_92 : ia_92 < T92.heap.size := (G92_8).lt
    refine own_go (fun _ => XS.astore X92.here hx rfl (hb hby at_60) rfl rfl (l' := #[.val (.int i1), .val (.int i2), .val (.int i3), .val (.long d1), .second, .val (.int i4), .val (.int mm), .val (.int (2 : Int32)), .val (.ref b80), .val (.ref b87), .val (.ref b88), .unset]) rfl) ?_
    refine own_go (fun _ => XS.aload X92.here hx rfl (hb hby at_62) rfl rfl) ?_
    show ∃ t o, Steps p.tables e below (T92.setTop (mkF m 64 #[.val (.int i1), .val (.int i2), .val (.int i3), .val (.long d1), .second, .val (.int i4), .val (.int mm), .val (.int (2 : Int32)), .val (.ref b80), .val (.ref b87), .val (.ref b88), .unset] [(.ref b88)])) t ∧ _
    refine own_go (fun _ => XS.aload X92.here hx rfl (hb hby at_64) rfl rfl) ?_
    refine own_go (fun _ => XS.iconst X92.here hx rfl (hb hby at_66)) ?_
    have ne94 : b80 ≠ b88 := own_ne (by omega)
    have F95 : Arv Z T92.heap b80 k80 .double (3 : Int32) [(.double (0 : UInt64)), (.double (FP.i2d (i2 &&& (65535 : Int32)))), (.double (FP.i2d (((i2.toUInt32 >>> ((16 : Int32) &&& 31).toUInt32).toInt32) &&& (65535 : Int32))))] (.double (0 : UInt64)) := (Arv.keep ((V86.ext E87).ext E88) Kp92 (ninS ne94 nin0))
    obtain ⟨cl96, Ar96, q96, S96, N96, H96, G96⟩ := id F95
    have hin96 : ¬ ((1 : Int32) < 0 ∨ cl96.slots.size ≤ ((1 : Int32)).toNatClampNeg) := inb_of S96 ⟨by decide, by decide⟩
    have hat96 : cl96.slots[((1 : Int32)).toNatClampNeg]? = some (.double (FP.i2d (i2 &&& (65535 : Int32)))) := Has.at H96 hin96 rfl
    refine own_go (fun _ => X92.daload hx (j := (1 : Int32)) (v := (.double (FP.i2d (i2 &&& (65535 : Int32))))) Ar96.1 (State.isArrayOf_alike hZ.alike Ar96.2.1) Ar96.2.2 hin96 hat96 (g := (mkF m 67 #[.val (.int i1), .val (.int i2), .val (.int i3), .val (.long d1), .second, .val (.int i4), .val (.int mm), .val (.int (2 : Int32)), .val (.ref b80), .val (.ref b87), .val (.ref b88), .unset] [(.int (1 : Int32)), (.ref b80), (.ref b88)])) rfl rfl (hb hby at_67) _) ?_
    show ∃ t o, Steps p.tables e below (T92.setTop (mkF m 68 #[.val (.int i1), .val (.int i2), .val (.int i3), .val (.long d1), .second, .val (.int i4), .val (.int mm), .val (.int (2 : Int32)), .val (.ref b80), .val (.ref b87), .val (.ref b88), .unset] [(.double (FP.i2d (i2 &&& (65535 : Int32)))), (.ref b88)])) t ∧ _
    have F97 : Old Z n0 T92.heap := (Old.keep F89 Kp92 (allS ge90 all0))
    have ge98 : n0 ≤ da_92 := by omega
    have ge99 : n0 ≤ ia_92 := by omega
    have ne100 : b88 ≠ da_92 := own_ne (by omega)
    have ne101 : b88 ≠ ia_92 := own_ne (by omega)
    have ne102 : da_92 ≠ b88 := own_ne (by omega)
    have ne103 : ia_92 ≠ b88 := own_ne (by omega)
    have ne104 : ia_92 ≠ da_92 := own_ne (by omega)
    have zl105 : n0 ≤ T92.heap.size := by omega
    obtain ⟨cq106, kq106, q106a, q106b, q106c⟩ := isOf hZ rfl G92_0
    obtain ⟨_, _, ⟨T106, L106, k106, n106⟩, -, X106, ⟨Lc106, hQ106, l106, y106, z106⟩, st106⟩ := X92.virtualBack hx (y := (⟨"com/example/holdback/holdback/sim/InFlight", "add", "(D)V"⟩ : MethodName)) (z := (⟨"com/example/holdback/holdback/sim/InFlight", "add", "(D)V"⟩ : MethodName)) hown (mvT hZ (hw _ (List.mem_of_getElem? (i := 21) rfl))) (mvT hZ (hw _ (List.mem_of_getElem? (i := 22) rfl))) (notFace_of_selects (args := #[]) (mvT hZ (hw _ (List.mem_of_getElem? (i := 24) rfl)))) (mvT hZ (hw _ (List.mem_of_getElem? (i := 24) rfl))) (mvT hZ (hw _ (List.mem_of_getElem? (i := 23) rfl))) (by decide) (backOf (W := 0) (rmAdd1 l Z a0 hw [] b88 da_92 ia_92 kd_92 ki_92 ((((1 : Int32) <<< (mm &&& 31)) - (1 : Int32))) ((FP.i2d (i2 &&& (65535 : Int32)))) T92.heap n0 zl105 G92_0 G92_1 G92_2 G92_3 G92_4 G92_5 G92_6 G92_7 G92_8 F97 ge90 ge98 ge99 ne100 ne101 H92_2 ne102 ne103 ne104) hZ (hw _ (List.mem_of_getElem? (i := 25) rfl)) (hw _ (List.mem_of_getElem? (i := 6) rfl)) (by decide) (by decide)) q106a q106c (g := (mkF m 68 #[.val (.int i1), .val (.int i2), .val (.int i3), .val (.long d1), .second, .val (.int i4), .val (.int mm), .val (.int (2 : Int32)), .val (.ref b80), .val (.ref b87), .val (.ref b88), .unset] [(.double (FP.i2d (i2 &&& (65535 : Int32)))), (.ref b88)])) rfl (by rw [hml]; rfl) (Steps.refl _) (argsL := [(.double (FP.i2d (i2 &&& (65535 : Int32))))]) (rest := []) (lenOf pd__28D_29V rfl) rfl (by show 2 * 0 + _ ≤ _; exact Nat.le_of_eq rfl) (hb hby at_68) (fun _ _ => ⟨rfl, rfl, (by decide : 5 + 0 ≤ _), (by decide : 44 + 0 ≤ _)⟩)
    dsimp only [Pt.U, Pt.locs, Pt.cells, Pt.slots] at X106 l106 y106 z106 st106 hQ106
    subst l106 y106 z106
    obtain ⟨rfl, Nq106, Kp106, G106_0, G106_1, G106_2, G106_3, G106_4, G106_5, G106_6, G106_7, G106_8⟩ := hQ106
    have N106 := Fr.app N92 Nq106
    refine own_goT st106 ?_
    have le_106 : T92.heap.size ≤ T106.heap.size := Kp106.1
    have sz107 : h0.size ≤ ia_92 := by omega
    have sz108 : h0.size ≤ da_92 := by omega
    have K106 : Keep h0 T106.heap [] := Keep.trans K92 Kp106 (allS (Or.inr sz93) (allS (Or.inr sz108) (allS (Or.inr sz107) all0)))
    refine own_go (fun _ => XS.iload X106.here hx rfl (hb hby at_71) rfl) ?_
    refine own_go (fun _ => XS.iconst X106.here hx rfl (hb hby at_73)) ?_
    show ∃ t o, Steps p.tables e below (T106.setTop (mkF m 74 #[.val (.int i1), .val (.int i2), .val (.int i3), .val (.long d1), .second, .val (.int i4), .val (.int mm), .val (.int (2 : Int32)), .val (.ref b80), .val (.ref b87), .val (.ref b88), .unset] [(.int (2 : Int32)), (.int (2 : Int32))])) t ∧ _
    refine own_go (fun _ => XS.icmpNo X106.here hx rfl (hb hby at_74) rfl (teq (by decide : (2 : Int32) = (2 : Int32))).2) ?_
    refine own_go (fun _ => XS.aload X106.here hx rfl (hb hby at_77) rfl rfl) ?_
    refine own_go (fun _ => XS.aload X106.here hx rfl (hb hby at_79) rfl rfl) ?_
    show ∃ t o, Steps p.tables e below (T106.setTop (mkF m 81 #[.val (.int i1), .val (.int i2), .val (.int i3), .val (.long d1), .second, .val (.int i4), .val (.int mm), .val (.int (2 : Int32)), .val (.ref b80), .val (.ref b87), .val (.ref b88), .unset] [(.ref b80), (.ref b88)])) t ∧ _
    refine own_go (fun _ => XS.iconst X106.here hx rfl (hb hby at_81)) ?_
    have ne109 : b80 ≠ ia_92 := own_ne (by omega)
    have ne110 : b80 ≠ da_92 := own_ne (by omega)
    have F111 : Arv Z T106.heap b80 k80 .double (3 : Int32) [(.double (0 : UInt64)), (.double (FP.i2d (i2 &&& (65535 : Int32)))), (.double (FP.i2d (((i2.toUInt32 >>> ((16 : Int32) &&& 31).toUInt32).toInt32) &&& (65535 : Int32))))] (.double (0 : UInt64)) := (Arv.keep F95 Kp106 (ninS ne94 (ninS ne110 (ninS ne109 nin0))))
    obtain ⟨cl112, Ar112, q112, S112, N112, H112, G112⟩ := id F111
    have hin112 : ¬ ((2 : Int32) < 0 ∨ cl112.slots.size ≤ ((2 : Int32)).toNatClampNeg) := inb_of S112 ⟨by decide, by decide⟩
    have hat112 : cl112.slots[((2 : Int32)).toNatClampNeg]? = some (.double (FP.i2d (((i2.toUInt32 >>> ((16 : Int32) &&& 31).toUInt32).toInt32) &&& (65535 : Int32)))) := Has.at H112 hin112 rfl
    refine own_go (fun _ => X106.daload hx (j := (2 : Int32)) (v := (.double (FP.i2d (((i2.toUInt32 >>> ((16 : Int32) &&& 31).toUInt32).toInt32) &&& (65535 : Int32))))) Ar112.1 (State.isArrayOf_alike hZ.alike Ar112.2.1) Ar112.2.2 hin112 hat112 (g := (mkF m 82 #[.val (.int i1), .val (.int i2), .val (.int i3), .val (.long d1), .second, .val (.int i4), .val (.int mm), .val (.int (2 : Int32)), .val (.ref b80), .val (.ref b87), .val (.ref b88), .unset] [(.int (2 : Int32)), (.ref b80), (.ref b88)])) rfl rfl (hb hby at_82) _) ?_
    show ∃ t o, Steps p.tables e below (T106.setTop (mkF m 83 #[.val (.int i1), .val (.int i2), .val (.int i3), .val (.long d1), .second, .val (.int i4), .val (.int mm), .val (.int (2 : Int32)), .val (.ref b80), .val (.ref b87), .val (.ref b88), .unset] [(.double (FP.i2d (((i2.toUInt32 >>> ((16 : Int32) &&& 31).toUInt32).toInt32) &&& (65535 : Int32)))), (.ref b88)])) t ∧ _
    have F113 : Old Z n0 T106.heap := (Old.keep F97 Kp106 (allS ge90 (allS ge98 (allS ge99 all0))))
    have zl114 : n0 ≤ T106.heap.size := by omega
    obtain ⟨cq115, kq115, q115a, q115b, q115c⟩ := isOf hZ rfl G106_0
    obtain ⟨_, _, ⟨T115, L115, k115, n115⟩, -, X115, ⟨Lc115, hQ115, l115, y115, z115⟩, st115⟩ := X106.virtualBack hx (y := (⟨"com/example/holdback/holdback/sim/InFlight", "add", "(D)V"⟩ : MethodName)) (z := (⟨"com/example/holdback/holdback/sim/InFlight", "add", "(D)V"⟩ : MethodName)) hown (mvT hZ (hw _ (List.mem_of_getElem? (i := 21) rfl))) (mvT hZ (hw _ (List.mem_of_getElem? (i := 22) rfl))) (notFace_of_selects (args := #[]) (mvT hZ (hw _ (List.mem_of_getElem? (i := 24) rfl)))) (mvT hZ (hw _ (List.mem_of_getElem? (i := 24) rfl))) (mvT hZ (hw _ (List.mem_of_getElem? (i := 23) rfl))) (by decide) (backOf (W := 0) (rmAdd2 l Z a0 hw [] b88 da_92 ia_92 kd_92 ki_92 ((((1 : Int32) <<< (mm &&& 31)) - (1 : Int32))) ((FP.i2d (i2 &&& (65535 : Int32)))) ((FP.i2d (((i2.toUInt32 >>> ((16 : Int32) &&& 31).toUInt32).toInt32) &&& (65535 : Int32)))) T106.heap n0 zl114 G106_0 G106_1 G106_2 G106_3 G106_4 G106_5 G106_6 G106_7 G106_8 F113 ge90 ge98 ge99 ne100 ne101 H92_2 ne102 ne103 ne104) hZ (hw _ (List.mem_of_getElem? (i := 25) rfl)) (hw _ (List.mem_of_getElem? (i := 6) rfl)) (by decide) (by decide)) q115a q115c (g := (mkF m 83 #[.val (.int i1), .val (.int i2), .val (.int i3), .val (.long d1), .second, .val (.int i4), .val (.int mm), .val (.int (2 : Int32)), .val (.ref b80), .val (.ref b87), .val (.ref b88), .unset] [(.double (FP.i2d (((i2.toUInt32 >>> ((16 : Int32) &&& 31).toUInt32).toInt32) &&& (65535 : Int32)))), (.ref b88)])) rfl (by rw [hml]; rfl) (Steps.refl _) (argsL := [(.double (FP.i2d (((i2.toUInt32 >>> ((16 : Int32) &&& 31).toUInt32).toInt32) &&& (65535 : Int32))))]) (rest := []) (lenOf pd__28D_29V rfl) rfl (by show 2 * 0 + _ ≤ _; exact Nat.le_of_eq rfl) (hb hby at_83) (fun _ _ => ⟨rfl, rfl, (by decide : 5 + 0 ≤ _), (by decide : 44 + 0 ≤ _)⟩)
    dsimp only [Pt.U, Pt.locs, Pt.cells, Pt.slots] at X115 l115 y115 z115 st115 hQ115
    subst l115 y115 z115
    obtain ⟨rfl, Nq115, Kp115, G115_0, G115_1, G115_2, G115_3, G115_4, G115_5, G115_6, G115_7, G115_8⟩ := hQ115
    have N115 := Fr.app N106 Nq115
    refine own_goT st115 ?_
    have le_115 : T106.heap.size ≤ T115.heap.size := Kp115.1
    have K115 : Keep h0 T115.heap [] := Keep.trans K106 Kp115 (allS (Or.inr sz93) (allS (Or.inr sz108) (allS (Or.inr sz107) all0)))
    refine own_go (fun _ => XS.iconst X115.here hx rfl (hb hby at_86)) ?_
    refine own_go (fun _ => XS.istore X115.here hx rfl (hb hby at_87) rfl (l' := #[.val (.int i1), .val (.int i2), .val (.int i3), .val (.long d1), .second, .val (.int i4), .val (.int mm), .val (.int (2 : Int32)), .val (.ref b80), .val (.ref b87), .val (.ref b88), .val (.int (1 : Int32))]) rfl) ?_
    show ∃ t o, Steps p.tables e below (T115.setTop (mkF m 89 #[.val (.int i1), .val (.int i2), .val (.int i3), .val (.long d1), .second, .val (.int i4), .val (.int mm), .val (.int (2 : Int32)), .val (.ref b80), .val (.ref b87), .val (.ref b88), .val (.int (1 : Int32))] [])) t ∧ _
    refine own_go (fun _ => XS.iload X115.here hx rfl (hb hby at_89) rfl) ?_
    refine own_go (fun _ => XS.aload X115.here hx rfl (hb hby at_91) rfl rfl) ?_
    refine own_go (fun _ => XS.iload X115.here hx rfl (hb hby at_93) rfl) ?_
    show ∃ t o, Steps p.tables e below (T115.setTop (mkF m 95 #[.val (.int i1), .val (.int i2), .val (.int i3), .val (.long d1), .second, .val (.int i4), .val (.int mm), .val (.int (2 : Int32)), .val (.ref b80), .val (.ref b87), .val (.ref b88), .val (.int (1 : Int32))] [(.int mm), (.ref b88), (.int (1 : Int32))])) t ∧ _
    refine own_go (fun _ => XS.iload X115.here hx rfl (hb hby at_95) rfl) ?_
    refine own_go (fun _ => XS.aload X115.here hx rfl (hb hby at_97) rfl rfl) ?_
    refine own_go (fun _ => XS.aload X115.here hx rfl (hb hby at_99) rfl rfl) ?_
    show ∃ t o, Steps p.tables e below (T115.setTop (mkF m 101 #[.val (.int i1), .val (.int i2), .val (.int i3), .val (.long d1), .second, .val (.int i4), .val (.int mm), .val (.int (2 : Int32)), .val (.ref b80), .val (.ref b87), .val (.ref b88), .val (.int (1 : Int32))] [(.ref b80), (.ref b87), (.int (2 : Int32)), (.int mm), (.ref b88), (.int (1 : Int32))])) t ∧ _
    refine own_go (fun _ => XS.iloadN X115.here hx rfl (hb hby at_101) rfl) ?_
    refine own_go (fun _ => XS.iconst X115.here hx rfl (hb hby at_102)) ?_
    refine own_go (fun _ => XS.iand X115.here hx rfl (hb hby at_103) rfl) ?_
    show ∃ t o, Steps p.tables e below (T115.setTop (mkF m 104 #[.val (.int i1), .val (.int i2), .val (.int i3), .val (.long d1), .second, .val (.int i4), .val (.int mm), .val (.int (2 : Int32)), .val (.ref b80), .val (.ref b87), .val (.ref b88), .val (.int (1 : Int32))] [(.int (i3 &&& (3 : Int32))), (.ref b80), (.ref b87), (.int (2 : Int32)), (.int mm), (.ref b88), (.int (1 : Int32))])) t ∧ _
    refine own_go (fun _ => XS.iload X115.here hx rfl (hb hby at_104) rfl) ?_
    refine own_go (fun _ => iremM X115 hx rfl (hb hby at_106) rfl (own_mz mm hm3)) ?_
    refine own_go (fun _ => XS.iloadN X115.here hx rfl (hb hby at_107) rfl) ?_
    show ∃ t o, Steps p.tables e below (T115.setTop (mkF m 108 #[.val (.int i1), .val (.int i2), .val (.int i3), .val (.long d1), .second, .val (.int i4), .val (.int mm), .val (.int (2 : Int32)), .val (.ref b80), .val (.ref b87), .val (.ref b88), .val (.int (1 : Int32))] [(.int i3), (.int ((i3 &&& (3 : Int32)) % mm)), (.ref b80), (.ref b87), (.int (2 : Int32)), (.int mm), (.ref b88), (.int (1 : Int32))])) t ∧ _
    refine own_go (fun _ => XS.iconst X115.here hx rfl (hb hby at_108)) ?_
    refine own_go (fun _ => XS.iushr X115.here hx rfl (hb hby at_109) rfl) ?_
    refine own_go (fun _ => XS.iconst X115.here hx rfl (hb hby at_110)) ?_
    show ∃ t o, Steps p.tables e below (T115.setTop (mkF m 111 #[.val (.int i1), .val (.int i2), .val (.int i3), .val (.long d1), .second, .val (.int i4), .val (.int mm), .val (.int (2 : Int32)), .val (.ref b80), .val (.ref b87), .val (.ref b88), .val (.int (1 : Int32))] [(.int (3 : Int32)), (.int ((i3.toUInt32 >>> ((2 : Int32) &&& 31).toUInt32).toInt32)), (.int ((i3 &&& (3 : Int32)) % mm)), (.ref b80), (.ref b87), (.int (2 : Int32)), (.int mm), (.ref b88), (.int (1 : Int32))])) t ∧ _
    refine own_go (fun _ => XS.iand X115.here hx rfl (hb hby at_111) rfl) ?_
    refine own_go (fun _ => XS.i2l X115.here hx rfl (hb hby at_112) rfl) ?_
    show ∃ t o, Steps p.tables e below (T115.setTop (mkF m 113 #[.val (.int i1), .val (.int i2), .val (.int i3), .val (.long d1), .second, .val (.int i4), .val (.int mm), .val (.int (2 : Int32)), .val (.ref b80), .val (.ref b87), .val (.ref b88), .val (.int (1 : Int32))] [(.long ((((i3.toUInt32 >>> ((2 : Int32) &&& 31).toUInt32).toInt32) &&& (3 : Int32)).toInt64)), (.int ((i3 &&& (3 : Int32)) % mm)), (.ref b80), (.ref b87), (.int (2 : Int32)), (.int mm), (.ref b88), (.int (1 : Int32))])) t ∧ _
    have ne116 : b87 ≠ b88 := own_ne (by omega)
    have ne117 : b87 ≠ ia_92 := own_ne (by omega)
    have ne118 : b87 ≠ da_92 := own_ne (by omega)
    have F119 : Arv Z T115.heap b87 k87 .int (3 : Int32) [(.int (0 : Int32)), (.int (0 : Int32)), (.int (0 : Int32))] (.int (0 : Int32)) := (Arv.keep (Arv.keep (Arv.keep (V_b87.ext E88) Kp92 (ninS ne116 nin0)) Kp106 (ninS ne116 (ninS ne118 (ninS ne117 nin0)))) Kp115 (ninS ne116 (ninS ne118 (ninS ne117 nin0))))
    have F120 : Arv Z T115.heap b80 k80 .double (3 : Int32) [(.double (0 : UInt64)), (.double (FP.i2d (i2 &&& (65535 : Int32)))), (.double (FP.i2d (((i2.toUInt32 >>> ((16 : Int32) &&& 31).toUInt32).toInt32) &&& (65535 : Int32))))] (.double (0 : UInt64)) := (Arv.keep F111 Kp115 (ninS ne94 (ninS ne110 (ninS ne109 nin0))))
    have F121 : Old Z n0 T115.heap := (Old.keep F113 Kp115 (allS ge90 (allS ge98 (allS ge99 all0))))
    have ge122 : n0 ≤ b87 := by omega
    have ne123 : b88 ≠ b87 := own_ne (by omega)
    have ne124 : da_92 ≠ b87 := own_ne (by omega)
    have ne125 : ia_92 ≠ b87 := own_ne (by omega)
    have ne126 : b88 ≠ b80 := own_ne (by omega)
    have ne127 : da_92 ≠ b80 := own_ne (by omega)
    have ne128 : ia_92 ≠ b80 := own_ne (by omega)
    have ne129 : b87 ≠ b80 := own_ne (by omega)
    have ne130 : b80 ≠ b87 := own_ne (by omega)
    have zl131 : n0 ≤ T115.heap.size := by omega
    obtain ⟨_, _, ⟨T132, L132, k132, n132⟩, -, X132, ⟨Lc132, hQ132, l132, y132, z132⟩, st132⟩ := Jvm.LawKit.callS X115 hx (y := (⟨"com/example/holdback/holdback/sim/InFlightDeliveredPinLaw", "check", "(Lcom/example/holdback/holdback/sim/InFlight;II[I[DIJ)Z"⟩ : MethodName)) hown (mvT hZ (hw _ (List.mem_of_getElem? (i := 30) rfl))) (mvT hZ (hw _ (List.mem_of_getElem? (i := 31) rfl))) (mvT hZ (hw _ (List.mem_of_getElem? (i := 32) rfl))) (mvT hZ (hw _ (List.mem_of_getElem? (i := 33) rfl))) (by decide) (backOf (W := 1) (rmCheck2 l Z a0 hw [] b88 da_92 ia_92 kd_92 ki_92 b87 b80 k87 k80 mm (0 : Int32) (2 : Int32) (1 : Int64) (0 : Int32) (0 : Int32) ((FP.i2d (i2 &&& (65535 : Int32)))) ((FP.i2d (((i2.toUInt32 >>> ((16 : Int32) &&& 31).toUInt32).toInt32) &&& (65535 : Int32)))) (((i3 &&& (3 : Int32)) % mm)) (((((i3.toUInt32 >>> ((2 : Int32) &&& 31).toUInt32).toInt32) &&& (3 : Int32)).toInt64)) T115.heap n0 zl131 G115_0 G115_1 G115_2 G115_3 G115_4 G115_5 G115_6 G115_7 G115_8 F119 F120 F121 ge90 ge98 ge99 ne100 ne101 H92_2 ne102 ne103 ne104 ge122 ne116 ne118 ne117 ne94 ne110 ne109 ne123 ne124 ne125 ne126 ne127 ne128 ne129 ne130 (Or.inl ⟨rfl, rfl, rfl, own_ev mm hm3⟩ : own_inv (2 : Int32) (((1 : Int32) <<< (mm &&& 31)) - (1 : Int32)) (0 : Int32) (2 : Int32) (1 : Int64) (0 : Int32) (0 : Int32)) (own_bit mm i3 hm3 : ((((1 : Int32) <<< (mm &&& 31)) - (1 : Int32)) ||| ((1 : Int32) <<< (((i3 &&& (3 : Int32)) % mm) &&& 31))) = (((1 : Int32) <<< (mm &&& 31)) - (1 : Int32))) (own_nn _ : Jvm.Free.Fl.NoNaN64 (FP.i2d (i2 &&& (65535 : Int32)))) (own_nn _ : Jvm.Free.Fl.NoNaN64 (FP.i2d (((i2.toUInt32 >>> ((16 : Int32) &&& 31).toUInt32).toInt32) &&& (65535 : Int32))))) hZ (hw _ (List.mem_of_getElem? (i := 33) rfl)) (hw _ (List.mem_of_getElem? (i := 32) rfl)) (by decide) (by decide)) (g := (mkF m 113 #[.val (.int i1), .val (.int i2), .val (.int i3), .val (.long d1), .second, .val (.int i4), .val (.int mm), .val (.int (2 : Int32)), .val (.ref b80), .val (.ref b87), .val (.ref b88), .val (.int (1 : Int32))] [(.long ((((i3.toUInt32 >>> ((2 : Int32) &&& 31).toUInt32).toInt32) &&& (3 : Int32)).toInt64)), (.int ((i3 &&& (3 : Int32)) % mm)), (.ref b80), (.ref b87), (.int (2 : Int32)), (.int mm), (.ref b88), (.int (1 : Int32))])) rfl (by rw [hml]; rfl) (argsL := [(.ref b88), (.int mm), (.int (2 : Int32)), (.ref b87), (.ref b80), (.int ((i3 &&& (3 : Int32)) % mm)), (.long ((((i3.toUInt32 >>> ((2 : Int32) &&& 31).toUInt32).toInt32) &&& (3 : Int32)).toInt64))]) (rest := [(.int (1 : Int32))]) (lenOf pd_h80816b9d rfl) rfl (by show 2 * 0 + _ ≤ _; exact Nat.le_of_eq rfl) (hb hby at_113) (fun _ _ => ⟨rfl, rfl, (by decide : 5 + 0 ≤ _), (by decide : 44 + 0 ≤ _)⟩)
    dsimp only [Pt.U, Pt.locs, Pt.cells, Pt.slots] at X132 l132 y132 z132 st132 hQ132
    subst l132 y132 z132
    obtain ⟨fi2_132, sz2_132, fq2_132, N1_132, N2_132, rfl, Nq132, Kp132, G132_0, G132_1, G132_2, G132_3, G132_4, G132_5, G132_6, G132_7, G132_8, H132_0⟩ := hQ132
    have N132 := Fr.app N115 Nq132
    refine own_go st132 ?_
    have le_132 : T115.heap.size ≤ T132.heap.size := Kp132.1
    have sz133 : h0.size ≤ b87 := by omega
    have K132 : Keep h0 T132.heap [] := Keep.trans K115 Kp132 (allS (Or.inr sz93) (allS (Or.inr sz107) (allS (Or.inr sz133) all0)))
    refine own_go (fun _ => XS.iand X132.here hx rfl (hb hby at_116) rfl) ?_
    refine own_go (fun _ => XS.istore X132.here hx rfl (hb hby at_117) rfl (l' := #[.val (.int i1), .val (.int i2), .val (.int i3), .val (.long d1), .second, .val (.int i4), .val (.int mm), .val (.int (2 : Int32)), .val (.ref b80), .val (.ref b87), .val (.ref b88), .val (.int (1 : Int32))]) rfl) ?_
    show ∃ t o, Steps p.tables e below (T132.setTop (mkF m 119 #[.val (.int i1), .val (.int i2), .val (.int i3), .val (.long d1), .second, .val (.int i4), .val (.int mm), .val (.int (2 : Int32)), .val (.ref b80), .val (.ref b87), .val (.ref b88), .val (.int (1 : Int32))] [])) t ∧ _
    refine own_go (fun _ => XS.iload X132.here hx rfl (hb hby at_119) rfl) ?_
    refine own_go (fun _ => XS.aload X132.here hx rfl (hb hby at_121) rfl rfl) ?_
    refine own_go (fun _ => XS.iload X132.here hx rfl (hb hby at_123) rfl) ?_
    show ∃ t o, Steps p.tables e below (T132.setTop (mkF m 125 #[.val (.int i1), .val (.int i2), .val (.int i3), .val (.long d1), .second, .val (.int i4), .val (.int mm), .val (.int (2 : Int32)), .val (.ref b80), .val (.ref b87), .val (.ref b88), .val (.int (1 : Int32))] [(.int mm), (.ref b88), (.int (1 : Int32))])) t ∧ _
    refine own_go (fun _ => XS.iload X132.here hx rfl (hb hby at_125) rfl) ?_
    refine own_go (fun _ => XS.aload X132.here hx rfl (hb hby at_127) rfl rfl) ?_
    refine own_go (fun _ => XS.aload X132.here hx rfl (hb hby at_129) rfl rfl) ?_
    show ∃ t o, Steps p.tables e below (T132.setTop (mkF m 131 #[.val (.int i1), .val (.int i2), .val (.int i3), .val (.long d1), .second, .val (.int i4), .val (.int mm), .val (.int (2 : Int32)), .val (.ref b80), .val (.ref b87), .val (.ref b88), .val (.int (1 : Int32))] [(.ref b80), (.ref b87), (.int (2 : Int32)), (.int mm), (.ref b88), (.int (1 : Int32))])) t ∧ _
    refine own_go (fun _ => XS.iloadN X132.here hx rfl (hb hby at_131) rfl) ?_
    refine own_go (fun _ => XS.iconst X132.here hx rfl (hb hby at_132)) ?_
    refine own_go (fun _ => XS.iushr X132.here hx rfl (hb hby at_133) rfl) ?_
    show ∃ t o, Steps p.tables e below (T132.setTop (mkF m 134 #[.val (.int i1), .val (.int i2), .val (.int i3), .val (.long d1), .second, .val (.int i4), .val (.int mm), .val (.int (2 : Int32)), .val (.ref b80), .val (.ref b87), .val (.ref b88), .val (.int (1 : Int32))] [(.int ((i3.toUInt32 >>> ((4 : Int32) &&& 31).toUInt32).toInt32)), (.ref b80), (.ref b87), (.int (2 : Int32)), (.int mm), (.ref b88), (.int (1 : Int32))])) t ∧ _
    refine own_go (fun _ => XS.iconst X132.here hx rfl (hb hby at_134)) ?_
    refine own_go (fun _ => XS.iand X132.here hx rfl (hb hby at_135) rfl) ?_
    refine own_go (fun _ => XS.iload X132.here hx rfl (hb hby at_136) rfl) ?_
    show ∃ t o, Steps p.tables e below (T132.setTop (mkF m 138 #[.val (.int i1), .val (.int i2), .val (.int i3), .val (.long d1), .second, .val (.int i4), .val (.int mm), .val (.int (2 : Int32)), .val (.ref b80), .val (.ref b87), .val (.ref b88), .val (.int (1 : Int32))] [(.int mm), (.int (((i3.toUInt32 >>> ((4 : Int32) &&& 31).toUInt32).toInt32) &&& (3 : Int32))), (.ref b80), (.ref b87), (.int (2 : Int32)), (.int mm), (.ref b88), (.int (1 : Int32))])) t ∧ _
    refine own_go (fun _ => iremM X132 hx rfl (hb hby at_138) rfl (own_mz mm hm3)) ?_
    refine own_go (fun _ => XS.iloadN X132.here hx rfl (hb hby at_139) rfl) ?_
    refine own_go (fun _ => XS.bipush X132.here hx rfl (hb hby at_140)) ?_
    show ∃ t o, Steps p.tables e below (T132.setTop (mkF m 142 #[.val (.int i1), .val (.int i2), .val (.int i3), .val (.long d1), .second, .val (.int i4), .val (.int mm), .val (.int (2 : Int32)), .val (.ref b80), .val (.ref b87), .val (.ref b88), .val (.int (1 : Int32))] [(.int (6 : Int32)), (.int i3), (.int ((((i3.toUInt32 >>> ((4 : Int32) &&& 31).toUInt32).toInt32) &&& (3 : Int32)) % mm)), (.ref b80), (.ref b87), (.int (2 : Int32)), (.int mm), (.ref b88), (.int (1 : Int32))])) t ∧ _
    refine own_go (fun _ => XS.iushr X132.here hx rfl (hb hby at_142) rfl) ?_
    refine own_go (fun _ => XS.iconst X132.here hx rfl (hb hby at_143)) ?_
    refine own_go (fun _ => XS.iand X132.here hx rfl (hb hby at_144) rfl) ?_
    show ∃ t o, Steps p.tables e below (T132.setTop (mkF m 145 #[.val (.int i1), .val (.int i2), .val (.int i3), .val (.long d1), .second, .val (.int i4), .val (.int mm), .val (.int (2 : Int32)), .val (.ref b80), .val (.ref b87), .val (.ref b88), .val (.int (1 : Int32))] [(.int (((i3.toUInt32 >>> ((6 : Int32) &&& 31).toUInt32).toInt32) &&& (3 : Int32))), (.int ((((i3.toUInt32 >>> ((4 : Int32) &&& 31).toUInt32).toInt32) &&& (3 : Int32)) % mm)), (.ref b80), (.ref b87), (.int (2 : Int32)), (.int mm), (.ref b88), (.int (1 : Int32))])) t ∧ _
    refine own_go (fun _ => XS.i2l X132.here hx rfl (hb hby at_145) rfl) ?_
    show ∃ t o, Steps p.tables e below (T132.setTop (mkF m 146 #[.val (.int i1), .val (.int i2), .val (.int i3), .val (.long d1), .second, .val (.int i4), .val (.int mm), .val (.int (2 : Int32)), .val (.ref b80), .val (.ref b87), .val (.ref b88), .val (.int (1 : Int32))] [(.long ((((i3.toUInt32 >>> ((6 : Int32) &&& 31).toUInt32).toInt32) &&& (3 : Int32)).toInt64)), (.int ((((i3.toUInt32 >>> ((4 : Int32) &&& 31).toUInt32).toInt32) &&& (3 : Int32)) % mm)), (.ref b80), (.ref b87), (.int (2 : Int32)), (.int mm), (.ref b88), (.int (1 : Int32))])) t ∧ _
    have F134 : Arv Z T132.heap da_92 kd_92 .double (16 : Int32) [(.double (FP.i2d (i2 &&& (65535 : Int32)))), (.double (FP.i2d (((i2.toUInt32 >>> ((16 : Int32) &&& 31).toUInt32).toInt32) &&& (65535 : Int32))))] (.double (0 : UInt64)) := (Arv.keep G115_7 Kp132 (ninS ne102 (ninS H92_2 (ninS ne124 nin0))))
    have F135 : Arv Z T132.heap b80 k80 .double (3 : Int32) [(.double (0 : UInt64)), (.double (FP.i2d (i2 &&& (65535 : Int32)))), (.double (FP.i2d (((i2.toUInt32 >>> ((16 : Int32) &&& 31).toUInt32).toInt32) &&& (65535 : Int32))))] (.double (0 : UInt64)) := (Arv.keep F120 Kp132 (ninS ne94 (ninS ne109 (ninS ne130 nin0))))
    have F136 : Old Z n0 T132.heap := (Old.keep F121 Kp132 (allS ge90 (allS ge99 (allS ge122 all0))))
    have zl137 : n0 ≤ T132.heap.size := by omega
    obtain ⟨_, _, ⟨T138, L138, k138, n138⟩, -, X138, ⟨Lc138, hQ138, l138, y138, z138⟩, st138⟩ := Jvm.LawKit.callS X132 hx (y := (⟨"com/example/holdback/holdback/sim/InFlightDeliveredPinLaw", "check", "(Lcom/example/holdback/holdback/sim/InFlight;II[I[DIJ)Z"⟩ : MethodName)) hown (mvT hZ (hw _ (List.mem_of_getElem? (i := 30) rfl))) (mvT hZ (hw _ (List.mem_of_getElem? (i := 31) rfl))) (mvT hZ (hw _ (List.mem_of_getElem? (i := 32) rfl))) (mvT hZ (hw _ (List.mem_of_getElem? (i := 33) rfl))) (by decide) (backOf (W := 1) (rmCheck2 l Z a0 hw [] b88 da_92 ia_92 kd_92 ki_92 b87 b80 k87 k80 mm fi2_132 sz2_132 fq2_132 N1_132 N2_132 ((FP.i2d (i2 &&& (65535 : Int32)))) ((FP.i2d (((i2.toUInt32 >>> ((16 : Int32) &&& 31).toUInt32).toInt32) &&& (65535 : Int32)))) (((((i3.toUInt32 >>> ((4 : Int32) &&& 31).toUInt32).toInt32) &&& (3 : Int32)) % mm)) (((((i3.toUInt32 >>> ((6 : Int32) &&& 31).toUInt32).toInt32) &&& (3 : Int32)).toInt64)) T132.heap n0 zl137 G132_0 G132_1 G132_2 G132_3 G132_4 G132_5 G132_6 F134 G132_7 G132_8 F135 F136 ge90 ge98 ge99 ne100 ne101 H92_2 ne102 ne103 ne104 ge122 ne116 ne118 ne117 ne94 ne110 ne109 ne123 ne124 ne125 ne126 ne127 ne128 ne129 ne130 H132_0 (own_bit mm ((i3.toUInt32 >>> ((4 : Int32) &&& 31).toUInt32).toInt32) hm3 : ((((1 : Int32) <<< (mm &&& 31)) - (1 : Int32)) ||| ((1 : Int32) <<< (((((i3.toUInt32 >>> ((4 : Int32) &&& 31).toUInt32).toInt32) &&& (3 : Int32)) % mm) &&& 31))) = (((1 : Int32) <<< (mm &&& 31)) - (1 : Int32))) (own_nn _ : Jvm.Free.Fl.NoNaN64 (FP.i2d (i2 &&& (65535 : Int32)))) (own_nn _ : Jvm.Free.Fl.NoNaN64 (FP.i2d (((i2.toUInt32 >>> ((16 : Int32) &&& 31).toUInt32).toInt32) &&& (65535 : Int32))))) hZ (hw _ (List.mem_of_getElem? (i := 33) rfl)) (hw _ (List.mem_of_getElem? (i := 32) rfl)) (by decide) (by decide)) (g := (mkF m 146 #[.val (.int i1), .val (.int i2), .val (.int i3), .val (.long d1), .second, .val (.int i4), .val (.int mm), .val (.int (2 : Int32)), .val (.ref b80), .val (.ref b87), .val (.ref b88), .val (.int (1 : Int32))] [(.long ((((i3.toUInt32 >>> ((6 : Int32) &&& 31).toUInt32).toInt32) &&& (3 : Int32)).toInt64)), (.int ((((i3.toUInt32 >>> ((4 : Int32) &&& 31).toUInt32).toInt32) &&& (3 : Int32)) % mm)), (.ref b80), (.ref b87), (.int (2 : Int32)), (.int mm), (.ref b88), (.int (1 : Int32))])) rfl (by rw [hml]; rfl) (argsL := [(.ref b88), (.int mm), (.int (2 : Int32)), (.ref b87), (.ref b80), (.int ((((i3.toUInt32 >>> ((4 : Int32) &&& 31).toUInt32).toInt32) &&& (3 : Int32)) % mm)), (.long ((((i3.toUInt32 >>> ((6 : Int32) &&& 31).toUInt32).toInt32) &&& (3 : Int32)).toInt64))]) (rest := [(.int (1 : Int32))]) (lenOf pd_h80816b9d rfl) rfl (by show 2 * 0 + _ ≤ _; exact Nat.le_of_eq rfl) (hb hby at_146) (fun _ _ => ⟨rfl, rfl, (by decide : 5 + 0 ≤ _), (by decide : 44 + 0 ≤ _)⟩)
    dsimp only [Pt.U, Pt.locs, Pt.cells, Pt.slots] at X138 l138 y138 z138 st138 hQ138
    subst l138 y138 z138
    obtain ⟨fi2_138, sz2_138, fq2_138, N1_138, N2_138, rfl, Nq138, Kp138, G138_0, G138_1, G138_2, G138_3, G138_4, G138_5, G138_6, G138_7, G138_8, H138_0⟩ := hQ138
    have N138 := Fr.app N132 Nq138
    refine own_go st138 ?_
    have le_138 : T132.heap.size ≤ T138.heap.size := Kp138.1
    have K138 : Keep h0 T138.heap [] := Keep.trans K132 Kp138 (allS (Or.inr sz93) (allS (Or.inr sz107) (allS (Or.inr sz133) all0)))
    refine own_go (fun _ => XS.iand X138.here hx rfl (hb hby at_149) rfl) ?_
    refine own_go (fun _ => XS.istore X138.here hx rfl (hb hby at_150) rfl (l' := #[.val (.int i1), .val (.int i2), .val (.int i3), .val (.long d1), .second, .val (.int i4), .val (.int mm), .val (.int (2 : Int32)), .val (.ref b80), .val (.ref b87), .val (.ref b88), .val (.int (1 : Int32))]) rfl) ?_
    show ∃ t o, Steps p.tables e below (T138.setTop (mkF m 152 #[.val (.int i1), .val (.int i2), .val (.int i3), .val (.long d1), .second, .val (.int i4), .val (.int mm), .val (.int (2 : Int32)), .val (.ref b80), .val (.ref b87), .val (.ref b88), .val (.int (1 : Int32))] [])) t ∧ _
    refine own_go (fun _ => XS.iload X138.here hx rfl (hb hby at_152) rfl) ?_
    refine own_go (fun _ => XS.aload X138.here hx rfl (hb hby at_154) rfl rfl) ?_
    refine own_go (fun _ => XS.iload X138.here hx rfl (hb hby at_156) rfl) ?_
    show ∃ t o, Steps p.tables e below (T138.setTop (mkF m 158 #[.val (.int i1), .val (.int i2), .val (.int i3), .val (.long d1), .second, .val (.int i4), .val (.int mm), .val (.int (2 : Int32)), .val (.ref b80), .val (.ref b87), .val (.ref b88), .val (.int (1 : Int32))] [(.int mm), (.ref b88), (.int (1 : Int32))])) t ∧ _
    refine own_go (fun _ => XS.iload X138.here hx rfl (hb hby at_158) rfl) ?_
    refine own_go (fun _ => XS.aload X138.here hx rfl (hb hby at_160) rfl rfl) ?_
    refine own_go (fun _ => XS.aload X138.here hx rfl (hb hby at_162) rfl rfl) ?_
    show ∃ t o, Steps p.tables e below (T138.setTop (mkF m 164 #[.val (.int i1), .val (.int i2), .val (.int i3), .val (.long d1), .second, .val (.int i4), .val (.int mm), .val (.int (2 : Int32)), .val (.ref b80), .val (.ref b87), .val (.ref b88), .val (.int (1 : Int32))] [(.ref b80), (.ref b87), (.int (2 : Int32)), (.int mm), (.ref b88), (.int (1 : Int32))])) t ∧ _
    refine own_go (fun _ => XS.iloadN X138.here hx rfl (hb hby at_164) rfl) ?_
    refine own_go (fun _ => XS.bipush X138.here hx rfl (hb hby at_165)) ?_
    refine own_go (fun _ => XS.iushr X138.here hx rfl (hb hby at_167) rfl) ?_
    show ∃ t o, Steps p.tables e below (T138.setTop (mkF m 168 #[.val (.int i1), .val (.int i2), .val (.int i3), .val (.long d1), .second, .val (.int i4), .val (.int mm), .val (.int (2 : Int32)), .val (.ref b80), .val (.ref b87), .val (.ref b88), .val (.int (1 : Int32))] [(.int ((i3.toUInt32 >>> ((8 : Int32) &&& 31).toUInt32).toInt32)), (.ref b80), (.ref b87), (.int (2 : Int32)), (.int mm), (.ref b88), (.int (1 : Int32))])) t ∧ _
    refine own_go (fun _ => XS.iconst X138.here hx rfl (hb hby at_168)) ?_
    refine own_go (fun _ => XS.iand X138.here hx rfl (hb hby at_169) rfl) ?_
    refine own_go (fun _ => XS.iload X138.here hx rfl (hb hby at_170) rfl) ?_
    show ∃ t o, Steps p.tables e below (T138.setTop (mkF m 172 #[.val (.int i1), .val (.int i2), .val (.int i3), .val (.long d1), .second, .val (.int i4), .val (.int mm), .val (.int (2 : Int32)), .val (.ref b80), .val (.ref b87), .val (.ref b88), .val (.int (1 : Int32))] [(.int mm), (.int (((i3.toUInt32 >>> ((8 : Int32) &&& 31).toUInt32).toInt32) &&& (3 : Int32))), (.ref b80), (.ref b87), (.int (2 : Int32)), (.int mm), (.ref b88), (.int (1 : Int32))])) t ∧ _
    refine own_go (fun _ => iremM X138 hx rfl (hb hby at_172) rfl (own_mz mm hm3)) ?_
    refine own_go (fun _ => XS.iloadN X138.here hx rfl (hb hby at_173) rfl) ?_
    refine own_go (fun _ => XS.bipush X138.here hx rfl (hb hby at_174)) ?_
    show ∃ t o, Steps p.tables e below (T138.setTop (mkF m 176 #[.val (.int i1), .val (.int i2), .val (.int i3), .val (.long d1), .second, .val (.int i4), .val (.int mm), .val (.int (2 : Int32)), .val (.ref b80), .val (.ref b87), .val (.ref b88), .val (.int (1 : Int32))] [(.int (10 : Int32)), (.int i3), (.int ((((i3.toUInt32 >>> ((8 : Int32) &&& 31).toUInt32).toInt32) &&& (3 : Int32)) % mm)), (.ref b80), (.ref b87), (.int (2 : Int32)), (.int mm), (.ref b88), (.int (1 : Int32))])) t ∧ _
    refine own_go (fun _ => XS.iushr X138.here hx rfl (hb hby at_176) rfl) ?_
    refine own_go (fun _ => XS.iconst X138.here hx rfl (hb hby at_177)) ?_
    refine own_go (fun _ => XS.iand X138.here hx rfl (hb hby at_178) rfl) ?_
    show ∃ t o, Steps p.tables e below (T138.setTop (mkF m 179 #[.val (.int i1), .val (.int i2), .val (.int i3), .val (.long d1), .second, .val (.int i4), .val (.int mm), .val (.int (2 : Int32)), .val (.ref b80), .val (.ref b87), .val (.ref b88), .val (.int (1 : Int32))] [(.int (((i3.toUInt32 >>> ((10 : Int32) &&& 31).toUInt32).toInt32) &&& (3 : Int32))), (.int ((((i3.toUInt32 >>> ((8 : Int32) &&& 31).toUInt32).toInt32) &&& (3 : Int32)) % mm)), (.ref b80), (.ref b87), (.int (2 : Int32)), (.int mm), (.ref b88), (.int (1 : Int32))])) t ∧ _
    refine own_go (fun _ => XS.i2l X138.here hx rfl (hb hby at_179) rfl) ?_
    show ∃ t o, Steps p.tables e below (T138.setTop (mkF m 180 #[.val (.int i1), .val (.int i2), .val (.int i3), .val (.long d1), .second, .val (.int i4), .val (.int mm), .val (.int (2 : Int32)), .val (.ref b80), .val (.ref b87), .val (.ref b88), .val (.int (1 : Int32))] [(.long ((((i3.toUInt32 >>> ((10 : Int32) &&& 31).toUInt32).toInt32) &&& (3 : Int32)).toInt64)), (.int ((((i3.toUInt32 >>> ((8 : Int32) &&& 31).toUInt32).toInt32) &&& (3 : Int32)) % mm)), (.ref b80), (.ref b87), (.int (2 : Int32)), (.int mm), (.ref b88), (.int (1 : Int32))])) t ∧ _
    have F139 : Arv Z T138.heap da_92 kd_92 .double (16 : Int32) [(.double (FP.i2d (i2 &&& (65535 : Int32)))), (.double (FP.i2d (((i2.toUInt32 >>> ((16 : Int32) &&& 31).toUInt32).toInt32) &&& (65535 : Int32))))] (.double (0 : UInt64)) := (Arv.keep F134 Kp138 (ninS ne102 (ninS H92_2 (ninS ne124 nin0))))
    have F140 : Arv Z T138.heap b80 k80 .double (3 : Int32) [(.double (0 : UInt64)), (.double (FP.i2d (i2 &&& (65535 : Int32)))), (.double (FP.i2d (((i2.toUInt32 >>> ((16 : Int32) &&& 31).toUInt32).toInt32) &&& (65535 : Int32))))] (.double (0 : UInt64)) := (Arv.keep F135 Kp138 (ninS ne94 (ninS ne109 (ninS ne130 nin0))))
    have F141 : Old Z n0 T138.heap := (Old.keep F136 Kp138 (allS ge90 (allS ge99 (allS ge122 all0))))
    have zl142 : n0 ≤ T138.heap.size := by omega
    obtain ⟨_, _, ⟨T143, L143, k143, n143⟩, -, X143, ⟨Lc143, hQ143, l143, y143, z143⟩, st143⟩ := Jvm.LawKit.callS X138 hx (y := (⟨"com/example/holdback/holdback/sim/InFlightDeliveredPinLaw", "check", "(Lcom/example/holdback/holdback/sim/InFlight;II[I[DIJ)Z"⟩ : MethodName)) hown (mvT hZ (hw _ (List.mem_of_getElem? (i := 30) rfl))) (mvT hZ (hw _ (List.mem_of_getElem? (i := 31) rfl))) (mvT hZ (hw _ (List.mem_of_getElem? (i := 32) rfl))) (mvT hZ (hw _ (List.mem_of_getElem? (i := 33) rfl))) (by decide) (backOf (W := 1) (rmCheck2 l Z a0 hw [] b88 da_92 ia_92 kd_92 ki_92 b87 b80 k87 k80 mm fi2_138 sz2_138 fq2_138 N1_138 N2_138 ((FP.i2d (i2 &&& (65535 : Int32)))) ((FP.i2d (((i2.toUInt32 >>> ((16 : Int32) &&& 31).toUInt32).toInt32) &&& (65535 : Int32)))) (((((i3.toUInt32 >>> ((8 : Int32) &&& 31).toUInt32).toInt32) &&& (3 : Int32)) % mm)) (((((i3.toUInt32 >>> ((10 : Int32) &&& 31).toUInt32).toInt32) &&& (3 : Int32)).toInt64)) T138.heap n0 zl142 G138_0 G138_1 G138_2 G138_3 G138_4 G138_5 G138_6 F139 G138_7 G138_8 F140 F141 ge90 ge98 ge99 ne100 ne101 H92_2 ne102 ne103 ne104 ge122 ne116 ne118 ne117 ne94 ne110 ne109 ne123 ne124 ne125 ne126 ne127 ne128 ne129 ne130 H138_0 (own_bit mm ((i3.toUInt32 >>> ((8 : Int32) &&& 31).toUInt32).toInt32) hm3 : ((((1 : Int32) <<< (mm &&& 31)) - (1 : Int32)) ||| ((1 : Int32) <<< (((((i3.toUInt32 >>> ((8 : Int32) &&& 31).toUInt32).toInt32) &&& (3 : Int32)) % mm) &&& 31))) = (((1 : Int32) <<< (mm &&& 31)) - (1 : Int32))) (own_nn _ : Jvm.Free.Fl.NoNaN64 (FP.i2d (i2 &&& (65535 : Int32)))) (own_nn _ : Jvm.Free.Fl.NoNaN64 (FP.i2d (((i2.toUInt32 >>> ((16 : Int32) &&& 31).toUInt32).toInt32) &&& (65535 : Int32))))) hZ (hw _ (List.mem_of_getElem? (i := 33) rfl)) (hw _ (List.mem_of_getElem? (i := 32) rfl)) (by decide) (by decide)) (g := (mkF m 180 #[.val (.int i1), .val (.int i2), .val (.int i3), .val (.long d1), .second, .val (.int i4), .val (.int mm), .val (.int (2 : Int32)), .val (.ref b80), .val (.ref b87), .val (.ref b88), .val (.int (1 : Int32))] [(.long ((((i3.toUInt32 >>> ((10 : Int32) &&& 31).toUInt32).toInt32) &&& (3 : Int32)).toInt64)), (.int ((((i3.toUInt32 >>> ((8 : Int32) &&& 31).toUInt32).toInt32) &&& (3 : Int32)) % mm)), (.ref b80), (.ref b87), (.int (2 : Int32)), (.int mm), (.ref b88), (.int (1 : Int32))])) rfl (by rw [hml]; rfl) (argsL := [(.ref b88), (.int mm), (.int (2 : Int32)), (.ref b87), (.ref b80), (.int ((((i3.toUInt32 >>> ((8 : Int32) &&& 31).toUInt32).toInt32) &&& (3 : Int32)) % mm)), (.long ((((i3.toUInt32 >>> ((10 : Int32) &&& 31).toUInt32).toInt32) &&& (3 : Int32)).toInt64))]) (rest := [(.int (1 : Int32))]) (lenOf pd_h80816b9d rfl) rfl (by show 2 * 0 + _ ≤ _; exact Nat.le_of_eq rfl) (hb hby at_180) (fun _ _ => ⟨rfl, rfl, (by decide : 5 + 0 ≤ _), (by decide : 44 + 0 ≤ _)⟩)
    dsimp only [Pt.U, Pt.locs, Pt.cells, Pt.slots] at X143 l143 y143 z143 st143 hQ143
    subst l143 y143 z143
    obtain ⟨fi2_143, sz2_143, fq2_143, N1_143, N2_143, rfl, Nq143, Kp143, G143_0, G143_1, G143_2, G143_3, G143_4, G143_5, G143_6, G143_7, G143_8, H143_0⟩ := hQ143
    have N143 := Fr.app N138 Nq143
    refine own_go st143 ?_
    have le_143 : T138.heap.size ≤ T143.heap.size := Kp143.1
    have K143 : Keep h0 T143.heap [] := Keep.trans K138 Kp143 (allS (Or.inr sz93) (allS (Or.inr sz107) (allS (Or.inr sz133) all0)))
    refine own_go (fun _ => XS.iand X143.here hx rfl (hb hby at_183) rfl) ?_
    refine own_go (fun _ => XS.istore X143.here hx rfl (hb hby at_184) rfl (l' := #[.val (.int i1), .val (.int i2), .val (.int i3), .val (.long d1), .second, .val (.int i4), .val (.int mm), .val (.int (2 : Int32)), .val (.ref b80), .val (.ref b87), .val (.ref b88), .val (.int (1 : Int32))]) rfl) ?_
    show ∃ t o, Steps p.tables e below (T143.setTop (mkF m 186 #[.val (.int i1), .val (.int i2), .val (.int i3), .val (.long d1), .second, .val (.int i4), .val (.int mm), .val (.int (2 : Int32)), .val (.ref b80), .val (.ref b87), .val (.ref b88), .val (.int (1 : Int32))] [])) t ∧ _
    refine own_go (fun _ => XS.iload X143.here hx rfl (hb hby at_186) rfl) ?_
    refine own_go (fun _ => XS.aload X143.here hx rfl (hb hby at_188) rfl rfl) ?_
    refine own_go (fun _ => XS.iload X143.here hx rfl (hb hby at_190) rfl) ?_
    show ∃ t o, Steps p.tables e below (T143.setTop (mkF m 192 #[.val (.int i1), .val (.int i2), .val (.int i3), .val (.long d1), .second, .val (.int i4), .val (.int mm), .val (.int (2 : Int32)), .val (.ref b80), .val (.ref b87), .val (.ref b88), .val (.int (1 : Int32))] [(.int mm), (.ref b88), (.int (1 : Int32))])) t ∧ _
    refine own_go (fun _ => XS.iload X143.here hx rfl (hb hby at_192) rfl) ?_
    refine own_go (fun _ => XS.aload X143.here hx rfl (hb hby at_194) rfl rfl) ?_
    refine own_go (fun _ => XS.aload X143.here hx rfl (hb hby at_196) rfl rfl) ?_
    show ∃ t o, Steps p.tables e below (T143.setTop (mkF m 198 #[.val (.int i1), .val (.int i2), .val (.int i3), .val (.long d1), .second, .val (.int i4), .val (.int mm), .val (.int (2 : Int32)), .val (.ref b80), .val (.ref b87), .val (.ref b88), .val (.int (1 : Int32))] [(.ref b80), (.ref b87), (.int (2 : Int32)), (.int mm), (.ref b88), (.int (1 : Int32))])) t ∧ _
    refine own_go (fun _ => XS.iloadN X143.here hx rfl (hb hby at_198) rfl) ?_
    refine own_go (fun _ => XS.bipush X143.here hx rfl (hb hby at_199)) ?_
    refine own_go (fun _ => XS.iushr X143.here hx rfl (hb hby at_201) rfl) ?_
    show ∃ t o, Steps p.tables e below (T143.setTop (mkF m 202 #[.val (.int i1), .val (.int i2), .val (.int i3), .val (.long d1), .second, .val (.int i4), .val (.int mm), .val (.int (2 : Int32)), .val (.ref b80), .val (.ref b87), .val (.ref b88), .val (.int (1 : Int32))] [(.int ((i3.toUInt32 >>> ((12 : Int32) &&& 31).toUInt32).toInt32)), (.ref b80), (.ref b87), (.int (2 : Int32)), (.int mm), (.ref b88), (.int (1 : Int32))])) t ∧ _
    refine own_go (fun _ => XS.iconst X143.here hx rfl (hb hby at_202)) ?_
    refine own_go (fun _ => XS.iand X143.here hx rfl (hb hby at_203) rfl) ?_
    refine own_go (fun _ => XS.iload X143.here hx rfl (hb hby at_204) rfl) ?_
    show ∃ t o, Steps p.tables e below (T143.setTop (mkF m 206 #[.val (.int i1), .val (.int i2), .val (.int i3), .val (.long d1), .second, .val (.int i4), .val (.int mm), .val (.int (2 : Int32)), .val (.ref b80), .val (.ref b87), .val (.ref b88), .val (.int (1 : Int32))] [(.int mm), (.int (((i3.toUInt32 >>> ((12 : Int32) &&& 31).toUInt32).toInt32) &&& (3 : Int32))), (.ref b80), (.ref b87), (.int (2 : Int32)), (.int mm), (.ref b88), (.int (1 : Int32))])) t ∧ _
    refine own_go (fun _ => iremM X143 hx rfl (hb hby at_206) rfl (own_mz mm hm3)) ?_
    refine own_go (fun _ => XS.iloadN X143.here hx rfl (hb hby at_207) rfl) ?_
    refine own_go (fun _ => XS.bipush X143.here hx rfl (hb hby at_208)) ?_
    show ∃ t o, Steps p.tables e below (T143.setTop (mkF m 210 #[.val (.int i1), .val (.int i2), .val (.int i3), .val (.long d1), .second, .val (.int i4), .val (.int mm), .val (.int (2 : Int32)), .val (.ref b80), .val (.ref b87), .val (.ref b88), .val (.int (1 : Int32))] [(.int (14 : Int32)), (.int i3), (.int ((((i3.toUInt32 >>> ((12 : Int32) &&& 31).toUInt32).toInt32) &&& (3 : Int32)) % mm)), (.ref b80), (.ref b87), (.int (2 : Int32)), (.int mm), (.ref b88), (.int (1 : Int32))])) t ∧ _
    refine own_go (fun _ => XS.iushr X143.here hx rfl (hb hby at_210) rfl) ?_
    refine own_go (fun _ => XS.iconst X143.here hx rfl (hb hby at_211)) ?_
    refine own_go (fun _ => XS.iand X143.here hx rfl (hb hby at_212) rfl) ?_
    show ∃ t o, Steps p.tables e below (T143.setTop (mkF m 213 #[.val (.int i1), .val (.int i2), .val (.int i3), .val (.long d1), .second, .val (.int i4), .val (.int mm), .val (.int (2 : Int32)), .val (.ref b80), .val (.ref b87), .val (.ref b88), .val (.int (1 : Int32))] [(.int (((i3.toUInt32 >>> ((14 : Int32) &&& 31).toUInt32).toInt32) &&& (3 : Int32))), (.int ((((i3.toUInt32 >>> ((12 : Int32) &&& 31).toUInt32).toInt32) &&& (3 : Int32)) % mm)), (.ref b80), (.ref b87), (.int (2 : Int32)), (.int mm), (.ref b88), (.int (1 : Int32))])) t ∧ _
    refine own_go (fun _ => XS.i2l X143.here hx rfl (hb hby at_213) rfl) ?_
    show ∃ t o, Steps p.tables e below (T143.setTop (mkF m 214 #[.val (.int i1), .val (.int i2), .val (.int i3), .val (.long d1), .second, .val (.int i4), .val (.int mm), .val (.int (2 : Int32)), .val (.ref b80), .val (.ref b87), .val (.ref b88), .val (.int (1 : Int32))] [(.long ((((i3.toUInt32 >>> ((14 : Int32) &&& 31).toUInt32).toInt32) &&& (3 : Int32)).toInt64)), (.int ((((i3.toUInt32 >>> ((12 : Int32) &&& 31).toUInt32).toInt32) &&& (3 : Int32)) % mm)), (.ref b80), (.ref b87), (.int (2 : Int32)), (.int mm), (.ref b88), (.int (1 : Int32))])) t ∧ _
    have F144 : Arv Z T143.heap da_92 kd_92 .double (16 : Int32) [(.double (FP.i2d (i2 &&& (65535 : Int32)))), (.double (FP.i2d (((i2.toUInt32 >>> ((16 : Int32) &&& 31).toUInt32).toInt32) &&& (65535 : Int32))))] (.double (0 : UInt64)) := (Arv.keep F139 Kp143 (ninS ne102 (ninS H92_2 (ninS ne124 nin0))))
    have F145 : Arv Z T143.heap b80 k80 .double (3 : Int32) [(.double (0 : UInt64)), (.double (FP.i2d (i2 &&& (65535 : Int32)))), (.double (FP.i2d (((i2.toUInt32 >>> ((16 : Int32) &&& 31).toUInt32).toInt32) &&& (65535 : Int32))))] (.double (0 : UInt64)) := (Arv.keep F140 Kp143 (ninS ne94 (ninS ne109 (ninS ne130 nin0))))
    have F146 : Old Z n0 T143.heap := (Old.keep F141 Kp143 (allS ge90 (allS ge99 (allS ge122 all0))))
    have zl147 : n0 ≤ T143.heap.size := by omega
    obtain ⟨_, _, ⟨T148, L148, k148, n148⟩, -, X148, ⟨Lc148, hQ148, l148, y148, z148⟩, st148⟩ := Jvm.LawKit.callS X143 hx (y := (⟨"com/example/holdback/holdback/sim/InFlightDeliveredPinLaw", "check", "(Lcom/example/holdback/holdback/sim/InFlight;II[I[DIJ)Z"⟩ : MethodName)) hown (mvT hZ (hw _ (List.mem_of_getElem? (i := 30) rfl))) (mvT hZ (hw _ (List.mem_of_getElem? (i := 31) rfl))) (mvT hZ (hw _ (List.mem_of_getElem? (i := 32) rfl))) (mvT hZ (hw _ (List.mem_of_getElem? (i := 33) rfl))) (by decide) (backOf (W := 1) (rmCheck2 l Z a0 hw [] b88 da_92 ia_92 kd_92 ki_92 b87 b80 k87 k80 mm fi2_143 sz2_143 fq2_143 N1_143 N2_143 ((FP.i2d (i2 &&& (65535 : Int32)))) ((FP.i2d (((i2.toUInt32 >>> ((16 : Int32) &&& 31).toUInt32).toInt32) &&& (65535 : Int32)))) (((((i3.toUInt32 >>> ((12 : Int32) &&& 31).toUInt32).toInt32) &&& (3 : Int32)) % mm)) (((((i3.toUInt32 >>> ((14 : Int32) &&& 31).toUInt32).toInt32) &&& (3 : Int32)).toInt64)) T143.heap n0 zl147 G143_0 G143_1 G143_2 G143_3 G143_4 G143_5 G143_6 F144 G143_7 G143_8 F145 F146 ge90 ge98 ge99 ne100 ne101 H92_2 ne102 ne103 ne104 ge122 ne116 ne118 ne117 ne94 ne110 ne109 ne123 ne124 ne125 ne126 ne127 ne128 ne129 ne130 H143_0 (own_bit mm ((i3.toUInt32 >>> ((12 : Int32) &&& 31).toUInt32).toInt32) hm3 : ((((1 : Int32) <<< (mm &&& 31)) - (1 : Int32)) ||| ((1 : Int32) <<< (((((i3.toUInt32 >>> ((12 : Int32) &&& 31).toUInt32).toInt32) &&& (3 : Int32)) % mm) &&& 31))) = (((1 : Int32) <<< (mm &&& 31)) - (1 : Int32))) (own_nn _ : Jvm.Free.Fl.NoNaN64 (FP.i2d (i2 &&& (65535 : Int32)))) (own_nn _ : Jvm.Free.Fl.NoNaN64 (FP.i2d (((i2.toUInt32 >>> ((16 : Int32) &&& 31).toUInt32).toInt32) &&& (65535 : Int32))))) hZ (hw _ (List.mem_of_getElem? (i := 33) rfl)) (hw _ (List.mem_of_getElem? (i := 32) rfl)) (by decide) (by decide)) (g := (mkF m 214 #[.val (.int i1), .val (.int i2), .val (.int i3), .val (.long d1), .second, .val (.int i4), .val (.int mm), .val (.int (2 : Int32)), .val (.ref b80), .val (.ref b87), .val (.ref b88), .val (.int (1 : Int32))] [(.long ((((i3.toUInt32 >>> ((14 : Int32) &&& 31).toUInt32).toInt32) &&& (3 : Int32)).toInt64)), (.int ((((i3.toUInt32 >>> ((12 : Int32) &&& 31).toUInt32).toInt32) &&& (3 : Int32)) % mm)), (.ref b80), (.ref b87), (.int (2 : Int32)), (.int mm), (.ref b88), (.int (1 : Int32))])) rfl (by rw [hml]; rfl) (argsL := [(.ref b88), (.int mm), (.int (2 : Int32)), (.ref b87), (.ref b80), (.int ((((i3.toUInt32 >>> ((12 : Int32) &&& 31).toUInt32).toInt32) &&& (3 : Int32)) % mm)), (.long ((((i3.toUInt32 >>> ((14 : Int32) &&& 31).toUInt32).toInt32) &&& (3 : Int32)).toInt64))]) (rest := [(.int (1 : Int32))]) (lenOf pd_h80816b9d rfl) rfl (by show 2 * 0 + _ ≤ _; exact Nat.le_of_eq rfl) (hb hby at_214) (fun _ _ => ⟨rfl, rfl, (by decide : 5 + 0 ≤ _), (by decide : 44 + 0 ≤ _)⟩)
    dsimp only [Pt.U, Pt.locs, Pt.cells, Pt.slots] at X148 l148 y148 z148 st148 hQ148
    subst l148 y148 z148
    obtain ⟨fi2_148, sz2_148, fq2_148, N1_148, N2_148, rfl, Nq148, Kp148, G148_0, G148_1, G148_2, G148_3, G148_4, G148_5, G148_6, G148_7, G148_8, H148_0⟩ := hQ148
    have N148 := Fr.app N143 Nq148
    refine own_go st148 ?_
    have le_148 : T143.heap.size ≤ T148.heap.size := Kp148.1
    have K148 : Keep h0 T148.heap [] := Keep.trans K143 Kp148 (allS (Or.inr sz93) (allS (Or.inr sz107) (allS (Or.inr sz133) all0)))
    refine own_go (fun _ => XS.iand X148.here hx rfl (hb hby at_217) rfl) ?_
    refine own_go (fun _ => XS.istore X148.here hx rfl (hb hby at_218) rfl (l' := #[.val (.int i1), .val (.int i2), .val (.int i3), .val (.long d1), .second, .val (.int i4), .val (.int mm), .val (.int (2 : Int32)), .val (.ref b80), .val (.ref b87), .val (.ref b88), .val (.int (1 : Int32))]) rfl) ?_
    show ∃ t o, Steps p.tables e below (T148.setTop (mkF m 220 #[.val (.int i1), .val (.int i2), .val (.int i3), .val (.long d1), .second, .val (.int i4), .val (.int mm), .val (.int (2 : Int32)), .val (.ref b80), .val (.ref b87), .val (.ref b88), .val (.int (1 : Int32))] [])) t ∧ _
    refine own_go (fun _ => XS.iload X148.here hx rfl (hb hby at_220) rfl) ?_
    refine own_go (fun _ => XS.aload X148.here hx rfl (hb hby at_222) rfl rfl) ?_
    refine own_go (fun _ => XS.iload X148.here hx rfl (hb hby at_224) rfl) ?_
    show ∃ t o, Steps p.tables e below (T148.setTop (mkF m 226 #[.val (.int i1), .val (.int i2), .val (.int i3), .val (.long d1), .second, .val (.int i4), .val (.int mm), .val (.int (2 : Int32)), .val (.ref b80), .val (.ref b87), .val (.ref b88), .val (.int (1 : Int32))] [(.int mm), (.ref b88), (.int (1 : Int32))])) t ∧ _
    refine own_go (fun _ => XS.iload X148.here hx rfl (hb hby at_226) rfl) ?_
    refine own_go (fun _ => XS.aload X148.here hx rfl (hb hby at_228) rfl rfl) ?_
    refine own_go (fun _ => XS.aload X148.here hx rfl (hb hby at_230) rfl rfl) ?_
    show ∃ t o, Steps p.tables e below (T148.setTop (mkF m 232 #[.val (.int i1), .val (.int i2), .val (.int i3), .val (.long d1), .second, .val (.int i4), .val (.int mm), .val (.int (2 : Int32)), .val (.ref b80), .val (.ref b87), .val (.ref b88), .val (.int (1 : Int32))] [(.ref b80), (.ref b87), (.int (2 : Int32)), (.int mm), (.ref b88), (.int (1 : Int32))])) t ∧ _
    refine own_go (fun _ => XS.iloadN X148.here hx rfl (hb hby at_232) rfl) ?_
    refine own_go (fun _ => XS.bipush X148.here hx rfl (hb hby at_233)) ?_
    refine own_go (fun _ => XS.iushr X148.here hx rfl (hb hby at_235) rfl) ?_
    show ∃ t o, Steps p.tables e below (T148.setTop (mkF m 236 #[.val (.int i1), .val (.int i2), .val (.int i3), .val (.long d1), .second, .val (.int i4), .val (.int mm), .val (.int (2 : Int32)), .val (.ref b80), .val (.ref b87), .val (.ref b88), .val (.int (1 : Int32))] [(.int ((i3.toUInt32 >>> ((16 : Int32) &&& 31).toUInt32).toInt32)), (.ref b80), (.ref b87), (.int (2 : Int32)), (.int mm), (.ref b88), (.int (1 : Int32))])) t ∧ _
    refine own_go (fun _ => XS.iconst X148.here hx rfl (hb hby at_236)) ?_
    refine own_go (fun _ => XS.iand X148.here hx rfl (hb hby at_237) rfl) ?_
    refine own_go (fun _ => XS.iload X148.here hx rfl (hb hby at_238) rfl) ?_
    show ∃ t o, Steps p.tables e below (T148.setTop (mkF m 240 #[.val (.int i1), .val (.int i2), .val (.int i3), .val (.long d1), .second, .val (.int i4), .val (.int mm), .val (.int (2 : Int32)), .val (.ref b80), .val (.ref b87), .val (.ref b88), .val (.int (1 : Int32))] [(.int mm), (.int (((i3.toUInt32 >>> ((16 : Int32) &&& 31).toUInt32).toInt32) &&& (3 : Int32))), (.ref b80), (.ref b87), (.int (2 : Int32)), (.int mm), (.ref b88), (.int (1 : Int32))])) t ∧ _
    refine own_go (fun _ => iremM X148 hx rfl (hb hby at_240) rfl (own_mz mm hm3)) ?_
    refine own_go (fun _ => XS.iloadN X148.here hx rfl (hb hby at_241) rfl) ?_
    refine own_go (fun _ => XS.bipush X148.here hx rfl (hb hby at_242)) ?_
    show ∃ t o, Steps p.tables e below (T148.setTop (mkF m 244 #[.val (.int i1), .val (.int i2), .val (.int i3), .val (.long d1), .second, .val (.int i4), .val (.int mm), .val (.int (2 : Int32)), .val (.ref b80), .val (.ref b87), .val (.ref b88), .val (.int (1 : Int32))] [(.int (18 : Int32)), (.int i3), (.int ((((i3.toUInt32 >>> ((16 : Int32) &&& 31).toUInt32).toInt32) &&& (3 : Int32)) % mm)), (.ref b80), (.ref b87), (.int (2 : Int32)), (.int mm), (.ref b88), (.int (1 : Int32))])) t ∧ _
    refine own_go (fun _ => XS.iushr X148.here hx rfl (hb hby at_244) rfl) ?_
    refine own_go (fun _ => XS.iconst X148.here hx rfl (hb hby at_245)) ?_
    refine own_go (fun _ => XS.iand X148.here hx rfl (hb hby at_246) rfl) ?_
    show ∃ t o, Steps p.tables e below (T148.setTop (mkF m 247 #[.val (.int i1), .val (.int i2), .val (.int i3), .val (.long d1), .second, .val (.int i4), .val (.int mm), .val (.int (2 : Int32)), .val (.ref b80), .val (.ref b87), .val (.ref b88), .val (.int (1 : Int32))] [(.int (((i3.toUInt32 >>> ((18 : Int32) &&& 31).toUInt32).toInt32) &&& (3 : Int32))), (.int ((((i3.toUInt32 >>> ((16 : Int32) &&& 31).toUInt32).toInt32) &&& (3 : Int32)) % mm)), (.ref b80), (.ref b87), (.int (2 : Int32)), (.int mm), (.ref b88), (.int (1 : Int32))])) t ∧ _
    refine own_go (fun _ => XS.i2l X148.here hx rfl (hb hby at_247) rfl) ?_
    show ∃ t o, Steps p.tables e below (T148.setTop (mkF m 248 #[.val (.int i1), .val (.int i2), .val (.int i3), .val (.long d1), .second, .val (.int i4), .val (.int mm), .val (.int (2 : Int32)), .val (.ref b80), .val (.ref b87), .val (.ref b88), .val (.int (1 : Int32))] [(.long ((((i3.toUInt32 >>> ((18 : Int32) &&& 31).toUInt32).toInt32) &&& (3 : Int32)).toInt64)), (.int ((((i3.toUInt32 >>> ((16 : Int32) &&& 31).toUInt32).toInt32) &&& (3 : Int32)) % mm)), (.ref b80), (.ref b87), (.int (2 : Int32)), (.int mm), (.ref b88), (.int (1 : Int32))])) t ∧ _
    have F149 : Arv Z T148.heap da_92 kd_92 .double (16 : Int32) [(.double (FP.i2d (i2 &&& (65535 : Int32)))), (.double (FP.i2d (((i2.toUInt32 >>> ((16 : Int32) &&& 31).toUInt32).toInt32) &&& (65535 : Int32))))] (.double (0 : UInt64)) := (Arv.keep F144 Kp148 (ninS ne102 (ninS H92_2 (ninS ne124 nin0))))
    have F150 : Arv Z T148.heap b80 k80 .double (3 : Int32) [(.double (0 : UInt64)), (.double (FP.i2d (i2 &&& (65535 : Int32)))), (.double (FP.i2d (((i2.toUInt32 >>> ((16 : Int32) &&& 31).toUInt32).toInt32) &&& (65535 : Int32))))] (.double (0 : UInt64)) := (Arv.keep F145 Kp148 (ninS ne94 (ninS ne109 (ninS ne130 nin0))))
    have F151 : Old Z n0 T148.heap := (Old.keep F146 Kp148 (allS ge90 (allS ge99 (allS ge122 all0))))
    have zl152 : n0 ≤ T148.heap.size := by omega
    obtain ⟨_, _, ⟨T153, L153, k153, n153⟩, -, X153, ⟨Lc153, hQ153, l153, y153, z153⟩, st153⟩ := Jvm.LawKit.callS X148 hx (y := (⟨"com/example/holdback/holdback/sim/InFlightDeliveredPinLaw", "check", "(Lcom/example/holdback/holdback/sim/InFlight;II[I[DIJ)Z"⟩ : MethodName)) hown (mvT hZ (hw _ (List.mem_of_getElem? (i := 30) rfl))) (mvT hZ (hw _ (List.mem_of_getElem? (i := 31) rfl))) (mvT hZ (hw _ (List.mem_of_getElem? (i := 32) rfl))) (mvT hZ (hw _ (List.mem_of_getElem? (i := 33) rfl))) (by decide) (backOf (W := 1) (rmCheck2 l Z a0 hw [] b88 da_92 ia_92 kd_92 ki_92 b87 b80 k87 k80 mm fi2_148 sz2_148 fq2_148 N1_148 N2_148 ((FP.i2d (i2 &&& (65535 : Int32)))) ((FP.i2d (((i2.toUInt32 >>> ((16 : Int32) &&& 31).toUInt32).toInt32) &&& (65535 : Int32)))) (((((i3.toUInt32 >>> ((16 : Int32) &&& 31).toUInt32).toInt32) &&& (3 : Int32)) % mm)) (((((i3.toUInt32 >>> ((18 : Int32) &&& 31).toUInt32).toInt32) &&& (3 : Int32)).toInt64)) T148.heap n0 zl152 G148_0 G148_1 G148_2 G148_3 G148_4 G148_5 G148_6 F149 G148_7 G148_8 F150 F151 ge90 ge98 ge99 ne100 ne101 H92_2 ne102 ne103 ne104 ge122 ne116 ne118 ne117 ne94 ne110 ne109 ne123 ne124 ne125 ne126 ne127 ne128 ne129 ne130 H148_0 (own_bit mm ((i3.toUInt32 >>> ((16 : Int32) &&& 31).toUInt32).toInt32) hm3 : ((((1 : Int32) <<< (mm &&& 31)) - (1 : Int32)) ||| ((1 : Int32) <<< (((((i3.toUInt32 >>> ((16 : Int32) &&& 31).toUInt32).toInt32) &&& (3 : Int32)) % mm) &&& 31))) = (((1 : Int32) <<< (mm &&& 31)) - (1 : Int32))) (own_nn _ : Jvm.Free.Fl.NoNaN64 (FP.i2d (i2 &&& (65535 : Int32)))) (own_nn _ : Jvm.Free.Fl.NoNaN64 (FP.i2d (((i2.toUInt32 >>> ((16 : Int32) &&& 31).toUInt32).toInt32) &&& (65535 : Int32))))) hZ (hw _ (List.mem_of_getElem? (i := 33) rfl)) (hw _ (List.mem_of_getElem? (i := 32) rfl)) (by decide) (by decide)) (g := (mkF m 248 #[.val (.int i1), .val (.int i2), .val (.int i3), .val (.long d1), .second, .val (.int i4), .val (.int mm), .val (.int (2 : Int32)), .val (.ref b80), .val (.ref b87), .val (.ref b88), .val (.int (1 : Int32))] [(.long ((((i3.toUInt32 >>> ((18 : Int32) &&& 31).toUInt32).toInt32) &&& (3 : Int32)).toInt64)), (.int ((((i3.toUInt32 >>> ((16 : Int32) &&& 31).toUInt32).toInt32) &&& (3 : Int32)) % mm)), (.ref b80), (.ref b87), (.int (2 : Int32)), (.int mm), (.ref b88), (.int (1 : Int32))])) rfl (by rw [hml]; rfl) (argsL := [(.ref b88), (.int mm), (.int (2 : Int32)), (.ref b87), (.ref b80), (.int ((((i3.toUInt32 >>> ((16 : Int32) &&& 31).toUInt32).toInt32) &&& (3 : Int32)) % mm)), (.long ((((i3.toUInt32 >>> ((18 : Int32) &&& 31).toUInt32).toInt32) &&& (3 : Int32)).toInt64))]) (rest := [(.int (1 : Int32))]) (lenOf pd_h80816b9d rfl) rfl (by show 2 * 0 + _ ≤ _; exact Nat.le_of_eq rfl) (hb hby at_248) (fun _ _ => ⟨rfl, rfl, (by decide : 5 + 0 ≤ _), (by decide : 44 + 0 ≤ _)⟩)
    dsimp only [Pt.U, Pt.locs, Pt.cells, Pt.slots] at X153 l153 y153 z153 st153 hQ153
    subst l153 y153 z153
    obtain ⟨fi2_153, sz2_153, fq2_153, N1_153, N2_153, rfl, Nq153, Kp153, G153_0, G153_1, G153_2, G153_3, G153_4, G153_5, G153_6, G153_7, G153_8, H153_0⟩ := hQ153
    have N153 := Fr.app N148 Nq153
    refine own_go st153 ?_
    have le_153 : T148.heap.size ≤ T153.heap.size := Kp153.1
    have K153 : Keep h0 T153.heap [] := Keep.trans K148 Kp153 (allS (Or.inr sz93) (allS (Or.inr sz107) (allS (Or.inr sz133) all0)))
    refine own_go (fun _ => XS.iand X153.here hx rfl (hb hby at_251) rfl) ?_
    refine own_go (fun _ => XS.istore X153.here hx rfl (hb hby at_252) rfl (l' := #[.val (.int i1), .val (.int i2), .val (.int i3), .val (.long d1), .second, .val (.int i4), .val (.int mm), .val (.int (2 : Int32)), .val (.ref b80), .val (.ref b87), .val (.ref b88), .val (.int (1 : Int32))]) rfl) ?_
    show ∃ t o, Steps p.tables e below (T153.setTop (mkF m 254 #[.val (.int i1), .val (.int i2), .val (.int i3), .val (.long d1), .second, .val (.int i4), .val (.int mm), .val (.int (2 : Int32)), .val (.ref b80), .val (.ref b87), .val (.ref b88), .val (.int (1 : Int32))] [])) t ∧ _
    refine own_go (fun _ => XS.iload X153.here hx rfl (hb hby at_254) rfl) ?_
    refine own_go (fun _ => XS.aload X153.here hx rfl (hb hby at_256) rfl rfl) ?_
    refine own_go (fun _ => XS.iload X153.here hx rfl (hb hby at_258) rfl) ?_
    show ∃ t o, Steps p.tables e below (T153.setTop (mkF m 260 #[.val (.int i1), .val (.int i2), .val (.int i3), .val (.long d1), .second, .val (.int i4), .val (.int mm), .val (.int (2 : Int32)), .val (.ref b80), .val (.ref b87), .val (.ref b88), .val (.int (1 : Int32))] [(.int mm), (.ref b88), (.int (1 : Int32))])) t ∧ _
    refine own_go (fun _ => XS.iload X153.here hx rfl (hb hby at_260) rfl) ?_
    refine own_go (fun _ => XS.aload X153.here hx rfl (hb hby at_262) rfl rfl) ?_
    refine own_go (fun _ => XS.aload X153.here hx rfl (hb hby at_264) rfl rfl) ?_
    show ∃ t o, Steps p.tables e below (T153.setTop (mkF m 266 #[.val (.int i1), .val (.int i2), .val (.int i3), .val (.long d1), .second, .val (.int i4), .val (.int mm), .val (.int (2 : Int32)), .val (.ref b80), .val (.ref b87), .val (.ref b88), .val (.int (1 : Int32))] [(.ref b80), (.ref b87), (.int (2 : Int32)), (.int mm), (.ref b88), (.int (1 : Int32))])) t ∧ _
    refine own_go (fun _ => XS.iloadN X153.here hx rfl (hb hby at_266) rfl) ?_
    refine own_go (fun _ => XS.bipush X153.here hx rfl (hb hby at_267)) ?_
    refine own_go (fun _ => XS.iushr X153.here hx rfl (hb hby at_269) rfl) ?_
    show ∃ t o, Steps p.tables e below (T153.setTop (mkF m 270 #[.val (.int i1), .val (.int i2), .val (.int i3), .val (.long d1), .second, .val (.int i4), .val (.int mm), .val (.int (2 : Int32)), .val (.ref b80), .val (.ref b87), .val (.ref b88), .val (.int (1 : Int32))] [(.int ((i3.toUInt32 >>> ((20 : Int32) &&& 31).toUInt32).toInt32)), (.ref b80), (.ref b87), (.int (2 : Int32)), (.int mm), (.ref b88), (.int (1 : Int32))])) t ∧ _
    refine own_go (fun _ => XS.iconst X153.here hx rfl (hb hby at_270)) ?_
    refine own_go (fun _ => XS.iand X153.here hx rfl (hb hby at_271) rfl) ?_
    refine own_go (fun _ => XS.iload X153.here hx rfl (hb hby at_272) rfl) ?_
    show ∃ t o, Steps p.tables e below (T153.setTop (mkF m 274 #[.val (.int i1), .val (.int i2), .val (.int i3), .val (.long d1), .second, .val (.int i4), .val (.int mm), .val (.int (2 : Int32)), .val (.ref b80), .val (.ref b87), .val (.ref b88), .val (.int (1 : Int32))] [(.int mm), (.int (((i3.toUInt32 >>> ((20 : Int32) &&& 31).toUInt32).toInt32) &&& (3 : Int32))), (.ref b80), (.ref b87), (.int (2 : Int32)), (.int mm), (.ref b88), (.int (1 : Int32))])) t ∧ _
    refine own_go (fun _ => iremM X153 hx rfl (hb hby at_274) rfl (own_mz mm hm3)) ?_
    refine own_go (fun _ => XS.iloadN X153.here hx rfl (hb hby at_275) rfl) ?_
    refine own_go (fun _ => XS.bipush X153.here hx rfl (hb hby at_276)) ?_
    show ∃ t o, Steps p.tables e below (T153.setTop (mkF m 278 #[.val (.int i1), .val (.int i2), .val (.int i3), .val (.long d1), .second, .val (.int i4), .val (.int mm), .val (.int (2 : Int32)), .val (.ref b80), .val (.ref b87), .val (.ref b88), .val (.int (1 : Int32))] [(.int (22 : Int32)), (.int i3), (.int ((((i3.toUInt32 >>> ((20 : Int32) &&& 31).toUInt32).toInt32) &&& (3 : Int32)) % mm)), (.ref b80), (.ref b87), (.int (2 : Int32)), (.int mm), (.ref b88), (.int (1 : Int32))])) t ∧ _
    refine own_go (fun _ => XS.iushr X153.here hx rfl (hb hby at_278) rfl) ?_
    refine own_go (fun _ => XS.iconst X153.here hx rfl (hb hby at_279)) ?_
    refine own_go (fun _ => XS.iand X153.here hx rfl (hb hby at_280) rfl) ?_
    show ∃ t o, Steps p.tables e below (T153.setTop (mkF m 281 #[.val (.int i1), .val (.int i2), .val (.int i3), .val (.long d1), .second, .val (.int i4), .val (.int mm), .val (.int (2 : Int32)), .val (.ref b80), .val (.ref b87), .val (.ref b88), .val (.int (1 : Int32))] [(.int (((i3.toUInt32 >>> ((22 : Int32) &&& 31).toUInt32).toInt32) &&& (3 : Int32))), (.int ((((i3.toUInt32 >>> ((20 : Int32) &&& 31).toUInt32).toInt32) &&& (3 : Int32)) % mm)), (.ref b80), (.ref b87), (.int (2 : Int32)), (.int mm), (.ref b88), (.int (1 : Int32))])) t ∧ _
    refine own_go (fun _ => XS.i2l X153.here hx rfl (hb hby at_281) rfl) ?_
    show ∃ t o, Steps p.tables e below (T153.setTop (mkF m 282 #[.val (.int i1), .val (.int i2), .val (.int i3), .val (.long d1), .second, .val (.int i4), .val (.int mm), .val (.int (2 : Int32)), .val (.ref b80), .val (.ref b87), .val (.ref b88), .val (.int (1 : Int32))] [(.long ((((i3.toUInt32 >>> ((22 : Int32) &&& 31).toUInt32).toInt32) &&& (3 : Int32)).toInt64)), (.int ((((i3.toUInt32 >>> ((20 : Int32) &&& 31).toUInt32).toInt32) &&& (3 : Int32)) % mm)), (.ref b80), (.ref b87), (.int (2 : Int32)), (.int mm), (.ref b88), (.int (1 : Int32))])) t ∧ _
    have F154 : Arv Z T153.heap da_92 kd_92 .double (16 : Int32) [(.double (FP.i2d (i2 &&& (65535 : Int32)))), (.double (FP.i2d (((i2.toUInt32 >>> ((16 : Int32) &&& 31).toUInt32).toInt32) &&& (65535 : Int32))))] (.double (0 : UInt64)) := (Arv.keep F149 Kp153 (ninS ne102 (ninS H92_2 (ninS ne124 nin0))))
    have F155 : Arv Z T153.heap b80 k80 .double (3 : Int32) [(.double (0 : UInt64)), (.double (FP.i2d (i2 &&& (65535 : Int32)))), (.double (FP.i2d (((i2.toUInt32 >>> ((16 : Int32) &&& 31).toUInt32).toInt32) &&& (65535 : Int32))))] (.double (0 : UInt64)) := (Arv.keep F150 Kp153 (ninS ne94 (ninS ne109 (ninS ne130 nin0))))
    have F156 : Old Z n0 T153.heap := (Old.keep F151 Kp153 (allS ge90 (allS ge99 (allS ge122 all0))))
    have zl157 : n0 ≤ T153.heap.size := by omega
    obtain ⟨_, _, ⟨T158, L158, k158, n158⟩, -, X158, ⟨Lc158, hQ158, l158, y158, z158⟩, st158⟩ := Jvm.LawKit.callS X153 hx (y := (⟨"com/example/holdback/holdback/sim/InFlightDeliveredPinLaw", "check", "(Lcom/example/holdback/holdback/sim/InFlight;II[I[DIJ)Z"⟩ : MethodName)) hown (mvT hZ (hw _ (List.mem_of_getElem? (i := 30) rfl))) (mvT hZ (hw _ (List.mem_of_getElem? (i := 31) rfl))) (mvT hZ (hw _ (List.mem_of_getElem? (i := 32) rfl))) (mvT hZ (hw _ (List.mem_of_getElem? (i := 33) rfl))) (by decide) (backOf (W := 1) (rmCheck2 l Z a0 hw [] b88 da_92 ia_92 kd_92 ki_92 b87 b80 k87 k80 mm fi2_153 sz2_153 fq2_153 N1_153 N2_153 ((FP.i2d (i2 &&& (65535 : Int32)))) ((FP.i2d (((i2.toUInt32 >>> ((16 : Int32) &&& 31).toUInt32).toInt32) &&& (65535 : Int32)))) (((((i3.toUInt32 >>> ((20 : Int32) &&& 31).toUInt32).toInt32) &&& (3 : Int32)) % mm)) (((((i3.toUInt32 >>> ((22 : Int32) &&& 31).toUInt32).toInt32) &&& (3 : Int32)).toInt64)) T153.heap n0 zl157 G153_0 G153_1 G153_2 G153_3 G153_4 G153_5 G153_6 F154 G153_7 G153_8 F155 F156 ge90 ge98 ge99 ne100 ne101 H92_2 ne102 ne103 ne104 ge122 ne116 ne118 ne117 ne94 ne110 ne109 ne123 ne124 ne125 ne126 ne127 ne128 ne129 ne130 H153_0 (own_bit mm ((i3.toUInt32 >>> ((20 : Int32) &&& 31).toUInt32).toInt32) hm3 : ((((1 : Int32) <<< (mm &&& 31)) - (1 : Int32)) ||| ((1 : Int32) <<< (((((i3.toUInt32 >>> ((20 : Int32) &&& 31).toUInt32).toInt32) &&& (3 : Int32)) % mm) &&& 31))) = (((1 : Int32) <<< (mm &&& 31)) - (1 : Int32))) (own_nn _ : Jvm.Free.Fl.NoNaN64 (FP.i2d (i2 &&& (65535 : Int32)))) (own_nn _ : Jvm.Free.Fl.NoNaN64 (FP.i2d (((i2.toUInt32 >>> ((16 : Int32) &&& 31).toUInt32).toInt32) &&& (65535 : Int32))))) hZ (hw _ (List.mem_of_getElem? (i := 33) rfl)) (hw _ (List.mem_of_getElem? (i := 32) rfl)) (by decide) (by decide)) (g := (mkF m 282 #[.val (.int i1), .val (.int i2), .val (.int i3), .val (.long d1), .second, .val (.int i4), .val (.int mm), .val (.int (2 : Int32)), .val (.ref b80), .val (.ref b87), .val (.ref b88), .val (.int (1 : Int32))] [(.long ((((i3.toUInt32 >>> ((22 : Int32) &&& 31).toUInt32).toInt32) &&& (3 : Int32)).toInt64)), (.int ((((i3.toUInt32 >>> ((20 : Int32) &&& 31).toUInt32).toInt32) &&& (3 : Int32)) % mm)), (.ref b80), (.ref b87), (.int (2 : Int32)), (.int mm), (.ref b88), (.int (1 : Int32))])) rfl (by rw [hml]; rfl) (argsL := [(.ref b88), (.int mm), (.int (2 : Int32)), (.ref b87), (.ref b80), (.int ((((i3.toUInt32 >>> ((20 : Int32) &&& 31).toUInt32).toInt32) &&& (3 : Int32)) % mm)), (.long ((((i3.toUInt32 >>> ((22 : Int32) &&& 31).toUInt32).toInt32) &&& (3 : Int32)).toInt64))]) (rest := [(.int (1 : Int32))]) (lenOf pd_h80816b9d rfl) rfl (by show 2 * 0 + _ ≤ _; exact Nat.le_of_eq rfl) (hb hby at_282) (fun _ _ => ⟨rfl, rfl, (by decide : 5 + 0 ≤ _), (by decide : 44 + 0 ≤ _)⟩)
    dsimp only [Pt.U, Pt.locs, Pt.cells, Pt.slots] at X158 l158 y158 z158 st158 hQ158
    subst l158 y158 z158
    obtain ⟨fi2_158, sz2_158, fq2_158, N1_158, N2_158, rfl, Nq158, Kp158, G158_0, G158_1, G158_2, G158_3, G158_4, G158_5, G158_6, G158_7, G158_8, H158_0⟩ := hQ158
    have N158 := Fr.app N153 Nq158
    refine own_go st158 ?_
    have le_158 : T153.heap.size ≤ T158.heap.size := Kp158.1
    have K158 : Keep h0 T158.heap [] := Keep.trans K153 Kp158 (allS (Or.inr sz93) (allS (Or.inr sz107) (allS (Or.inr sz133) all0)))
    refine own_go (fun _ => XS.iand X158.here hx rfl (hb hby at_285) rfl) ?_
    refine own_go (fun _ => XS.istore X158.here hx rfl (hb hby at_286) rfl (l' := #[.val (.int i1), .val (.int i2), .val (.int i3), .val (.long d1), .second, .val (.int i4), .val (.int mm), .val (.int (2 : Int32)), .val (.ref b80), .val (.ref b87), .val (.ref b88), .val (.int (1 : Int32))]) rfl) ?_
    show ∃ t o, Steps p.tables e below (T158.setTop (mkF m 288 #[.val (.int i1), .val (.int i2), .val (.int i3), .val (.long d1), .second, .val (.int i4), .val (.int mm), .val (.int (2 : Int32)), .val (.ref b80), .val (.ref b87), .val (.ref b88), .val (.int (1 : Int32))] [])) t ∧ _
    refine own_go (fun _ => XS.iload X158.here hx rfl (hb hby at_288) rfl) ?_
    refine own_go (fun _ => XS.aload X158.here hx rfl (hb hby at_290) rfl rfl) ?_
    refine own_go (fun _ => XS.iload X158.here hx rfl (hb hby at_292) rfl) ?_
    show ∃ t o, Steps p.tables e below (T158.setTop (mkF m 294 #[.val (.int i1), .val (.int i2), .val (.int i3), .val (.long d1), .second, .val (.int i4), .val (.int mm), .val (.int (2 : Int32)), .val (.ref b80), .val (.ref b87), .val (.ref b88), .val (.int (1 : Int32))] [(.int mm), (.ref b88), (.int (1 : Int32))])) t ∧ _
    refine own_go (fun _ => XS.iload X158.here hx rfl (hb hby at_294) rfl) ?_
    refine own_go (fun _ => XS.aload X158.here hx rfl (hb hby at_296) rfl rfl) ?_
    refine own_go (fun _ => XS.aload X158.here hx rfl (hb hby at_298) rfl rfl) ?_
    show ∃ t o, Steps p.tables e below (T158.setTop (mkF m 300 #[.val (.int i1), .val (.int i2), .val (.int i3), .val (.long d1), .second, .val (.int i4), .val (.int mm), .val (.int (2 : Int32)), .val (.ref b80), .val (.ref b87), .val (.ref b88), .val (.int (1 : Int32))] [(.ref b80), (.ref b87), (.int (2 : Int32)), (.int mm), (.ref b88), (.int (1 : Int32))])) t ∧ _
    refine own_go (fun _ => XS.iload X158.here hx rfl (hb hby at_300) rfl) ?_
    refine own_go (fun _ => XS.iconst X158.here hx rfl (hb hby at_302)) ?_
    refine own_go (fun _ => XS.iand X158.here hx rfl (hb hby at_303) rfl) ?_
    show ∃ t o, Steps p.tables e below (T158.setTop (mkF m 304 #[.val (.int i1), .val (.int i2), .val (.int i3), .val (.long d1), .second, .val (.int i4), .val (.int mm), .val (.int (2 : Int32)), .val (.ref b80), .val (.ref b87), .val (.ref b88), .val (.int (1 : Int32))] [(.int (i4 &&& (3 : Int32))), (.ref b80), (.ref b87), (.int (2 : Int32)), (.int mm), (.ref b88), (.int (1 : Int32))])) t ∧ _
    refine own_go (fun _ => XS.iload X158.here hx rfl (hb hby at_304) rfl) ?_
    refine own_go (fun _ => iremM X158 hx rfl (hb hby at_306) rfl (own_mz mm hm3)) ?_
    refine own_go (fun _ => XS.lloadN X158.here hx rfl (hb hby at_307) rfl) ?_
    show ∃ t o, Steps p.tables e below (T158.setTop (mkF m 308 #[.val (.int i1), .val (.int i2), .val (.int i3), .val (.long d1), .second, .val (.int i4), .val (.int mm), .val (.int (2 : Int32)), .val (.ref b80), .val (.ref b87), .val (.ref b88), .val (.int (1 : Int32))] [(.long d1), (.int ((i4 &&& (3 : Int32)) % mm)), (.ref b80), (.ref b87), (.int (2 : Int32)), (.int mm), (.ref b88), (.int (1 : Int32))])) t ∧ _
    have F159 : Arv Z T158.heap da_92 kd_92 .double (16 : Int32) [(.double (FP.i2d (i2 &&& (65535 : Int32)))), (.double (FP.i2d (((i2.toUInt32 >>> ((16 : Int32) &&& 31).toUInt32).toInt32) &&& (65535 : Int32))))] (.double (0 : UInt64)) := (Arv.keep F154 Kp158 (ninS ne102 (ninS H92_2 (ninS ne124 nin0))))
    have F160 : Arv Z T158.heap b80 k80 .double (3 : Int32) [(.double (0 : UInt64)), (.double (FP.i2d (i2 &&& (65535 : Int32)))), (.double (FP.i2d (((i2.toUInt32 >>> ((16 : Int32) &&& 31).toUInt32).toInt32) &&& (65535 : Int32))))] (.double (0 : UInt64)) := (Arv.keep F155 Kp158 (ninS ne94 (ninS ne109 (ninS ne130 nin0))))
    have F161 : Old Z n0 T158.heap := (Old.keep F156 Kp158 (allS ge90 (allS ge99 (allS ge122 all0))))
    have zl162 : n0 ≤ T158.heap.size := by omega
    obtain ⟨_, _, ⟨T163, L163, k163, n163⟩, -, X163, ⟨Lc163, hQ163, l163, y163, z163⟩, st163⟩ := Jvm.LawKit.callS X158 hx (y := (⟨"com/example/holdback/holdback/sim/InFlightDeliveredPinLaw", "check", "(Lcom/example/holdback/holdback/sim/InFlight;II[I[DIJ)Z"⟩ : MethodName)) hown (mvT hZ (hw _ (List.mem_of_getElem? (i := 30) rfl))) (mvT hZ (hw _ (List.mem_of_getElem? (i := 31) rfl))) (mvT hZ (hw _ (List.mem_of_getElem? (i := 32) rfl))) (mvT hZ (hw _ (List.mem_of_getElem? (i := 33) rfl))) (by decide) (backOf (W := 1) (rmCheck2 l Z a0 hw [] b88 da_92 ia_92 kd_92 ki_92 b87 b80 k87 k80 mm fi2_158 sz2_158 fq2_158 N1_158 N2_158 ((FP.i2d (i2 &&& (65535 : Int32)))) ((FP.i2d (((i2.toUInt32 >>> ((16 : Int32) &&& 31).toUInt32).toInt32) &&& (65535 : Int32)))) (((i4 &&& (3 : Int32)) % mm)) d1 T158.heap n0 zl162 G158_0 G158_1 G158_2 G158_3 G158_4 G158_5 G158_6 F159 G158_7 G158_8 F160 F161 ge90 ge98 ge99 ne100 ne101 H92_2 ne102 ne103 ne104 ge122 ne116 ne118 ne117 ne94 ne110 ne109 ne123 ne124 ne125 ne126 ne127 ne128 ne129 ne130 H158_0 (own_bit mm i4 hm3 : ((((1 : Int32) <<< (mm &&& 31)) - (1 : Int32)) ||| ((1 : Int32) <<< (((i4 &&& (3 : Int32)) % mm) &&& 31))) = (((1 : Int32) <<< (mm &&& 31)) - (1 : Int32))) (own_nn _ : Jvm.Free.Fl.NoNaN64 (FP.i2d (i2 &&& (65535 : Int32)))) (own_nn _ : Jvm.Free.Fl.NoNaN64 (FP.i2d (((i2.toUInt32 >>> ((16 : Int32) &&& 31).toUInt32).toInt32) &&& (65535 : Int32))))) hZ (hw _ (List.mem_of_getElem? (i := 33) rfl)) (hw _ (List.mem_of_getElem? (i := 32) rfl)) (by decide) (by decide)) (g := (mkF m 308 #[.val (.int i1), .val (.int i2), .val (.int i3), .val (.long d1), .second, .val (.int i4), .val (.int mm), .val (.int (2 : Int32)), .val (.ref b80), .val (.ref b87), .val (.ref b88), .val (.int (1 : Int32))] [(.long d1), (.int ((i4 &&& (3 : Int32)) % mm)), (.ref b80), (.ref b87), (.int (2 : Int32)), (.int mm), (.ref b88), (.int (1 : Int32))])) rfl (by rw [hml]; rfl) (argsL := [(.ref b88), (.int mm), (.int (2 : Int32)), (.ref b87), (.ref b80), (.int ((i4 &&& (3 : Int32)) % mm)), (.long d1)]) (rest := [(.int (1 : Int32))]) (lenOf pd_h80816b9d rfl) rfl (by show 2 * 0 + _ ≤ _; exact Nat.le_of_eq rfl) (hb hby at_308) (fun _ _ => ⟨rfl, rfl, (by decide : 5 + 0 ≤ _), (by decide : 44 + 0 ≤ _)⟩)
    dsimp only [Pt.U, Pt.locs, Pt.cells, Pt.slots] at X163 l163 y163 z163 st163 hQ163
    subst l163 y163 z163
    obtain ⟨fi2_163, sz2_163, fq2_163, N1_163, N2_163, rfl, Nq163, Kp163, G163_0, G163_1, G163_2, G163_3, G163_4, G163_5, G163_6, G163_7, G163_8, H163_0⟩ := hQ163
    have N163 := Fr.app N158 Nq163
    refine own_go st163 ?_
    have le_163 : T158.heap.size ≤ T163.heap.size := Kp163.1
    have K163 : Keep h0 T163.heap [] := Keep.trans K158 Kp163 (allS (Or.inr sz93) (allS (Or.inr sz107) (allS (Or.inr sz133) all0)))
    refine own_go (fun _ => XS.iand X163.here hx rfl (hb hby at_311) rfl) ?_
    refine own_go (fun _ => XS.istore X163.here hx rfl (hb hby at_312) rfl (l' := #[.val (.int i1), .val (.int i2), .val (.int i3), .val (.long d1), .second, .val (.int i4), .val (.int mm), .val (.int (2 : Int32)), .val (.ref b80), .val (.ref b87), .val (.ref b88), .val (.int (1 : Int32))]) rfl) ?_
    show ∃ t o, Steps p.tables e below (T163.setTop (mkF m 314 #[.val (.int i1), .val (.int i2), .val (.int i3), .val (.long d1), .second, .val (.int i4), .val (.int mm), .val (.int (2 : Int32)), .val (.ref b80), .val (.ref b87), .val (.ref b88), .val (.int (1 : Int32))] [])) t ∧ _
    refine own_go (fun _ => XS.iload X163.here hx rfl (hb hby at_314) rfl) ?_
    show ∃ t o, Steps p.tables e below (T163.setTop (mkF m 316 #[.val (.int i1), .val (.int i2), .val (.int i3), .val (.long d1), .second, .val (.int i4), .val (.int mm), .val (.int (2 : Int32)), .val (.ref b80), .val (.ref b87), .val (.ref b88), .val (.int (1 : Int32))] [(.int (1 : Int32))])) t ∧ _
    obtain ⟨fs, hr, hrun, hended, hW, hsame⟩ := X163.leave (v := some (.int (1 : Int32))) (fun h => by rw [Bd.returns] at h; cases h)
    refine ⟨_, _, ?_, hrun, hended, _, _, rfl, ?_, ⟨_, rfl⟩, hW, hsame.mono (by decide) (by decide)⟩
    · exact retN X163 hx (t := .boolean) Bd.returns (by simp) (hb hby at_316) hr
    · show Q_rm0 Z _ _ _ _ _ h0 n0 _ T163.heap _
      exact ⟨rfl, N163, K163⟩
set_option maxRecDepth 65536 in
set_option maxHeartbeats 40000000 in
theorem comes_1 {Post : Tables → Env → Array Value → State → Outcome → State → Prop} (hpost : ∀ tb e args s v u, (limb_1_1.after args s (.returned v) u = true ∧ limb_1_2.after args s (.returned v) u = true ∧ True) → FrameEnd s (.returned v) u (Jvm.fieldLocs frame_1_writes args s ++ Jvm.arrayLocs frame_1_arrays args s ++ Jvm.staticLocs frame_1_statics s) 24 192 → Post tb e args s (.returned v) u) :
    ArmFor flags0 classFile x code maxLocals ret World_1 tables_1 room_1 Calls_1 rest_1 Pre_1 Post := by
  intro l hfl _ _ p e ha hc hk s m args below hf hA hF happ hP
  obtain ⟨hcalls, hrest, hpre⟩ := hP
  obtain ⟨-, -, -, hnamed, -, -, -, hat⟩ := (Spec.applies_iff hf).mp happ
  obtain ⟨hg, hn⟩ := and_e (Cond.before_iff.mp (show (Jvm.Cond.and given_1 narrow_1).before args s = true from hpre))
  obtain ⟨g1, g2⟩ := and_e hg
  obtain ⟨g3, g4⟩ := and_e g2
  obtain ⟨g5, g6⟩ := and_e g4
  obtain ⟨g7, g8⟩ := and_e g6
  obtain ⟨g9, g10⟩ := and_e g8
  obtain ⟨w0, w1, w2, w3, w4, rfl⟩ : ∃ w0 w1 w2 w3 w4 : Value, args = #[w0, w1, w2, w3, w4] := by
    have hs : args.size = 5 := by simpa [Cond.value, given_1] using g1
    obtain ⟨L⟩ := args
    match L, hs with
    | [w0, w1, w2, w3, w4], _ => exact ⟨w0, w1, w2, w3, w4, rfl⟩
  have hw := fun d (hd : d ∈ tables_1) => atoms_spec (ws := Jvm.Cond.code x code maxLocals ret :: tables_1) hat d (List.mem_cons_of_mem _ hd)
  have hfit : Fit s := fun {y c} hc i hi => by
    obtain ⟨ha, rfl⟩ := Array.getElem?_eq_some_iff.mp hc
    have q := List.all_eq_true.mp ((Array.all_eq_true_iff_forall_mem.mp hF) _ (Array.getElem_mem ha)) i (List.mem_range.mpr hi)
    simpa [Array.getElem?_eq_getElem hi] using q
  obtain ⟨i0, ei0⟩ := is_v g3
  obtain rfl : w0 = (.int i0) := Option.some.inj ei0
  obtain ⟨i1, ei1⟩ := is_v g5
  obtain rfl : w1 = (.int i1) := Option.some.inj ei1
  obtain ⟨i2, ei2⟩ := is_v g7
  obtain rfl : w2 = (.int i2) := Option.some.inj ei2
  obtain ⟨i3, ei3⟩ := isL_v g9
  obtain rfl : w3 = (.long i3) := Option.some.inj ei3
  obtain ⟨i4, ei4⟩ := is_v g10
  obtain rfl : w4 = (.int i4) := Option.some.inj ei4
  have OLD := Old.start s
  obtain ⟨n, o, h1, h2, h3, _, L, rfl, ⟨rfl, N, -⟩, hq⟩ := rm0 l s _ hw tables_1 i0 i1 i2 i3 i4  s.heap s.heap.size (Nat.le_refl _) OLD p e ha hc hk s m _ below hf ((Spec.applies_iff_loose hf).mp happ).1 ⟨rfl, State.Warmed39.refl s, rfl⟩ trivial
  refine ⟨n, _, h1, h2, h3, hpost _ _ _ _ _ _ ⟨Cond.after_iff.mpr rfl, Cond.after_iff.mpr (eq_i res_at (Term.int_eval (1)) rfl), trivial⟩ ⟨hq.1, hq.2.1, (hq.2.2.sift fun y hy => Or.inr (N y hy)).mono (by decide) (by decide)⟩⟩
theorem main_1_1 : Claimed_1_1 := comes_1 fun _ _ _ _ _ _ h hF => ⟨h.1, hF⟩
theorem main_1_2 : Claimed_1_2 := comes_1 fun _ _ _ _ _ _ h hF => ⟨h.2.1, hF⟩
end Jvm.Pilot.@@N@@
namespace Jvm.Pilot.@@N@@
open Jvm Jvm.ClassFile Sem Op Lib Jvm.Free Jvm.Stand Jvm.Pilot.@@N@@.Jvm.D
/-! MADE BY PROGRAM (witnessworld.py) out of the Statement's table words and the real class files: 11 classes; the members and pool entries that the words name. The judged class is class 1, her method 1. -/
namespace start1
open Jvm.ClassFile
def u (s : String) : CpInfo := .utf8 (stringToUtf16 s)
/-- a pool by its gaps: so many unusable entries, then the entry; so many at the end -/
def gap : Nat → List CpInfo → List CpInfo
  | 0, r => r
  | n + 1, r => .unusable :: gap n r
def poolList (es : List (Nat × CpInfo)) (last : Nat) : List CpInfo := es.foldr (fun e r => gap e.1 (e.2 :: r)) (gap last [])
def pool (es : List (Nat × CpInfo)) (last : Nat) : Array CpInfo := ⟨poolList es last⟩
def fileOf (pool : Array CpInfo) (this : Nat) (attrs : Array Attribute := #[]) (ms : Array MethodInfo := #[]) (fl : Nat := 33) (sup : Nat := 0) (ifs : Array Nat := #[]) (fds : Array FieldInfo := #[]) : ClassFile where
  minorVersion := 0
  majorVersion := 65
  constantPool := pool
  accessFlags := fl
  thisClass := this
  superClass := sup
  interfaces := ifs
  fields := fds
  methods := ms
  attributes := attrs
def plain (name : String) (sup : Option ClassId) : Class where
  name := name
  kind := .ordinary
  loader := none
  accessFlags := 33
  super := sup
  interfaces := #[]
  cf := none
  fields := #[]
  methods := #[]
  instanceTypes := #[]
  staticTypes := #[]
  resolved := #[]
  callSites := []
  init := .initialized
  statics := none
  mirror := none

def pool0 : Array CpInfo := pool [(5, u "<init>"), (0, u "()V"), (1, .class_ 10), (1, u "java/lang/Object")] 113

def k0c0 : Code := { maxStack := 0, maxLocals := 1, code := object_method_1_code, exceptionTable := #[], attributes := #[] }
def k0m0 : Method := { name := "<init>", desc := "()V", sig := { parameters := [], returnType := none }, accessFlags := 1, code := some k0c0 }
/-- java/lang/Object -/
def k0 : Class := { plain "java/lang/Object" none with
  accessFlags := 33
  interfaces := #[]
  cf := some (fileOf pool0 8 #[] #[{ accessFlags := 1, nameIndex := 5, descriptorIndex := 6, attributes := #[] }] 33 0 #[] #[])
  fields := #[]
  methods := #[k0m0]
  instanceTypes := #[]
  staticTypes := #[]
  resolved := Array.replicate 124 none
  statics := none }

def pool1 : Array CpInfo := pool [(2, .class_ 4), (1, u "java/lang/Object"), (0, u "<init>"), (0, u "()V"), (0, .integer 2147483647), (0, .integer 65535), (0, .class_ 10), (0, u "com/example/holdback/holdback/sim/InFlight"), (0, .methodref 9 12), (0, .nameAndType 5 13), (0, u "(I)V"), (0, .methodref 9 15), (0, .nameAndType 16 17), (0, u "add"), (0, u "(D)V"), (0, .methodref 19 20), (0, .class_ 21), (0, .nameAndType 22 23), (0, u "com/example/holdback/holdback/sim/InFlightDeliveredPinLaw"), (0, u "check"), (0, u "(Lcom/example/holdback/holdback/sim/InFlight;II[I[DIJ)Z"), (0, .methodref 9 25), (0, .nameAndType 26 27), (0, u "delivered"), (0, u "(IJ)D"), (2, u "law"), (0, u "(IIIJI)Z")] 7

def k1m0 : Method := { name := "<init>", desc := "()V", sig := { parameters := [], returnType := none }, accessFlags := 2, code := none }
def k1c1 : Code := { maxStack := 9, maxLocals := 12, code := code, exceptionTable := #[], attributes := #[] }
def k1m1 : Method := { name := "law", desc := "(IIIJI)Z", sig := { parameters := [.int, .int, .int, .long, .int], returnType := some .boolean }, accessFlags := 9, code := some k1c1 }
def k1c2 : Code := { maxStack := 5, maxLocals := 13, code := method_3_code, exceptionTable := #[], attributes := #[] }
def k1m2 : Method := { name := "check", desc := "(Lcom/example/holdback/holdback/sim/InFlight;II[I[DIJ)Z", sig := { parameters := [(.object "com/example/holdback/holdback/sim/InFlight"), .int, .int, (.array .int), (.array .double), .int, .long], returnType := some .boolean }, accessFlags := 10, code := some k1c2 }
/-- com/example/holdback/holdback/sim/InFlightDeliveredPinLaw -/
def k1 : Class := { plain "com/example/holdback/holdback/sim/InFlightDeliveredPinLaw" (some 0) with
  accessFlags := 49
  interfaces := #[]
  cf := some (fileOf pool1 19 #[] #[{ accessFlags := 2, nameIndex := 5, descriptorIndex := 6, attributes := #[] }, { accessFlags := 9, nameIndex := 30, descriptorIndex := 31, attributes := #[] }, { accessFlags := 10, nameIndex := 22, descriptorIndex := 23, attributes := #[] }] 49 2 #[] #[])
  fields := #[]
  methods := #[k1m0, k1m1, k1m2]
  instanceTypes := #[]
  staticTypes := #[]
  resolved := Array.replicate 39 none
  statics := none }

def pool2 : Array CpInfo := pool [(1, .methodref 2 3), (0, .class_ 4), (0, .nameAndType 5 6), (0, u "java/lang/Object"), (0, u "<init>"), (0, u "()V"), (0, .fieldref 8 9), (0, .class_ 10), (0, .nameAndType 11 12), (0, u "com/example/holdback/holdback/sim/InFlight"), (0, u "multicastAt"), (0, u "[D"), (0, .fieldref 8 14), (0, .nameAndType 15 16), (0, u "deliveredBy"), (0, u "[I"), (0, .fieldref 8 18), (0, .nameAndType 19 20), (0, u "firstSeq"), (0, u "J"), (0, .fieldref 8 22), (0, .nameAndType 23 24), (0, u "everyone"), (0, u "I"), (0, .fieldref 8 26), (0, .nameAndType 27 24), (0, u "size"), (3, .fieldref 8 32), (0, .nameAndType 33 24), (0, u "first"), (0, .double 13830554455654793216), (9, u "(I)V"), (2, u "add"), (0, u "(D)V"), (1, u "delivered"), (0, u "(IJ)D")] 2

def k2c0 : Code := { maxStack := 3, maxLocals := 2, code := prog_167_method_1_code, exceptionTable := #[], attributes := #[] }
def k2m0 : Method := { name := "<init>", desc := "(I)V", sig := { parameters := [.int], returnType := none }, accessFlags := 0, code := some k2c0 }
def k2c1 : Code := { maxStack := 4, maxLocals := 4, code := prog_167_method_2_code, exceptionTable := #[], attributes := #[] }
def k2m1 : Method := { name := "add", desc := "(D)V", sig := { parameters := [.double], returnType := none }, accessFlags := 0, code := some k2c1 }
def k2c2 : Code := { maxStack := 5, maxLocals := 10, code := prog_167_method_3_code, exceptionTable := #[], attributes := #[] }
def k2m2 : Method := { name := "delivered", desc := "(IJ)D", sig := { parameters := [.int, .long], returnType := some .double }, accessFlags := 0, code := some k2c2 }
/-- com/example/holdback/holdback/sim/InFlight -/
def k2 : Class := { plain "com/example/holdback/holdback/sim/InFlight" (some 0) with
  accessFlags := 48
  interfaces := #[]
  cf := some (fileOf pool2 8 #[] #[{ accessFlags := 0, nameIndex := 5, descriptorIndex := 44, attributes := #[] }, { accessFlags := 0, nameIndex := 47, descriptorIndex := 48, attributes := #[] }, { accessFlags := 0, nameIndex := 50, descriptorIndex := 51, attributes := #[] }] 48 2 #[] #[{ accessFlags := 18, nameIndex := 23, descriptorIndex := 24, attributes := #[] }, { accessFlags := 2, nameIndex := 11, descriptorIndex := 12, attributes := #[] }, { accessFlags := 2, nameIndex := 15, descriptorIndex := 16, attributes := #[] }, { accessFlags := 2, nameIndex := 33, descriptorIndex := 24, attributes := #[] }, { accessFlags := 2, nameIndex := 27, descriptorIndex := 24, attributes := #[] }, { accessFlags := 2, nameIndex := 19, descriptorIndex := 20, attributes := #[] }])
  fields := #[{ name := "everyone", type := .int, accessFlags := 18, slot := 0, constantValue := 0 }, { name := "multicastAt", type := (.array .double), accessFlags := 2, slot := 1, constantValue := 0 }, { name := "deliveredBy", type := (.array .int), accessFlags := 2, slot := 2, constantValue := 0 }, { name := "first", type := .int, accessFlags := 2, slot := 3, constantValue := 0 }, { name := "size", type := .int, accessFlags := 2, slot := 4, constantValue := 0 }, { name := "firstSeq", type := .long, accessFlags := 2, slot := 5, constantValue := 0 }]
  methods := #[k2m0, k2m1, k2m2]
  instanceTypes := #[.int, (.array .double), (.array .int), .int, .int, .long]
  staticTypes := #[]
  resolved := Array.replicate 54 none
  statics := none }

def pool3 : Array CpInfo := pool [(1, u "java/lang/Cloneable"), (0, .class_ 1), (0, u "java/lang/Object"), (0, .class_ 3)] 3

/-- java/lang/Cloneable -/
def k3 : Class := { plain "java/lang/Cloneable" (some 0) with
  accessFlags := 1537
  interfaces := #[]
  cf := some (fileOf pool3 2 #[] #[] 1537 4 #[] #[])
  fields := #[]
  methods := #[]
  instanceTypes := #[]
  staticTypes := #[]
  resolved := Array.replicate 8 none
  statics := none }

def pool4 : Array CpInfo := pool [(1, u "java/io/Serializable"), (0, .class_ 1), (0, u "java/lang/Object"), (0, .class_ 3)] 3

/-- java/io/Serializable -/
def k4 : Class := { plain "java/io/Serializable" (some 0) with
  accessFlags := 1537
  interfaces := #[]
  cf := some (fileOf pool4 2 #[] #[] 1537 4 #[] #[])
  fields := #[]
  methods := #[]
  instanceTypes := #[]
  staticTypes := #[]
  resolved := Array.replicate 8 none
  statics := none }

/-- the primitive byte -/
def k5 : Class := { plain "byte" none with kind := .primitive 'B', accessFlags := 0x411 }
/-- [B -/
def k6 : Class := { plain "[B" (some 0) with kind := .array 5 .byte, interfaces := #[3, 4], accessFlags := 1041 }

/-- the primitive double -/
def k7 : Class := { plain "double" none with kind := .primitive 'D', accessFlags := 0x411 }
/-- [D -/
def k8 : Class := { plain "[D" (some 0) with kind := .array 7 .double, interfaces := #[3, 4], accessFlags := 1041 }

/-- the primitive int -/
def k9 : Class := { plain "int" none with kind := .primitive 'I', accessFlags := 0x411 }
/-- [I -/
def k10 : Class := { plain "[I" (some 0) with kind := .array 9 .int, interfaces := #[3, 4], accessFlags := 1041 }

def heap : Heap := #[]
def classes : Array Class := #[k0, k1, k2, k3, k4, k5, k6, k7, k8, k9, k10]
def interned : List (Array UInt16 × Addr) := []
def slotsUsed : Nat := 0
def theMethod : MethodId := ⟨1, 1⟩
def args0 : Array Value := #[.int 5, .int 7, .int 6, .long 9, .int 3]
def aboutOver (below : List Frame) : State where
  vm := { classes := classes, interned := interned.toArray }
  heap := heap
  slotsUsed := slotsUsed
  threads := #[{ frames := .invoking theMethod args0 :: below }]
def below0 : List Frame := [.native { method := ⟨0, 0⟩, args := #[] }]
def about1 : State := aboutOver below0
def p0 : Program := .bare "" "" ""
def e0 : Env := launch0.env 0 0 0
theorem w_frames : about1.frames = Frame.invoking theMethod args0 :: below0 := rfl
set_option maxRecDepth 65536 in
theorem w_args : argsFit about1.vm theMethod args0 = true := by decide +kernel
set_option maxRecDepth 65536 in
theorem w_heap : heapFits about1 = true := by decide +kernel
set_option maxRecDepth 65536 in
theorem w_runnable : about1.curStatus? = some .runnable := by decide +kernel
set_option maxRecDepth 65536 in
theorem w_alone : about1.alone = true := by decide +kernel
set_option maxRecDepth 65536 in
theorem w_named : about1.methodNamed? x = some theMethod := by decide +kernel
set_option maxRecDepth 65536 in
theorem w_hears : about1.hears theMethod below0 = true := by decide +kernel
set_option maxRecDepth 65536 in
theorem w_ripe : about1.ripe theMethod args0 below0 = true := by decide +kernel
theorem w_running : about1.status = .running := rfl
set_option maxRecDepth 65536 in
theorem w_room : about1.hasRoom e0.platform room_1 = true :=
  launch0.hasRoom_least _ room_1 (by decide +kernel) (by decide +kernel) (by decide +kernel) (by decide +kernel) (by decide +kernel) (by decide +kernel)
theorem allAtoms_all (ts : List Jvm.Cond) (a : Array Jvm.Value) (st : Jvm.State) : (allAtoms ts).before a st = ts.all (fun c => c.before a st) := by
  induction ts with
  | nil => rfl
  | cons c t ih =>
    show (Jvm.Cond.and c (allAtoms t)).before a st = _
    rw [Jvm.Cond.before_and, ih, List.all_cons]
def words1 : List Jvm.Cond := Jvm.Cond.code x code maxLocals ret :: tables_1
/-- a 'code' word, met by the world's own term for the bytes: nothing is compared byte by byte -/
theorem code_word {y : MethodName} {bytes : ByteArray} {mx : Nat} {rt : Option FieldType} {a : Array Value} {s : State} {m : MethodId} {meth : Method} {c : Code} (h1 : s.methodNamed? y = some m) (h2 : s.vm.method? m = some meth) (h3 : meth.code = some c) (h4 : c.code = bytes)
    (h5 : (c.maxLocals == mx && c.exceptionTable.isEmpty && decide (c.maxStack ≤ mostOperands) && decide (meth.sig.returnType = rt) && !meth.locks && decide (parseMethodDescriptor y.desc = some meth.sig)) = true) : (Jvm.Cond.code y bytes mx rt).before a s = true := by
  simp only [Bool.and_eq_true, beq_iff_eq, Bool.not_eq_true', decide_eq_true_eq] at h5
  obtain ⟨⟨⟨⟨⟨g1, g2⟩, g3⟩, g4⟩, g5⟩, g6⟩ := h5
  simp [Cond.before, Cond.holds, Cond.value, h1, h2, h3, h4, g1, g2, g3, g4, g5, g6]
def isCode : Jvm.Cond → Bool
  | .code _ _ _ _ => true
  | _ => false
theorem all_split {L : List Jvm.Cond} {P : Jvm.Cond → Bool} (h1 : L.all (fun c => isCode c || P c) = true) (h2 : ∀ c ∈ L.filter isCode, P c = true) : L.all P = true := by
  refine List.all_eq_true.mpr fun c hc => ?_
  have h := List.all_eq_true.mp h1 c hc
  rcases Bool.eq_false_or_eq_true (isCode c) with hi | hi
  · exact h2 c (List.mem_filter.mpr ⟨hc, hi⟩)
  · simpa [hi] using h
set_option maxRecDepth 65536 in
theorem w_c0 : (Jvm.Cond.code x code maxLocals ret).before args0 about1 = true := code_word (m := ⟨1, 1⟩) (meth := k1m1) (c := k1c1) (by decide +kernel) rfl rfl rfl (by decide +kernel)
set_option maxRecDepth 65536 in
theorem w_c1 : (Jvm.Cond.code ({ cls := "com/example/holdback/holdback/sim/InFlight", name := "<init>", desc := "(I)V" } : Jvm.MethodName) prog_167_method_1_code (2 : Nat) (Option.none : Option Jvm.ClassFile.FieldType)).before args0 about1 = true := code_word (m := ⟨2, 0⟩) (meth := k2m0) (c := k2c0) (by decide +kernel) rfl rfl rfl (by decide +kernel)
set_option maxRecDepth 65536 in
theorem w_c2 : (Jvm.Cond.code ({ cls := "java/lang/Object", name := "<init>", desc := "()V" } : Jvm.MethodName) object_method_1_code (1 : Nat) (Option.none : Option Jvm.ClassFile.FieldType)).before args0 about1 = true := code_word (m := ⟨0, 0⟩) (meth := k0m0) (c := k0c0) (by decide +kernel) rfl rfl rfl (by decide +kernel)
set_option maxRecDepth 65536 in
theorem w_c3 : (Jvm.Cond.code ({ cls := "com/example/holdback/holdback/sim/InFlight", name := "add", desc := "(D)V" } : Jvm.MethodName) prog_167_method_2_code (4 : Nat) (Option.none : Option Jvm.ClassFile.FieldType)).before args0 about1 = true := code_word (m := ⟨2, 1⟩) (meth := k2m1) (c := k2c1) (by decide +kernel) rfl rfl rfl (by decide +kernel)
set_option maxRecDepth 65536 in
theorem w_c4 : (Jvm.Cond.code ({ cls := "com/example/holdback/holdback/sim/InFlightDeliveredPinLaw", name := "check", desc := "(Lcom/example/holdback/holdback/sim/InFlight;II[I[DIJ)Z" } : Jvm.MethodName) method_3_code (13 : Nat) (Option.some Jvm.ClassFile.FieldType.boolean)).before args0 about1 = true := code_word (m := ⟨1, 2⟩) (meth := k1m2) (c := k1c2) (by decide +kernel) rfl rfl rfl (by decide +kernel)
set_option maxRecDepth 65536 in
theorem w_c5 : (Jvm.Cond.code ({ cls := "com/example/holdback/holdback/sim/InFlight", name := "delivered", desc := "(IJ)D" } : Jvm.MethodName) prog_167_method_3_code (10 : Nat) (Option.some Jvm.ClassFile.FieldType.double)).before args0 about1 = true := code_word (m := ⟨2, 2⟩) (meth := k2m2) (c := k2c2) (by decide +kernel) rfl rfl rfl (by decide +kernel)
def codes1 : List Jvm.Cond := [Jvm.Cond.code x code maxLocals ret, Jvm.Cond.code ({ cls := "com/example/holdback/holdback/sim/InFlight", name := "<init>", desc := "(I)V" } : Jvm.MethodName) prog_167_method_1_code (2 : Nat) (Option.none : Option Jvm.ClassFile.FieldType), Jvm.Cond.code ({ cls := "java/lang/Object", name := "<init>", desc := "()V" } : Jvm.MethodName) object_method_1_code (1 : Nat) (Option.none : Option Jvm.ClassFile.FieldType), Jvm.Cond.code ({ cls := "com/example/holdback/holdback/sim/InFlight", name := "add", desc := "(D)V" } : Jvm.MethodName) prog_167_method_2_code (4 : Nat) (Option.none : Option Jvm.ClassFile.FieldType), Jvm.Cond.code ({ cls := "com/example/holdback/holdback/sim/InFlightDeliveredPinLaw", name := "check", desc := "(Lcom/example/holdback/holdback/sim/InFlight;II[I[DIJ)Z" } : Jvm.MethodName) method_3_code (13 : Nat) (Option.some Jvm.ClassFile.FieldType.boolean), Jvm.Cond.code ({ cls := "com/example/holdback/holdback/sim/InFlight", name := "delivered", desc := "(IJ)D" } : Jvm.MethodName) prog_167_method_3_code (10 : Nat) (Option.some Jvm.ClassFile.FieldType.double)]
set_option maxRecDepth 65536 in
theorem codes_eq : words1.filter isCode = codes1 := rfl
theorem w_codes : ∀ c ∈ words1.filter isCode, c.before args0 about1 = true := by
  rw [codes_eq]
  intro c hc
  simp only [codes1, List.mem_cons, List.not_mem_nil, or_false] at hc
  rcases hc with rfl | rfl | rfl | rfl | rfl | rfl
  · exact w_c0
  · exact w_c1
  · exact w_c2
  · exact w_c3
  · exact w_c4
  · exact w_c5
set_option maxRecDepth 65536 in
theorem w_t1 : (words1.take 24).all (fun c => isCode c || c.before args0 about1) = true := by decide +kernel
set_option maxRecDepth 65536 in
theorem w_t2 : (words1.drop 24).all (fun c => isCode c || c.before args0 about1) = true := by decide +kernel
theorem w_tables : (allAtoms (Jvm.Cond.code x code maxLocals ret :: tables_1)).before args0 about1 = true := by
  rw [allAtoms_all]
  show words1.all (fun c => c.before args0 about1) = true
  refine all_split ?_ w_codes
  rw [← List.take_append_drop 24 words1, List.all_append, w_t1, w_t2]
  rfl
set_option maxRecDepth 65536 in
theorem w_case : (Jvm.Cond.and given_1 narrow_1).before args0 about1 = true := by decide +kernel
theorem w_applies : (headSpec (Jvm.Cond.code x code maxLocals ret :: tables_1) room_1).applies x e0.platform about1 = true :=
  (Spec.applies_iff w_frames).mpr ⟨w_running, w_runnable, w_alone, w_named, w_hears, w_ripe, w_room, w_tables⟩
theorem atStart : AtStart classFile x code maxLocals ret World_1 tables_1 room_1 Calls_1 rest_1 Pre_1 launch0 p0 e0 about1 theMethod args0 below0 :=
  ⟨lists_1, trivial, launch0.admits_env _ _ _, launch0.least_env, fairChoices_fair.cas, fairChoices_fair.clock, w_frames, w_args, w_heap, w_applies, trivial, trivial, w_case⟩
end start1
theorem witness_1 : WitnessClaimed_1 := ⟨start1.p0, start1.e0, start1.about1, start1.theMethod, start1.args0, start1.below0, start1.atStart⟩
end Jvm.Pilot.@@N@@
